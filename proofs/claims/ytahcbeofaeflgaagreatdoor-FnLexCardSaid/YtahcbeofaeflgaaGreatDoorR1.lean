/- Lemmas towards the statement FnLexCardSaid, conditions: as each theorem says. -/
import Derived.Test.YtahcbeofaeflgaaGreatDoorA5
import Derived.OrdersHeld
import Derived.Laws.AppendOwn
import Derived.Tactics
import Derived.KernelRfl
namespace Go.Proofs.YtahcbeofaeflgaaGreatDoor
open Go.RowKit

/-! A region that draws its order, whose last operation (number L) waits for all others: the condition S is asked behind every operation but that one. -/
def AnyL (P : Program) (md : Region.Mode) (ops : Array Oper) (Q : Exit → Act → World → Prop) (S : World → Prop) (L : Nat) : Nat → Array Bool → Act → World → Prop
  | 0, listed, a, w => Region.ready md ops listed = [] ∧ Q .normal a w
  | fuel + 1, listed, a, w =>
    (Region.ready md ops listed = [] → Q .normal a w) ∧
    ∀ i ∈ Region.ready md ops listed, wpOp P ops Q i (fun a' w' => (i ≠ L → S w') ∧ AnyL P md ops Q S L fuel (listed.setIfInBounds i true) a' w') a w

section
variable {P : Program} {ops : Array Oper} {Q : Exit → Act → World → Prop} {md : Region.Mode} {S : World → Prop} {L : Nat}

theorem AnyL.any : ∀ (fuel : Nat) (listed : Array Bool) (a : Act) (w : World), AnyL P md ops Q S L fuel listed a w → wpAny P md ops Q fuel listed a w
  | 0, _, _, _, h => h
  | fuel + 1, _, _, _, h => ⟨h.1, fun i hi => wpOp_mono (fun a' w' h' => AnyL.any fuel _ a' w' h'.2) (h.2 i hi)⟩

/-- Operation L waits for operation i. -/
def waitsB (md : Region.Mode) (ops : Array Oper) (L i : Nat) : Bool := match ops[L]? with
  | some o => o.after.any fun e => Region.binds md e && e.on == i
  | none => true

theorem AnyL.first {i : Nat} {oi : Oper} {v : Value} (hi : ops[i]? = some oi) (hsel : ∀ (j : Nat) (o : Oper) cs b, ops[j]? = some o → o.op ≠ .select cs b) (hwt : waitsB md ops L i = true)
    (hQ : ∀ c a w, Q (.panic c) (a.put oi.dst v) w → Q (.panic c) a w) :
    ∀ (fuel : Nat) (listed : Array Bool) (a : Act) (w : World),
      (∀ j oj, ops[j]? = some oj → j ≠ i → listed.getD j true = false → (∀ e ∈ oj.after, Region.binds md e = true → e.on ≠ i) → oi.apart ops oj = true) →
      i ∈ Region.ready md ops listed → YieldsIf P ops S oi v a → S w →
      AnyL P md ops Q S L fuel (listed.setIfInBounds i true) (a.put oi.dst v) w → AnyL P md ops Q S L (fuel + 1) listed a w := by
  intro fuel
  induction fuel with
  | zero =>
    intro listed a w _ hr hy hS H
    refine ⟨fun h => (by rw [h] at hr; cases hr), fun j hj => ?_⟩
    by_cases hji : j = i
    · subst hji; exact hy.wpOp hi hS ⟨fun _ => hS, H⟩
    · have := ready_mono hj hji
      rw [H.1] at this
      cases this
  | succ fuel ih =>
    intro listed a w hfree hr hy hS H
    refine ⟨fun h => (by rw [h] at hr; cases hr), fun j hj => ?_⟩
    by_cases hji : j = i
    · subst hji; exact hy.wpOp hi hS ⟨fun _ => hS, H⟩
    · have h1 := H.2 j (ready_mono hj hji)
      obtain ⟨hjun, oj, hoj, hall⟩ := mem_ready.1 hj
      have hnot : ∀ e ∈ oj.after, Region.binds md e = true → e.on ≠ i := fun e he hb heq => by
        have h1 := hall e he hb
        have h0 := (mem_ready.1 hr).1
        rw [heq] at h1
        rcases Nat.lt_or_ge i listed.size with h' | h'
        · simp [h'] at h0 h1; rw [h0] at h1; cases h1
        · simp [Array.getElem?_eq_none h'] at h1
      have hjL : j ≠ L := by
        rintro rfl
        unfold waitsB at hwt
        rw [hoj] at hwt
        obtain ⟨e, he, hb⟩ := Array.any_eq_true'.1 hwt
        rw [Bool.and_eq_true, beq_iff_eq] at hb
        exact hnot e he hb.1 hb.2
      have h2 := wpOp_putIf hoj (hfree j oj hoj hji hjun hnot) (fun cs b => hsel i oi cs b hi) (fun cs b => hsel j oj cs b hoj) hQ hy h1
      have hfree' : ∀ k ok, ops[k]? = some ok → k ≠ i → (listed.setIfInBounds j true).getD k true = false →
          (∀ e ∈ ok.after, Region.binds md e = true → e.on ≠ i) → oi.apart ops ok = true := fun k ok hk hki hun hno => by
        refine hfree k ok hk hki ?_ hno
        by_cases hjk : j = k
        · subst hjk; exact hjun
        · rw [getD_set_ne true hjk] at hun; exact hun
      refine wpOp_mono (fun a' w' h3 => ⟨fun _ => h3.2.1 hjL, ih (listed.setIfInBounds j true) a' w' hfree' (ready_mono hr (Ne.symm hji)) h3.1 (h3.2.1 hjL) ?_⟩) h2
      rw [Array.setIfInBounds_comm _ _ hji]
      exact h3.2.2

theorem AnyL.take {i : Nat} {oi : Oper} {v : Value} {fuel : Nat} {listed : Array Bool} {a : Act} {w : World} (hi : ops[i]? = some oi)
    (hs : (Region.noSelect ops && waitsB md ops L i && Region.free md ops listed i && (Region.ready md ops listed).contains i) = true)
    (hQ : ∀ c a w, Q (.panic c) (a.put oi.dst v) w → Q (.panic c) a w) (hg : oi.guard = none) (hy : ∀ w, S w → (execOp a.eval oi).run P w = .ok (.value v) w) (hS : S w)
    (h : AnyL P md ops Q S L fuel (listed.setIfInBounds i true) (a.put oi.dst v) w) : AnyL P md ops Q S L (fuel + 1) listed a w := by
  rw [Bool.and_eq_true, Bool.and_eq_true, Bool.and_eq_true] at hs
  exact AnyL.first hi (Region.noSelect_spec hs.1.1.1) hs.1.1.2 hQ fuel listed a w (Region.free_spec hi hs.1.2) (by simpa using hs.2) (.inl ⟨by simp [Region.wanted, hg], hy⟩) hS h

theorem AnyL.one {i : Nat} {oi : Oper} {fuel : Nat} {listed : Array Bool} {a : Act} {w : World} (hi : ops[i]? = some oi) (hr : Region.ready md ops listed = [i]) (hg : oi.guard = none)
    (h : oi.wp P a w (fun a' w' => (i ≠ L → S w') ∧ AnyL P md ops Q S L fuel (listed.setIfInBounds i true) a' w') Q) : AnyL P md ops Q S L (fuel + 1) listed a w := by
  unfold AnyL
  refine ⟨fun h0 => ?_, fun j hj => ?_⟩
  · rw [hr] at h0; cases h0
  rw [hr] at hj
  obtain rfl := List.mem_singleton.1 hj
  unfold wpOp
  rw [hi]
  simp only [Region.wanted, hg, if_true]
  exact Or.inl h

theorem AnyL.done {listed : Array Bool} {a : Act} {w : World} (hr : Region.ready md ops listed = []) (h : Q .normal a w) : ∀ fuel, AnyL P md ops Q S L fuel listed a w
  | 0 => ⟨hr, h⟩
  | _ + 1 => ⟨fun _ => h, by rw [hr]; simp⟩
theorem AnyL.region {id : Nat} {a : Act} {w : World} (hm : P.follows .mixedOrders = true)
    (h : AnyL P .any ops Q S L ops.size (Array.replicate ops.size false) a w.drew) : (Code.region id ops true).wp P Q a w :=
  wp_region_any hm (AnyL.any _ _ _ _ h)
theorem wp_value {o : Oper} {a : Act} {w w' : World} {v : Value} {K : Act → World → Prop} (hr : (execOp a.eval o).run P w = .ok (.value v) w') (h : K (a.put o.dst v) w') : o.wp P a w K Q := by
  unfold Oper.wp; rw [hr]; exact h
/-- What an operation that reads yields. -/
def valUpon (W : World) (K : Value → Prop) : Result Next → Prop
  | .ok (.value v) w' => w' = W ∧ K v
  | _ => False

theorem AnyL.takeK {i : Nat} {oi : Oper} {v : Value} {fuel : Nat} {listed : Array Bool} {a a' : Act} {w : World} (hi : ops[i]? = some oi)
    (hs : (Region.noSelect ops && waitsB md ops L i && Region.free md ops listed i && (Region.ready md ops listed).contains i) = true)
    (hQ : ∀ c a w, Q (.panic c) (a.put oi.dst v) w → Q (.panic c) a w) (hg : oi.guard = none)
    (hy : ∀ W, S W → ∀ K : Value → Prop, K v → valUpon W K ((execOp a.eval oi).run P W)) (hS : S w) (ha : ∀ K : Act → Prop, K a' → K (a.put oi.dst v))
    (h : AnyL P md ops Q S L fuel (listed.setIfInBounds i true) a' w) : AnyL P md ops Q S L (fuel + 1) listed a w := by
  refine AnyL.take hi hs hQ hg (fun W hW => ?_) hS (ha (fun b => AnyL P md ops Q S L fuel (listed.setIfInBounds i true) b w) h)
  have h1 := hy W hW (fun u => u = v) rfl
  generalize (execOp a.eval oi).run P W = r at h1
  cases r with
  | ok n w' => cases n with
    | value u => obtain ⟨rfl, rfl⟩ := h1; rfl
    | _ => exact h1.elim
  | halt x w' => exact h1.elim
theorem AnyL.oneK {i : Nat} {oi : Oper} {fuel : Nat} {listed : Array Bool} {a : Act} {w : World} (hi : ops[i]? = some oi) (hr : Region.ready md ops listed = [i]) (hg : oi.guard = none)
    (h : ∀ K : Act → World → Prop, (∀ a' w', (i ≠ L → S w') → AnyL P md ops Q S L fuel (listed.setIfInBounds i true) a' w' → K a' w') → oi.wp P a w K Q) : AnyL P md ops Q S L (fuel + 1) listed a w :=
  AnyL.one hi hr hg (h _ fun _ _ h1 h2 => ⟨h1, h2⟩)
theorem wp_skipped {o : Oper} {a : Act} {w w' : World} {K : Act → World → Prop} (hr : (execOp a.eval o).run P w = .ok .skip w') (h : K (a.put o.dst undef) w') : o.wp P a w K Q := by
  unfold Oper.wp; rw [hr]; exact h
end
end Go.Proofs.YtahcbeofaeflgaaGreatDoor
