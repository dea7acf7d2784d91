/- Lemmas towards the statement FnLexCardSaid, conditions: as each theorem says. -/
import Derived.Test.YtahcbeofaeflgaaGreatDoorC7
import Derived.Test.YtahcbeofaeflgaaGreatDoorC8
import Derived.Deep.CutBlock
import Derived.Deep.DeepCutAuto
namespace Go.Proofs.YtahcbeofaeflgaaGreatDoor
open Go.RowKit

/-- A token: its kind, its value, its base and its end. -/
structure Tk where
  kind : ByteArray
  txt : ByteArray
  base : Int
  te : Nat

def dotB (s : ByteArray) (k : Nat) (k1 k2 : ByteArray) : Bool := (k1.toList == [46]) && ndB k2 && parB (bt s k)
def parP (s : ByteArray) (k : Nat) : Bool := decide (bt s k = 64) && letB (bt s (k + 1))
def nmB (s : ByteArray) (k : Nat) (k1 : ByteArray) : Bool := digB (bt s k) || (decide (bt s k = 46) && digB (bt s (k + 1)) && !ndB k1)
def wordP (s : ByteArray) (k : Nat) : Tk :=
  if kwB (upB (s.extract k (run s parB k))) = true then ⟨upB (s.extract k (run s parB k)), ⟨#[]⟩, 0, run s parB k⟩ else ⟨kIdent, s.extract k (run s parB k), 0, run s parB k⟩
def litP (s : ByteArray) (k : Nat) : Option Tk := (quoP s (k + (preP s k).1)).map fun x => ⟨if (preP s k).2.1 = true then ⟨#[60, 98, 121, 116, 101, 115, 62]⟩ else ⟨#[60, 115, 116, 114, 105, 110, 103, 62]⟩, x.2, 0, x.1⟩
/-- The token at a place, behind tokens of the kinds k2 and k1. -/
def oneP (s : ByteArray) (k : Nat) (k1 k2 : ByteArray) : Option Tk :=
  if dotB s k k1 k2 = true then some ⟨kIdent, s.extract k (run s parB k), 0, run s parB k⟩
  else if parP s k = true then some ⟨kParam, s.extract (k + 1) (run s parB (k + 1)), 0, run s parB (k + 1)⟩
  else if nmB s k k1 = true then (if parB (bt s (numP s k).1) = true then none else some ⟨(numP s k).2.1, ⟨#[]⟩, (numP s k).2.2, (numP s k).1⟩)
  else if (markB (bt s k) || letB (bt s k)) = true then (if (preP s k).2.2 = true then litP s k else some (wordP s k))
  else if (signP s k).size = 0 then none else some ⟨signP s k, ⟨#[]⟩, 0, k + (signP s k).size⟩

/-- What 'one' hands back. -/
def OnePost (s : ByteArray) (k : Nat) (k1 k2 : ByteArray) (w : World) (e : Ending) (w' : World) : Prop :=
  Below w.heap.size w w' ∧
  ((∃ x, oneP s k k1 k2 = some x ∧ e = .returned (.tuple #[.agg #[.string x.kind, .string (s.extract k x.te), .string x.txt, .int .i64 x.base, .int .i64 (k : Int), .int .i64 (x.te : Int)], .bool true]) ∧ k < x.te ∧ x.te ≤ s.size) ∨
   (∃ (a b c : ByteArray) (d f n : Int), oneP s k k1 k2 = none ∧ e = .returned (.tuple #[.agg #[.string a, .string b, .string c, .int .i64 d, .int .i64 f, .int .i64 n], .bool false])))

/-- The tokens so far: how many, and the kinds of the last two. -/
structure Prev (w : World) (A : Option Addr) (n c : Nat) (k1 k2 : ByteArray) : Prop where
  cap : n ≤ c
  none_ : n = 0 → k1 = ⟨#[]⟩
  one_ : n ≤ 1 → k2 = ⟨#[]⟩
  last : 0 < n → ∃ g, A = some ⟨g, 0, none⟩ ∧ g < w.heap.size ∧ w.cell? ⟨g, (n - 1) * 6, none⟩ = some (.string k1)
  prev : 1 < n → ∃ g, A = some ⟨g, 0, none⟩ ∧ g < w.heap.size ∧ w.cell? ⟨g, (n - 2) * 6, none⟩ = some (.string k2)

set_option maxHeartbeats 1000000 in
theorem after17 (g n c : Nat) (kd : ByteArray) (w : World) (hn : 0 < n) (hn2 : n ≤ 100000) (hc : w.cell? ⟨g, (n - 1) * 6, none⟩ = some (.string kd)) :
    Calls Tryz.prog 17 #[.slice (some ⟨g, 0, none⟩) n c] w fun e w' => e = .returned (.bool (ndB kd)) ∧ w = w' := by
  have h0 : (((n : Nat) : Int) == 0) = false := by rw [beq_eq_false_iff_ne]; omega
  go_enter Tryz.func17, Tryz.ntmps17
  go_wp2
  go_ways
  all_goals (go_ret; refine ⟨ret_bool ?_, rfl⟩; simp_all [ndB, kIdent, kParam])
set_option maxHeartbeats 1000000 in
theorem after17_0 (A : Option Addr) (c : Nat) (w : World) :
    Calls Tryz.prog 17 #[.slice A 0 c] w fun e w' => e = .returned (.bool false) ∧ w = w' := by
  go_enter Tryz.func17, Tryz.ntmps17
  go_wp2
  go_ret
  exact ⟨rfl, rfl⟩
end Go.Proofs.YtahcbeofaeflgaaGreatDoor
namespace Go.Proofs.YtahcbeofaeflgaaGreatDoor
open Go.RowKit

/-- The two blocks of 'one'. -/
structure TW (w w' : World) (r c : Array Value) : Prop where
  below : Below w.heap.size w w'
  r : w'.heap[w.heap.size]? = some (.cells r 27 (0, 0))
  t : w'.heap[w.heap.size + 1]? = some (.cells c 27 (0, 0))

section
variable {w w' w2 : World} {r c : Array Value}
theorem TW.ct (h : TW w w' r c) (i : Nat) : w'.cell? ⟨w.heap.size + 1, i, none⟩ = c[i]? := cell_of h.t i
theorem TW.ft (h : TW w w' r c) (i : Nat) : w'.frozen? ⟨w.heap.size + 1, i, none⟩ = false := frozen_of h.t i
theorem TW.cr (h : TW w w' r c) (i : Nat) : w'.cell? ⟨w.heap.size, i, none⟩ = r[i]? := cell_of h.r i
theorem TW.fr (h : TW w w' r c) (i : Nat) : w'.frozen? ⟨w.heap.size, i, none⟩ = false := frozen_of h.r i
theorem TW.on (h : TW w w' r c) (hb : Below w'.heap.size w' w2) : TW w w2 r c :=
  ⟨h.below.trans (hb.mono h.below.size), (hb.block _ (lt_of_heap h.r)).trans h.r, (hb.block _ (lt_of_heap h.t)).trans h.t⟩
theorem TW.drewN (h : TW w w' r c) (n : Nat) : TW w (w'.drewN n) r c := ⟨h.below.trans ⟨rfl, rfl, rfl, Nat.le_refl _, fun _ _ => rfl⟩, h.r, h.t⟩
theorem TW.drew (h : TW w w' r c) : TW w w'.drew r c := ⟨h.below.trans ⟨rfl, rfl, rfl, Nat.le_refl _, fun _ _ => rfl⟩, h.r, h.t⟩
theorem TW.set (h : TW w w' r c) (i : Nat) (u : Value) : TW w (w'.setCell ⟨w.heap.size + 1, i, none⟩ u) r (c.setIfInBounds i u) := by
  refine ⟨h.below.setCell (by simp) _, (Below.heap_setCell w' ⟨w.heap.size + 1, i, none⟩ u w.heap.size (by simp)).trans h.r, ?_⟩
  have := h.t
  simp [World.setCell, Array.getElem?_modify, this]
theorem TW.setr (h : TW w w' r c) (i : Nat) (u : Value) : TW w (w'.setCell ⟨w.heap.size, i, none⟩ u) (r.setIfInBounds i u) c := by
  refine ⟨h.below.setCell (by simp) _, ?_, (Below.heap_setCell w' ⟨w.heap.size, i, none⟩ u (w.heap.size + 1) (by simp)).trans h.t⟩
  have := h.r
  simp [World.setCell, Array.getElem?_modify, this]
theorem TW.new (w : World) (r c : Array Value) : TW w ((w.alloc (.cells r 27 (0, 0))).alloc (.cells c 27 (0, 0))) r c := by
  refine ⟨((Below.refl _ _).alloc (Nat.le_refl _) _).alloc (by simp) _, ?_, ?_⟩
  · refine (Below.heap_alloc _ _ _ (by show w.heap.size < (w.heap.push _).size; simp)).trans ?_
    show (w.heap.push _)[w.heap.size]? = _
    rw [Array.getElem?_push, if_pos rfl]
  · show ((w.heap.push _).push _)[w.heap.size + 1]? = _
    rw [Array.getElem?_push, if_pos (by simp)]
end
theorem Prev.eqs {w wc : World} {A : Option Addr} {n c : Nat} {k1 k2 : ByteArray} (h : Prev w A n c k1 k2) (hb : Below w.heap.size w wc) (hn : 1 < n) :
    ∃ g, A = some ⟨g, 0, none⟩ ∧ wc.cell? ⟨g, (n - 1) * 6, none⟩ = some (.string k1) ∧ wc.cell? ⟨g, (n - 2) * 6, none⟩ = some (.string k2) := by
  obtain ⟨g, rfl, hg, hc⟩ := h.last (by omega)
  obtain ⟨g2, hg2, h2, hc2⟩ := h.prev hn
  obtain rfl : g = g2 := by injection hg2 with e; injection e
  exact ⟨g, rfl, (hb.cell (p := ⟨g, (n - 1) * 6, none⟩) hg).trans hc, (hb.cell (p := ⟨g, (n - 2) * 6, none⟩) h2).trans hc2⟩
theorem Prev.eq1 {w wc : World} {A : Option Addr} {n c : Nat} {k1 k2 : ByteArray} (h : Prev w A n c k1 k2) (hb : Below w.heap.size w wc) (hn : 0 < n) :
    ∃ g, A = some ⟨g, 0, none⟩ ∧ wc.cell? ⟨g, (n - 1) * 6, none⟩ = some (.string k1) := by
  obtain ⟨g, rfl, hg, hc⟩ := h.last (by omega)
  exact ⟨g, rfl, (hb.cell (p := ⟨g, (n - 1) * 6, none⟩) hg).trans hc⟩

set_option maxRecDepth 100000 in
theorem ret10 {w W : World} {r c : Array Value} (hT : TW w W r c) {R : Ending → World → Prop} {tmps : Array Value} (h6 : tmps.getD 6 undef = .pointer (some ⟨w.heap.size, 0, none⟩)) (b : Bool) (h7 : tmps.getD 7 undef = .bool b) (hr : r.size = 6)
    (h : Below w.heap.size w W → R (.returned (.tuple #[.agg r, .bool b])) W) : bodyPost Tryz.prog Tryz.f10 R .ret { tmps := tmps, defers := [] } W := by
  refine bodyPost_ret (v := .tuple #[.agg r, .bool b]) ?_ rfl (h hT.below)
  rw [results_cell_tmp (p := 6) (u := 7) (ty := 27) rfl, h6, h7]
  have e := run_loadVar_row (P := Tryz.prog) W w.heap.size 27 27 r (0, 0) _ hT.r rfl rfl (by rw [hr]; rfl)
  simp [asAddr, e]
end Go.Proofs.YtahcbeofaeflgaaGreatDoor
namespace Go.Proofs.YtahcbeofaeflgaaGreatDoor
open Go.RowKit

theorem digB_lt {s : ByteArray} {k : Nat} (h : digB (bt s k) = true) : k < s.size := lt_of_bt (by intro e; rw [e] at h; cases h)
theorem expoP_bd (s : ByteArray) (e : Nat) (b : Bool) (he : e ≤ s.size) : e ≤ (expoP s e b).1 ∧ (expoP s e b).1 ≤ s.size := by
  unfold expoP
  split
  · split
    · split
      next h => have := digB_lt h; exact ⟨Nat.le_trans (by omega) (run_ge s digB (e + 2)), run_le s digB (e + 2) (by omega)⟩
      next => exact ⟨Nat.le_refl _, he⟩
    · split
      next h => have := digB_lt h; exact ⟨Nat.le_trans (by omega) (run_ge s digB (e + 1)), run_le s digB (e + 1) (by omega)⟩
      next => exact ⟨Nat.le_refl _, he⟩
  · exact ⟨Nat.le_refl _, he⟩
theorem intP_bd (s : ByteArray) (i : Nat) (hi : i < s.size) (h : digB (bt s i) = true ∨ bt s i = 46) : i < (intP s i).1 ∧ (intP s i).1 ≤ s.size := by
  have hg := run_ge s digB i
  have hl := run_le s digB i (by omega)
  unfold intP
  split
  next hd =>
    have hlt : run s digB i < s.size := lt_of_bt (by omega)
    have h1 := run_ge s digB (run s digB i + 1)
    have h2 := expoP_bd s (run s digB (run s digB i + 1)) false (run_le s digB _ (by omega))
    unfold fracP
    omega
  next hd =>
    have h2 := expoP_bd s (run s digB i) true hl
    rcases h with h | h
    · have := run_gt hi h
      omega
    · exfalso
      rw [run_no (by rw [h]; rfl)] at hd
      exact hd h
theorem numP_bd (s : ByteArray) (k : Nat) (hk : k < s.size) (h : digB (bt s k) = true ∨ bt s k = 46) : k < (numP s k).1 ∧ (numP s k).1 ≤ s.size ∧ ((numP s k).2.1 = kInt ∨ (numP s k).2.1 = kFloat) := by
  have hb := intP_bd s k hk h
  unfold numP
  split
  next hx =>
    have h1 : k + 1 < s.size := lt_of_bt (by have := hx.2; omega)
    have h2 := run_ge s hexB (k + 2)
    have h3 := run_le s hexB (k + 2) (by omega)
    exact ⟨by simp only; omega, by simp only; omega, Or.inl rfl⟩
  next =>
    split
    · exact ⟨hb.1, hb.2, Or.inl rfl⟩
    · exact ⟨hb.1, hb.2, Or.inr rfl⟩
theorem quoF_bd (s : ByteArray) (c m i j : Nat) (h : quoF s c m i = some j) : i ≤ j ∧ j < s.size ∧ mkB s c m j = true := by
  fun_induction quoF s c m i with
  | case1 i hi hb => simp at h; subst h; exact ⟨Nat.le_refl _, hi, hb⟩
  | case2 => simp at h
  | case3 i hi hb hn ih => have := ih h; exact ⟨by omega, this.2⟩
  | case4 => simp at h
theorem quoP_bd (s : ByteArray) (k : Nat) (e : Nat) (v : ByteArray) (hk : markB (bt s k) = true) (h : quoP s k = some (e, v)) : k < e ∧ e ≤ s.size := by
  unfold quoP at h
  rcases hq : quoF s (bt s k) (quoM s k) (k + quoM s k) with _ | j
  · rw [hq] at h; simp at h
  · rw [hq] at h
    have he : j + quoM s k = e := by simp at h; exact h.1
    have hb := quoF_bd _ _ _ _ _ hq
    have hc : bt s k < 256 := by
      unfold markB at hk
      rcases of_decide_eq_true hk with h | h <;> omega
    have := mkB_lt hc (quoM_or s k) hb.2.2
    have := quoM_or s k
    omega
theorem run_pre (s : ByteArray) (k : Nat) : (preP s k).1 ≤ 2 := by
  unfold preP
  split
  · show preN s k ≤ 2
    unfold preN
    split <;> (try split) <;> omega
  · exact Nat.zero_le _
theorem kw_ne {b : ByteArray} (h : kwB b = true) : b.toList.isEmpty = false := by
  rcases hb : b.toList with _ | ⟨x, r⟩
  · exfalso
    unfold kwB at h
    rw [hb] at h
    revert h
    decide
  · rfl
theorem emp_iff (b : ByteArray) : b.toList.isEmpty = decide (b.size = 0) := by
  rw [Bool.eq_iff_iff, List.isEmpty_iff, decide_eq_true_eq]
  constructor
  · intro h
    have e : b = ⟨#[]⟩ := toList_inj (by rw [h]; simp)
    rw [e]; rfl
  · intro h
    have e : b = ⟨#[]⟩ := bt_inj (fun i => by rw [bt_ge (by omega), bt_ge (show ByteArray.size ⟨#[]⟩ ≤ i from Nat.zero_le _)])
    rw [e]; simp
theorem sign_bd (s : ByteArray) (k : Nat) (hk : k < s.size) : k + (signP s k).size ≤ s.size := by
  unfold signP
  split
  next p hp =>
    have h := List.find?_some hp
    unfold stB at h
    rw [Bool.and_eq_true, decide_eq_true_eq] at h
    exact h.1
  next =>
    split
    · rw [ByteArray.size_extract]; omega
    · show k + 0 ≤ s.size
      omega
theorem par_let {c : Nat} (h : letB c = true) : parB c = true := by
  simp only [letB, parB, decide_eq_true_eq] at h ⊢
  omega
theorem lit_mark (s : ByteArray) (k : Nat) (h : (preP s k).2.2 = true) : markB (bt s (k + (preP s k).1)) = true := by
  unfold preP at h ⊢
  split
  next hm => exact hm
  next hm => rw [if_neg hm] at h; cases h
theorem run_all (s : ByteArray) (p : Nat → Bool) (k j : Nat) (h1 : k ≤ j) (h2 : j < run s p k) : p (bt s j) = true := by
  fun_induction run s p k with
  | case1 k hk hp ih =>
    rcases Nat.lt_or_ge k j with h | h
    · exact ih (by omega) h2
    · obtain rfl : k = j := by omega
      exact hp
  | case2 => omega
  | case3 => omega
theorem wordAll (s : ByteArray) (k : Nat) : ∀ j, j < (s.extract k (run s parB k)).size → parB (bt (s.extract k (run s parB k)) j) = true := by
  intro j hj
  have hl : k + j < run s parB k := by rw [ByteArray.size_extract] at hj; omega
  have hle : k + j < s.size := by rw [ByteArray.size_extract] at hj; omega
  rw [bt_ext (run_le s parB k (by omega)) hl]
  exact run_all s parB k (k + j) (by omega) hl
end Go.Proofs.YtahcbeofaeflgaaGreatDoor
namespace Go.Proofs.YtahcbeofaeflgaaGreatDoor
open Go.RowKit

def kEof : ByteArray := ⟨#[60, 101, 111, 102, 62]⟩
/-- The token at a place, where no dot of a name stands ahead. -/
def oneQ (s : ByteArray) (k : Nat) (k1 : ByteArray) : Option Tk :=
  if parP s k = true then some ⟨kParam, s.extract (k + 1) (run s parB (k + 1)), 0, run s parB (k + 1)⟩
  else if nmB s k k1 = true then (if parB (bt s (numP s k).1) = true then none else some ⟨(numP s k).2.1, ⟨#[]⟩, (numP s k).2.2, (numP s k).1⟩)
  else if (markB (bt s k) || letB (bt s k)) = true then (if (preP s k).2.2 = true then litP s k else some (wordP s k))
  else if (signP s k).size = 0 then none else some ⟨signP s k, ⟨#[]⟩, 0, k + (signP s k).size⟩
theorem oneP_q (s : ByteArray) (k : Nat) (k1 k2 : ByteArray) : oneP s k k1 k2 = if dotB s k k1 k2 = true then some ⟨kIdent, s.extract k (run s parB k), 0, run s parB k⟩ else oneQ s k k1 := rfl

/-- The state behind a token. -/
def St.tok (t : St) (x : Tk) : St := { t with kind := x.kind, txt := x.txt, base := x.base, pos := x.te, dot := if x.kind.toList = [46] then ndB t.last else t.dot }
/-- What 'consumeToken' comes to. -/
def TokPost (s : ByteArray) (gl gf : Nat) (t : St) (w : World) (e : Ending) (w' : World) : Prop :=
  (t.pos < s.size ∧ oneQ s t.pos t.last = none ∧ Fault gl gf w e w') ∨
  (∃ x : Tk, t.pos < s.size ∧ oneQ s t.pos t.last = some x ∧ e = .returned (.tuple #[]) ∧ LX w' gl gf s (t.tok x) ∧ w.grownBy w' (some gl)) ∨
  (s.size ≤ t.pos ∧ e = .returned (.tuple #[]) ∧ LX w' gl gf s { t with kind := kEof } ∧ w.grownBy w' (some gl))
/-- The state ahead of a token: its fields are cleared. -/
structure Clr (t : St) : Prop where
  kind : t.kind = ⟨#[]⟩
  txt : t.txt = ⟨#[]⟩
  base : t.base = 0

theorem sign_one {s : ByteArray} {k : Nat} {c : UInt8} (h : bt s k = c.toNat) (h2 : (twoL.find? fun p => stB s k p) = none) (h1 : ([40, 41, 91, 93, 123, 125, 44, 59, 58, 46, 64, 61, 60, 62, 43, 45, 42, 47, 38, 94, 37, 124, 126, 36, 63] : List UInt8).contains c = true) : signP s k = ⟨#[c]⟩ := by
  unfold signP
  rw [h2]
  show (if hasF oneS (s.extract k (k + 1)) 0 = true then s.extract k (k + 1) else ⟨#[]⟩) = _
  rw [one_ext h]
  have := has_one [40, 41, 91, 93, 123, 125, 44, 59, 58, 46, 64, 61, 60, 62, 43, 45, 42, 47, 38, 94, 37, 124, 126, 36, 63] c
  rw [h1] at this
  rw [show oneS = ⟨([40, 41, 91, 93, 123, 125, 44, 59, 58, 46, 64, 61, 60, 62, 43, 45, 42, 47, 38, 94, 37, 124, 126, 36, 63] : List UInt8).toArray⟩ from rfl, if_pos this]

theorem two_none {s : ByteArray} {k : Nat} (h : ∀ p ∈ twoL, stB s k p = false) : (twoL.find? fun p => stB s k p) = none := by
  rw [List.find?_eq_none]
  intro p hp
  rw [h p hp]; decide

/-- The nonletters that open a sign. -/
theorem oneQ_sign {s : ByteArray} {k : Nat} {k1 : ByteArray} {v : ByteArray} (h1 : parP s k = false) (h2 : nmB s k k1 = false) (h3 : markB (bt s k) = false) (h4 : letB (bt s k) = false) (h5 : signP s k = v) (h6 : v.size ≠ 0) :
    oneQ s k k1 = some ⟨v, ⟨#[]⟩, 0, k + v.size⟩ := by
  unfold oneQ
  rw [if_neg (by rw [h1]; decide), if_neg (by rw [h2]; decide), if_neg (by rw [h3, h4]; decide), h5, if_neg h6]
end Go.Proofs.YtahcbeofaeflgaaGreatDoor
