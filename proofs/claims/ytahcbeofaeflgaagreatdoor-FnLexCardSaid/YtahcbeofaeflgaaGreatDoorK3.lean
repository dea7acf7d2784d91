/- Lemmas towards the statement FnLexCardSaid, conditions: as each theorem says. -/
import Derived.Test.YtahcbeofaeflgaaGreatDoorG0
import Derived.Test.YtahcbeofaeflgaaGreatDoorK2
import Derived.Test.YtahcbeofaeflgaaGreatDoorE3
import Derived.Test.YtahcbeofaeflgaaGreatDoorH3
import Derived.Test.YtahcbeofaeflgaaGreatDoorJ2
import Derived.Test.YtahcbeofaeflgaaGreatDoorK4
import Derived.Laws.OwnMore
import Derived.Deep.AppendLies
import Derived.BigQuiet
namespace Go.Proofs.YtahcbeofaeflgaaGreatDoor
open Go.RowKit

/-! ## The tokens of a text, as both readers come to them -/

/-- The tokens from k on, behind tokens of the kinds k2 and k1, and whether the text ends well. -/
def lexP (s : ByteArray) : Nat → Nat → ByteArray → ByteArray → List (Nat × Tk) × Bool
  | 0, _, _, _ => ([], false)
  | f + 1, k, k1, k2 =>
    if (blankP s k).2 = false then ([], false)
    else if s.size ≤ (blankP s k).1 then ([((blankP s k).1, ⟨⟨#[60, 101, 111, 102, 62]⟩, ⟨#[]⟩, 0, (blankP s k).1⟩)], true)
    else match oneP s (blankP s k).1 k1 k2 with
      | none => ([], false)
      | some x => (((blankP s k).1, x) :: (lexP s f x.te x.kind k1).1, (lexP s f x.te x.kind k1).2)
def lexT (s : ByteArray) : List (Nat × Tk) × Bool := lexP s (s.size + 1) 0 ⟨#[]⟩ ⟨#[]⟩
/-- The kind of the last token but i. -/
def kin (l : List (Nat × Tk)) (i : Nat) : ByteArray := ((l.reverse[i]?).map (fun x => x.2.kind)).getD ⟨#[]⟩
theorem kin_0 (l : List (Nat × Tk)) (x : Nat × Tk) : kin (l ++ [x]) 0 = x.2.kind := by simp [kin]
theorem kin_1 (l : List (Nat × Tk)) (x : Nat × Tk) : kin (l ++ [x]) 1 = kin l 0 := by simp [kin]

/-- Halfway: the tokens D are read, k is the place. -/
structure Mid (s : ByteArray) (D : List (Nat × Tk)) (k : Nat) : Prop where
  rest : ∃ f, s.size < f + k ∧ D ++ (lexP s f k (kin D 0) (kin D 1)).1 = (lexT s).1 ∧ (lexP s f k (kin D 0) (kin D 1)).2 = (lexT s).2
  len : D.length ≤ k
  le : k ≤ s.size
theorem Mid.start (s : ByteArray) : Mid s [] 0 := ⟨⟨s.size + 1, by omega, rfl, rfl⟩, Nat.zero_le _, Nat.zero_le _⟩
theorem Mid.more {s : ByteArray} {D : List (Nat × Tk)} {k : Nat} (h : Mid s D k) : ∃ f, s.size < f + 1 + k ∧ D ++ (lexP s (f + 1) k (kin D 0) (kin D 1)).1 = (lexT s).1 ∧ (lexP s (f + 1) k (kin D 0) (kin D 1)).2 = (lexT s).2 := by
  obtain ⟨⟨f, h1, h2⟩, _, h3⟩ := h
  cases f with
  | zero => omega
  | succ f => exact ⟨f, h1, h2⟩
theorem Mid.bad {s : ByteArray} {D : List (Nat × Tk)} {k : Nat} (h : Mid s D k) (hb : (blankP s k).2 = false) : (lexT s).1 = D ∧ (lexT s).2 = false := by
  obtain ⟨f, _, h2, h3⟩ := h.more
  unfold lexP at h2 h3
  rw [if_pos hb] at h2 h3
  simp only [List.append_nil] at h2
  exact ⟨h2.symm, h3.symm⟩
theorem Mid.eof {s : ByteArray} {D : List (Nat × Tk)} {k : Nat} (h : Mid s D k) (hb : (blankP s k).2 = true) (hq : s.size ≤ (blankP s k).1) :
    (lexT s).1 = D ++ [((blankP s k).1, ⟨⟨#[60, 101, 111, 102, 62]⟩, ⟨#[]⟩, 0, (blankP s k).1⟩)] ∧ (lexT s).2 = true := by
  obtain ⟨f, _, h2, h3⟩ := h.more
  unfold lexP at h2 h3
  rw [if_neg (by rw [hb]; decide), if_pos hq] at h2 h3
  exact ⟨h2.symm, h3.symm⟩
theorem Mid.none {s : ByteArray} {D : List (Nat × Tk)} {k : Nat} (h : Mid s D k) (hb : (blankP s k).2 = true) (hq : (blankP s k).1 < s.size) (ho : oneP s (blankP s k).1 (kin D 0) (kin D 1) = none) :
    (lexT s).1 = D ∧ (lexT s).2 = false := by
  obtain ⟨f, _, h2, h3⟩ := h.more
  unfold lexP at h2 h3
  rw [if_neg (by rw [hb]; decide), if_neg (by omega), ho] at h2 h3
  simp only [List.append_nil] at h2
  exact ⟨h2.symm, h3.symm⟩
theorem Mid.step {s : ByteArray} {D : List (Nat × Tk)} {k : Nat} {x : Tk} (h : Mid s D k) (hb : (blankP s k).2 = true) (hq : (blankP s k).1 < s.size) (ho : oneP s (blankP s k).1 (kin D 0) (kin D 1) = some x)
    (hk : k ≤ (blankP s k).1) (h1 : (blankP s k).1 < x.te) (h2 : x.te ≤ s.size) : Mid s (D ++ [((blankP s k).1, x)]) x.te := by
  have hlen := h.len
  obtain ⟨f, hf, h2', h3⟩ := h.more
  unfold lexP at h2' h3
  rw [if_neg (by rw [hb]; decide), if_neg (by omega), ho] at h2' h3
  refine ⟨⟨f, by omega, ?_, ?_⟩, by simp; omega, h2⟩
  · rw [kin_0, kin_1, ← h2', List.append_assoc]; rfl
  · rw [kin_0, kin_1, ← h3]

/-- The cells of a row of tokens. -/
def tcell (s : ByteArray) (x : Nat × Tk) : List Value := [.string x.2.kind, .string (s.extract x.1 x.2.te), .string x.2.txt, .int .i64 x.2.base, .int .i64 (x.1 : Int), .int .i64 (x.2.te : Int)]
def tcells (s : ByteArray) (l : List (Nat × Tk)) : List Value := l.flatMap (tcell s)
theorem tcells_snoc (s : ByteArray) (l : List (Nat × Tk)) (x : Nat × Tk) : tcells s (l ++ [x]) = tcells s l ++ tcell s x := by simp [tcells]
theorem tcells_len (s : ByteArray) (l : List (Nat × Tk)) : (tcells s l).length = l.length * 6 := by
  induction l with
  | nil => rfl
  | cons x l ih => show (tcell s x ++ tcells s l).length = _; rw [List.length_append, ih]; simp [tcell]; omega
theorem tcells_at (s : ByteArray) : ∀ (l : List (Nat × Tk)) (j i : Nat), i < 6 → (tcells s l)[j * 6 + i]? = (l[j]?).bind (fun x => (tcell s x)[i]?)
  | [], j, i, _ => rfl
  | x :: l, 0, i, hi => by
    show (tcell s x ++ tcells s l)[0 * 6 + i]? = _
    rw [List.getElem?_append_left (by simp [tcell]; omega)]; simp
  | x :: l, j + 1, i, hi => by
    show (tcell s x ++ tcells s l)[(j + 1) * 6 + i]? = _
    rw [List.getElem?_append_right (by simp [tcell]; omega), show (j + 1) * 6 + i - (tcell s x).length = j * 6 + i by simp [tcell]; omega, tcells_at s l j i hi]
    rfl
theorem kin_at (l : List (Nat × Tk)) (i : Nat) (hi : i < l.length) : (l[l.length - 1 - i]?).map (fun x => x.2.kind) = some (kin l i) := by
  unfold kin
  rw [List.getElem?_reverse hi]
  have : l.length - 1 - i < l.length := by omega
  rw [List.getElem?_eq_getElem this]; rfl
theorem kin_cell (s : ByteArray) (l : List (Nat × Tk)) (i : Nat) (hi : i < l.length) : (tcells s l)[(l.length - 1 - i) * 6]? = some (.string (kin l i)) := by
  have h := tcells_at s l (l.length - 1 - i) 0 (by omega)
  rw [Nat.add_zero] at h
  rw [h]
  have h2 := kin_at l i hi
  obtain ⟨x, hx, hk⟩ := Option.map_eq_some_iff.1 h2
  rw [hx, ← hk]; rfl
theorem kin_nil (l : List (Nat × Tk)) (i : Nat) (hi : l.length ≤ i) : kin l i = ⟨#[]⟩ := by
  unfold kin
  rw [List.getElem?_eq_none (by simpa using hi)]; rfl

/-- The tokens so far, in a row of the reader's own. -/
theorem row_form {w : World} {B n : Nat} {v : Value} {xs : List Value} (h : w.ownsRow B 27 6 v n xs) : ∃ A c, v = .slice A n c := by
  rcases h.2 with ⟨h1, h2⟩ | ⟨g, cap, cur, h1, _⟩
  · subst h2; exact ⟨_, _, h1⟩
  · exact ⟨_, _, h1⟩
theorem row_prev {w : World} {B c : Nat} {A : Option Addr} {s : ByteArray} {D : List (Nat × Tk)} (h : w.ownsRow B 27 6 (.slice A D.length c) D.length (tcells s D)) : Prev w A D.length c (kin D 0) (kin D 1) := by
  have hc : D.length ≤ c := by
    rcases h.2 with ⟨h1, h2⟩ | ⟨g, cap, cur, h1, _, _, h2, _⟩
    · rw [h2]; exact Nat.zero_le _
    · injection h1 with _ _ h1; omega
  refine ⟨hc, fun h0 => kin_nil D 0 (by omega), fun h0 => kin_nil D 1 h0, fun h0 => ?_, fun h0 => ?_⟩
  all_goals
    obtain ⟨g, cap, h1, _, hlt⟩ := World.ownsRow.form h (by omega)
    injection h1 with h1 _ h2
    subst h1 h2
    refine ⟨g, rfl, hlt, ?_⟩
    rw [World.ownsRow.cellAt h _ (by omega)]
  · exact kin_cell s D 0 h0
  · rw [show D.length - 2 = D.length - 1 - 1 by omega]; exact kin_cell s D 1 h0

theorem blank_bd (s : ByteArray) (k : Nat) (hk : k ≤ s.size) : k ≤ (blankP s k).1 ∧ (blankP s k).1 ≤ s.size := by
  fun_induction blankP s k with
  | case1 k h hc ih => have := ih (by omega); omega
  | case2 k h hc hc2 ih =>
    have h1 := run_le s nlB k (by omega)
    have h2 := run_ge s nlB k
    have := ih (by omega)
    omega
  | case3 k h hc hc2 hc3 he ih =>
    have h1 := clo_lt he
    have h2 := clo_ge s (k + 2)
    have := ih (by omega)
    omega
  | case4 => simp only; omega
  | case5 => simp only; omega
  | case6 => simp only; omega
theorem ext_none (s : ByteArray) (q : Nat) : s.extract q q = ⟨#[]⟩ := by
  apply ByteArray.ext
  simp

/-- What the two readers of a whole text hand back. -/
def LexPost (s : ByteArray) (w : World) (e : Ending) (w' : World) : Prop :=
  ∃ (v : Value) (n : Int), e = .returned (.tuple #[v, .int .i64 n, .bool (lexT s).2]) ∧ w'.ownsRow w.heap.size 27 6 v (lexT s).1.length (tcells s (lexT s).1) ∧ Below w.heap.size w w'

theorem LexPost.bad {s : ByteArray} {w w' : World} {D : List (Nat × Tk)} {v : Value} {n : Int} (h : (lexT s).1 = D ∧ (lexT s).2 = false) (ho : w'.ownsRow w.heap.size 27 6 v D.length (tcells s D)) (hb : Below w.heap.size w w') :
    LexPost s w (.returned (.tuple #[v, .int .i64 n, .bool false])) w' := by
  obtain ⟨h1, h2⟩ := h
  subst h1
  exact ⟨v, n, by rw [h2], ho, hb⟩
theorem LexPost.good {s : ByteArray} {w w' : World} {D : List (Nat × Tk)} {v : Value} {n : Int} (h : (lexT s).1 = D ∧ (lexT s).2 = true) (ho : w'.ownsRow w.heap.size 27 6 v D.length (tcells s D)) (hb : Below w.heap.size w w') :
    LexPost s w (.returned (.tuple #[v, .int .i64 n, .bool true])) w' := by
  obtain ⟨h1, h2⟩ := h
  subst h1
  exact ⟨v, n, by rw [h2], ho, hb⟩

end Go.Proofs.YtahcbeofaeflgaaGreatDoor
namespace Go.Proofs.YtahcbeofaeflgaaGreatDoor
open Go.RowKit

theorem own_fr2 {w w' : World} {B : Nat} {e : TypeId} {sz : Nat} {v : Value} {n : Nat} {xs : List Value} {gl gf : Nat} (h : w.ownsRow B e sz v n xs) (hf : Fr2 gl gf w w') (h1 : gl < B) (h2 : gf < B) : w'.ownsRow B e sz v n xs := by
  refine ⟨h.1, ?_⟩
  rcases h.2 with h3 | ⟨g, cap, cur, a1, a2, a3, a4⟩
  · exact Or.inl h3
  · exact Or.inr ⟨g, cap, cur, a1, a2, (hf.block g (lt_of_heap a3) (by omega) (by omega)).trans a3, a4⟩

theorem own_base {w : World} {B B' : Nat} {e : TypeId} {sz : Nat} {v : Value} {n : Nat} {xs : List Value} (h : w.ownsRow B e sz v n xs) (hb : B' ≤ B) : w.ownsRow B' e sz v n xs := by
  refine ⟨h.1, ?_⟩
  rcases h.2 with h3 | ⟨g, cap, cur, a1, a2, a3⟩
  · exact Or.inl h3
  · exact Or.inr ⟨g, cap, cur, a1, Nat.le_trans hb a2, a3⟩

set_option maxRecDepth 100000 in
set_option maxHeartbeats 4000000 in
theorem lex5 (s : ByteArray) (w : World) (hP : Hid (PL s)) (hT : TabB w.heap.size w) (hE : w.cell? ⟨0, 0, none⟩ = some errT) : Calls Tryz.prog 5 #[.string s] w (LexPost s w) := by
  have hs2 := hP.out.size
  obtain ⟨i0, hi0, hz0, hz1, hz2⟩ := info_parts Tryz.info27'
  have hE0 : 0 < w.heap.size := by
    rcases Nat.eq_zero_or_pos w.heap.size with h | h
    · rw [World.cell?, Array.getElem?_eq_none (by rw [h]; exact Nat.le_refl 0)] at hE; cases hE
    · exact h
  have HE := Lib.hid hE
  clear hE
  have hX0 : LX ((w.alloc (.cells #[.string ⟨#[]⟩, .string s, .slice none 0 0] 32)).alloc (.cells #[.pointer (some ⟨w.heap.size, 0, none⟩), .string ⟨#[]⟩, .slice none 0 0, .string ⟨#[]⟩, .string ⟨#[]⟩, .string ⟨#[]⟩, .int .i64 0, .int .i64 0, .int .i64 0, .int .i64 0, .string ⟨#[]⟩, .bool false] 39)) (w.heap.size + 1) w.heap.size s ⟨⟨#[]⟩, .slice none 0 0, ⟨#[]⟩, ⟨#[]⟩, ⟨#[]⟩, 0, 0, 0, 0, ⟨#[]⟩, false⟩ := by
    refine ⟨⟨w.heap.size, by omega, Nat.le_refl _, hT.on (((Below.refl _ _).alloc (Nat.le_refl _) _).alloc (by simp) _)⟩, ?_, ?_⟩
    · have := heap_alloc_new (w.alloc (.cells #[.string ⟨#[]⟩, .string s, .slice none 0 0] 32)) (.cells #[.pointer (some ⟨w.heap.size, 0, none⟩), .string ⟨#[]⟩, .slice none 0 0, .string ⟨#[]⟩, .string ⟨#[]⟩, .string ⟨#[]⟩, .int .i64 0, .int .i64 0, .int .i64 0, .int .i64 0, .string ⟨#[]⟩, .bool false] 39)
      simpa [St.cells] using this
    · exact (Below.heap_alloc _ _ _ (by simp)).trans (heap_alloc_new w (.cells #[.string ⟨#[]⟩, .string s, .slice none 0 0] 32))
  have hb0 : Below w.heap.size w ((w.alloc (.cells #[.string ⟨#[]⟩, .string s, .slice none 0 0] 32)).alloc (.cells #[.pointer (some ⟨w.heap.size, 0, none⟩), .string ⟨#[]⟩, .slice none 0 0, .string ⟨#[]⟩, .string ⟨#[]⟩, .string ⟨#[]⟩, .int .i64 0, .int .i64 0, .int .i64 0, .int .i64 0, .string ⟨#[]⟩, .bool false] 39)) := ((Below.refl _ _).alloc (Nat.le_refl _) _).alloc (by simp) _
  have hz0' : w.heap.size + 2 ≤ ((w.alloc (.cells #[.string ⟨#[]⟩, .string s, .slice none 0 0] 32)).alloc (.cells #[.pointer (some ⟨w.heap.size, 0, none⟩), .string ⟨#[]⟩, .slice none 0 0, .string ⟨#[]⟩, .string ⟨#[]⟩, .string ⟨#[]⟩, .int .i64 0, .int .i64 0, .int .i64 0, .int .i64 0, .string ⟨#[]⟩, .bool false] 39)).heap.size := by simp
  go_enter Tryz.func5, Tryz.ntmps5
  go_wp2_with fail
  go_loopw [2] (fun v2 wr => ∃ (D : List (Nat × Tk)) (t : St), Hid (Mid s D t.pos) ∧ Hid (wr.ownsRow (w.heap.size + 2) 27 6 v2 D.length (tcells s D)) ∧ Hid (LX wr (w.heap.size + 1) w.heap.size s t) ∧ Hid (t.kind = kin D 0 ∧ t.dot = ((kin D 0).toList == [46] && ndB (kin D 1))) ∧ Below w.heap.size w wr ∧ w.heap.size + 2 ≤ wr.heap.size) (fun _ wr => s.size - posIn (w.heap.size + 1) wr)
  case atStart => exact ⟨[], ⟨⟨#[]⟩, .slice none 0 0, ⟨#[]⟩, ⟨#[]⟩, ⟨#[]⟩, 0, 0, 0, 0, ⟨#[]⟩, false⟩, Lib.hid (Mid.start s), Lib.hid (World.ownsRow_nil _ _ _ _), Lib.hid hX0, Lib.hid ⟨rfl, by rw [ByteArray.toList_eq]; rfl⟩, hb0, hz0'⟩
  case round =>
    obtain ⟨D, t, hM, hown, hX, hkd, hbel, hsz⟩ := hrel
    obtain ⟨A, c, rfl⟩ := row_form hown.out
    clear hX0 hb0 hz0'
    have hk := hM.out.le
    have hlen := hM.out.len
    have hq1 := blank_bd s t.pos hk
    have hm1 : D.length + 1 ≤ maxLen := by unfold maxLen; omega
    have hm2 : (D.length + 1) * 72 ≤ 140737488355328 := by omega
    have hbase := hbel.size
    have hdt : Hid (t.dot = ((t.kind.toList == [46]) && ndB (kin D 1))) := Lib.hid (by rw [hkd.out.1]; exact hkd.out.2)
    have hpos0 := posIn_of hX.out
    go_wp2_with fail
    refine (next7 s _ _ t (kin D 1) wr hP hX.out hk hdt).mono ?_
    intro e w1 hq
    rcases hq with ⟨hbad, pe, pp, m, cs, n, rfl, h1, h2, h3, hF⟩ | ⟨hbt, rfl, t3, hfin, hraw, htp, hte, ⟨cA, cn, cc, hcom⟩, hX3, hg3⟩
    · have hB : Hid ((lexT s).1 = D ∧ (lexT s).2 = false) := by
        rcases hbad with h | ⟨h4, h5, h6⟩
        · exact Lib.hid (hM.out.bad h)
        · exact Lib.hid (hM.out.none h4 h5 (by rw [← hkd.out.1]; exact h6))
      have hown1 := own_fr2 hown.out hF (by omega) (by omega)
      have hbel1 : Below w.heap.size w w1 := hbel.trans ⟨hF.os, hF.tape, hF.output, hF.size, fun k hk => hF.block k (by omega) (by omega) (by omega)⟩
      have hE1 := Lib.hid ((hbel1.cell (p := ⟨0, 0, none⟩) hE0).trans HE.out)
      have h3' := Lib.hid h3
      clear hbad h3 hF hX hdt hpos0
      go_wp2_with fail
      refine (placeOf8 pe pp m cs n w1 hE1 h1 h2 h3').mono ?_
      rintro e w2 ⟨rfl, hb2⟩
      have hown2 := World.ownsRow.kept hown1 (fr_below hb2 none) (Classical.em _)
      have hbel2 := hbel1.trans (hb2.mono hbel1.size)
      go_wp2_with fail
      go_ret3
      exact LexPost.bad hB.out (own_base hown2 (by omega)) hbel2
    · have hown1 := Lib.hid (own_keep hown.out hg3 (by omega))
      have hsz1 : w.heap.size + 2 ≤ w1.heap.size := Nat.le_trans hsz hg3.size
      have hlt3 : ∀ k, (Value.slice A D.length c).ownBlock = some k → w.heap.size + 2 ≤ k ∧ k < w1.heap.size := World.ownsRow.lt hown1.out
      have hbel1 : Below w.heap.size w w1 := hbel.trans ⟨hg3.os, hg3.tape, hg3.output, hg3.size, fun k hk => hg3.block k (by omega) (fun e => by injection e with e; omega)⟩
      have c1 := hX3.c1
      have c2 := hX3.c2
      have c3 := hX3.c3
      have c4 := hX3.c4
      have c5 := hX3.c5
      have c6 := hX3.c6
      have c7 := hX3.c7
      have c8 := hX3.c8
      rw [hcom] at c2
      rw [hraw] at c4
      rw [htp] at c7
      rw [hte] at c8
      obtain ⟨q, hqe⟩ : ∃ q, (blankP s t.pos).1 = q := ⟨_, rfl⟩
      rw [hqe] at c4 c7 hfin hq1
      have HQ := Lib.hid hqe
      have HBT := Lib.hid hbt
      clear hqe hraw htp hte hbt hcom hdt
      rcases hfin with ⟨f1, f2, f3, f4, f5⟩ | ⟨x, f1, f2, f3, f4, f5, f6, f7⟩
      · have hEOF : Hid ((lexT s).1 = D ++ [(q, ⟨⟨#[60, 101, 111, 102, 62]⟩, ⟨#[]⟩, 0, q⟩)] ∧ (lexT s).2 = true) := by
          have := hM.out.eof HBT.out (by rw [HQ.out]; exact f1)
          rw [HQ.out] at this
          exact Lib.hid this
        rw [f2, show kEof = ⟨#[60, 101, 111, 102, 62]⟩ from rfl] at c1
        rw [f3] at c5
        rw [f4] at c6
        rw [f5] at c4 c8
        rw [ext_none] at c4
        clear f2 f3 f4 f5 hkd
        go_wp2_with (at_builtin; refine wpList_append_own _ rfl _ _ 23 rfl (w.heap.size + 2) 27 i0 _ 6 72 Tryz.underlying23 hi0 hz0 hz1 hz2 rfl (by decide) _ _ _ rfl (World.ownsRow.alloc (World.ownsRow.alloc hown1.out _) _) ⟨w1.heap.size + 1, 0, none⟩ 1 1 [.string ⟨#[60, 101, 111, 102, 62]⟩, .string ⟨#[]⟩, .string ⟨#[]⟩, .int .i64 0, .int .i64 (q : Int), .int .i64 (q : Int)] rfl rfl ?c1 ?c2 ?c3 ?c4 ?c5 ?_)
        case c2 => simp [Value.oneCell']
        case c3 => exact hm1
        case c4 => exact hm2
        case c5 => simp; omega
        case c1 => exact World.news_of_block (cs := #[.string ⟨#[60, 101, 111, 102, 62]⟩, .string ⟨#[]⟩, .string ⟨#[]⟩, .int .i64 0, .int .i64 (q : Int), .int .i64 (q : Int)]) (t := 27) (fr := (0, 0)) (by have := heap_alloc_new (w1.alloc (.cells #[.string ⟨#[60, 101, 111, 102, 62]⟩, .slice cA cn cc, .string t3.sp, .string ⟨#[]⟩, .string ⟨#[]⟩, .int .i64 0, .int .i64 (q : Int), .int .i64 (q : Int)] 37)) (.cells #[.string ⟨#[60, 101, 111, 102, 62]⟩, .string ⟨#[]⟩, .string ⟨#[]⟩, .int .i64 0, .int .i64 (q : Int), .int .i64 (q : Int)] 27); simpa using this)
        intro v' w3 hown3 hgrow hnil
        have hbel3 : Below w.heap.size w w3 := ((hbel1.alloc (by omega) _).alloc (by simp; omega) _).grown hgrow (by simp; omega) (fun k hk => by have := (hlt3 k hk).1; omega)
        have hb5 := cell_of ((hgrow.block w1.heap.size (by simp; omega) (fun e => by have := (hlt3 _ e.symm).2; omega)).trans ((Below.heap_alloc _ _ w1.heap.size (by simp)).trans (heap_alloc_new w1 (.cells #[.string ⟨#[60, 101, 111, 102, 62]⟩, .slice cA cn cc, .string t3.sp, .string ⟨#[]⟩, .string ⟨#[]⟩, .int .i64 0, .int .i64 (q : Int), .int .i64 (q : Int)] 37)))) 0
        have hX6 : LX w3 (w.heap.size + 1) w.heap.size s t3 := ((hX3.alloc _).alloc _).grown hgrow (fun k hk => by have := (hlt3 k hk).1; omega) (fun hk => by have := (hlt3 _ hk.symm).1; omega)
        go_wp2_with fail
        go_ret3
        refine LexPost.good hEOF.out ?_ hbel3
        rw [tcells_snoc, List.length_append]
        simp only [tcell, ext_none]
        exact own_base hown3 (by omega)
      · have hxb := oneP_bd f1 f2
        have hne : (x.kind.toList == [60, 101, 111, 102, 62]) = false := by
          rw [beq_eq_false_iff_ne]
          intro h
          refine oneP_kind f2 (ByteArray.ext ?_)
          rw [ByteArray.toList_eq] at h
          exact Array.toList_inj.1 h
        have hMID : Hid (Mid s (D ++ [(q, x)]) x.te) := by
          have hk1 := hkd.out.1
          have := Mid.step (x := x) hM.out HBT.out (by rw [HQ.out]; exact f1) (by rw [HQ.out, ← hk1]; exact f2) (by rw [HQ.out]; exact hq1.1) (by rw [HQ.out]; exact hxb.1) hxb.2
          rw [HQ.out] at this
          exact Lib.hid this
        have hDOT : Hid (t3.kind = kin (D ++ [(q, x)]) 0 ∧ t3.dot = ((kin (D ++ [(q, x)]) 0).toList == [46] && ndB (kin (D ++ [(q, x)]) 1))) := by
          rw [kin_0, kin_1, ← hkd.out.1]
          exact Lib.hid ⟨f3, f7⟩
        have hpe : t3.pos = x.te := f6
        have hpos3 := posIn_of hX3
        rw [f3] at c1
        rw [f4] at c5
        rw [f5] at c6
        rw [f6] at c4 c8
        clear f2 f3 f4 f5 f6 f7 hkd
        go_wp2_with (at_builtin; refine wpList_append_own _ rfl _ _ 23 rfl (w.heap.size + 2) 27 i0 _ 6 72 Tryz.underlying23 hi0 hz0 hz1 hz2 rfl (by decide) _ _ _ rfl (World.ownsRow.alloc (World.ownsRow.alloc hown1.out _) _) ⟨w1.heap.size + 1, 0, none⟩ 1 1 [.string x.kind, .string (s.extract q x.te), .string x.txt, .int .i64 x.base, .int .i64 (q : Int), .int .i64 (x.te : Int)] rfl rfl ?c1 ?c2 ?c3 ?c4 ?c5 ?_)
        case c2 => simp [Value.oneCell']
        case c3 => exact hm1
        case c4 => exact hm2
        case c5 => simp; omega
        case c1 => exact World.news_of_block (cs := #[.string x.kind, .string (s.extract q x.te), .string x.txt, .int .i64 x.base, .int .i64 (q : Int), .int .i64 (x.te : Int)]) (t := 27) (fr := (0, 0)) (by have := heap_alloc_new (w1.alloc (.cells #[.string x.kind, .slice cA cn cc, .string t3.sp, .string (s.extract q x.te), .string x.txt, .int .i64 x.base, .int .i64 (q : Int), .int .i64 (x.te : Int)] 37)) (.cells #[.string x.kind, .string (s.extract q x.te), .string x.txt, .int .i64 x.base, .int .i64 (q : Int), .int .i64 (x.te : Int)] 27); simpa using this)
        intro v' w3 hown3 hgrow hnil
        have hbel3 : Below w.heap.size w w3 := ((hbel1.alloc (by omega) _).alloc (by simp; omega) _).grown hgrow (by simp; omega) (fun k hk => by have := (hlt3 k hk).1; omega)
        have hb5 := cell_of ((hgrow.block w1.heap.size (by simp; omega) (fun e => by have := (hlt3 _ e.symm).2; omega)).trans ((Below.heap_alloc _ _ w1.heap.size (by simp)).trans (heap_alloc_new w1 (.cells #[.string x.kind, .slice cA cn cc, .string t3.sp, .string (s.extract q x.te), .string x.txt, .int .i64 x.base, .int .i64 (q : Int), .int .i64 (x.te : Int)] 37)))) 0
        have hX6 : LX w3 (w.heap.size + 1) w.heap.size s t3 := ((hX3.alloc _).alloc _).grown hgrow (fun k hk => by have := (hlt3 k hk).1; omega) (fun hk => by have := (hlt3 _ hk.symm).1; omega)
        have hpos6 := posIn_of hX6
        go_wp2_with fail
        go_roundw
        case rel =>
          refine ⟨D ++ [(q, x)], t3, ?_, ?_, hX6, hDOT, hbel3, Nat.le_trans hsz1 (Nat.le_trans (by simp; omega) hgrow.size)⟩
          · rw [hpe]; exact hMID
          · rw [tcells_snoc, List.length_append]
            exact hown3
        case measure =>
          rw [hpos6, hpos0, hpe]; omega
end Go.Proofs.YtahcbeofaeflgaaGreatDoor
namespace Go.Proofs.YtahcbeofaeflgaaGreatDoor
open Go.RowKit

set_option maxRecDepth 100000 in
set_option maxHeartbeats 4000000 in
theorem lex6 (s : ByteArray) (w : World) (hs2 : s.size ≤ 2000) : Calls Tryz.prog 6 #[.string s] w (LexPost s w) := by
  have hs : s.size ≤ 2147483647 := Nat.le_trans hs2 (by decide)
  obtain ⟨i0, hi0, hz0, hz1, hz2⟩ := info_parts Tryz.info27'
  go_enter Tryz.func6, Tryz.ntmps6
  go_wp2_with fail
  go_loopw [2, 3] (fun v2 v3 wr => ∃ (D : List (Nat × Tk)) (k : Nat), v3 = .int .i64 (k : Int) ∧ Hid (Mid s D k) ∧ Hid (wr.ownsRow w.heap.size 27 6 v2 D.length (tcells s D)) ∧ Below w.heap.size w wr) (fun _ v3 _ => s.size - (intOf v3).toNat)
  case atStart => exact ⟨[], 0, rfl, Mid.start s, World.ownsRow_nil _ _ _ _, Below.refl _ _⟩
  case round =>
    obtain ⟨D, k, rfl, hM, hown, hbel⟩ := hrel
    obtain ⟨A, c, rfl⟩ := row_form hown.out
    have hk := hM.out.le
    have hlen := hM.out.len
    have hq1 := blank_bd s k hk
    have hbl := blank9 s k wr hs hk
    have hprev := Lib.hid (row_prev hown.out)
    have hm1 : D.length + 1 ≤ maxLen := by unfold maxLen; omega
    have hm2 : (D.length + 1) * 72 ≤ 140737488355328 := by omega
    have hbase := hbel.size
    rcases Bool.eq_false_or_eq_true (blankP s k).2 with hd | hd
    · have hEOF := fun h => hM.out.eof hd h
      have hNONE := fun h1 h2 => hM.out.none hd h1 h2
      have hSTEP := fun x h1 h2 h3 h4 => Mid.step (x := x) hM.out hd h1 h2 hq1.1 h3 h4
      rw [hd] at hbl
      obtain ⟨q, hq⟩ : ∃ q, (blankP s k).1 = q := ⟨_, rfl⟩
      rw [hq] at hbl hEOF hNONE hSTEP hq1
      rcases Nat.lt_or_ge q s.size with hlt | hge
      · clear hEOF
        go_wp2_with (go_at_call 9; refine hbl.mono ?_; rintro e w' ⟨rfl, rfl⟩)
        refine (one10 s q A D.length c _ _ wr hs2 hlt (by omega) hprev).mono ?_
        rintro e w1 ⟨hb1, (⟨x, hx, rfl, hx1, hx2⟩ | ⟨z0, z1, z2, z3, z4, zn, hx, rfl⟩)⟩
        · have hmid := Lib.hid (hSTEP x hlt hx hx1 hx2)
          have hown1 := Lib.hid (World.ownsRow.kept hown.out (fr_below hb1 none) (Classical.em _))
          have hbel1 := hbel.trans (hb1.mono hbase)
          have hbase1 := hbel1.size
          clear hSTEP hNONE hx hbl hprev hown hb1 hM
          go_wp2_with (at_builtin; refine wpList_append_own _ rfl _ _ 23 rfl w.heap.size 27 i0 _ 6 72 Tryz.underlying23 hi0 hz0 hz1 hz2 rfl (by decide) _ _ _ rfl (World.ownsRow.alloc (World.ownsRow.alloc hown1.out _) _) ⟨w1.heap.size + 1, 0, none⟩ 1 1 [.string x.kind, .string (s.extract q x.te), .string x.txt, .int .i64 x.base, .int .i64 (q : Int), .int .i64 (x.te : Int)] rfl rfl ?c1 ?c2 ?c3 ?c4 ?c5 ?_)
          case c2 => simp [Value.oneCell']
          case c3 => exact hm1
          case c4 => exact hm2
          case c5 => simp; omega
          case c1 => exact World.news_of_block (cs := #[.string x.kind, .string (s.extract q x.te), .string x.txt, .int .i64 x.base, .int .i64 (q : Int), .int .i64 (x.te : Int)]) (t := 27) (fr := (0, 0)) (by have := heap_alloc_new (w1.alloc (.cells #[.string x.kind, .string (s.extract q x.te), .string x.txt, .int .i64 x.base, .int .i64 (q : Int), .int .i64 (x.te : Int)] 27)) (.cells #[.string x.kind, .string (s.extract q x.te), .string x.txt, .int .i64 x.base, .int .i64 (q : Int), .int .i64 (x.te : Int)] 27); simpa using this)
          intro v' w3 hown3 hgrow hnil
          have hlt3 : ∀ k, (Value.slice A D.length c).ownBlock = some k → w.heap.size ≤ k ∧ k < w1.heap.size := World.ownsRow.lt hown1.out
          have hbel3 : Below w.heap.size w w3 := ((hbel1.alloc hbase1 _).alloc (by simp; omega) _).grown hgrow (by simp; omega) (fun k hk => (hlt3 k hk).1)
          have hb5 := cell_of ((hgrow.block w1.heap.size (by simp; omega) (fun e => by have := (hlt3 _ e.symm).2; omega)).trans ((Below.heap_alloc _ _ w1.heap.size (by simp)).trans (heap_alloc_new w1 (.cells #[.string x.kind, .string (s.extract q x.te), .string x.txt, .int .i64 x.base, .int .i64 (q : Int), .int .i64 (x.te : Int)] 27)))) 5
          go_wp2_with fail
          go_roundw
          case rel =>
            refine ⟨D ++ [(q, x)], x.te, rfl, hmid, ?_, hbel3⟩
            rw [tcells_snoc, List.length_append]
            exact hown3
          case measure => simp [intOf]; omega
        · have hbad := Lib.hid (hNONE hlt hx)
          have hown1 := Lib.hid (World.ownsRow.kept hown.out (fr_below hb1 none) (Classical.em _))
          have hbel1 := hbel.trans (hb1.mono hbase)
          have hbase1 := hbel1.size
          clear hSTEP hNONE hx hbl hprev hM hown hb1
          go_wp2_with fail
          go_quiet (fail)
          go_wp2_with fail
          go_ret3
          have hbel2 := hbel1.alloc hbase1 (.cells #[.string z0, .string z1, .string z2, .int .i64 z3, .int .i64 z4, .int .i64 zn] 27)
          exact LexPost.bad hbad.out (World.ownsRow.drew (World.ownsRow.alloc hown1.out _)) ⟨hbel2.os, hbel2.tape, hbel2.output, hbel2.size, hbel2.block⟩
      · have hEOF2 := Lib.hid (hEOF hge)
        clear hEOF hNONE hSTEP
        go_wp2_with (first | (go_at_call 9; refine hbl.mono ?_; rintro e w' ⟨rfl, rfl⟩) | (at_builtin; refine wpList_append_own _ rfl _ _ 23 rfl w.heap.size 27 i0 _ 6 72 Tryz.underlying23 hi0 hz0 hz1 hz2 rfl (by decide) _ _ _ rfl (World.ownsRow.alloc hown.out _) ⟨wr.heap.size, 0, none⟩ 1 1 [.string ⟨#[60, 101, 111, 102, 62]⟩, .string ⟨#[]⟩, .string ⟨#[]⟩, .int .i64 0, .int .i64 (q : Int), .int .i64 (q : Int)] rfl rfl ?c1 ?c2 ?c3 ?c4 ?c5 ?_))
        case c2 => simp [Value.oneCell']
        case c3 => exact hm1
        case c4 => exact hm2
        case c5 => simp; omega
        case c1 => exact World.news_of_block (cs := #[.string ⟨#[60, 101, 111, 102, 62]⟩, .string ⟨#[]⟩, .string ⟨#[]⟩, .int .i64 0, .int .i64 (q : Int), .int .i64 (q : Int)]) (t := 27) (fr := (0, 0)) (heap_alloc_new wr _)
        intro v' w3 hown3 hgrow hnil
        have hbel3 : Below w.heap.size w w3 := (hbel.alloc hbase _).grown hgrow (by simp; omega) (fun k hk => (World.ownsRow.lt hown.out k hk).1)
        go_wp2_with fail
        go_ret3
        refine LexPost.good hEOF2.out (D := _ ++ [_]) ?_ hbel3
        rw [tcells_snoc, List.length_append]
        simp only [tcell, ext_none]
        exact hown3
    · have hBAD := Lib.hid (hM.out.bad hd)
      rw [hd] at hbl
      go_wp2_with (first | (go_at_call 9; refine hbl.mono ?_; rintro e w' ⟨rfl, rfl⟩))
      go_ret3
      exact LexPost.bad hBAD.out hown.out hbel
end Go.Proofs.YtahcbeofaeflgaaGreatDoor
namespace Go.Proofs.YtahcbeofaeflgaaGreatDoor
open Go.RowKit

/-- What the law's walk comes to. -/
def P3 (w : World) (e : Ending) (w' : World) : Prop := e = .returned (.bool true) ∧ Below w.heap.size w w'
/-- One token's cells in a row of tokens. -/
theorem row_cells {w : World} {B g c : Nat} {s : ByteArray} {D : List (Nat × Tk)} (h : w.ownsRow B 27 6 (.slice (some ⟨g, 0, none⟩) D.length c) D.length (tcells s D)) (j : Nat) (hj : j < D.length) :
    ∃ x : Nat × Tk, ∀ i, i < 6 → w.cell? ⟨g, j * 6 + i, none⟩ = (tcell s x)[i]? ∧ D[j]? = some x := by
  refine ⟨D[j], fun i hi => ⟨?_, List.getElem?_eq_getElem hj⟩⟩
  rw [World.ownsRow.cellAt h _ (by omega), tcells_at s D j i hi, List.getElem?_eq_getElem hj]
  rfl

set_option maxRecDepth 100000 in
set_option maxHeartbeats 4000000 in
theorem fnLex3 (s : ByteArray) (w : World) (hT : TabB w.heap.size w) (hE : w.cell? ⟨0, 0, none⟩ = some errT) : Calls Tryz.prog 3 #[.string s] w (P3 w) := by
  have hE0 : 0 < w.heap.size := by
    rcases Nat.eq_zero_or_pos w.heap.size with h | h
    · rw [World.cell?, Array.getElem?_eq_none (by rw [h]; exact Nat.le_refl 0)] at hE; cases hE
    · exact h
  have HE := Lib.hid hE
  clear hE
  go_enter Tryz.func3, Tryz.ntmps3
  rcases Nat.lt_or_ge 2147483647 s.size with hbig | hs
  · have e1 : (2147483647 : Int) < (s.size : Int) := by omega
    go_wp2_with fail
    go_ret
    exact ⟨rfl, Below.refl _ _⟩
  have e1 : ¬ (2147483647 : Int) < (s.size : Int) := by omega
  go_wp2_with fail
  refine (plainText4 s w hs).mono ?_
  rintro e w' ⟨b, rfl, rfl, hpl⟩
  cases b with
  | false =>
    go_wp2_with fail
    go_ret
    exact ⟨rfl, Below.refl _ _⟩
  | true =>
  have hP := Lib.hid (hpl rfl)
  clear hpl
  have hs2 := hP.out.size
  go_wp2_with fail
  refine (lex5 s w hP hT HE.out).mono ?_
  rintro e w1 ⟨v1, n1, rfl, ho1, hb1⟩
  go_wp2_with fail
  refine (lex6 s w1 hs2).mono ?_
  rintro e w2 ⟨v2, n2, rfl, ho2, hb2⟩
  have ho1' := Lib.hid (World.ownsRow.kept ho1 (fr_below hb2 none) (Classical.em _))
  have ho2' := Lib.hid ho2
  have hb02 := hb1.trans (hb2.mono hb1.size)
  obtain ⟨A1, c1, rfl⟩ := row_form ho1
  obtain ⟨A2, c2, rfl⟩ := row_form ho2
  clear ho1 ho2 hb2 hT HE
  obtain ⟨D, hD⟩ : ∃ D, (lexT s).1 = D := ⟨_, rfl⟩
  obtain ⟨d, hd⟩ : ∃ d, (lexT s).2 = d := ⟨_, rfl⟩
  rw [hD] at ho1' ho2' ⊢
  rw [hd]
  have hDm : D.length ≤ 9223372036854775807 := by
    rcases ho1'.out.2 with ⟨_, h⟩ | ⟨g, cap, cur, _, _, _, h1, h2, _⟩
    · omega
    · unfold maxLen at h2; omega
  cases d
  all_goals
    go_wp2_with fail
    go_loopw [40] (fun v40 wr => ∃ j : Nat, v40 = .int .i64 (j : Int) ∧ j ≤ D.length ∧ Hid (wr.ownsRow w1.heap.size 27 6 (.slice A2 D.length c2) D.length (tcells s D)) ∧ Hid (wr.ownsRow w.heap.size 27 6 (.slice A1 D.length c1) D.length (tcells s D)) ∧ Below w.heap.size w wr) (fun v40 _ => D.length - (intOf v40).toNat)
    case atStart => exact ⟨0, rfl, Nat.zero_le _, ho2', ho1', hb02⟩
    case round =>
      obtain ⟨j, rfl, hj, hr2, hr1, hbr⟩ := hrel
      by_cases hlt : j < D.length
      · obtain ⟨g1, cc1, h1, _, hg1⟩ := World.ownsRow.form hr1.out (by omega)
        injection h1 with h1 _ h1'
        subst h1 h1'
        obtain ⟨g2, cc2, h2, _, hg2⟩ := World.ownsRow.form hr2.out (by omega)
        injection h2 with h2 _ h2'
        subst h2 h2'
        obtain ⟨x, hx⟩ := row_cells hr1.out j hlt
        obtain ⟨y, hy⟩ := row_cells hr2.out j hlt
        obtain rfl : x = y := Option.some.inj ((hx 0 (by omega)).2.symm.trans (hy 0 (by omega)).2)
        have a0 := (hx 0 (by omega)).1
        have a1 := (hx 1 (by omega)).1
        have a2 := (hx 2 (by omega)).1
        have a3 := (hx 3 (by omega)).1
        have a4 := (hx 4 (by omega)).1
        have a5 := (hx 5 (by omega)).1
        have b0 := (hy 0 (by omega)).1
        have b1 := (hy 1 (by omega)).1
        have b2 := (hy 2 (by omega)).1
        have b3 := (hy 3 (by omega)).1
        have b4 := (hy 4 (by omega)).1
        have b5 := (hy 5 (by omega)).1
        clear hx hy
        simp [tcell] at a0 a1 a2 a3 a4 a5 b0 b1 b2 b3 b4 b5
        go_wp2_with fail
        go_quiet (fail)
        have hbq : Below w.heap.size w (wr.drewN nq) := ⟨hbr.os, hbr.tape, hbr.output, hbr.size, hbr.block⟩
        go_wp2_with fail
        go_roundw
        case rel => exact ⟨j + 1, by go_num, by omega, hr2, hr1, hbq⟩
        case measure => simp [intOf]; omega
      · go_wp2_with fail
        go_ret
        exact ⟨rfl, hbr⟩
end Go.Proofs.YtahcbeofaeflgaaGreatDoor
