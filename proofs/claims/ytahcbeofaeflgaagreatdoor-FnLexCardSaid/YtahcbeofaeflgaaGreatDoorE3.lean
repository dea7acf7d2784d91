/- Lemmas towards the statement FnLexCardSaid, conditions: as each theorem says. -/
import Derived.Test.YtahcbeofaeflgaaGreatDoorA5
import Derived.Deep.AppendLies
namespace Go.Proofs.YtahcbeofaeflgaaGreatDoor
open Go.RowKit

/-- The frame of a fault: all but the lexer's and the file's block is as it was. -/
structure Fr2 (gl gf : Nat) (w w' : World) : Prop where
  os : w'.os = w.os
  tape : w'.tape = w.tape
  output : w'.output = w.output
  size : w.heap.size ≤ w'.heap.size
  block : ∀ k, k < w.heap.size → k ≠ gl → k ≠ gf → w'.heap[k]? = w.heap[k]?

theorem Fr2.refl (gl gf : Nat) (w : World) : Fr2 gl gf w w := ⟨rfl, rfl, rfl, Nat.le_refl _, fun _ _ _ _ => rfl⟩
theorem Fr2.trans {gl gf : Nat} {a b c : World} (h : Fr2 gl gf a b) (k : Fr2 gl gf b c) : Fr2 gl gf a c :=
  ⟨k.os.trans h.os, k.tape.trans h.tape, k.output.trans h.output, Nat.le_trans h.size k.size, fun i hi h1 h2 => (k.block i (Nat.lt_of_lt_of_le hi h.size) h1 h2).trans (h.block i hi h1 h2)⟩
theorem Fr2.of {gl gf : Nat} {a b : World} (h : a.grownBy b (some gl)) : Fr2 gl gf a b :=
  ⟨h.os, h.tape, h.output, h.size, fun i hi h1 _ => h.block i hi (fun e => h1 (by injection e))⟩
theorem Fr2.below {gl gf : Nat} {a b : World} (h : Below a.heap.size a b) : Fr2 gl gf a b :=
  ⟨h.os, h.tape, h.output, h.size, fun i hi _ _ => h.block i hi⟩
theorem Fr2.set {gl gf : Nat} {a b : World} (h : Fr2 gl gf a b) (i : Nat) (u : Value) : Fr2 gl gf a (b.setCell ⟨gf, i, none⟩ u) :=
  ⟨h.os, h.tape, h.output, by simpa [World.setCell] using h.size, fun j hj h1 h2 => (Below.heap_setCell b ⟨gf, i, none⟩ u j h2).trans (h.block j hj h1 h2)⟩

/-- A fault: the call panics with a new *Error that has a place. -/
def Fault (gl gf : Nat) (w : World) (e : Ending) (w' : World) : Prop :=
  ∃ (pe pp : Nat) (m : ByteArray) (cs : Array Value) (n : Int), e = .panicked [{ v := .iface 48 (.pointer (some ⟨pe, 0, none⟩)), recovered := false }] ∧
    w'.heap[pe]? = some (.cells #[.string m, .pointer (some ⟨pp, 0, none⟩)] 57 (0, 0)) ∧ w'.heap[pp]? = some (.cells cs 59 (0, 0)) ∧ cs[1]? = some (.int .i64 n) ∧ w.heap.size ≤ pe ∧ w.heap.size ≤ pp ∧ Fr2 gl gf w w'
theorem Fault.after {gl gf : Nat} {a b : World} {e : Ending} {w' : World} (h : Fault gl gf b e w') (hf : Fr2 gl gf a b) : Fault gl gf a e w' := by
  obtain ⟨pe, pp, m, cs, n, h1, h2, h3, h4, h5, h6, h7⟩ := h
  exact ⟨pe, pp, m, cs, n, h1, h2, h3, h4, Nat.le_trans hf.size h5, Nat.le_trans hf.size h6, hf.trans h7⟩
end Go.Proofs.YtahcbeofaeflgaaGreatDoor
namespace Go.Proofs.YtahcbeofaeflgaaGreatDoor
open Go.RowKit

/-! ### The road of a fault: the lines of the text. -/
set_option maxHeartbeats 1000000 in
theorem index115 (s : ByteArray) (w : World) (hs : s.size ≤ 2147483000) :
    Calls Tryz.prog 115 #[.string s, .string ⟨#[10]⟩] w fun e w' => (e = .returned (.int .i64 (-1)) ∨ ∃ i : Nat, i + 1 ≤ s.size ∧ e = .returned (.int .i64 (i : Int))) ∧ w = w' := by
  go_enter Tryz.func115, Tryz.ntmps115
  go_wp2
  go_loop [5] (fun v => ∃ j : Nat, j ≤ s.size ∧ v = .int .i64 j) (fun v => s.size + 1 - (intOf v).toNat)
  case atStart => exact ⟨0, by omega, rfl⟩
  case round =>
    obtain ⟨j, hj, rfl⟩ := hrel
    by_cases hlt : j + 1 ≤ s.size
    · rcases Bool.eq_false_or_eq_true ((s.extract j (j + 1)).toList == [10]) with hq | hq
      · go_wp2
        go_ret
        exact ⟨Or.inr ⟨j, hlt, rfl⟩, rfl⟩
      · go_wp2
        go_round
        case rel => exact ⟨j + 1, by omega, by go_num⟩
        case measure => simp [intOf]; omega
    · go_wp2
      go_ret
      exact ⟨Or.inl rfl, rfl⟩

theorem Tryz.info9' : (Tryz.prog.info? 9).map (fun i => (i.zero, i.size, i.bytes)) = some (some (.string ⟨#[]⟩), 1, 16) := by kernel_rfl
theorem Tryz.info35' : (Tryz.prog.info? 35).map (fun i => (i.zero, i.size, i.bytes)) = some (some (.int .i64 0), 1, 8) := by kernel_rfl
theorem Tryz.info75' : (Tryz.prog.info? 75).map (fun i => (i.zero, i.size, i.bytes)) = some (some (.agg #[.string ⟨#[]⟩, .string ⟨#[]⟩, .int .i64 0, .int .i64 0]), 4, 48) := by kernel_rfl
theorem Tryz.info27' : (Tryz.prog.info? 27).map (fun i => (i.zero, i.size, i.bytes)) = some (some (.agg #[.string ⟨#[]⟩, .string ⟨#[]⟩, .string ⟨#[]⟩, .int .i64 0, .int .i64 0, .int .i64 0]), 6, 72) := by kernel_rfl

theorem fr_own0 {w a b : World} {row : Option Nat} (h : w.grownBy a none) (hg : a.grownBy b row) (hr : ∀ k, row = some k → w.heap.size ≤ k) : w.grownBy b none :=
  ⟨hg.os.trans h.os, hg.tape.trans h.tape, hg.output.trans h.output, Nat.le_trans h.size hg.size, fun i hi hne => (hg.block i (Nat.lt_of_lt_of_le hi h.size) (fun e => by have := hr i e.symm; omega)).trans (h.block i hi hne)⟩

def lenSum (l : List ByteArray) : Nat := (l.map fun x => x.size + 1).sum
theorem lenSum_snoc (l : List ByteArray) (x : ByteArray) : lenSum (l ++ [x]) = lenSum l + (x.size + 1) := by simp [lenSum]

set_option maxRecDepth 100000 in
set_option maxHeartbeats 2000000 in
theorem split105 (s : ByteArray) (w : World) (hs : s.size ≤ 2000) :
    Calls Tryz.prog 105 #[.string s, .string ⟨#[10]⟩] w fun e w' => ∃ (v : Value) (l : List ByteArray), e = .returned v ∧ w'.ownsRow w.heap.size 9 1 v l.length (l.map Value.string) ∧ lenSum l = s.size + 1 ∧ 0 < l.length ∧ l.length ≤ 2001 ∧ w.grownBy w' none := by
  obtain ⟨i0, hi, hz0, hz1, hz2⟩ := info_parts Tryz.info9'
  go_enter Tryz.func105, Tryz.ntmps105
  go_wp2_with fail
  go_loopw [0, 5] (fun v0 v5 wr => ∃ (r : ByteArray) (l : List ByteArray), v0 = .string r ∧ Hid (wr.ownsRow w.heap.size 9 1 v5 l.length (l.map Value.string)) ∧ w.grownBy wr none ∧ Hid (lenSum l + (r.size + 1) = s.size + 1 ∧ l.length + r.size ≤ s.size)) (fun v0 _ _ => match v0 with | .string b => b.size | _ => 0)
  case atStart => exact ⟨s, [], rfl, World.ownsRow_nil _ _ _ _, fr_refl _ _, by simp [lenSum], by simp⟩
  case round =>
    obtain ⟨r, l, rfl, hown, hg, hsum⟩ := hrel
    have hr : r.size ≤ 2000 := by have := hsum.out; omega
    have hl : l.length ≤ 2000 := by have := hsum.out; omega
    go_wp2_with fail
    refine (index115 r wr (by omega)).mono ?_
    rintro e w1 ⟨he, rfl⟩
    rcases he with rfl | ⟨i, hi1, rfl⟩
    · go_wp2_with (at_builtin; refine wpList_append_own _ rfl _ _ 92 rfl w.heap.size 9 i0 (.string ⟨#[]⟩) 1 16 Tryz.underlying92 hi hz0 hz1 hz2 rfl (by decide) _ _ _ rfl (World.ownsRow.alloc hown.out _) ⟨wr.heap.size, 0, none⟩ 1 1 [.string r] rfl rfl ?c1 ?c2 ?c3 ?c4 ?c5 ?_)
      case c1 =>
        intro j u hj
        match j, hj with
        | 0, hj =>
          simp at hj; subst hj
          exact cell_of (heap_alloc_new wr _) 0
      case c2 => intro u hu; simp at hu; subst hu; rfl
      case c3 => unfold maxLen; omega
      case c4 => omega
      case c5 => have := hg.size; simp; omega
      intro v' w2 hown' hgrow' hnil
      go_wp2_with fail
      go_ret
      have h1 := hsum.out
      refine ⟨_, l ++ [r], rfl, ?_, ?_, ?_, ?_, ?_⟩
      · rw [List.length_append, List.map_append]; exact hown'
      · rw [lenSum_snoc]; omega
      · simp
      · simp; omega
      · exact fr_own0 (fr_alloc hg _) hgrow' (fun k hk => (World.ownsRow.lt hown.out k hk).1)
    · have hi2 : ¬ (i : Int) < 0 := by omega
      go_wp2_with (at_builtin; refine wpList_append_own _ rfl _ _ 92 rfl w.heap.size 9 i0 (.string ⟨#[]⟩) 1 16 Tryz.underlying92 hi hz0 hz1 hz2 rfl (by decide) _ _ _ rfl (World.ownsRow.alloc hown.out _) ⟨wr.heap.size, 0, none⟩ 1 1 [.string (r.extract 0 i)] rfl rfl ?c1 ?c2 ?c3 ?c4 ?c5 ?_)
      case c1 =>
        intro j u hj
        match j, hj with
        | 0, hj =>
          simp at hj; subst hj
          exact cell_of (heap_alloc_new wr _) 0
      case c2 => intro u hu; simp at hu; subst hu; rfl
      case c3 => unfold maxLen; omega
      case c4 => omega
      case c5 => have := hg.size; simp; omega
      intro v' w2 hown' hgrow' hnil
      go_wp2_with fail
      go_roundw
      case rel =>
        refine ⟨r.extract (i + 1) r.size, l ++ [r.extract 0 i], rfl, ?_, fr_own0 (fr_alloc hg _) hgrow' (fun k hk => (World.ownsRow.lt hown.out k hk).1), ?_, ?_⟩
        · show World.ownsRow _ _ _ _ _ _ _
          rw [List.length_append, List.map_append]; exact hown'
        · have h1 := hsum.out
          rw [lenSum_snoc, ByteArray.size_extract, ByteArray.size_extract]; omega
        · have h1 := hsum.out
          rw [ByteArray.size_extract]; simp; omega
      case measure =>
        show (r.extract (i + 1) r.size).size < r.size
        rw [ByteArray.size_extract]; omega
end Go.Proofs.YtahcbeofaeflgaaGreatDoor
namespace Go.Proofs.YtahcbeofaeflgaaGreatDoor
open Go.RowKit

/-- Where the first j lines, and the one behind them, begin. -/
def lineAt (l : List ByteArray) (j : Nat) : Nat := lenSum (l.take j)
def lineL (l : List ByteArray) (j : Nat) : List Nat := (List.range (j + 1)).map (lineAt l)
theorem lineAt_succ (l : List ByteArray) (j : Nat) (h : j < l.length) : lineAt l (j + 1) = lineAt l j + l[j].size + 1 := by
  unfold lineAt
  rw [List.take_succ_eq_append_getElem h, lenSum_snoc]; omega
theorem lineL_succ (l : List ByteArray) (j : Nat) : lineL l (j + 1) = lineL l j ++ [lineAt l (j + 1)] := by
  unfold lineL; rw [List.range_succ, List.map_append]; rfl
theorem lineL_len (l : List ByteArray) (j : Nat) : (lineL l j).length = j + 1 := by simp [lineL]
theorem lineL_at (l : List ByteArray) (j i : Nat) (h : i ≤ j) : (lineL l j)[i]? = some (lineAt l i) := by
  unfold lineL; rw [List.getElem?_map, List.getElem?_range (by omega)]; rfl
theorem lineAt_le (l : List ByteArray) (j : Nat) : lineAt l j ≤ lenSum l := by
  unfold lineAt
  have h : lenSum l = lenSum (l.take j) + lenSum (l.drop j) := by
    conv => lhs; rw [← List.take_append_drop j l]
    unfold lenSum
    rw [List.map_append, List.sum_append]
  omega
theorem lineAt_end (l : List ByteArray) : lineAt l l.length = lenSum l := by unfold lineAt; rw [List.take_length]
theorem add_cell (g j : Nat) : (⟨g, 0, none⟩ : Addr).add j = ⟨g, j, none⟩ := by unfold Addr.add; split <;> simp_all
def natV (n : Nat) : Value := .int .i64 (n : Int)

/-- The file's block: its text and its lines. -/
def FileB (w : World) (gf : Nat) (s : ByteArray) (v : Value) : Prop := w.heap[gf]? = some (.cells #[.string ⟨#[]⟩, .string s, v] 32 (0, 0))
/-- The lines lie behind the file. -/
def Lined (w : World) (gf B : Nat) (s : ByteArray) (A : Option Addr) (c : Nat) (l : List ByteArray) : Prop :=
  FileB w gf s (.slice A (l.length + 1) c) ∧ w.ownsRow B 35 1 (.slice A (l.length + 1) c) (l.length + 1) ((lineL l l.length).map natV) ∧ lenSum l = s.size + 1 ∧ 0 < l.length ∧ l.length ≤ 2001

set_option maxRecDepth 100000 in
set_option maxHeartbeats 2000000 in
theorem init93 (s : ByteArray) (gf : Nat) (w : World) (hs : s.size ≤ 2000) (hF : FileB w gf s (.slice none 0 0)) :
    Calls Tryz.prog 93 #[.pointer (some ⟨gf, 0, none⟩)] w fun e w' => e = .returned (.tuple #[]) ∧ (∃ A c l, Lined w' gf w.heap.size s A c l) ∧ w.grownBy w' (some gf) := by
  obtain ⟨i0, hi, hz0, hz1, hz2⟩ := info_parts Tryz.info35'
  have c1 := cell_of hF 1
  have c2 := cell_of hF 2
  have hgf := lt_of_heap hF
  simp at c1 c2
  go_enter Tryz.func93, Tryz.ntmps93
  go_wp2_with fail
  refine (split105 s _ hs).mono ?_
  rintro e w1 ⟨v1, l, rfl, hown, hsum, hl0, hl1, hg1⟩
  obtain ⟨gs, cap, hvf, hgw, hgl⟩ := World.ownsRow.form hown hl0
  subst hvf
  have h0 : w1.ownsRow w.heap.size 35 1 (.slice (some ⟨w.heap.size, 0, none⟩) 1 1) 1 ((lineL l 0).map natV) := by
    refine ⟨by simp [lineL], .inr ⟨w.heap.size, 1, #[.int .i64 0], rfl, Nat.le_refl _, ?_, Nat.le_refl _, by decide, rfl, ?_⟩⟩
    · exact (hg1.block _ (by simp) (by simp)).trans (heap_alloc_new w _)
    · simp [lineL, lineAt, lenSum, natV]
  have H0 := Lib.hid h0
  have HS := Lib.hid hown
  have hgW : w.grownBy w1 none := fr_trans (fr_alloc (fr_refl w none) _) hg1
  clear h0 hown
  go_wp2_with fail
  go_loopw [2, 17] (fun v2 v17 wr => ∃ j : Nat, j ≤ l.length ∧ v17 = .int .i64 j ∧ Hid (wr.ownsRow w.heap.size 35 1 v2 (j + 1) ((lineL l j).map natV)) ∧ w.grownBy wr none ∧ Hid (wr.ownsRow (w.heap.size + 1) 9 1 (.slice (some ⟨gs, 0, none⟩) l.length cap) l.length (l.map Value.string))) (fun _ v17 _ => l.length - (intOf v17).toNat)
  case atStart => exact ⟨0, Nat.zero_le _, rfl, H0, hgW, by show World.ownsRow _ _ _ _ _ _ _; simpa using HS.out⟩
  case round =>
    obtain ⟨j, hj, rfl, hrow, hg, hstr⟩ := hrel
    obtain ⟨g2, cap2, hvf, _, hgl2⟩ := World.ownsRow.form hrow.out (Nat.succ_pos j)
    subst hvf
    have hFr : FileB wr gf s (.slice none 0 0) := (hg.block gf hgf (by simp)).trans hF
    have d1 := cell_of hFr 1
    have d2 := cell_of hFr 2
    have f2 := frozen_of hFr 2
    simp at d1 d2
    by_cases hlt : j < l.length
    · obtain ⟨x, hx⟩ : ∃ x, l[j]? = some x := ⟨l[j], List.getElem?_eq_getElem hlt⟩
      have hxs : l[j] = x := by rw [List.getElem?_eq_getElem hlt] at hx; injection hx
      have hla := lineAt_le l j
      have hlb := lineAt_le l (j + 1)
      have hlc := lineAt_succ l j hlt
      rw [hxs] at hlc
      have hcs : wr.cell? ⟨gs, j, none⟩ = some (.string x) := by
        have h1 := hstr.out.cells (g := gs) rfl j (.string x) (by rw [List.getElem?_map, hx]; rfl)
        rw [add_cell] at h1; exact h1
      have hcl : wr.cell? ⟨g2, j, none⟩ = some (.int .i64 (lineAt l j : Int)) := by
        have h1 := hrow.out.cells (g := g2) rfl j (natV (lineAt l j)) (by rw [List.getElem?_map, lineL_at l j j (Nat.le_refl _)]; rfl)
        rw [add_cell] at h1; exact h1
      have hHC := Lib.hid hlc
      have b1 : lineAt l j ≤ 2001 := by omega
      have b2 : x.size ≤ 2001 := by omega
      clear hlc hla hlb hxs
      go_wp2_with (at_builtin; refine wpList_append_own _ rfl _ _ 30 rfl w.heap.size 35 i0 (.int .i64 0) 1 8 Tryz.underlying30 hi hz0 hz1 hz2 rfl (by decide) _ _ _ rfl (World.ownsRow.alloc hrow.out _) ⟨wr.heap.size, 0, none⟩ 1 1 [.int .i64 ((lineAt l j : Int) + (x.size : Int) + 1)] rfl rfl ?c1 ?c2 ?c3 ?c4 ?c5 ?_)
      case c1 =>
        intro q u hq
        match q, hq with
        | 0, hq =>
          simp at hq; subst hq
          exact cell_of (heap_alloc_new wr _) 0
      case c2 => intro u hu; simp at hu; subst hu; rfl
      case c3 => unfold maxLen; omega
      case c4 => omega
      case c5 => have := hg.size; simp; omega
      intro v' w2 hown' hgrow' hnil
      go_wp2_with fail
      go_roundw
      case rel =>
        refine ⟨j + 1, hlt, by go_num, ?_, fr_own0 (fr_alloc hg _) hgrow' (fun k hk => (World.ownsRow.lt hrow.out k hk).1), ?_⟩
        · show World.ownsRow _ _ _ _ _ _ _
          rw [lineL_succ, List.map_append]
          have h2 : ([lineAt l (j + 1)].map natV) = [Value.int .i64 ((lineAt l j : Int) + (x.size : Int) + 1)] := by
            rw [hHC.out]; simp [natV]
          rw [h2]; exact hown'
        · show World.ownsRow _ _ _ _ _ _ _
          refine World.ownsRow.kept (World.ownsRow.alloc hstr.out _) hgrow' (Or.inr ?_)
          intro hk
          have hkk : gs = g2 := by simpa [Value.ownBlock] using hk
          subst hkk
          rcases hrow.out.2 with ⟨h, _⟩ | ⟨ga, ca, cu, h, _, hh, _⟩
          · cases h
          · rcases hstr.out.2 with ⟨h', _⟩ | ⟨ga', ca', cu', h', _, hh', _⟩
            · cases h'
            · injection h with e1 e2 e3
              injection h' with e1' e2' e3'
              injection e1 with e1; injection e1 with e1
              injection e1' with e1'; injection e1' with e1'
              subst e1; subst e1'
              rw [hh] at hh'
              injection hh' with hh'; injection hh' with _ hT
              exact absurd hT (by decide)
      case measure => simp [intOf]; omega
    · obtain rfl : j = l.length := by omega
      go_wp2_with fail
      go_end0
      have hX : FileB (wr.setCell ⟨gf, 2, none⟩ (.slice (some ⟨g2, 0, none⟩) (l.length + 1) cap2)) gf s (.slice (some ⟨g2, 0, none⟩) (l.length + 1) cap2) := by
        unfold FileB at hFr ⊢
        simp [World.setCell, Array.getElem?_modify, hFr]
      refine ⟨rfl, ⟨some ⟨g2, 0, none⟩, cap2, l, hX, ?_, hsum, hl0, hl1⟩, ?_⟩
      · refine World.ownsRow.kept (row := some gf) hrow.out ?_ (Or.inr (by simp [Value.ownBlock]; omega))
        exact fr_set (fr_refl wr (some gf)) 2 _
      · exact fr_set ⟨hg.os, hg.tape, hg.output, hg.size, fun i hi _ => hg.block i hi (by simp)⟩ 2 _
end Go.Proofs.YtahcbeofaeflgaaGreatDoor
namespace Go.Proofs.YtahcbeofaeflgaaGreatDoor
open Go.RowKit

set_option maxHeartbeats 400000 in
theorem invalid82 (n : Nat) (w : World) : Calls Tryz.prog 82 #[.int .i64 (n : Int)] w fun e w' => e = .returned (.bool false) ∧ w = w' := by
  go_enter Tryz.func82, Tryz.ntmps82
  go_wp2
  all_goals (go_ret; refine ⟨ret_bool ?_, rfl⟩; simp)

set_option maxHeartbeats 1000000 in
theorem init93_lined (s : ByteArray) (gf B : Nat) (w : World) (A : Option Addr) (c : Nat) (l : List ByteArray) (hF : Lined w gf B s A c l) :
    Calls Tryz.prog 93 #[.pointer (some ⟨gf, 0, none⟩)] w fun e w' => e = .returned (.tuple #[]) ∧ w = w' := by
  have c2 := cell_of hF.1 2
  simp at c2
  obtain ⟨g, cap, hvf, _, _⟩ := World.ownsRow.form hF.2.1 (Nat.succ_pos _)
  injection hvf with e1 e2 e3
  subst e1
  go_enter Tryz.func93, Tryz.ntmps93
  go_wp2_with fail
  refine bodyPost_ret (results_none rfl _ _ _) rfl ⟨rfl, rfl⟩

/-- What a place resolves to. -/
def At (l : List ByteArray) (pos : Nat) (e : Ending) : Prop :=
  ∃ k : Nat, k < l.length ∧ lineAt l k ≤ pos ∧ e = .returned (.tuple #[.int .i64 (k : Int), .int .i64 ((pos : Int) - (lineAt l k : Int))])

set_option maxHeartbeats 1000000 in
theorem resolve81 (s : ByteArray) (gf B pos : Nat) (w : World) (R : World → Option Addr → Nat → List ByteArray → Prop) (hs : s.size ≤ 2000) (hp : pos ≤ s.size)
    (hI : Calls Tryz.prog 93 #[.pointer (some ⟨gf, 0, none⟩)] w fun e w' => e = .returned (.tuple #[]) ∧ ∃ A c l, R w' A c l ∧ Lined w' gf B s A c l) :
    Calls Tryz.prog 81 #[.pointer (some ⟨gf, 0, none⟩), .int .i64 (pos : Int)] w fun e w' => ∃ A c l, R w' A c l ∧ Lined w' gf B s A c l ∧ At l pos e := by
  go_enter Tryz.func81, Tryz.ntmps81
  go_wp2_with (first | (go_at_call 82; refine (invalid82 pos w).mono ?_; rintro e w' ⟨rfl, rfl⟩))
  refine hI.mono ?_
  rintro e w1 ⟨rfl, A, c, l, hR, hF⟩
  have HR := Lib.hid hR
  have HF := Lib.hid hF
  obtain ⟨hB, hown, hsum, hl0, hl1⟩ := hF
  have d2 := cell_of hB 2
  simp at d2
  obtain ⟨g, cap, hvf, _, _⟩ := World.ownsRow.form hown (Nat.succ_pos _)
  injection hvf with e1 e2 e3
  subst e1
  have hcl : ∀ j, j ≤ l.length → w1.cell? ⟨g, j, none⟩ = some (.int .i64 (lineAt l j : Int)) := by
    intro j hj
    have h1 := hown.cells (g := g) rfl j (natV (lineAt l j)) (by rw [List.getElem?_map, lineL_at l _ j hj]; rfl)
    rw [add_cell] at h1; exact h1
  have HC := Lib.hid hcl
  have HS := Lib.hid hsum
  clear hcl hown hB e2 e3 hsum hR
  go_wp2_with fail
  go_loop [4] (fun v4 => ∃ j : Nat, v4 = .int .i64 j ∧ j ≤ l.length) (fun v4 => (intOf v4).toNat)
  case atStart => exact ⟨l.length, by go_num, Nat.le_refl _⟩
  case round =>
    obtain ⟨j, rfl, hj⟩ := hrel
    have hcj := HC.out j hj
    have hle := lineAt_le l j
    have hb : lineAt l j ≤ 2001 := by have := HS.out; omega
    by_cases hlt : lineAt l j ≤ pos
    · have hne : j < l.length := by
        rcases Nat.lt_or_ge j l.length with h | h
        · exact h
        · exfalso
          obtain rfl : j = l.length := by omega
          rw [lineAt_end] at hlt
          have := HS.out; omega
      have hI2 : (lineAt l j : Int) ≤ (pos : Int) := by omega
      clear hle
      go_wp2_with fail
      go_ret2
      exact ⟨_, _, _, HR.out, HF.out, j, hne, hlt, rfl⟩
    · have hj0 : 0 < j := by
        rcases Nat.eq_zero_or_pos j with h | h
        · subst h
          exact absurd (show lineAt l 0 ≤ pos by simp [lineAt, lenSum]) hlt
        · exact h
      have hI2 : ¬ (lineAt l j : Int) ≤ (pos : Int) := by omega
      clear hle hlt
      go_wp2_with fail
      go_round
      case rel => exact ⟨j - 1, by go_num, by omega⟩
      case measure => simp [intOf]; omega
end Go.Proofs.YtahcbeofaeflgaaGreatDoor
