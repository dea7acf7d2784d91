/- Lemmas towards the statement FnLexCardSaid, conditions: as each theorem says. -/
import Derived.Test.YtahcbeofaeflgaaGreatDoorA5
import Derived.Laws.IdiomStrings
import Derived.Laws.BytesArg
import Derived.Deep.AppendLies
import Derived.ArgAppend
namespace Go.Proofs.YtahcbeofaeflgaaGreatDoor
open Go.RowKit

def upN (c : Nat) : Nat := if 97 ≤ c ∧ c ≤ 122 then c - 32 else c
def upU (b : UInt8) : UInt8 := if 97 ≤ b.toNat ∧ b.toNat ≤ 122 then b - 32 else b
/-- A text with its letters in capitals. -/
def upB (s : ByteArray) : ByteArray := ⟨s.data.map upU⟩
theorem upU_toNat (b : UInt8) : (upU b).toNat = upN b.toNat := by
  unfold upU upN
  split
  · rw [UInt8.toNat_sub_of_le]
    · rfl
    · rw [UInt8.le_iff_toNat_le]; show 32 ≤ b.toNat; omega
  · rfl
theorem upB_size (s : ByteArray) : (upB s).size = s.size := by
  show (s.data.map upU).size = s.data.size; simp
theorem upB_bt (s : ByteArray) (k : Nat) (h : k < s.size) : bt (upB s) k = upN (bt s k) := by
  rw [bt_lt h, bt_lt (show k < (upB s).size by rw [upB_size]; exact h), ← upU_toNat]
  congr 1
  exact (Array.getElem_map upU (xs := s.data) (i := k) (by simpa using h)).trans rfl

theorem conv_row (w : World) (g cap : Nat) (b : ByteArray) (n : Nat) (hn : b.size = n) (hc : ∀ j, j < b.size → w.cell? ((⟨g, 0, none⟩ : Addr).add j) = some (.int .u8 (bt b j : Int))) :
    (convert 91 9 (.slice (some ⟨g, 0, none⟩) n cap)).run Tryz.prog w = .ok (.string b) w := by
  subst hn
  have e : b.data.toList.length = b.size := by rw [Array.length_toList]; rfl
  have h := run_convert_bytes_back (P := Tryz.prog) w 91 9 5 ⟨g, 0, none⟩ cap b.data.toList Tryz.underlying91 Tryz.underlying5 Tryz.underlying9 (fun j hj => by
    have hj' : j < b.size := by rw [← e]; exact hj
    rw [Array.getElem_toList]
    have h1 := hc j hj'
    rw [bt_lt hj'] at h1
    exact h1)
  rw [e] at h
  rw [h]

theorem conv_sb (w : World) (s : ByteArray) : ∃ cap W1 cs m, (convert 9 91 (.string s)).run Tryz.prog w = .ok (.slice (some ⟨w.heap.size, 0, none⟩) s.size cap) W1 ∧
    W1.heap[w.heap.size]? = some (.cells cs 5 (m, m + 1)) ∧ s.size ≤ m ∧ (∀ j, j < s.size → cs[j]? = some (.int .u8 (bt s j : Int))) ∧ Below w.heap.size w W1 ∧ s.size ≤ cap ∧ cap ≤ cs.size ∧ m = cs.size := by
  refine ⟨_, _, _, _, run_bytes_of_string w 9 91 5 s Tryz.underlying9 Tryz.underlying91 Tryz.underlying5, heap_alloc_new w.drew _, ?_, ?_, ?_, grownCap_ge _ _ _ _, ?_, rfl⟩
  · have : s.size = s.data.size := rfl
    simp [bytesRow]
    try omega
  · intro j hj
    have hj2 : j < s.data.size := hj
    rw [bt_lt hj]
    unfold bytesRow
    rw [Array.getElem?_append_left (by simpa using hj2)]
    rw [Array.getElem?_map, Array.getElem?_eq_getElem hj2]
    rfl
  · exact ((Below.refl _ _).drew).alloc (Nat.le_refl _) _
  · have : s.size = s.data.size := rfl
    have h2 := grownCap_ge w s.size 0 5
    simp [bytesRow]
    omega

theorem cell_mk {w : World} {g i : Nat} {cs : Array Value} {T : TypeId} {r : Nat × Nat} (h : w.heap[g]? = some (.cells cs T r)) : w.cell? ⟨g, i, none⟩ = cs[i]? := by simp [World.cell?, h]
theorem frozen_mk {w : World} {g i : Nat} {cs : Array Value} {T : TypeId} {m : Nat} (h : w.heap[g]? = some (.cells cs T (m, m + 1))) (hi : i < m) : w.frozen? ⟨g, i, none⟩ = false := by
  simp [World.frozen?, h]; omega

set_option maxHeartbeats 2000000 in
theorem upper26 (s : ByteArray) (w : World) (hs : s.size ≤ 2147483000) :
    Calls Tryz.prog 26 #[.string s] w fun e w' => e = .returned (.string (upB s)) ∧ Below w.heap.size w w' := by
  obtain ⟨cap, W1, cs1, m, hcv, hh, hm, hcs, hb, _⟩ := conv_sb w s
  go_enter Tryz.func26, Tryz.ntmps26
  go_wp2_with fail
  go_loopw [4] (fun v wr => ∃ (j : Nat) (cs : Array Value), j ≤ s.size ∧ v = .int .i64 j ∧ wr.heap[w.heap.size]? = some (.cells cs 5 (m, m + 1)) ∧ (∀ q, q < s.size → cs[q]? = some (.int .u8 ((if q < j then upN (bt s q) else bt s q : Nat) : Int))) ∧ Below w.heap.size w wr) (fun v _ => s.size - (intOf v).toNat)
  case atStart => exact ⟨0, cs1, by omega, rfl, hh, fun q hq => by rw [if_neg (by omega)]; exact hcs q hq, hb⟩
  case round =>
    obtain ⟨j, cs, hj, rfl, hh2, hcs2, hb2⟩ := hrel
    have HC := Lib.hid hcs2
    have HH := Lib.hid hh2
    have HHB := Lib.hid hh
    clear hcs hh hcv
    by_cases hlt : j < s.size
    · have c0 : wr.cell? ⟨w.heap.size, j, none⟩ = some (.int .u8 (bt s j : Int)) := by
        rw [cell_mk hh2, hcs2 j hlt, if_neg (by omega)]
      have f0 := frozen_mk (i := j) hh2 (by omega)
      have hb256 := bt_256 hlt
      clear hcs2 hh2
      by_cases hup : 97 ≤ bt s j ∧ bt s j ≤ 122
      · obtain ⟨h1, h2⟩ := hup
        go_wp2
        go_roundw
        case rel =>
          refine ⟨j + 1, cs.setIfInBounds j (.int .u8 ((bt s j : Int) - 32)), by omega, by go_num, ?_, ?_, hb2.setCell (Nat.le_refl _) _⟩
          · have := HH.out
            simp [World.setCell, Array.getElem?_modify, this]
          · intro q hq
            by_cases hqj : q = j
            · subst hqj
              have hlen : q < cs.size := by
                have := HC.out q hq
                rcases Nat.lt_or_ge q cs.size with h | h
                · exact h
                · rw [Array.getElem?_eq_none h] at this; cases this
              rw [Array.getElem?_setIfInBounds_self_of_lt hlen, if_pos (by omega)]
              unfold upN
              rw [if_pos ⟨h1, h2⟩]
              congr 2; omega
            · rw [Array.getElem?_setIfInBounds_ne (fun e => hqj e.symm), HC.out q hq]
              by_cases h3 : q < j
              · rw [if_pos h3, if_pos (by omega)]
              · rw [if_neg h3, if_neg (by omega)]
        case measure => simp [intOf]; omega
      · have hn : upN (bt s j) = bt s j := by unfold upN; rw [if_neg hup]
        have HN := Lib.hid hn
        clear hn
        rcases (show bt s j < 97 ∨ (97 ≤ bt s j ∧ 122 < bt s j) from by omega) with h1 | ⟨h1, h2⟩
        all_goals
          clear hup
          go_wp2
          go_roundw
          case rel =>
            refine ⟨j + 1, cs, by omega, by go_num, HH.out, ?_, hb2⟩
            intro q hq
            rw [HC.out q hq]
            by_cases h3 : q < j
            · rw [if_pos h3, if_pos (by omega)]
            · by_cases hqj : q = j
              · subst hqj; rw [if_neg (by omega), if_pos (by omega), HN.out]
              · rw [if_neg h3, if_neg (by omega)]
          case measure => simp [intOf]; omega
    · have hcv2 := conv_row wr w.heap.size cap (upB s) s.size (upB_size s) (fun q hq => by
        rw [upB_size] at hq
        have h1 := HC.out q hq
        rw [if_pos (by omega)] at h1
        rw [upB_bt s q hq]
        have h2 : wr.cell? ⟨w.heap.size, q, none⟩ = _ := (cell_mk HH.out).trans h1
        unfold Addr.add
        by_cases h0 : q = 0
        · subst h0; simpa using h2
        · simpa [h0] using h2)
      clear hcs2 hh2
      go_wp2
      go_ret
      exact ⟨rfl, hb2⟩
end Go.Proofs.YtahcbeofaeflgaaGreatDoor
namespace Go.Proofs.YtahcbeofaeflgaaGreatDoor
open Go.RowKit

theorem Tryz.info5' : (Tryz.prog.info? 5).map (fun i => (i.zero, i.size, i.bytes)) = some (some (.int .u8 0), 1, 1) := by kernel_rfl

/-- The first n bytes in capitals, as cells. -/
def ucells (s : ByteArray) (n : Nat) : List Value := (List.range n).map fun j => .int .u8 (upN (bt s j) : Int)
theorem ucells_succ (s : ByteArray) (n : Nat) : ucells s (n + 1) = ucells s n ++ [.int .u8 (upN (bt s n) : Int)] := by
  unfold ucells; rw [List.range_succ, List.map_append]; rfl
theorem ucells_at (s : ByteArray) (n j : Nat) (h : j < n) : (ucells s n)[j]? = some (.int .u8 (upN (bt s j) : Int)) := by
  unfold ucells; rw [List.getElem?_map, List.getElem?_range h]; rfl
theorem ucells_len (s : ByteArray) (n : Nat) : (ucells s n).length = n := by simp [ucells]

/-- A row of bytes from block B on, that may be appended to; its mark, if it has one, lies behind its cells. -/
def RowU (B : Nat) (w : World) (g cap n : Nat) (xs : List Value) : Prop :=
  ∃ (cs : Array Value) (fz : Nat × Nat), w.heap[g]? = some (.cells cs 5 fz) ∧ n ≤ cap ∧ cap ≤ cs.size ∧ (∀ i, i < cs.size → ¬ (fz.1 ≤ i ∧ i < fz.2)) ∧ (∀ (j : Nat) (u : Value), xs[j]? = some u → cs[j]? = some u) ∧ xs.length = n ∧ B ≤ g

theorem RowU.alloc {B : Nat} {w : World} {g cap n : Nat} {xs : List Value} (h : RowU B w g cap n xs) (o : Obj) : RowU B (w.alloc o) g cap n xs := by
  obtain ⟨cs, fz, h1, h2⟩ := h
  exact ⟨cs, fz, (Below.heap_alloc w o g (lt_of_heap h1)).trans h1, h2⟩
theorem RowU.cell {B : Nat} {w : World} {g cap n : Nat} {xs : List Value} (h : RowU B w g cap n xs) (j : Nat) (u : Value) (hj : xs[j]? = some u) : w.cell? ⟨g, j, none⟩ = some u := by
  obtain ⟨cs, fz, h1, h2, h3, h4, h5, h6, h7⟩ := h
  rw [cell_mk h1]; exact h5 j u hj

theorem wpList_append_rowU (B : Nat) (w : World) {ops : Array Oper} {rest : List Oper} {o : Oper} {a : Act} {Q : Exit → Act → World → Prop}
    (hg : o.guard = none) (s x : Operand) (hop : o.op = Op.call { callee := Callee.builtin Builtin.append, args := #[s, x], argTypes := #[91, 91] })
    (g cap n : Nat) (xs : List Value) (hs : a.eval s = .slice (some ⟨g, 0, none⟩) n cap) (hr : RowU B w g cap n xs)
    (ad : Addr) (c : Nat) (u : Value) (hx : a.eval x = .slice (some ad) 1 c) (hu : w.cell? ad = some u) (h1u : u.oneCell' = true) (hn : n ≤ 1000000000000) (hB : B ≤ w.heap.size)
    (hK : ∀ g' cap' w', RowU B w' g' cap' (n + 1) (xs ++ [u]) → Below B w w' → wpList Tryz.prog ops Q rest (a.put o.dst (.slice (some ⟨g', 0, none⟩) (n + 1) cap')) w') :
    wpList Tryz.prog ops Q (o :: rest) a w := by
  obtain ⟨i0, hi, hz0, hz1, hz2⟩ := info_parts Tryz.info5'
  obtain ⟨cs, fz, h1, h2, h3, h4, h5, h6, h7⟩ := id hr
  refine wpList_append_arg w hg s x 91 hop 5 i0 (.int .u8 0) 1 1 Tryz.underlying91 hi hz0 hz1 hz2 rfl (by decide) g 0 n cap xs hs (by omega) (fun j v hj => by rw [Nat.zero_add]; exact hr.cell j v hj) ad 1 c [u] hx rfl
    (fun j v hj => by
      match j, hj with
      | 0, hj =>
        simp at hj; subst hj
        simpa [Addr.add] using hu) (fun v hv => by simp at hv; subst hv; exact h1u) (fun hroom j hj => ?_) (by unfold maxLen; omega) (by omega) (fun hroom => ?_) (fun hgr v' w' hown hgw => ?_)
  · have hj0 : j = 0 := by simpa using hj
    subst hj0
    have hlt : n < cs.size := by omega
    refine ⟨?_, ?_⟩
    · rw [cell_mk h1]
      simp [hlt]
    · have := h4 n hlt
      simp [World.frozen?, h1]
      omega
  · have e : w.setCells g (0 + n * 1) [u] = w.setCell ⟨g, n, none⟩ u := by simp [World.setCells]
    rw [e]
    refine hK g cap _ ⟨cs.setIfInBounds n u, fz, ?_, by omega, by simpa using h3, by simpa using h4, ?_, by simp [h6], h7⟩ ((Below.refl _ _).setCell h7 _)
    · simp [World.setCell, Array.getElem?_modify, h1]
    · intro j v hj
      by_cases hjn : j = n
      · subst hjn
        rw [List.getElem?_append_right (by omega), h6] at hj
        simp at hj; subst hj
        rw [Array.getElem?_setIfInBounds_self_of_lt (by omega)]
      · rw [Array.getElem?_setIfInBounds_ne (fun e => hjn e.symm)]
        apply h5
        have hlt : j < xs.length := by
          have := (List.getElem?_eq_some_iff.1 hj).1
          simp at this; omega
        rw [List.getElem?_append_left hlt] at hj
        exact hj
  · obtain ⟨hl, hc⟩ := hown
    rcases hc with ⟨_, h0⟩ | ⟨g', cap', cur, rfl, hbg, hh, hnc, _, hcs, htk⟩
    · omega
    · refine hK g' cap' w' ⟨cur, (0, 0), hh, hnc, by omega, fun i _ => by omega, ?_, by simpa using hl, by omega⟩ ((Below.refl _ _).grown hgw hB (fun k hk => by cases hk))
      intro j v hj
      rw [← htk, List.getElem?_take] at hj
      split at hj
      · rw [← hj, Array.getElem?_toList]
      · cases hj

/-- The state of the loop: no letter so far, or a row of the call's own. -/
def UpSt (s : ByteArray) (B : Nat) (wr : World) (j : Nat) (v : Value) : Prop :=
  (v = .slice none 0 0 ∧ ∀ q, q < j → upN (bt s q) = bt s q) ∨
  (∃ g cap, v = .slice (some ⟨g, 0, none⟩) j cap ∧ RowU B wr g cap j (ucells s j))

theorem up_low {c : Nat} (h1 : 97 ≤ c) (h2 : c ≤ 122) : (65 : Int) + ((c : Int) - 97) = ((upN c : Nat) : Int) := by
  unfold upN; rw [if_pos ⟨h1, h2⟩]; omega

set_option maxRecDepth 100000 in
set_option maxHeartbeats 4000000 in
theorem toUpper59 (s : ByteArray) (w : World) (hs : s.size ≤ 2147483000) :
    Calls Tryz.prog 59 #[.string s] w fun e w' => e = .returned (.string (upB s)) ∧ Below w.heap.size w w' := by
  have hnl := fun (W : World) (a : Option Addr) (n c : Nat) => Lib.run_eql_slice_nil (P := Tryz.prog) W 91 5 a n c 0 0 Tryz.underlying91
  have hnn := fun (W : World) (a : Option Addr) (n c : Nat) => run_neq_slice_nil_any (P := Tryz.prog) W 91 5 a n c 0 0 Tryz.underlying91
  go_enter Tryz.func59, Tryz.ntmps59
  go_wp2_with fail
  go_loopw [3, 4] (fun v3 v4 wr => ∃ j : Nat, j ≤ s.size ∧ v4 = .int .i64 j ∧ UpSt s w.heap.size wr j v3 ∧ Below w.heap.size w wr) (fun _ v _ => s.size - (intOf v).toNat)
  case atStart => exact ⟨0, by omega, rfl, Or.inl ⟨rfl, fun q hq => absurd hq (by omega)⟩, Below.refl _ _⟩
  case round =>
    obtain ⟨j, hj, rfl, hst, hb⟩ := hrel
    have hbz := hb.size
    by_cases hlt : j < s.size
    · have HB : ∀ (q : Nat) (h : q < s.size), s[q].toNat = bt s q := fun q h => (bt_lt h).symm
      have hb256 := bt_256 hlt
      rcases hst with ⟨rfl, hq⟩ | ⟨g, cap, rfl, hr⟩
      · have HQ := Lib.hid hq
        clear hq
        rcases (show (97 ≤ bt s j ∧ bt s j ≤ 122) ∨ bt s j < 97 ∨ (97 ≤ bt s j ∧ 122 < bt s j) from by omega) with ⟨h1, h2⟩ | h1 | ⟨h1, h2⟩
        · obtain ⟨cap, W1, cs1, m, hcv, hh, hm, hcs, hb1, hc1, hc2, hmc⟩ := conv_sb wr (s.extract 0 j)
          have hsz : (s.extract 0 j).size = j := by rw [ByteArray.size_extract]; omega
          rw [hsz] at hcv
          have HR : Hid (RowU w.heap.size W1 wr.heap.size cap j (ucells s j)) := by
            refine ⟨cs1, (m, m + 1), hh, by omega, hc2, fun i hi => by simp only; omega, ?_, ucells_len _ _, hbz⟩
            intro q u hu
            have hql : q < j := by have := (List.getElem?_eq_some_iff.1 hu).1; rw [ucells_len] at this; exact this
            rw [ucells_at s j q hql] at hu
            rw [hcs q (by omega), ← hu, bt_ext (by omega) (by omega), Nat.zero_add, HQ.out q hql]
          have hb1' := hb1.mono hbz
          have hbs := hb1.size
          clear hh hm hcs hc1 hc2 hmc hsz hb1
          go_wp2_with (at_builtin; refine wpList_append_rowU w.heap.size _ rfl _ _ rfl wr.heap.size cap j _ rfl (HR.out.alloc _) ⟨W1.heap.size, 0, none⟩ 1 (.int .u8 ((65 : Int) + ((bt s j : Int) - 97))) rfl ?hu rfl (by omega) (by simp; omega) ?_)
          case hu => exact cell_of (heap_alloc_new W1 _) 0
          intro g' cap' w2 hr2 hb2
          go_wp2_with fail
          go_roundw
          case rel =>
            refine ⟨j + 1, by omega, by go_num, Or.inr ⟨g', cap', rfl, ?_⟩, (hb.trans (hb1'.alloc (by omega) _)).trans hb2⟩
            rw [ucells_succ, ← up_low h1 h2]
            exact hr2
          case measure => simp [intOf]; omega
        all_goals
          have HN : Hid (upN (bt s j) = bt s j) := by
            show upN (bt s j) = bt s j
            unfold upN; rw [if_neg (by omega)]
          go_wp2_with fail
          go_roundw
          case rel =>
            refine ⟨j + 1, by omega, by go_num, Or.inl ⟨rfl, fun q hq => ?_⟩, hb⟩
            by_cases hqj : q = j
            · rw [hqj]; exact HN.out
            · exact HQ.out q (by omega)
          case measure => simp [intOf]; omega
      · have HR := Lib.hid hr
        clear hr
        rcases (show (97 ≤ bt s j ∧ bt s j ≤ 122) ∨ bt s j < 97 ∨ (97 ≤ bt s j ∧ 122 < bt s j) from by omega) with ⟨h1, h2⟩ | h1 | ⟨h1, h2⟩
        · go_wp2_with (at_builtin; refine wpList_append_rowU w.heap.size _ rfl _ _ rfl g cap j _ rfl (HR.out.alloc _) ⟨wr.heap.size, 0, none⟩ 1 (.int .u8 ((65 : Int) + ((bt s j : Int) - 97))) rfl ?hu rfl (by omega) (by simp; omega) ?_)
          case hu => exact cell_of (heap_alloc_new wr _) 0
          intro g' cap' w2 hr2 hb2
          go_wp2_with fail
          go_roundw
          case rel =>
            refine ⟨j + 1, by omega, by go_num, Or.inr ⟨g', cap', rfl, ?_⟩, (hb.alloc hbz _).trans hb2⟩
            rw [ucells_succ, ← up_low h1 h2]
            exact hr2
          case measure => simp [intOf]; omega
        all_goals
          have HN : Hid (upN (bt s j) = bt s j) := by
            show upN (bt s j) = bt s j
            unfold upN; rw [if_neg (by omega)]
          go_wp2_with (at_builtin; refine wpList_append_rowU w.heap.size _ rfl _ _ rfl g cap j _ rfl (HR.out.alloc _) ⟨wr.heap.size, 0, none⟩ 1 (.int .u8 (bt s j : Int)) rfl (cell_of (heap_alloc_new wr _) 0) rfl (by omega) (by simp; omega) ?_)
          intro g' cap' w2 hr2 hb2
          go_wp2_with fail
          go_roundw
          case rel =>
            refine ⟨j + 1, by omega, by go_num, Or.inr ⟨g', cap', rfl, ?_⟩, (hb.alloc hbz _).trans hb2⟩
            rw [ucells_succ, HN.out]
            exact hr2
          case measure => simp [intOf]; omega
    · rcases hst with ⟨rfl, hq⟩ | ⟨g, cap, rfl, hr⟩
      · have HQ := Lib.hid hq
        clear hq
        go_wp2_with fail
        go_ret
        refine ⟨ret_str ?_, hb⟩
        apply bt_inj
        intro q
        by_cases hqs : q < s.size
        · rw [upB_bt s q hqs, HQ.out q (by omega)]
        · rw [bt_ge (by omega), bt_ge (by rw [upB_size]; omega)]
      · have hcv2 := conv_row wr g cap (upB s) j (by rw [upB_size]; omega) (fun q hq => by
          rw [upB_size] at hq
          have h2 := hr.cell q _ (ucells_at s j q (by omega))
          rw [upB_bt s q hq]
          unfold Addr.add
          by_cases h0 : q = 0
          · subst h0; simpa using h2
          · simpa [h0] using h2)
        clear hr
        go_wp2_with fail
        go_ret
        exact ⟨rfl, hb⟩
end Go.Proofs.YtahcbeofaeflgaaGreatDoor
namespace Go.Proofs.YtahcbeofaeflgaaGreatDoor
open Go.RowKit

/-- The reserved words. -/
def kwL : List (List UInt8) := [[65, 76, 76],
  [65, 78, 68],
  [65, 78, 89],
  [65, 82, 82, 65, 89],
  [65, 83],
  [65, 83, 67],
  [65, 83, 83, 69, 82, 84, 95, 82, 79, 87, 83, 95, 77, 79, 68, 73, 70, 73, 69, 68],
  [65, 84],
  [66, 69, 84, 87, 69, 69, 78],
  [66, 89],
  [67, 65, 83, 69],
  [67, 65, 83, 84],
  [67, 79, 76, 76, 65, 84, 69],
  [67, 79, 78, 84, 65, 73, 78, 83],
  [67, 82, 69, 65, 84, 69],
  [67, 82, 79, 83, 83],
  [67, 85, 66, 69],
  [67, 85, 82, 82, 69, 78, 84],
  [68, 69, 70, 65, 85, 76, 84],
  [68, 69, 70, 73, 78, 69],
  [68, 69, 83, 67],
  [68, 73, 83, 84, 73, 78, 67, 84],
  [69, 76, 83, 69],
  [69, 78, 68],
  [69, 78, 85, 77],
  [69, 83, 67, 65, 80, 69],
  [69, 88, 67, 69, 80, 84],
  [69, 88, 67, 76, 85, 68, 69],
  [69, 88, 73, 83, 84, 83],
  [69, 88, 84, 82, 65, 67, 84],
  [70, 65, 76, 83, 69],
  [70, 69, 84, 67, 72],
  [70, 79, 76, 76, 79, 87, 73, 78, 71],
  [70, 79, 82],
  [70, 82, 79, 77],
  [70, 85, 76, 76],
  [71, 82, 65, 80, 72, 95, 84, 65, 66, 76, 69],
  [71, 82, 79, 85, 80],
  [71, 82, 79, 85, 80, 73, 78, 71],
  [71, 82, 79, 85, 80, 83],
  [72, 65, 83, 72],
  [72, 65, 86, 73, 78, 71],
  [73, 71, 78, 79, 82, 69],
  [73, 70],
  [73, 78],
  [73, 78, 78, 69, 82],
  [73, 78, 84, 69, 82, 83, 69, 67, 84],
  [73, 78, 84, 69, 82, 86, 65, 76],
  [73, 78, 84, 79],
  [73, 83],
  [74, 79, 73, 78],
  [76, 65, 84, 69, 82, 65, 76],
  [76, 69, 70, 84],
  [76, 73, 75, 69],
  [76, 73, 77, 73, 84],
  [76, 79, 79, 75, 85, 80],
  [77, 69, 82, 71, 69],
  [78, 65, 84, 85, 82, 65, 76],
  [78, 69, 87],
  [78, 79],
  [78, 79, 84],
  [78, 85, 76, 76],
  [78, 85, 76, 76, 83],
  [79, 70],
  [79, 78],
  [79, 82],
  [79, 82, 68, 69, 82],
  [79, 85, 84, 69, 82],
  [79, 86, 69, 82],
  [80, 65, 82, 84, 73, 84, 73, 79, 78],
  [80, 82, 69, 67, 69, 68, 73, 78, 71],
  [80, 82, 79, 84, 79],
  [82, 65, 78, 71, 69],
  [82, 69, 67, 85, 82, 83, 73, 86, 69],
  [82, 69, 83, 80, 69, 67, 84],
  [82, 73, 71, 72, 84],
  [82, 79, 76, 76, 85, 80],
  [82, 79, 87, 83],
  [83, 69, 76, 69, 67, 84],
  [83, 69, 84],
  [83, 79, 77, 69],
  [83, 84, 82, 85, 67, 84],
  [84, 65, 66, 76, 69, 83, 65, 77, 80, 76, 69],
  [84, 72, 69, 78],
  [84, 79],
  [84, 82, 69, 65, 84],
  [84, 82, 85, 69],
  [85, 78, 66, 79, 85, 78, 68, 69, 68],
  [85, 78, 73, 79, 78],
  [85, 78, 78, 69, 83, 84],
  [85, 83, 73, 78, 71],
  [87, 72, 69, 78],
  [87, 72, 69, 82, 69],
  [87, 73, 78, 68, 79, 87],
  [87, 73, 84, 72],
  [87, 73, 84, 72, 73, 78]]

def kwB (k : ByteArray) : Bool := kwL.contains k.toList

set_option maxRecDepth 100000 in
set_option maxHeartbeats 40000000 in
theorem keyword60 (k : ByteArray) (w : World) :
    Calls Tryz.prog 60 #[.string k] w fun e w' => e = .returned (.bool (kwB k)) ∧ w = w' := by
  go_enter Tryz.func60, Tryz.ntmps60
  go_wp2
  all_goals (go_ret; refine ⟨ret_bool ?_, rfl⟩)
  all_goals first
    | (rename_i a b; exact Bool.noConfusion (Eq.trans (Eq.symm a) b))
    | (unfold kwB kwL
       simp only [List.contains_cons, List.contains_nil, Bool.or_false, Bool.true_or, Bool.or_true, *])
end Go.Proofs.YtahcbeofaeflgaaGreatDoor
namespace Go.Proofs.YtahcbeofaeflgaaGreatDoor
open Go.RowKit

/-- A text has another one in it, from a place on. -/
def hasF (s p : ByteArray) (i : Nat) : Bool := if i + p.size ≤ s.size ∧ i ≤ s.size then (if stB s i p = true then true else hasF s p (i + 1)) else false
  termination_by s.size + 1 - i
theorem hasF_yes {s p : ByteArray} {i : Nat} (h : i + p.size ≤ s.size) (hb : stB s i p = true) : hasF s p i = true := by
  unfold hasF; rw [if_pos ⟨h, by omega⟩, if_pos hb]
theorem hasF_no {s p : ByteArray} {i : Nat} (h : i + p.size ≤ s.size) (hb : stB s i p = false) : hasF s p i = hasF s p (i + 1) := by
  conv => lhs; unfold hasF
  rw [if_pos ⟨h, by omega⟩, if_neg (by simp [hb])]
theorem hasF_end {s p : ByteArray} {i : Nat} (h : s.size < i + p.size) : hasF s p i = false := by
  unfold hasF; rw [if_neg (by omega)]
theorem hasF_iff (s p : ByteArray) (i : Nat) : hasF s p i = true ↔ ∃ j, i ≤ j ∧ j + p.size ≤ s.size ∧ stB s j p = true := by
  fun_induction hasF s p i with
  | case1 i h hb => exact ⟨fun _ => ⟨i, Nat.le_refl _, h.1, hb⟩, fun _ => rfl⟩
  | case2 i h hb ih =>
    rw [ih]
    constructor
    · rintro ⟨j, h1, h2, h3⟩; exact ⟨j, by omega, h2, h3⟩
    · rintro ⟨j, h1, h2, h3⟩
      rcases Nat.eq_or_lt_of_le h1 with rfl | h4
      · exact absurd h3 hb
      · exact ⟨j, h4, h2, h3⟩
  | case3 i h =>
    constructor
    · intro h; cases h
    · rintro ⟨j, h1, h2, h3⟩; omega

set_option maxHeartbeats 1000000 in
theorem has37 (s p : ByteArray) (w : World) (hs : s.size ≤ 2147483000) (hp : p.size ≤ 2147483000) :
    Calls Tryz.prog 37 #[.string s, .string p] w fun e w' => e = .returned (.bool (hasF s p 0)) ∧ w = w' := by
  go_enter Tryz.func37, Tryz.ntmps37
  go_wp2
  go_loop [5] (fun v => ∃ j : Nat, j ≤ s.size + 1 ∧ v = .int .i64 j ∧ Hid (hasF s p 0 = hasF s p j)) (fun v => s.size + 1 - (intOf v).toNat)
  case atStart => exact ⟨0, by omega, rfl, rfl⟩
  case round =>
    obtain ⟨j, hj, rfl, hrn⟩ := hrel
    by_cases hlt : j + p.size ≤ s.size
    · have he : ((s.extract j (j + p.size)).toList == p.toList) = stB s j p := by simp [stB, hlt]
      have HE := Lib.hid he
      clear he
      by_cases hq : stB s j p = true
      · have hq2 : ((s.extract j (j + p.size)).toList == p.toList) = true := by rw [HE.out]; exact hq
        have HN := Lib.hid (hasF_yes hlt hq)
        clear hq
        go_wp2
        go_ret
        exact ⟨ret_bool (by rw [hrn.out, HN.out]), rfl⟩
      · have hq3 : stB s j p = false := by simpa using hq
        have hq2 : ((s.extract j (j + p.size)).toList == p.toList) = false := by rw [HE.out]; exact hq3
        have HN := Lib.hid (hasF_no hlt hq3)
        clear hq hq3
        go_wp2
        go_round
        case rel => exact ⟨j + 1, by omega, by go_num, by have h := hrn.out; rw [HN.out] at h; exact h⟩
        case measure => simp [intOf]; omega
    · have HN := Lib.hid (hasF_end (s := s) (p := p) (i := j) (by omega))
      go_wp2
      go_ret
      exact ⟨ret_bool (by rw [hrn.out, HN.out]), rfl⟩
end Go.Proofs.YtahcbeofaeflgaaGreatDoor
namespace Go.Proofs.YtahcbeofaeflgaaGreatDoor
open Go.RowKit

/-- The reference's reserved words, in its order. -/
def spL : List (List UInt8) := [[65, 76, 76],
  [65, 78, 68],
  [65, 78, 89],
  [65, 82, 82, 65, 89],
  [65, 83],
  [65, 83, 67],
  [65, 83, 83, 69, 82, 84, 95, 82, 79, 87, 83, 95, 77, 79, 68, 73, 70, 73, 69, 68],
  [65, 84],
  [66, 69, 84, 87, 69, 69, 78],
  [66, 89],
  [67, 65, 83, 69],
  [67, 65, 83, 84],
  [67, 79, 76, 76, 65, 84, 69],
  [67, 79, 78, 84, 65, 73, 78, 83],
  [67, 82, 69, 65, 84, 69],
  [67, 82, 79, 83, 83],
  [67, 85, 66, 69],
  [67, 85, 82, 82, 69, 78, 84],
  [68, 69, 70, 65, 85, 76, 84],
  [68, 69, 70, 73, 78, 69],
  [68, 69, 83, 67],
  [68, 73, 83, 84, 73, 78, 67, 84],
  [69, 76, 83, 69],
  [69, 78, 68],
  [69, 78, 85, 77],
  [69, 83, 67, 65, 80, 69],
  [69, 88, 67, 69, 80, 84],
  [69, 88, 67, 76, 85, 68, 69],
  [69, 88, 73, 83, 84, 83],
  [69, 88, 84, 82, 65, 67, 84],
  [70, 65, 76, 83, 69],
  [70, 69, 84, 67, 72],
  [70, 79, 76, 76, 79, 87, 73, 78, 71],
  [70, 79, 82],
  [70, 82, 79, 77],
  [70, 85, 76, 76],
  [71, 82, 65, 80, 72, 95, 84, 65, 66, 76, 69],
  [71, 82, 79, 85, 80],
  [71, 82, 79, 85, 80, 73, 78, 71],
  [71, 82, 79, 85, 80, 83],
  [72, 65, 83, 72],
  [72, 65, 86, 73, 78, 71],
  [73, 70],
  [73, 71, 78, 79, 82, 69],
  [73, 78],
  [73, 78, 78, 69, 82],
  [73, 78, 84, 69, 82, 83, 69, 67, 84],
  [73, 78, 84, 69, 82, 86, 65, 76],
  [73, 78, 84, 79],
  [73, 83],
  [74, 79, 73, 78],
  [76, 65, 84, 69, 82, 65, 76],
  [76, 69, 70, 84],
  [76, 73, 75, 69],
  [76, 73, 77, 73, 84],
  [76, 79, 79, 75, 85, 80],
  [77, 69, 82, 71, 69],
  [78, 65, 84, 85, 82, 65, 76],
  [78, 69, 87],
  [78, 79],
  [78, 79, 84],
  [78, 85, 76, 76],
  [78, 85, 76, 76, 83],
  [79, 70],
  [79, 78],
  [79, 82],
  [79, 82, 68, 69, 82],
  [79, 85, 84, 69, 82],
  [79, 86, 69, 82],
  [80, 65, 82, 84, 73, 84, 73, 79, 78],
  [80, 82, 69, 67, 69, 68, 73, 78, 71],
  [80, 82, 79, 84, 79],
  [82, 65, 78, 71, 69],
  [82, 69, 67, 85, 82, 83, 73, 86, 69],
  [82, 69, 83, 80, 69, 67, 84],
  [82, 73, 71, 72, 84],
  [82, 79, 76, 76, 85, 80],
  [82, 79, 87, 83],
  [83, 69, 76, 69, 67, 84],
  [83, 69, 84],
  [83, 79, 77, 69],
  [83, 84, 82, 85, 67, 84],
  [84, 65, 66, 76, 69, 83, 65, 77, 80, 76, 69],
  [84, 72, 69, 78],
  [84, 79],
  [84, 82, 69, 65, 84],
  [84, 82, 85, 69],
  [85, 78, 66, 79, 85, 78, 68, 69, 68],
  [85, 78, 73, 79, 78],
  [85, 78, 78, 69, 83, 84],
  [85, 83, 73, 78, 71],
  [87, 72, 69, 78],
  [87, 72, 69, 82, 69],
  [87, 73, 78, 68, 79, 87],
  [87, 73, 84, 72],
  [87, 73, 84, 72, 73, 78]]
/-- Words with blanks around each. -/
def blanked (ws : List (List UInt8)) : List UInt8 := 32 :: ws.flatMap (fun x => x ++ [32])
def wordsB : ByteArray := ⟨(blanked spL).toArray⟩

theorem split_eq {u v r s : List UInt8} (hu : (32 : UInt8) ∉ u) (hv : (32 : UInt8) ∉ v) (h : u ++ 32 :: r = v ++ 32 :: s) : u = v := by
  induction u generalizing v with
  | nil =>
    cases v with
    | nil => rfl
    | cons y v' =>
      simp at h
      exact absurd (h.1 ▸ List.mem_cons_self) hv
  | cons x u' ih =>
    cases v with
    | nil =>
      simp at h
      exact absurd (h.1 ▸ List.mem_cons_self) hu
    | cons y v' =>
      simp at h hu hv
      rw [h.1, ih hu.2 hv.2 h.2]

theorem blanked_iff (ws : List (List UInt8)) (hws : ∀ x ∈ ws, (32 : UInt8) ∉ x) (u : List UInt8) (hu : (32 : UInt8) ∉ u) :
    (32 :: (u ++ [32])) <:+: blanked ws ↔ u ∈ ws := by
  induction ws with
  | nil =>
    constructor
    · rintro ⟨a, b, h⟩
      have := congrArg List.length h
      simp [blanked] at this
      omega
    · intro h; cases h
  | cons x ws ih =>
    have e : blanked (x :: ws) = 32 :: (x ++ blanked ws) := by simp [blanked]
    have hx := hws x List.mem_cons_self
    have ih' := ih (fun y hy => hws y (List.mem_cons_of_mem _ hy))
    rw [e]
    constructor
    · rintro ⟨a, b, h⟩
      cases a with
      | nil =>
        have h2 : u ++ 32 :: b = x ++ 32 :: (ws.flatMap (fun x => x ++ [32])) := by simpa [blanked] using h
        rw [split_eq hu hx h2]; exact List.mem_cons_self
      | cons y a' =>
        have h2 : a' ++ ((32 :: (u ++ [32])) ++ b) = x ++ blanked ws := by
          have := h
          simp at this
          simpa using this.2
        rcases List.append_eq_append_iff.1 h2 with ⟨c, hc1, hc2⟩ | ⟨c, hc1, hc2⟩
        · cases c with
          | nil => exact List.mem_cons_of_mem _ (ih'.1 ⟨[], b, by simpa using hc2⟩)
          | cons z c' =>
            have hz : (32 : UInt8) = z := by simp at hc2; exact hc2.1
            exact absurd (hc1 ▸ (by simp [hz])) hx
        · exact List.mem_cons_of_mem _ (ih'.1 ⟨c, b, by rw [hc2]; simp⟩)
    · intro h
      rcases List.mem_cons.1 h with rfl | h
      · exact ⟨[], ws.flatMap (fun x => x ++ [32]), by simp [blanked]⟩
      · obtain ⟨a, b, h2⟩ := ih'.2 h
        exact ⟨32 :: (x ++ a), b, by rw [← h2]; simp⟩

theorem ext_list (s : ByteArray) (a b : Nat) : (s.extract a b).toList = (s.toList.drop a).take (b - a) := by
  rw [ByteArray.toList_eq, ByteArray.toList_eq, ByteArray.data_extract, Array.toList_extract, List.extract_eq_take_drop]
theorem size_list (s : ByteArray) : s.toList.length = s.size := by rw [ByteArray.toList_eq, Array.length_toList]; rfl

theorem hasF_infix (s p : ByteArray) : hasF s p 0 = true ↔ p.toList <:+: s.toList := by
  rw [hasF_iff]
  constructor
  · rintro ⟨j, _, h2, h3⟩
    unfold stB at h3
    simp only [Bool.and_eq_true, beq_iff_eq] at h3
    have h4 := h3.2
    rw [ext_list, show j + p.size - j = p.size from by omega] at h4
    refine ⟨s.toList.take j, (s.toList.drop j).drop p.size, ?_⟩
    rw [← h4, List.append_assoc, List.take_append_drop, List.take_append_drop]
  · rintro ⟨a, b, h⟩
    have hl := congrArg List.length h
    simp only [List.length_append, size_list] at hl
    refine ⟨a.length, Nat.zero_le _, by omega, ?_⟩
    unfold stB
    simp only [Bool.and_eq_true, decide_eq_true_eq, beq_iff_eq]
    refine ⟨by omega, ?_⟩
    rw [ext_list, show a.length + p.size - a.length = p.size from by omega, ← h, List.append_assoc, List.drop_left, ← size_list, List.take_left]

theorem sets_same : (spL.all fun x => kwL.contains x) = true ∧ (kwL.all fun x => spL.contains x) = true := by
  constructor <;> decide +kernel
theorem spL_plain : (spL.all fun x => !x.contains 32) = true := by decide +kernel

/-- The reference's words and the lexer's are the same. -/
theorem words_eq (u : ByteArray) (hu : (32 : UInt8) ∉ u.toList) : hasF wordsB ((⟨#[32]⟩ : ByteArray) ++ u ++ ⟨#[32]⟩) 0 = kwB u := by
  have e1 : ((⟨#[32]⟩ : ByteArray) ++ u ++ ⟨#[32]⟩).toList = 32 :: (u.toList ++ [32]) := by
    rw [ByteArray.toList_eq, ByteArray.data_append, ByteArray.data_append, ByteArray.toList_eq]; simp
  have e2 : wordsB.toList = blanked spL := ByteArray.toList_mk _
  rw [Bool.eq_iff_iff, hasF_infix, e1, e2, blanked_iff spL (fun x hx => by
    have := List.all_eq_true.1 spL_plain x hx
    simpa using this) u.toList hu]
  unfold kwB
  rw [List.contains_iff_mem]
  constructor
  · intro h
    have := List.all_eq_true.1 sets_same.1 _ h
    exact List.contains_iff_mem.1 this
  · intro h
    have := List.all_eq_true.1 sets_same.2 _ h
    exact List.contains_iff_mem.1 this

set_option maxRecDepth 100000 in
set_option maxHeartbeats 1000000 in
theorem words38 (w : World) : Calls Tryz.prog 38 #[] w fun e w' => e = .returned (.string wordsB) ∧ w = w' := by
  go_enter Tryz.func38, Tryz.ntmps38
  go_wp2
  go_ret
  refine ⟨?_, rfl⟩
  exact congrArg (fun l : List UInt8 => Ending.returned (Value.string ⟨l.toArray⟩)) (by decide +kernel)
end Go.Proofs.YtahcbeofaeflgaaGreatDoor
namespace Go.Proofs.YtahcbeofaeflgaaGreatDoor
open Go.RowKit

theorem up_no_blank (s : ByteArray) (h : ∀ k, k < s.size → parB (bt s k) = true) : (32 : UInt8) ∉ (upB s).toList := by
  intro hm
  rw [ByteArray.toList_eq] at hm
  obtain ⟨i, hi, he⟩ := List.getElem_of_mem hm
  have hi2 : i < (upB s).size := by rw [Array.length_toList] at hi; exact hi
  have h1 : bt (upB s) i = 32 := by
    rw [bt_lt hi2]
    rw [Array.getElem_toList] at he
    show ((upB s).data[i]).toNat = 32
    rw [he]; rfl
  rw [upB_size] at hi2
  rw [upB_bt s i hi2] at h1
  have h2 := h i hi2
  unfold upN at h1
  simp [parB] at h2
  split at h1 <;> omega

set_option maxRecDepth 100000 in
set_option maxHeartbeats 1000000 in
theorem reserved25 (s : ByteArray) (w : World) (hs : s.size ≤ 2147480000) (h : Hid (∀ k, k < s.size → parB (bt s k) = true)) :
    Calls Tryz.prog 25 #[.string s] w fun e w' => e = .returned (.bool (kwB (upB s))) ∧ Below w.heap.size w w' := by
  have HW := Lib.hid (words_eq (upB s) (up_no_blank s h.out))
  have hz := upB_size s
  have hz2 : (upB s).size ≤ 2147480000 := by rw [hz]; exact hs
  clear hz
  have hwz : wordsB.size ≤ 2147483000 := by decide +kernel
  generalize hwd : wordsB = W0 at hwz HW
  have HWD := Lib.hid hwd
  clear hwd
  go_enter Tryz.func25, Tryz.ntmps25
  go_wp2_with fail
  refine (words38 w).mono ?_; rw [HWD.out]; rintro e w' ⟨rfl, rfl⟩
  go_wp2_with fail
  refine (upper26 s w (by omega)).mono ?_; rintro e w1 ⟨rfl, hb⟩
  go_wp2_with fail
  refine (has37 _ _ w1 hwz ?_).mono ?_
  · have h1 : ByteArray.size ⟨#[32]⟩ = 1 := rfl
    simp only [ByteArray.size_append, h1]; omega
  rw [HW.out]
  rintro e w' ⟨rfl, rfl⟩
  go_wp2_with fail
  go_ret
  exact ⟨rfl, hb⟩
end Go.Proofs.YtahcbeofaeflgaaGreatDoor
namespace Go.Proofs.YtahcbeofaeflgaaGreatDoor
open Go.RowKit

/-- The signs of two bytes, in the reference's order. -/
def twoL : List ByteArray := [⟨#[60, 60]⟩, ⟨#[62, 62]⟩, ⟨#[60, 61]⟩, ⟨#[62, 61]⟩, ⟨#[60, 62]⟩, ⟨#[33, 61]⟩, ⟨#[124, 124]⟩, ⟨#[61, 62]⟩, ⟨#[45, 62]⟩, ⟨#[124, 62]⟩, ⟨#[64, 64]⟩]
def oneS : ByteArray := ⟨#[40, 41, 91, 93, 123, 125, 44, 59, 58, 46, 64, 61, 60, 62, 43, 45, 42, 47, 38, 94, 37, 124, 126, 36, 63]⟩
/-- The sign at a place; empty: there is none. -/
def signP (s : ByteArray) (k : Nat) : ByteArray := match twoL.find? (fun p => stB s k p) with
  | some p => p
  | none => if hasF oneS (s.extract k (k + 1)) 0 = true then s.extract k (k + 1) else ⟨#[]⟩

theorem twoL_at (i : Nat) (h : i < 11) : ∃ a b : UInt8, twoL[i]? = some ⟨#[a, b]⟩ := by
  rcases (show i = 0 ∨ i = 1 ∨ i = 2 ∨ i = 3 ∨ i = 4 ∨ i = 5 ∨ i = 6 ∨ i = 7 ∨ i = 8 ∨ i = 9 ∨ i = 10 from by omega) with rfl | rfl | rfl | rfl | rfl | rfl | rfl | rfl | rfl | rfl | rfl <;> exact ⟨_, _, rfl⟩

def twoBlock : Obj := .cells (twoL.map Value.string).toArray 9
theorem twoBlock_cell (w : World) (i : Nat) (p : ByteArray) (h : twoL[i]? = some p) : (w.alloc twoBlock).cell? ⟨w.heap.size, i, none⟩ = some (.string p) := by
  have h1 : (w.alloc twoBlock).cell? ⟨w.heap.size, i, none⟩ = _ := cell_of (heap_alloc_new w (.cells (twoL.map Value.string).toArray 9)) i
  rw [h1]
  simp [h]

set_option maxRecDepth 100000 in
set_option maxHeartbeats 4000000 in
theorem sign27 (s : ByteArray) (k : Nat) (w : World) (hs : s.size ≤ 2000) (hk : k < s.size) :
    Calls Tryz.prog 27 #[.string s, .int .i64 (k : Int)] w fun e w' => e = .returned (.string (signP s k)) ∧ Below w.heap.size w w' := by
  go_enter Tryz.func27, Tryz.ntmps27
  go_wp2_with fail
  have hb : Below w.heap.size w (w.alloc twoBlock) := (Below.refl _ _).alloc (Nat.le_refl _) _
  have hcell := twoBlock_cell w
  change Code.wp _ _ _ _ (w.alloc twoBlock)
  generalize w.alloc twoBlock = w1 at hb hcell ⊢
  go_loop [6] (fun v => ∃ i : Nat, i ≤ 11 ∧ v = .int .i64 i ∧ Hid (signP s k = match (twoL.drop i).find? (fun p => stB s k p) with
    | some p => p
    | none => if hasF oneS (s.extract k (k + 1)) 0 = true then s.extract k (k + 1) else ⟨#[]⟩)) (fun v => 11 - (intOf v).toNat)
  case atStart => exact ⟨0, by omega, rfl, rfl⟩
  case round =>
    obtain ⟨i, hi, rfl, hrn⟩ := hrel
    by_cases hlt : i < 11
    · obtain ⟨a, b, hab⟩ := twoL_at i hlt
      have hc := hcell i _ hab
      have HAB := Lib.hid hab
      have hdr : Hid (twoL.drop i = ⟨#[a, b]⟩ :: twoL.drop (i + 1)) := by
        show twoL.drop i = _
        obtain ⟨h1, h2⟩ := List.getElem?_eq_some_iff.1 hab
        rw [List.drop_eq_getElem_cons h1, h2]
      have HC := Lib.hid hcell
      clear hcell hab
      by_cases hst : stB s k ⟨#[a, b]⟩ = true
      · have HN : Hid (signP s k = ⟨#[a, b]⟩) := by
          show signP s k = _
          rw [hrn.out, hdr.out, List.find?_cons, hst]
        go_wp2_with (go_at_call 14; refine (starts14 s k _ _ (by omega) (by show 2 ≤ 2147483647; omega) (by omega)).mono ?_; rintro e w' ⟨rfl, rfl⟩)
        go_ret
        exact ⟨ret_str HN.out.symm, hb⟩
      · have hst2 : stB s k ⟨#[a, b]⟩ = false := by simpa using hst
        clear hst
        have HN : Hid (signP s k = match (twoL.drop (i + 1)).find? (fun p => stB s k p) with
            | some p => p
            | none => if hasF oneS (s.extract k (k + 1)) 0 = true then s.extract k (k + 1) else ⟨#[]⟩) := by
          show signP s k = _
          rw [hrn.out, hdr.out, List.find?_cons, hst2]
        go_wp2_with (go_at_call 14; refine (starts14 s k _ _ (by omega) (by show 2 ≤ 2147483647; omega) (by omega)).mono ?_; rintro e w' ⟨rfl, rfl⟩)
        go_round
        case rel => exact ⟨i + 1, by omega, by go_num, HN⟩
        case measure => simp [intOf]; omega
    · have hi11 : i = 11 := by omega
      subst hi11
      clear hcell
      have HN : Hid (signP s k = if hasF oneS (s.extract k (k + 1)) 0 = true then s.extract k (k + 1) else ⟨#[]⟩) := hrn
      have hext : (s.extract k (k + 1)).size ≤ 2147483000 := by rw [ByteArray.size_extract]; omega
      by_cases hh : hasF oneS (s.extract k (k + 1)) 0 = true
      · have HV : Hid (signP s k = s.extract k (k + 1)) := by
          show signP s k = _
          rw [HN.out, if_pos hh]
        go_wp2_with fail
        refine (has37 _ _ w1 (by decide) hext).mono ?_; rintro e w' ⟨he, rfl⟩; obtain rfl : e = .returned (.bool _) := he.trans (congrArg (fun b => Ending.returned (.bool b)) hh)
        go_wp2_with fail
        go_ret
        exact ⟨ret_str HV.out.symm, hb⟩
      · have hh2 : hasF oneS (s.extract k (k + 1)) 0 = false := by simpa using hh
        have HV : Hid (signP s k = ⟨#[]⟩) := by
          show signP s k = _
          rw [HN.out, if_neg hh]
        clear hh
        go_wp2_with fail
        refine (has37 _ _ w1 (by decide) hext).mono ?_; rintro e w' ⟨he, rfl⟩; obtain rfl : e = .returned (.bool _) := he.trans (congrArg (fun b => Ending.returned (.bool b)) hh2)
        go_wp2_with fail
        go_ret
        exact ⟨ret_str HV.out.symm, hb⟩
end Go.Proofs.YtahcbeofaeflgaaGreatDoor
