/- Lemmas towards the statement FnLexCardSaid, conditions: as each theorem says. -/
import Derived.Test.YtahcbeofaeflgaaGreatDoorA8
namespace Go.Proofs.YtahcbeofaeflgaaGreatDoor
open Go.RowKit

set_option maxRecDepth 100000 in
set_option maxHeartbeats 4000000 in
theorem number51_hexx (s : ByteArray) (gl gf : Nat) (t : St) (w : World) (hP : Hid (PL s)) (hL : LX w gl gf s t) (hp : t.pos ≤ s.size) (h0 : isHex s t.pos) (hx : bt s (t.pos + 1) = 120) :
    Calls Tryz.prog 51 #[.pointer (some ⟨gl, 0, none⟩), .bool false] w (NumPost s gl gf t w) := by
  have hs : s.size ≤ 2147483647 := Nat.le_trans hP.out.size (by decide)
  have hs2 : s.size ≤ 2000 := hP.out.size
  have H0 := Lib.hid h0
  have z1 : (bt s t.pos == 48) = true := by rw [beq_iff_eq]; exact h0.1
  have hl2 : t.pos + 2 ≤ s.size := by
    have := lt_of_bt (s := s) (k := t.pos + 1) (by omega)
    omega
  have z2 : (bt s (t.pos + 1) == 120) = true := by rw [beq_iff_eq]; exact hx
  clear h0 hx
  go_enter Tryz.func51, Tryz.ntmps51
  go_upto_block 0 with (fail)
  refine (is43n s gl gf t 0 48 _ hL hs hp rfl rfl (by omega) (by omega)).mono ?_; rintro e w' ⟨rfl, nn, rfl⟩
  go_upto_block 0 with (fail)
  refine (is43n s gl gf t 1 120 _ (hL.drewN _) hs hp rfl rfl (by omega) (by omega)).mono ?_; rintro e w' ⟨rfl, nn, rfl⟩
  go_upto_block 0 with (fail)
  go_cut [4, 6] (fun v4 v6 wx => ∃ (i : Nat) (n : Nat), v4 = .int .i64 (i : Int) ∧ v6 = .bool true ∧ wx = w.drewN n ∧ t.pos + i ≤ s.size ∧ Hid (run s hexB (t.pos + 2) = t.pos + i))
  case first =>
    go_wp2_with fail
    go_loopw [4, 6, 7] (fun v4 v6 v7 wr => ∃ (i : Nat) (n : Nat), v4 = .int .i64 (i : Int) ∧ v6 = .bool true ∧ v7 = .bool false ∧ wr = w.drewN n ∧ t.pos + i ≤ s.size ∧ Hid (run s hexB (t.pos + 2) = run s hexB (t.pos + i))) (fun v4 _ _ _ => s.size - (intOf v4).toNat)
    case atStart => exact ⟨2, _, rfl, rfl, rfl, rfl, hl2, rfl⟩
    case round =>
      obtain ⟨i, n, rfl, rfl, rfl, rfl, hi, hrn⟩ := hrel
      by_cases hlt : t.pos + i < s.size
      · have hd0 : decide (t.pos + i < s.size) = true := decide_eq_true hlt
        have hm : 2147483647 ≥ i := by omega
        by_cases hdg : hexB (bt s (t.pos + i)) = true
        · have HN := Lib.hid (run_yes hlt hdg)
          go_wp2_with fail
          refine (ok45 s gl gf t (i) _ (hL.drewN _) hs hp (by omega)).mono ?_; rintro e w' ⟨rfl, nn, rfl⟩
          go_wp2_with fail
          refine (peek47 s gl gf t (i) _ (hL.drewN _) hs hlt).mono ?_; rintro e w' ⟨rfl, nn, rfl⟩
          go_wp2_with fail
          refine (hex68 _ _).mono ?_; rintro e w' ⟨rfl, rfl⟩
          go_wp2_with fail
          go_roundw
          case rel => exact ⟨i + 1, _, by go_num, rfl, rfl, rfl, by omega, by have h := hrn.out; rw [HN.out] at h; exact h⟩
          case measure => simp [intOf]; omega
        · have hdg2 : hexB (bt s (t.pos + i)) = false := by simpa using hdg
          clear hdg
          have HN : Hid (run s hexB (t.pos + 2) = t.pos + i) := by
            show run s hexB (t.pos + 2) = t.pos + i
            rw [hrn.out]; exact run_no hdg2
          go_wp2_with fail
          refine (ok45 s gl gf t (i) _ (hL.drewN _) hs hp (by omega)).mono ?_; rintro e w' ⟨rfl, nn, rfl⟩
          go_wp2_with fail
          refine (peek47 s gl gf t (i) _ (hL.drewN _) hs hlt).mono ?_; rintro e w' ⟨rfl, nn, rfl⟩
          go_wp2_with fail
          refine (hex68 _ _).mono ?_; rintro e w' ⟨rfl, rfl⟩
          go_wp2_with fail
          go_meet
          case rel => exact ⟨i, _, rfl, rfl, rfl, hi, HN⟩
      · have hd0 : decide (t.pos + i < s.size) = false := decide_eq_false hlt
        have hm : 2147483647 ≥ i := by omega
        have HN : Hid (run s hexB (t.pos + 2) = t.pos + i) := by
          show run s hexB (t.pos + 2) = t.pos + i
          rw [hrn.out]; exact run_end (by omega)
        go_wp2_with fail
        refine (ok45 s gl gf t (i) _ (hL.drewN _) hs hp (by omega)).mono ?_; rintro e w' ⟨rfl, nn, rfl⟩
        go_wp2_with fail
        go_meet
        case rel => exact ⟨i, _, rfl, rfl, rfl, hi, HN⟩
  case rest =>
    obtain ⟨i, n, rfl, rfl, rfl, hi, hI⟩ := hcut
    have hm : 2147483647 ≥ i := by omega
    have HE : Hid (numP s t.pos = (t.pos + i, kInt, 16)) := by
      show numP s t.pos = _
      unfold numP
      rw [if_pos H0.out, hI.out]
    have hX1 := (hL.drewN n).pos (t.pos + i)
    have k1 := (hL.drewN n).c1
    have k6 := (hL.drewN n).c6
    have f1 := (hL.drewN n).fr 1
    have f6 := (hL.drewN n).fr 6
    have hX2 := (hX1.kind kInt).base 16
    by_cases hpar : parB (bt s (t.pos + i)) = true
    · have hlt : t.pos + i < s.size := lt_of_bt (by intro h; rw [h] at hpar; exact absurd hpar (by decide))
      have hd0 : decide (t.pos + i < s.size) = true := decide_eq_true hlt
      go_wp2_with fail
      refine (skipN42 s gl gf t i _ (hL.drewN _) hs hi).mono ?_; rintro e w' ⟨rfl, rfl⟩
      go_wp2_with fail
      refine (ok45n s gl gf _ 0 _ hX2 hs hi rfl (by omega)).mono ?_; rintro e w' ⟨rfl, nn, rfl⟩
      go_wp2_with fail
      refine (peek47n s gl gf _ 0 _ (hX2.drewN _) hs rfl hlt).mono ?_; rintro e w' ⟨rfl, nn, rfl⟩
      go_wp2_with fail
      refine (part46 _ _).mono ?_; rintro e w' ⟨rfl, rfl⟩
      go_wp2_with fail
      refine (panic69 s gl gf _ _ _ hP (hX2.drewN _) hi).mono ?_; rintro e w' ⟨pe, pp, m, cs, n4, rfl, q⟩
      go_wp2_with fail
      exact ⟨rfl, Or.inl ⟨by rw [HE.out]; exact hpar, Fault.after ⟨pe, pp, m, cs, n4, rfl, q⟩ (Fr2.of (fr_drewN (fr_set (fr_set (fr_set (fr_drewN (fr_refl w (some gl)) n) 9 _) 1 _) 6 _) _))⟩⟩
    · have hpar2 : parB (bt s (t.pos + i)) = false := by simpa using hpar
      clear hpar
      by_cases hlt : t.pos + i < s.size
      · have hd0 : decide (t.pos + i < s.size) = true := decide_eq_true hlt
        go_wp2_with fail
        refine (skipN42 s gl gf t i _ (hL.drewN _) hs hi).mono ?_; rintro e w' ⟨rfl, rfl⟩
        go_wp2_with fail
        refine (ok45n s gl gf _ 0 _ hX2 hs hi rfl (by omega)).mono ?_; rintro e w' ⟨rfl, nn, rfl⟩
        go_wp2_with fail
        refine (peek47n s gl gf _ 0 _ (hX2.drewN _) hs rfl hlt).mono ?_; rintro e w' ⟨rfl, nn, rfl⟩
        go_wp2_with fail
        refine (part46 _ _).mono ?_; rintro e w' ⟨rfl, rfl⟩
        go_wp2_with fail
        refine bodyPost_ret (results_none rfl _ _ _) rfl (Or.inr ⟨by rw [HE.out]; exact hpar2, rfl, ?_, fr_drewN (fr_set (fr_set (fr_set (fr_drewN (fr_refl w (some gl)) n) 9 _) 1 _) 6 _) _⟩)
        rw [HE.out]; exact hX2.drewN _
      · have hd0 : decide (t.pos + i < s.size) = false := decide_eq_false hlt
        go_wp2_with fail
        refine (skipN42 s gl gf t i _ (hL.drewN _) hs hi).mono ?_; rintro e w' ⟨rfl, rfl⟩
        go_wp2_with fail
        refine (ok45n s gl gf _ 0 _ hX2 hs hi rfl (by omega)).mono ?_; rintro e w' ⟨rfl, nn, rfl⟩
        go_wp2_with fail
        refine bodyPost_ret (results_none rfl _ _ _) rfl (Or.inr ⟨by rw [HE.out]; exact hpar2, rfl, ?_, fr_drewN (fr_set (fr_set (fr_set (fr_drewN (fr_refl w (some gl)) n) 9 _) 1 _) 6 _) _⟩)
        rw [HE.out]; exact hX2.drewN _

set_option maxRecDepth 100000 in
set_option maxHeartbeats 4000000 in
theorem number51_hexX (s : ByteArray) (gl gf : Nat) (t : St) (w : World) (hP : Hid (PL s)) (hL : LX w gl gf s t) (hp : t.pos ≤ s.size) (h0 : isHex s t.pos) (hx : bt s (t.pos + 1) = 88) :
    Calls Tryz.prog 51 #[.pointer (some ⟨gl, 0, none⟩), .bool false] w (NumPost s gl gf t w) := by
  have hs : s.size ≤ 2147483647 := Nat.le_trans hP.out.size (by decide)
  have hs2 : s.size ≤ 2000 := hP.out.size
  have H0 := Lib.hid h0
  have z1 : (bt s t.pos == 48) = true := by rw [beq_iff_eq]; exact h0.1
  have hl2 : t.pos + 2 ≤ s.size := by
    have := lt_of_bt (s := s) (k := t.pos + 1) (by omega)
    omega
  have z2 : (bt s (t.pos + 1) == 120) = false := by rw [beq_eq_false_iff_ne]; omega
  have z3 : (bt s (t.pos + 1) == 88) = true := by rw [beq_iff_eq]; exact hx
  clear h0 hx
  go_enter Tryz.func51, Tryz.ntmps51
  go_upto_block 0 with (fail)
  refine (is43n s gl gf t 0 48 _ hL hs hp rfl rfl (by omega) (by omega)).mono ?_; rintro e w' ⟨rfl, nn, rfl⟩
  go_upto_block 0 with (fail)
  refine (is43n s gl gf t 1 120 _ (hL.drewN _) hs hp rfl rfl (by omega) (by omega)).mono ?_; rintro e w' ⟨rfl, nn, rfl⟩
  go_upto_block 0 with (fail)
  refine (is43n s gl gf t 1 88 _ (hL.drewN _) hs hp rfl rfl (by omega) (by omega)).mono ?_; rintro e w' ⟨rfl, nn, rfl⟩
  go_upto_block 0 with (fail)
  go_cut [4, 6] (fun v4 v6 wx => ∃ (i : Nat) (n : Nat), v4 = .int .i64 (i : Int) ∧ v6 = .bool true ∧ wx = w.drewN n ∧ t.pos + i ≤ s.size ∧ Hid (run s hexB (t.pos + 2) = t.pos + i))
  case first =>
    go_wp2_with fail
    go_loopw [4, 6, 7] (fun v4 v6 v7 wr => ∃ (i : Nat) (n : Nat), v4 = .int .i64 (i : Int) ∧ v6 = .bool true ∧ v7 = .bool false ∧ wr = w.drewN n ∧ t.pos + i ≤ s.size ∧ Hid (run s hexB (t.pos + 2) = run s hexB (t.pos + i))) (fun v4 _ _ _ => s.size - (intOf v4).toNat)
    case atStart => exact ⟨2, _, rfl, rfl, rfl, rfl, hl2, rfl⟩
    case round =>
      obtain ⟨i, n, rfl, rfl, rfl, rfl, hi, hrn⟩ := hrel
      by_cases hlt : t.pos + i < s.size
      · have hd0 : decide (t.pos + i < s.size) = true := decide_eq_true hlt
        have hm : 2147483647 ≥ i := by omega
        by_cases hdg : hexB (bt s (t.pos + i)) = true
        · have HN := Lib.hid (run_yes hlt hdg)
          go_wp2_with fail
          refine (ok45 s gl gf t (i) _ (hL.drewN _) hs hp (by omega)).mono ?_; rintro e w' ⟨rfl, nn, rfl⟩
          go_wp2_with fail
          refine (peek47 s gl gf t (i) _ (hL.drewN _) hs hlt).mono ?_; rintro e w' ⟨rfl, nn, rfl⟩
          go_wp2_with fail
          refine (hex68 _ _).mono ?_; rintro e w' ⟨rfl, rfl⟩
          go_wp2_with fail
          go_roundw
          case rel => exact ⟨i + 1, _, by go_num, rfl, rfl, rfl, by omega, by have h := hrn.out; rw [HN.out] at h; exact h⟩
          case measure => simp [intOf]; omega
        · have hdg2 : hexB (bt s (t.pos + i)) = false := by simpa using hdg
          clear hdg
          have HN : Hid (run s hexB (t.pos + 2) = t.pos + i) := by
            show run s hexB (t.pos + 2) = t.pos + i
            rw [hrn.out]; exact run_no hdg2
          go_wp2_with fail
          refine (ok45 s gl gf t (i) _ (hL.drewN _) hs hp (by omega)).mono ?_; rintro e w' ⟨rfl, nn, rfl⟩
          go_wp2_with fail
          refine (peek47 s gl gf t (i) _ (hL.drewN _) hs hlt).mono ?_; rintro e w' ⟨rfl, nn, rfl⟩
          go_wp2_with fail
          refine (hex68 _ _).mono ?_; rintro e w' ⟨rfl, rfl⟩
          go_wp2_with fail
          go_meet
          case rel => exact ⟨i, _, rfl, rfl, rfl, hi, HN⟩
      · have hd0 : decide (t.pos + i < s.size) = false := decide_eq_false hlt
        have hm : 2147483647 ≥ i := by omega
        have HN : Hid (run s hexB (t.pos + 2) = t.pos + i) := by
          show run s hexB (t.pos + 2) = t.pos + i
          rw [hrn.out]; exact run_end (by omega)
        go_wp2_with fail
        refine (ok45 s gl gf t (i) _ (hL.drewN _) hs hp (by omega)).mono ?_; rintro e w' ⟨rfl, nn, rfl⟩
        go_wp2_with fail
        go_meet
        case rel => exact ⟨i, _, rfl, rfl, rfl, hi, HN⟩
  case rest =>
    obtain ⟨i, n, rfl, rfl, rfl, hi, hI⟩ := hcut
    have hm : 2147483647 ≥ i := by omega
    have HE : Hid (numP s t.pos = (t.pos + i, kInt, 16)) := by
      show numP s t.pos = _
      unfold numP
      rw [if_pos H0.out, hI.out]
    have hX1 := (hL.drewN n).pos (t.pos + i)
    have k1 := (hL.drewN n).c1
    have k6 := (hL.drewN n).c6
    have f1 := (hL.drewN n).fr 1
    have f6 := (hL.drewN n).fr 6
    have hX2 := (hX1.kind kInt).base 16
    by_cases hpar : parB (bt s (t.pos + i)) = true
    · have hlt : t.pos + i < s.size := lt_of_bt (by intro h; rw [h] at hpar; exact absurd hpar (by decide))
      have hd0 : decide (t.pos + i < s.size) = true := decide_eq_true hlt
      go_wp2_with fail
      refine (skipN42 s gl gf t i _ (hL.drewN _) hs hi).mono ?_; rintro e w' ⟨rfl, rfl⟩
      go_wp2_with fail
      refine (ok45n s gl gf _ 0 _ hX2 hs hi rfl (by omega)).mono ?_; rintro e w' ⟨rfl, nn, rfl⟩
      go_wp2_with fail
      refine (peek47n s gl gf _ 0 _ (hX2.drewN _) hs rfl hlt).mono ?_; rintro e w' ⟨rfl, nn, rfl⟩
      go_wp2_with fail
      refine (part46 _ _).mono ?_; rintro e w' ⟨rfl, rfl⟩
      go_wp2_with fail
      refine (panic69 s gl gf _ _ _ hP (hX2.drewN _) hi).mono ?_; rintro e w' ⟨pe, pp, m, cs, n4, rfl, q⟩
      go_wp2_with fail
      exact ⟨rfl, Or.inl ⟨by rw [HE.out]; exact hpar, Fault.after ⟨pe, pp, m, cs, n4, rfl, q⟩ (Fr2.of (fr_drewN (fr_set (fr_set (fr_set (fr_drewN (fr_refl w (some gl)) n) 9 _) 1 _) 6 _) _))⟩⟩
    · have hpar2 : parB (bt s (t.pos + i)) = false := by simpa using hpar
      clear hpar
      by_cases hlt : t.pos + i < s.size
      · have hd0 : decide (t.pos + i < s.size) = true := decide_eq_true hlt
        go_wp2_with fail
        refine (skipN42 s gl gf t i _ (hL.drewN _) hs hi).mono ?_; rintro e w' ⟨rfl, rfl⟩
        go_wp2_with fail
        refine (ok45n s gl gf _ 0 _ hX2 hs hi rfl (by omega)).mono ?_; rintro e w' ⟨rfl, nn, rfl⟩
        go_wp2_with fail
        refine (peek47n s gl gf _ 0 _ (hX2.drewN _) hs rfl hlt).mono ?_; rintro e w' ⟨rfl, nn, rfl⟩
        go_wp2_with fail
        refine (part46 _ _).mono ?_; rintro e w' ⟨rfl, rfl⟩
        go_wp2_with fail
        refine bodyPost_ret (results_none rfl _ _ _) rfl (Or.inr ⟨by rw [HE.out]; exact hpar2, rfl, ?_, fr_drewN (fr_set (fr_set (fr_set (fr_drewN (fr_refl w (some gl)) n) 9 _) 1 _) 6 _) _⟩)
        rw [HE.out]; exact hX2.drewN _
      · have hd0 : decide (t.pos + i < s.size) = false := decide_eq_false hlt
        go_wp2_with fail
        refine (skipN42 s gl gf t i _ (hL.drewN _) hs hi).mono ?_; rintro e w' ⟨rfl, rfl⟩
        go_wp2_with fail
        refine (ok45n s gl gf _ 0 _ hX2 hs hi rfl (by omega)).mono ?_; rintro e w' ⟨rfl, nn, rfl⟩
        go_wp2_with fail
        refine bodyPost_ret (results_none rfl _ _ _) rfl (Or.inr ⟨by rw [HE.out]; exact hpar2, rfl, ?_, fr_drewN (fr_set (fr_set (fr_set (fr_drewN (fr_refl w (some gl)) n) 9 _) 1 _) 6 _) _⟩)
        rw [HE.out]; exact hX2.drewN _

end Go.Proofs.YtahcbeofaeflgaaGreatDoor
