/- Lemmas towards the statement FnLexCardSaid, conditions: as each theorem says. -/
import Derived.Test.YtahcbeofaeflgaaGreatDoorA8
namespace Go.Proofs.YtahcbeofaeflgaaGreatDoor
open Go.RowKit

set_option maxRecDepth 100000 in
set_option maxHeartbeats 4000000 in
theorem number51_nz (s : ByteArray) (gl gf : Nat) (t : St) (w : World) (hP : Hid (PL s)) (hL : LX w gl gf s t) (hp : t.pos ≤ s.size) (hb0 : t.base = 0) (h0 : ¬ isHex s t.pos) (hz : ¬ bt s t.pos = 48) :
    Calls Tryz.prog 51 #[.pointer (some ⟨gl, 0, none⟩), .bool false] w (NumPost s gl gf t w) := by
  have hs : s.size ≤ 2147483647 := Nat.le_trans hP.out.size (by decide)
  have hs2 : s.size ≤ 2000 := hP.out.size
  have H0 := Lib.hid h0
  clear h0
  have z1 : (bt s t.pos == 48) = false := by rw [beq_eq_false_iff_ne]; exact hz
  clear hz
  go_enter Tryz.func51, Tryz.ntmps51
  go_upto_block 0 with (fail)
  refine (is43n s gl gf t 0 48 _ hL hs hp rfl rfl (by omega) (by omega)).mono ?_; rintro e w' ⟨rfl, nn, rfl⟩
  go_upto_block 0 with (fail)
  go_cut [4, 6] (fun v4 v6 wx => ∃ (i : Nat) (b : Bool) (n : Nat), v4 = .int .i64 (i : Int) ∧ v6 = .bool b ∧ wx = w.drewN n ∧ t.pos + i ≤ s.size ∧ Hid (intP s t.pos = (t.pos + i, b)))
  case first =>
    go_wp2_with fail
    go_loopw [4, 6, 7] (fun v4 v6 v7 wr => ∃ (i : Nat) (b x : Bool) (n : Nat), v4 = .int .i64 (i : Int) ∧ v6 = .bool b ∧ v7 = .bool x ∧ wr = w.drewN n ∧ t.pos + i ≤ s.size ∧ (x = true → b = false) ∧ Hid (intP s t.pos = numF s (t.pos + i) b x)) (fun v4 _ _ _ => s.size - (intOf v4).toNat)
    case atStart => exact ⟨0, true, false, _, rfl, rfl, rfl, rfl, by omega, by simp, rfl⟩
    case round =>
      obtain ⟨i, b, x, n, rfl, rfl, rfl, rfl, hi, hxb, hrn⟩ := hrel
      have HX := Lib.hid hxb
      clear hxb
      by_cases hlt : t.pos + i < s.size
      · have hd0 : decide (t.pos + i < s.size) = true := decide_eq_true hlt
        have hm : 2147483647 ≥ i := by omega
        by_cases hdg : digB (bt s (t.pos + i)) = true
        · have HN := Lib.hid (numF_digit (int := b) (exp := x) hlt hdg)
          go_wp2_with fail
          refine (ok45 s gl gf t (i) _ (hL.drewN _) hs hp (by omega)).mono ?_; rintro e w' ⟨rfl, nn, rfl⟩
          go_wp2_with fail
          refine (peek47 s gl gf t (i) _ (hL.drewN _) hs hlt).mono ?_; rintro e w' ⟨rfl, nn, rfl⟩
          go_wp2_with fail
          refine (isdigit50 _ _).mono ?_; rintro e w' ⟨rfl, rfl⟩
          go_wp2_with fail
          go_roundw
          case rel => exact ⟨i + 1, b, x, _, by go_num, rfl, rfl, rfl, by omega, HX.out, by have h := hrn.out; rw [HN.out] at h; exact h⟩
          case measure => simp [intOf]; omega
        · have hdg2 : digB (bt s (t.pos + i)) = false := by simpa using hdg
          clear hdg
          cases x with
          | true =>
            have HN : Hid (intP s t.pos = (t.pos + i, b)) := by
              show intP s t.pos = (t.pos + i, b)
              rw [hrn.out]; exact numF_stop HX.out hdg2 (Or.inl rfl) (Or.inl rfl)
            go_wp2_with fail
            refine (ok45 s gl gf t (i) _ (hL.drewN _) hs hp (by omega)).mono ?_; rintro e w' ⟨rfl, nn, rfl⟩
            go_wp2_with fail
            refine (peek47 s gl gf t (i) _ (hL.drewN _) hs hlt).mono ?_; rintro e w' ⟨rfl, nn, rfl⟩
            go_wp2_with fail
            refine (isdigit50 _ _).mono ?_; rintro e w' ⟨rfl, rfl⟩
            go_wp2_with fail
            go_meet
            case rel => exact ⟨i, b, _, rfl, rfl, rfl, hi, HN⟩
          | false =>
            by_cases hdot : b = true ∧ bt s (t.pos + i) = 46
            · obtain ⟨rfl, hc⟩ := hdot
              have HN := Lib.hid (numF_dot hc)
              have d1 : ((bt s (t.pos + i) : Int) == 46) = true := yb (c := 46) hc
              clear hc
              go_wp2_with fail
              refine (ok45 s gl gf t (i) _ (hL.drewN _) hs hp (by omega)).mono ?_; rintro e w' ⟨rfl, nn, rfl⟩
              go_wp2_with fail
              refine (peek47 s gl gf t (i) _ (hL.drewN _) hs hlt).mono ?_; rintro e w' ⟨rfl, nn, rfl⟩
              go_wp2_with fail
              refine (isdigit50 _ _).mono ?_; rintro e w' ⟨rfl, rfl⟩
              go_wp2_with fail
              go_roundw
              case rel => exact ⟨i + 1, false, false, _, by go_num, rfl, rfl, rfl, by omega, by simp, by have h := hrn.out; rw [HN.out] at h; exact h⟩
              case measure => simp [intOf]; omega
            · have HD := Lib.hid hdot
              clear hdot
              by_cases hex : bt s (t.pos + i) = 101 ∨ bt s (t.pos + i) = 69
              · have HE := Lib.hid hex
                have HNX : Hid (intP s t.pos = expoP s (t.pos + i) b) := by
                  show intP s t.pos = expoP s (t.pos + i) b
                  rw [hrn.out]; exact numF_exp hex
                have d1 : ((bt s (t.pos + i) : Int) == 46) = false := nb (c := 46) (by omega)
                clear hex
                by_cases hsg : bt s (t.pos + i + 1) = 43 ∨ bt s (t.pos + i + 1) = 45
                · have HS := Lib.hid hsg
                  clear hsg
                  by_cases hdq : digB (bt s (t.pos + (i + 2))) = true
                  · have hq : t.pos + (i + 2) < s.size := lt_of_bt (by intro h; rw [h] at hdq; exact absurd hdq (by decide))
                    have hq1 : decide (t.pos + (i + 2) < s.size) = true := decide_eq_true hq
                    have HN : Hid (intP s t.pos = numF s (t.pos + (i + 2)) false true) := by
                      show intP s t.pos = numF s (t.pos + (i + 2)) false true
                      have hdq4 : digB (bt s (t.pos + i + 2)) = true := hdq
                      rw [HNX.out]; unfold expoP numF; rw [if_pos HE.out, if_pos HS.out, if_pos hdq4, if_pos rfl]; rfl
                    rcases HE.out with he | he
                    · have x1 : ((bt s (t.pos + i) : Int) == 69) = false := nb (c := 69) (by omega)
                      have x2 : ((bt s (t.pos + i) : Int) == 101) = true := yb (c := 101) he
                      clear he
                      rcases HS.out with hg | hg
                      · have y1 : (bt s (t.pos + (i + 1)) == 43) = true := by rw [beq_iff_eq]; exact hg
                        clear hg
                        cases b with
                        | true =>
                          go_wp2_with fail
                          refine (ok45 s gl gf t (i) _ (hL.drewN _) hs hp (by omega)).mono ?_; rintro e w' ⟨rfl, nn, rfl⟩
                          go_wp2_with fail
                          refine (peek47 s gl gf t (i) _ (hL.drewN _) hs hlt).mono ?_; rintro e w' ⟨rfl, nn, rfl⟩
                          go_wp2_with fail
                          refine (isdigit50 _ _).mono ?_; rintro e w' ⟨rfl, rfl⟩
                          go_wp2_with fail
                          refine (is43n s gl gf t (i + 1) 43 _ (hL.drewN _) hs hp (by omega) rfl (by omega) (by omega)).mono ?_; rintro e w' ⟨rfl, nn, rfl⟩
                          go_wp2_with fail
                          refine (ok45n s gl gf t (i + 2) _ (hL.drewN _) hs hp (by omega) (by omega)).mono ?_; rintro e w' ⟨rfl, nn, rfl⟩
                          go_wp2_with fail
                          refine (peek47n s gl gf t (i + 2) _ (hL.drewN _) hs (by omega) hq).mono ?_; rintro e w' ⟨rfl, nn, rfl⟩
                          go_wp2_with fail
                          refine (isdigit50 _ _).mono ?_; rintro e w' ⟨rfl, rfl⟩
                          go_wp2_with fail
                          go_roundw
                          case rel => exact ⟨i + 2, false, true, _, by go_num, rfl, rfl, rfl, by omega, by simp, HN⟩
                          case measure => simp [intOf]; omega
                        | false =>
                          go_wp2_with fail
                          refine (ok45 s gl gf t (i) _ (hL.drewN _) hs hp (by omega)).mono ?_; rintro e w' ⟨rfl, nn, rfl⟩
                          go_wp2_with fail
                          refine (peek47 s gl gf t (i) _ (hL.drewN _) hs hlt).mono ?_; rintro e w' ⟨rfl, nn, rfl⟩
                          go_wp2_with fail
                          refine (isdigit50 _ _).mono ?_; rintro e w' ⟨rfl, rfl⟩
                          go_wp2_with fail
                          refine (is43n s gl gf t (i + 1) 43 _ (hL.drewN _) hs hp (by omega) rfl (by omega) (by omega)).mono ?_; rintro e w' ⟨rfl, nn, rfl⟩
                          go_wp2_with fail
                          refine (ok45n s gl gf t (i + 2) _ (hL.drewN _) hs hp (by omega) (by omega)).mono ?_; rintro e w' ⟨rfl, nn, rfl⟩
                          go_wp2_with fail
                          refine (peek47n s gl gf t (i + 2) _ (hL.drewN _) hs (by omega) hq).mono ?_; rintro e w' ⟨rfl, nn, rfl⟩
                          go_wp2_with fail
                          refine (isdigit50 _ _).mono ?_; rintro e w' ⟨rfl, rfl⟩
                          go_wp2_with fail
                          go_roundw
                          case rel => exact ⟨i + 2, false, true, _, by go_num, rfl, rfl, rfl, by omega, by simp, HN⟩
                          case measure => simp [intOf]; omega
                      · have y1 : (bt s (t.pos + (i + 1)) == 43) = false := by rw [beq_eq_false_iff_ne]; show bt s (t.pos + i + 1) ≠ 43; omega
                        have y2 : (bt s (t.pos + (i + 1)) == 45) = true := by rw [beq_iff_eq]; exact hg
                        clear hg
                        cases b with
                        | true =>
                          go_wp2_with fail
                          refine (ok45 s gl gf t (i) _ (hL.drewN _) hs hp (by omega)).mono ?_; rintro e w' ⟨rfl, nn, rfl⟩
                          go_wp2_with fail
                          refine (peek47 s gl gf t (i) _ (hL.drewN _) hs hlt).mono ?_; rintro e w' ⟨rfl, nn, rfl⟩
                          go_wp2_with fail
                          refine (isdigit50 _ _).mono ?_; rintro e w' ⟨rfl, rfl⟩
                          go_wp2_with fail
                          refine (is43n s gl gf t (i + 1) 43 _ (hL.drewN _) hs hp (by omega) rfl (by omega) (by omega)).mono ?_; rintro e w' ⟨rfl, nn, rfl⟩
                          go_wp2_with fail
                          refine (is43n s gl gf t (i + 1) 45 _ (hL.drewN _) hs hp (by omega) rfl (by omega) (by omega)).mono ?_; rintro e w' ⟨rfl, nn, rfl⟩
                          go_wp2_with fail
                          refine (ok45n s gl gf t (i + 2) _ (hL.drewN _) hs hp (by omega) (by omega)).mono ?_; rintro e w' ⟨rfl, nn, rfl⟩
                          go_wp2_with fail
                          refine (peek47n s gl gf t (i + 2) _ (hL.drewN _) hs (by omega) hq).mono ?_; rintro e w' ⟨rfl, nn, rfl⟩
                          go_wp2_with fail
                          refine (isdigit50 _ _).mono ?_; rintro e w' ⟨rfl, rfl⟩
                          go_wp2_with fail
                          go_roundw
                          case rel => exact ⟨i + 2, false, true, _, by go_num, rfl, rfl, rfl, by omega, by simp, HN⟩
                          case measure => simp [intOf]; omega
                        | false =>
                          go_wp2_with fail
                          refine (ok45 s gl gf t (i) _ (hL.drewN _) hs hp (by omega)).mono ?_; rintro e w' ⟨rfl, nn, rfl⟩
                          go_wp2_with fail
                          refine (peek47 s gl gf t (i) _ (hL.drewN _) hs hlt).mono ?_; rintro e w' ⟨rfl, nn, rfl⟩
                          go_wp2_with fail
                          refine (isdigit50 _ _).mono ?_; rintro e w' ⟨rfl, rfl⟩
                          go_wp2_with fail
                          refine (is43n s gl gf t (i + 1) 43 _ (hL.drewN _) hs hp (by omega) rfl (by omega) (by omega)).mono ?_; rintro e w' ⟨rfl, nn, rfl⟩
                          go_wp2_with fail
                          refine (is43n s gl gf t (i + 1) 45 _ (hL.drewN _) hs hp (by omega) rfl (by omega) (by omega)).mono ?_; rintro e w' ⟨rfl, nn, rfl⟩
                          go_wp2_with fail
                          refine (ok45n s gl gf t (i + 2) _ (hL.drewN _) hs hp (by omega) (by omega)).mono ?_; rintro e w' ⟨rfl, nn, rfl⟩
                          go_wp2_with fail
                          refine (peek47n s gl gf t (i + 2) _ (hL.drewN _) hs (by omega) hq).mono ?_; rintro e w' ⟨rfl, nn, rfl⟩
                          go_wp2_with fail
                          refine (isdigit50 _ _).mono ?_; rintro e w' ⟨rfl, rfl⟩
                          go_wp2_with fail
                          go_roundw
                          case rel => exact ⟨i + 2, false, true, _, by go_num, rfl, rfl, rfl, by omega, by simp, HN⟩
                          case measure => simp [intOf]; omega
                    · have x1 : ((bt s (t.pos + i) : Int) == 69) = true := yb (c := 69) he
                      clear he
                      rcases HS.out with hg | hg
                      · have y1 : (bt s (t.pos + (i + 1)) == 43) = true := by rw [beq_iff_eq]; exact hg
                        clear hg
                        cases b with
                        | true =>
                          go_wp2_with fail
                          refine (ok45 s gl gf t (i) _ (hL.drewN _) hs hp (by omega)).mono ?_; rintro e w' ⟨rfl, nn, rfl⟩
                          go_wp2_with fail
                          refine (peek47 s gl gf t (i) _ (hL.drewN _) hs hlt).mono ?_; rintro e w' ⟨rfl, nn, rfl⟩
                          go_wp2_with fail
                          refine (isdigit50 _ _).mono ?_; rintro e w' ⟨rfl, rfl⟩
                          go_wp2_with fail
                          refine (is43n s gl gf t (i + 1) 43 _ (hL.drewN _) hs hp (by omega) rfl (by omega) (by omega)).mono ?_; rintro e w' ⟨rfl, nn, rfl⟩
                          go_wp2_with fail
                          refine (ok45n s gl gf t (i + 2) _ (hL.drewN _) hs hp (by omega) (by omega)).mono ?_; rintro e w' ⟨rfl, nn, rfl⟩
                          go_wp2_with fail
                          refine (peek47n s gl gf t (i + 2) _ (hL.drewN _) hs (by omega) hq).mono ?_; rintro e w' ⟨rfl, nn, rfl⟩
                          go_wp2_with fail
                          refine (isdigit50 _ _).mono ?_; rintro e w' ⟨rfl, rfl⟩
                          go_wp2_with fail
                          go_roundw
                          case rel => exact ⟨i + 2, false, true, _, by go_num, rfl, rfl, rfl, by omega, by simp, HN⟩
                          case measure => simp [intOf]; omega
                        | false =>
                          go_wp2_with fail
                          refine (ok45 s gl gf t (i) _ (hL.drewN _) hs hp (by omega)).mono ?_; rintro e w' ⟨rfl, nn, rfl⟩
                          go_wp2_with fail
                          refine (peek47 s gl gf t (i) _ (hL.drewN _) hs hlt).mono ?_; rintro e w' ⟨rfl, nn, rfl⟩
                          go_wp2_with fail
                          refine (isdigit50 _ _).mono ?_; rintro e w' ⟨rfl, rfl⟩
                          go_wp2_with fail
                          refine (is43n s gl gf t (i + 1) 43 _ (hL.drewN _) hs hp (by omega) rfl (by omega) (by omega)).mono ?_; rintro e w' ⟨rfl, nn, rfl⟩
                          go_wp2_with fail
                          refine (ok45n s gl gf t (i + 2) _ (hL.drewN _) hs hp (by omega) (by omega)).mono ?_; rintro e w' ⟨rfl, nn, rfl⟩
                          go_wp2_with fail
                          refine (peek47n s gl gf t (i + 2) _ (hL.drewN _) hs (by omega) hq).mono ?_; rintro e w' ⟨rfl, nn, rfl⟩
                          go_wp2_with fail
                          refine (isdigit50 _ _).mono ?_; rintro e w' ⟨rfl, rfl⟩
                          go_wp2_with fail
                          go_roundw
                          case rel => exact ⟨i + 2, false, true, _, by go_num, rfl, rfl, rfl, by omega, by simp, HN⟩
                          case measure => simp [intOf]; omega
                      · have y1 : (bt s (t.pos + (i + 1)) == 43) = false := by rw [beq_eq_false_iff_ne]; show bt s (t.pos + i + 1) ≠ 43; omega
                        have y2 : (bt s (t.pos + (i + 1)) == 45) = true := by rw [beq_iff_eq]; exact hg
                        clear hg
                        cases b with
                        | true =>
                          go_wp2_with fail
                          refine (ok45 s gl gf t (i) _ (hL.drewN _) hs hp (by omega)).mono ?_; rintro e w' ⟨rfl, nn, rfl⟩
                          go_wp2_with fail
                          refine (peek47 s gl gf t (i) _ (hL.drewN _) hs hlt).mono ?_; rintro e w' ⟨rfl, nn, rfl⟩
                          go_wp2_with fail
                          refine (isdigit50 _ _).mono ?_; rintro e w' ⟨rfl, rfl⟩
                          go_wp2_with fail
                          refine (is43n s gl gf t (i + 1) 43 _ (hL.drewN _) hs hp (by omega) rfl (by omega) (by omega)).mono ?_; rintro e w' ⟨rfl, nn, rfl⟩
                          go_wp2_with fail
                          refine (is43n s gl gf t (i + 1) 45 _ (hL.drewN _) hs hp (by omega) rfl (by omega) (by omega)).mono ?_; rintro e w' ⟨rfl, nn, rfl⟩
                          go_wp2_with fail
                          refine (ok45n s gl gf t (i + 2) _ (hL.drewN _) hs hp (by omega) (by omega)).mono ?_; rintro e w' ⟨rfl, nn, rfl⟩
                          go_wp2_with fail
                          refine (peek47n s gl gf t (i + 2) _ (hL.drewN _) hs (by omega) hq).mono ?_; rintro e w' ⟨rfl, nn, rfl⟩
                          go_wp2_with fail
                          refine (isdigit50 _ _).mono ?_; rintro e w' ⟨rfl, rfl⟩
                          go_wp2_with fail
                          go_roundw
                          case rel => exact ⟨i + 2, false, true, _, by go_num, rfl, rfl, rfl, by omega, by simp, HN⟩
                          case measure => simp [intOf]; omega
                        | false =>
                          go_wp2_with fail
                          refine (ok45 s gl gf t (i) _ (hL.drewN _) hs hp (by omega)).mono ?_; rintro e w' ⟨rfl, nn, rfl⟩
                          go_wp2_with fail
                          refine (peek47 s gl gf t (i) _ (hL.drewN _) hs hlt).mono ?_; rintro e w' ⟨rfl, nn, rfl⟩
                          go_wp2_with fail
                          refine (isdigit50 _ _).mono ?_; rintro e w' ⟨rfl, rfl⟩
                          go_wp2_with fail
                          refine (is43n s gl gf t (i + 1) 43 _ (hL.drewN _) hs hp (by omega) rfl (by omega) (by omega)).mono ?_; rintro e w' ⟨rfl, nn, rfl⟩
                          go_wp2_with fail
                          refine (is43n s gl gf t (i + 1) 45 _ (hL.drewN _) hs hp (by omega) rfl (by omega) (by omega)).mono ?_; rintro e w' ⟨rfl, nn, rfl⟩
                          go_wp2_with fail
                          refine (ok45n s gl gf t (i + 2) _ (hL.drewN _) hs hp (by omega) (by omega)).mono ?_; rintro e w' ⟨rfl, nn, rfl⟩
                          go_wp2_with fail
                          refine (peek47n s gl gf t (i + 2) _ (hL.drewN _) hs (by omega) hq).mono ?_; rintro e w' ⟨rfl, nn, rfl⟩
                          go_wp2_with fail
                          refine (isdigit50 _ _).mono ?_; rintro e w' ⟨rfl, rfl⟩
                          go_wp2_with fail
                          go_roundw
                          case rel => exact ⟨i + 2, false, true, _, by go_num, rfl, rfl, rfl, by omega, by simp, HN⟩
                          case measure => simp [intOf]; omega
                  · have hdq2 : digB (bt s (t.pos + (i + 2))) = false := by simpa using hdq
                    have HN : Hid (intP s t.pos = (t.pos + i, b)) := by
                      show intP s t.pos = (t.pos + i, b)
                      have hdq4 : ¬ digB (bt s (t.pos + i + 2)) = true := hdq
                      rw [HNX.out]; unfold expoP; rw [if_pos HE.out, if_pos HS.out, if_neg hdq4]
                    clear hdq
                    by_cases hq : t.pos + (i + 2) < s.size
                    · have hq1 : decide (t.pos + (i + 2) < s.size) = true := decide_eq_true (by omega)
                      rcases HE.out with he | he
                      · have x1 : ((bt s (t.pos + i) : Int) == 69) = false := nb (c := 69) (by omega)
                        have x2 : ((bt s (t.pos + i) : Int) == 101) = true := yb (c := 101) he
                        clear he
                        rcases HS.out with hg | hg
                        · have y1 : (bt s (t.pos + (i + 1)) == 43) = true := by rw [beq_iff_eq]; exact hg
                          clear hg
                          cases b with
                          | true =>
                            go_wp2_with fail
                            refine (ok45 s gl gf t (i) _ (hL.drewN _) hs hp (by omega)).mono ?_; rintro e w' ⟨rfl, nn, rfl⟩
                            go_wp2_with fail
                            refine (peek47 s gl gf t (i) _ (hL.drewN _) hs hlt).mono ?_; rintro e w' ⟨rfl, nn, rfl⟩
                            go_wp2_with fail
                            refine (isdigit50 _ _).mono ?_; rintro e w' ⟨rfl, rfl⟩
                            go_wp2_with fail
                            refine (is43n s gl gf t (i + 1) 43 _ (hL.drewN _) hs hp (by omega) rfl (by omega) (by omega)).mono ?_; rintro e w' ⟨rfl, nn, rfl⟩
                            go_wp2_with fail
                            refine (ok45n s gl gf t (i + 2) _ (hL.drewN _) hs hp (by omega) (by omega)).mono ?_; rintro e w' ⟨rfl, nn, rfl⟩
                            go_wp2_with fail
                            refine (peek47n s gl gf t (i + 2) _ (hL.drewN _) hs (by omega) hq).mono ?_; rintro e w' ⟨rfl, nn, rfl⟩
                            go_wp2_with fail
                            refine (isdigit50 _ _).mono ?_; rintro e w' ⟨rfl, rfl⟩
                            go_wp2_with fail
                            go_meet
                            case rel => exact ⟨i, true, _, rfl, rfl, rfl, hi, HN⟩
                          | false =>
                            go_wp2_with fail
                            refine (ok45 s gl gf t (i) _ (hL.drewN _) hs hp (by omega)).mono ?_; rintro e w' ⟨rfl, nn, rfl⟩
                            go_wp2_with fail
                            refine (peek47 s gl gf t (i) _ (hL.drewN _) hs hlt).mono ?_; rintro e w' ⟨rfl, nn, rfl⟩
                            go_wp2_with fail
                            refine (isdigit50 _ _).mono ?_; rintro e w' ⟨rfl, rfl⟩
                            go_wp2_with fail
                            refine (is43n s gl gf t (i + 1) 43 _ (hL.drewN _) hs hp (by omega) rfl (by omega) (by omega)).mono ?_; rintro e w' ⟨rfl, nn, rfl⟩
                            go_wp2_with fail
                            refine (ok45n s gl gf t (i + 2) _ (hL.drewN _) hs hp (by omega) (by omega)).mono ?_; rintro e w' ⟨rfl, nn, rfl⟩
                            go_wp2_with fail
                            refine (peek47n s gl gf t (i + 2) _ (hL.drewN _) hs (by omega) hq).mono ?_; rintro e w' ⟨rfl, nn, rfl⟩
                            go_wp2_with fail
                            refine (isdigit50 _ _).mono ?_; rintro e w' ⟨rfl, rfl⟩
                            go_wp2_with fail
                            go_meet
                            case rel => exact ⟨i, false, _, rfl, rfl, rfl, hi, HN⟩
                        · have y1 : (bt s (t.pos + (i + 1)) == 43) = false := by rw [beq_eq_false_iff_ne]; show bt s (t.pos + i + 1) ≠ 43; omega
                          have y2 : (bt s (t.pos + (i + 1)) == 45) = true := by rw [beq_iff_eq]; exact hg
                          clear hg
                          cases b with
                          | true =>
                            go_wp2_with fail
                            refine (ok45 s gl gf t (i) _ (hL.drewN _) hs hp (by omega)).mono ?_; rintro e w' ⟨rfl, nn, rfl⟩
                            go_wp2_with fail
                            refine (peek47 s gl gf t (i) _ (hL.drewN _) hs hlt).mono ?_; rintro e w' ⟨rfl, nn, rfl⟩
                            go_wp2_with fail
                            refine (isdigit50 _ _).mono ?_; rintro e w' ⟨rfl, rfl⟩
                            go_wp2_with fail
                            refine (is43n s gl gf t (i + 1) 43 _ (hL.drewN _) hs hp (by omega) rfl (by omega) (by omega)).mono ?_; rintro e w' ⟨rfl, nn, rfl⟩
                            go_wp2_with fail
                            refine (is43n s gl gf t (i + 1) 45 _ (hL.drewN _) hs hp (by omega) rfl (by omega) (by omega)).mono ?_; rintro e w' ⟨rfl, nn, rfl⟩
                            go_wp2_with fail
                            refine (ok45n s gl gf t (i + 2) _ (hL.drewN _) hs hp (by omega) (by omega)).mono ?_; rintro e w' ⟨rfl, nn, rfl⟩
                            go_wp2_with fail
                            refine (peek47n s gl gf t (i + 2) _ (hL.drewN _) hs (by omega) hq).mono ?_; rintro e w' ⟨rfl, nn, rfl⟩
                            go_wp2_with fail
                            refine (isdigit50 _ _).mono ?_; rintro e w' ⟨rfl, rfl⟩
                            go_wp2_with fail
                            go_meet
                            case rel => exact ⟨i, true, _, rfl, rfl, rfl, hi, HN⟩
                          | false =>
                            go_wp2_with fail
                            refine (ok45 s gl gf t (i) _ (hL.drewN _) hs hp (by omega)).mono ?_; rintro e w' ⟨rfl, nn, rfl⟩
                            go_wp2_with fail
                            refine (peek47 s gl gf t (i) _ (hL.drewN _) hs hlt).mono ?_; rintro e w' ⟨rfl, nn, rfl⟩
                            go_wp2_with fail
                            refine (isdigit50 _ _).mono ?_; rintro e w' ⟨rfl, rfl⟩
                            go_wp2_with fail
                            refine (is43n s gl gf t (i + 1) 43 _ (hL.drewN _) hs hp (by omega) rfl (by omega) (by omega)).mono ?_; rintro e w' ⟨rfl, nn, rfl⟩
                            go_wp2_with fail
                            refine (is43n s gl gf t (i + 1) 45 _ (hL.drewN _) hs hp (by omega) rfl (by omega) (by omega)).mono ?_; rintro e w' ⟨rfl, nn, rfl⟩
                            go_wp2_with fail
                            refine (ok45n s gl gf t (i + 2) _ (hL.drewN _) hs hp (by omega) (by omega)).mono ?_; rintro e w' ⟨rfl, nn, rfl⟩
                            go_wp2_with fail
                            refine (peek47n s gl gf t (i + 2) _ (hL.drewN _) hs (by omega) hq).mono ?_; rintro e w' ⟨rfl, nn, rfl⟩
                            go_wp2_with fail
                            refine (isdigit50 _ _).mono ?_; rintro e w' ⟨rfl, rfl⟩
                            go_wp2_with fail
                            go_meet
                            case rel => exact ⟨i, false, _, rfl, rfl, rfl, hi, HN⟩
                      · have x1 : ((bt s (t.pos + i) : Int) == 69) = true := yb (c := 69) he
                        clear he
                        rcases HS.out with hg | hg
                        · have y1 : (bt s (t.pos + (i + 1)) == 43) = true := by rw [beq_iff_eq]; exact hg
                          clear hg
                          cases b with
                          | true =>
                            go_wp2_with fail
                            refine (ok45 s gl gf t (i) _ (hL.drewN _) hs hp (by omega)).mono ?_; rintro e w' ⟨rfl, nn, rfl⟩
                            go_wp2_with fail
                            refine (peek47 s gl gf t (i) _ (hL.drewN _) hs hlt).mono ?_; rintro e w' ⟨rfl, nn, rfl⟩
                            go_wp2_with fail
                            refine (isdigit50 _ _).mono ?_; rintro e w' ⟨rfl, rfl⟩
                            go_wp2_with fail
                            refine (is43n s gl gf t (i + 1) 43 _ (hL.drewN _) hs hp (by omega) rfl (by omega) (by omega)).mono ?_; rintro e w' ⟨rfl, nn, rfl⟩
                            go_wp2_with fail
                            refine (ok45n s gl gf t (i + 2) _ (hL.drewN _) hs hp (by omega) (by omega)).mono ?_; rintro e w' ⟨rfl, nn, rfl⟩
                            go_wp2_with fail
                            refine (peek47n s gl gf t (i + 2) _ (hL.drewN _) hs (by omega) hq).mono ?_; rintro e w' ⟨rfl, nn, rfl⟩
                            go_wp2_with fail
                            refine (isdigit50 _ _).mono ?_; rintro e w' ⟨rfl, rfl⟩
                            go_wp2_with fail
                            go_meet
                            case rel => exact ⟨i, true, _, rfl, rfl, rfl, hi, HN⟩
                          | false =>
                            go_wp2_with fail
                            refine (ok45 s gl gf t (i) _ (hL.drewN _) hs hp (by omega)).mono ?_; rintro e w' ⟨rfl, nn, rfl⟩
                            go_wp2_with fail
                            refine (peek47 s gl gf t (i) _ (hL.drewN _) hs hlt).mono ?_; rintro e w' ⟨rfl, nn, rfl⟩
                            go_wp2_with fail
                            refine (isdigit50 _ _).mono ?_; rintro e w' ⟨rfl, rfl⟩
                            go_wp2_with fail
                            refine (is43n s gl gf t (i + 1) 43 _ (hL.drewN _) hs hp (by omega) rfl (by omega) (by omega)).mono ?_; rintro e w' ⟨rfl, nn, rfl⟩
                            go_wp2_with fail
                            refine (ok45n s gl gf t (i + 2) _ (hL.drewN _) hs hp (by omega) (by omega)).mono ?_; rintro e w' ⟨rfl, nn, rfl⟩
                            go_wp2_with fail
                            refine (peek47n s gl gf t (i + 2) _ (hL.drewN _) hs (by omega) hq).mono ?_; rintro e w' ⟨rfl, nn, rfl⟩
                            go_wp2_with fail
                            refine (isdigit50 _ _).mono ?_; rintro e w' ⟨rfl, rfl⟩
                            go_wp2_with fail
                            go_meet
                            case rel => exact ⟨i, false, _, rfl, rfl, rfl, hi, HN⟩
                        · have y1 : (bt s (t.pos + (i + 1)) == 43) = false := by rw [beq_eq_false_iff_ne]; show bt s (t.pos + i + 1) ≠ 43; omega
                          have y2 : (bt s (t.pos + (i + 1)) == 45) = true := by rw [beq_iff_eq]; exact hg
                          clear hg
                          cases b with
                          | true =>
                            go_wp2_with fail
                            refine (ok45 s gl gf t (i) _ (hL.drewN _) hs hp (by omega)).mono ?_; rintro e w' ⟨rfl, nn, rfl⟩
                            go_wp2_with fail
                            refine (peek47 s gl gf t (i) _ (hL.drewN _) hs hlt).mono ?_; rintro e w' ⟨rfl, nn, rfl⟩
                            go_wp2_with fail
                            refine (isdigit50 _ _).mono ?_; rintro e w' ⟨rfl, rfl⟩
                            go_wp2_with fail
                            refine (is43n s gl gf t (i + 1) 43 _ (hL.drewN _) hs hp (by omega) rfl (by omega) (by omega)).mono ?_; rintro e w' ⟨rfl, nn, rfl⟩
                            go_wp2_with fail
                            refine (is43n s gl gf t (i + 1) 45 _ (hL.drewN _) hs hp (by omega) rfl (by omega) (by omega)).mono ?_; rintro e w' ⟨rfl, nn, rfl⟩
                            go_wp2_with fail
                            refine (ok45n s gl gf t (i + 2) _ (hL.drewN _) hs hp (by omega) (by omega)).mono ?_; rintro e w' ⟨rfl, nn, rfl⟩
                            go_wp2_with fail
                            refine (peek47n s gl gf t (i + 2) _ (hL.drewN _) hs (by omega) hq).mono ?_; rintro e w' ⟨rfl, nn, rfl⟩
                            go_wp2_with fail
                            refine (isdigit50 _ _).mono ?_; rintro e w' ⟨rfl, rfl⟩
                            go_wp2_with fail
                            go_meet
                            case rel => exact ⟨i, true, _, rfl, rfl, rfl, hi, HN⟩
                          | false =>
                            go_wp2_with fail
                            refine (ok45 s gl gf t (i) _ (hL.drewN _) hs hp (by omega)).mono ?_; rintro e w' ⟨rfl, nn, rfl⟩
                            go_wp2_with fail
                            refine (peek47 s gl gf t (i) _ (hL.drewN _) hs hlt).mono ?_; rintro e w' ⟨rfl, nn, rfl⟩
                            go_wp2_with fail
                            refine (isdigit50 _ _).mono ?_; rintro e w' ⟨rfl, rfl⟩
                            go_wp2_with fail
                            refine (is43n s gl gf t (i + 1) 43 _ (hL.drewN _) hs hp (by omega) rfl (by omega) (by omega)).mono ?_; rintro e w' ⟨rfl, nn, rfl⟩
                            go_wp2_with fail
                            refine (is43n s gl gf t (i + 1) 45 _ (hL.drewN _) hs hp (by omega) rfl (by omega) (by omega)).mono ?_; rintro e w' ⟨rfl, nn, rfl⟩
                            go_wp2_with fail
                            refine (ok45n s gl gf t (i + 2) _ (hL.drewN _) hs hp (by omega) (by omega)).mono ?_; rintro e w' ⟨rfl, nn, rfl⟩
                            go_wp2_with fail
                            refine (peek47n s gl gf t (i + 2) _ (hL.drewN _) hs (by omega) hq).mono ?_; rintro e w' ⟨rfl, nn, rfl⟩
                            go_wp2_with fail
                            refine (isdigit50 _ _).mono ?_; rintro e w' ⟨rfl, rfl⟩
                            go_wp2_with fail
                            go_meet
                            case rel => exact ⟨i, false, _, rfl, rfl, rfl, hi, HN⟩
                    · have hq1 : decide (t.pos + (i + 2) < s.size) = false := decide_eq_false (by omega)
                      rcases HE.out with he | he
                      · have x1 : ((bt s (t.pos + i) : Int) == 69) = false := nb (c := 69) (by omega)
                        have x2 : ((bt s (t.pos + i) : Int) == 101) = true := yb (c := 101) he
                        clear he
                        rcases HS.out with hg | hg
                        · have y1 : (bt s (t.pos + (i + 1)) == 43) = true := by rw [beq_iff_eq]; exact hg
                          clear hg
                          cases b with
                          | true =>
                            go_wp2_with fail
                            refine (ok45 s gl gf t (i) _ (hL.drewN _) hs hp (by omega)).mono ?_; rintro e w' ⟨rfl, nn, rfl⟩
                            go_wp2_with fail
                            refine (peek47 s gl gf t (i) _ (hL.drewN _) hs hlt).mono ?_; rintro e w' ⟨rfl, nn, rfl⟩
                            go_wp2_with fail
                            refine (isdigit50 _ _).mono ?_; rintro e w' ⟨rfl, rfl⟩
                            go_wp2_with fail
                            refine (is43n s gl gf t (i + 1) 43 _ (hL.drewN _) hs hp (by omega) rfl (by omega) (by omega)).mono ?_; rintro e w' ⟨rfl, nn, rfl⟩
                            go_wp2_with fail
                            refine (ok45n s gl gf t (i + 2) _ (hL.drewN _) hs hp (by omega) (by omega)).mono ?_; rintro e w' ⟨rfl, nn, rfl⟩
                            go_wp2_with fail
                            go_meet
                            case rel => exact ⟨i, true, _, rfl, rfl, rfl, hi, HN⟩
                          | false =>
                            go_wp2_with fail
                            refine (ok45 s gl gf t (i) _ (hL.drewN _) hs hp (by omega)).mono ?_; rintro e w' ⟨rfl, nn, rfl⟩
                            go_wp2_with fail
                            refine (peek47 s gl gf t (i) _ (hL.drewN _) hs hlt).mono ?_; rintro e w' ⟨rfl, nn, rfl⟩
                            go_wp2_with fail
                            refine (isdigit50 _ _).mono ?_; rintro e w' ⟨rfl, rfl⟩
                            go_wp2_with fail
                            refine (is43n s gl gf t (i + 1) 43 _ (hL.drewN _) hs hp (by omega) rfl (by omega) (by omega)).mono ?_; rintro e w' ⟨rfl, nn, rfl⟩
                            go_wp2_with fail
                            refine (ok45n s gl gf t (i + 2) _ (hL.drewN _) hs hp (by omega) (by omega)).mono ?_; rintro e w' ⟨rfl, nn, rfl⟩
                            go_wp2_with fail
                            go_meet
                            case rel => exact ⟨i, false, _, rfl, rfl, rfl, hi, HN⟩
                        · have y1 : (bt s (t.pos + (i + 1)) == 43) = false := by rw [beq_eq_false_iff_ne]; show bt s (t.pos + i + 1) ≠ 43; omega
                          have y2 : (bt s (t.pos + (i + 1)) == 45) = true := by rw [beq_iff_eq]; exact hg
                          clear hg
                          cases b with
                          | true =>
                            go_wp2_with fail
                            refine (ok45 s gl gf t (i) _ (hL.drewN _) hs hp (by omega)).mono ?_; rintro e w' ⟨rfl, nn, rfl⟩
                            go_wp2_with fail
                            refine (peek47 s gl gf t (i) _ (hL.drewN _) hs hlt).mono ?_; rintro e w' ⟨rfl, nn, rfl⟩
                            go_wp2_with fail
                            refine (isdigit50 _ _).mono ?_; rintro e w' ⟨rfl, rfl⟩
                            go_wp2_with fail
                            refine (is43n s gl gf t (i + 1) 43 _ (hL.drewN _) hs hp (by omega) rfl (by omega) (by omega)).mono ?_; rintro e w' ⟨rfl, nn, rfl⟩
                            go_wp2_with fail
                            refine (is43n s gl gf t (i + 1) 45 _ (hL.drewN _) hs hp (by omega) rfl (by omega) (by omega)).mono ?_; rintro e w' ⟨rfl, nn, rfl⟩
                            go_wp2_with fail
                            refine (ok45n s gl gf t (i + 2) _ (hL.drewN _) hs hp (by omega) (by omega)).mono ?_; rintro e w' ⟨rfl, nn, rfl⟩
                            go_wp2_with fail
                            go_meet
                            case rel => exact ⟨i, true, _, rfl, rfl, rfl, hi, HN⟩
                          | false =>
                            go_wp2_with fail
                            refine (ok45 s gl gf t (i) _ (hL.drewN _) hs hp (by omega)).mono ?_; rintro e w' ⟨rfl, nn, rfl⟩
                            go_wp2_with fail
                            refine (peek47 s gl gf t (i) _ (hL.drewN _) hs hlt).mono ?_; rintro e w' ⟨rfl, nn, rfl⟩
                            go_wp2_with fail
                            refine (isdigit50 _ _).mono ?_; rintro e w' ⟨rfl, rfl⟩
                            go_wp2_with fail
                            refine (is43n s gl gf t (i + 1) 43 _ (hL.drewN _) hs hp (by omega) rfl (by omega) (by omega)).mono ?_; rintro e w' ⟨rfl, nn, rfl⟩
                            go_wp2_with fail
                            refine (is43n s gl gf t (i + 1) 45 _ (hL.drewN _) hs hp (by omega) rfl (by omega) (by omega)).mono ?_; rintro e w' ⟨rfl, nn, rfl⟩
                            go_wp2_with fail
                            refine (ok45n s gl gf t (i + 2) _ (hL.drewN _) hs hp (by omega) (by omega)).mono ?_; rintro e w' ⟨rfl, nn, rfl⟩
                            go_wp2_with fail
                            go_meet
                            case rel => exact ⟨i, false, _, rfl, rfl, rfl, hi, HN⟩
                      · have x1 : ((bt s (t.pos + i) : Int) == 69) = true := yb (c := 69) he
                        clear he
                        rcases HS.out with hg | hg
                        · have y1 : (bt s (t.pos + (i + 1)) == 43) = true := by rw [beq_iff_eq]; exact hg
                          clear hg
                          cases b with
                          | true =>
                            go_wp2_with fail
                            refine (ok45 s gl gf t (i) _ (hL.drewN _) hs hp (by omega)).mono ?_; rintro e w' ⟨rfl, nn, rfl⟩
                            go_wp2_with fail
                            refine (peek47 s gl gf t (i) _ (hL.drewN _) hs hlt).mono ?_; rintro e w' ⟨rfl, nn, rfl⟩
                            go_wp2_with fail
                            refine (isdigit50 _ _).mono ?_; rintro e w' ⟨rfl, rfl⟩
                            go_wp2_with fail
                            refine (is43n s gl gf t (i + 1) 43 _ (hL.drewN _) hs hp (by omega) rfl (by omega) (by omega)).mono ?_; rintro e w' ⟨rfl, nn, rfl⟩
                            go_wp2_with fail
                            refine (ok45n s gl gf t (i + 2) _ (hL.drewN _) hs hp (by omega) (by omega)).mono ?_; rintro e w' ⟨rfl, nn, rfl⟩
                            go_wp2_with fail
                            go_meet
                            case rel => exact ⟨i, true, _, rfl, rfl, rfl, hi, HN⟩
                          | false =>
                            go_wp2_with fail
                            refine (ok45 s gl gf t (i) _ (hL.drewN _) hs hp (by omega)).mono ?_; rintro e w' ⟨rfl, nn, rfl⟩
                            go_wp2_with fail
                            refine (peek47 s gl gf t (i) _ (hL.drewN _) hs hlt).mono ?_; rintro e w' ⟨rfl, nn, rfl⟩
                            go_wp2_with fail
                            refine (isdigit50 _ _).mono ?_; rintro e w' ⟨rfl, rfl⟩
                            go_wp2_with fail
                            refine (is43n s gl gf t (i + 1) 43 _ (hL.drewN _) hs hp (by omega) rfl (by omega) (by omega)).mono ?_; rintro e w' ⟨rfl, nn, rfl⟩
                            go_wp2_with fail
                            refine (ok45n s gl gf t (i + 2) _ (hL.drewN _) hs hp (by omega) (by omega)).mono ?_; rintro e w' ⟨rfl, nn, rfl⟩
                            go_wp2_with fail
                            go_meet
                            case rel => exact ⟨i, false, _, rfl, rfl, rfl, hi, HN⟩
                        · have y1 : (bt s (t.pos + (i + 1)) == 43) = false := by rw [beq_eq_false_iff_ne]; show bt s (t.pos + i + 1) ≠ 43; omega
                          have y2 : (bt s (t.pos + (i + 1)) == 45) = true := by rw [beq_iff_eq]; exact hg
                          clear hg
                          cases b with
                          | true =>
                            go_wp2_with fail
                            refine (ok45 s gl gf t (i) _ (hL.drewN _) hs hp (by omega)).mono ?_; rintro e w' ⟨rfl, nn, rfl⟩
                            go_wp2_with fail
                            refine (peek47 s gl gf t (i) _ (hL.drewN _) hs hlt).mono ?_; rintro e w' ⟨rfl, nn, rfl⟩
                            go_wp2_with fail
                            refine (isdigit50 _ _).mono ?_; rintro e w' ⟨rfl, rfl⟩
                            go_wp2_with fail
                            refine (is43n s gl gf t (i + 1) 43 _ (hL.drewN _) hs hp (by omega) rfl (by omega) (by omega)).mono ?_; rintro e w' ⟨rfl, nn, rfl⟩
                            go_wp2_with fail
                            refine (is43n s gl gf t (i + 1) 45 _ (hL.drewN _) hs hp (by omega) rfl (by omega) (by omega)).mono ?_; rintro e w' ⟨rfl, nn, rfl⟩
                            go_wp2_with fail
                            refine (ok45n s gl gf t (i + 2) _ (hL.drewN _) hs hp (by omega) (by omega)).mono ?_; rintro e w' ⟨rfl, nn, rfl⟩
                            go_wp2_with fail
                            go_meet
                            case rel => exact ⟨i, true, _, rfl, rfl, rfl, hi, HN⟩
                          | false =>
                            go_wp2_with fail
                            refine (ok45 s gl gf t (i) _ (hL.drewN _) hs hp (by omega)).mono ?_; rintro e w' ⟨rfl, nn, rfl⟩
                            go_wp2_with fail
                            refine (peek47 s gl gf t (i) _ (hL.drewN _) hs hlt).mono ?_; rintro e w' ⟨rfl, nn, rfl⟩
                            go_wp2_with fail
                            refine (isdigit50 _ _).mono ?_; rintro e w' ⟨rfl, rfl⟩
                            go_wp2_with fail
                            refine (is43n s gl gf t (i + 1) 43 _ (hL.drewN _) hs hp (by omega) rfl (by omega) (by omega)).mono ?_; rintro e w' ⟨rfl, nn, rfl⟩
                            go_wp2_with fail
                            refine (is43n s gl gf t (i + 1) 45 _ (hL.drewN _) hs hp (by omega) rfl (by omega) (by omega)).mono ?_; rintro e w' ⟨rfl, nn, rfl⟩
                            go_wp2_with fail
                            refine (ok45n s gl gf t (i + 2) _ (hL.drewN _) hs hp (by omega) (by omega)).mono ?_; rintro e w' ⟨rfl, nn, rfl⟩
                            go_wp2_with fail
                            go_meet
                            case rel => exact ⟨i, false, _, rfl, rfl, rfl, hi, HN⟩
                · have HS := Lib.hid hsg
                  clear hsg
                  by_cases hdq : digB (bt s (t.pos + (i + 1))) = true
                  · have hq : t.pos + (i + 1) < s.size := lt_of_bt (by intro h; rw [h] at hdq; exact absurd hdq (by decide))
                    have hq1 : decide (t.pos + (i + 1) < s.size) = true := decide_eq_true hq
                    have HN : Hid (intP s t.pos = numF s (t.pos + (i + 1)) false true) := by
                      show intP s t.pos = numF s (t.pos + (i + 1)) false true
                      have hdq4 : digB (bt s (t.pos + i + 1)) = true := hdq
                      rw [HNX.out]; unfold expoP numF; rw [if_pos HE.out, if_neg HS.out, if_pos hdq4, if_pos rfl]; rfl
                    rcases HE.out with he | he
                    · have x1 : ((bt s (t.pos + i) : Int) == 69) = false := nb (c := 69) (by omega)
                      have x2 : ((bt s (t.pos + i) : Int) == 101) = true := yb (c := 101) he
                      clear he
                      have y1 : (bt s (t.pos + (i + 1)) == 43) = false := by rw [beq_eq_false_iff_ne]; exact fun h => HS.out (Or.inl h)
                      have y2 : (bt s (t.pos + (i + 1)) == 45) = false := by rw [beq_eq_false_iff_ne]; exact fun h => HS.out (Or.inr h)
                      cases b with
                      | true =>
                        go_wp2_with fail
                        refine (ok45 s gl gf t (i) _ (hL.drewN _) hs hp (by omega)).mono ?_; rintro e w' ⟨rfl, nn, rfl⟩
                        go_wp2_with fail
                        refine (peek47 s gl gf t (i) _ (hL.drewN _) hs hlt).mono ?_; rintro e w' ⟨rfl, nn, rfl⟩
                        go_wp2_with fail
                        refine (isdigit50 _ _).mono ?_; rintro e w' ⟨rfl, rfl⟩
                        go_wp2_with fail
                        refine (is43n s gl gf t (i + 1) 43 _ (hL.drewN _) hs hp (by omega) rfl (by omega) (by omega)).mono ?_; rintro e w' ⟨rfl, nn, rfl⟩
                        go_wp2_with fail
                        refine (is43n s gl gf t (i + 1) 45 _ (hL.drewN _) hs hp (by omega) rfl (by omega) (by omega)).mono ?_; rintro e w' ⟨rfl, nn, rfl⟩
                        go_wp2_with fail
                        refine (ok45n s gl gf t (i + 1) _ (hL.drewN _) hs hp (by omega) (by omega)).mono ?_; rintro e w' ⟨rfl, nn, rfl⟩
                        go_wp2_with fail
                        refine (peek47n s gl gf t (i + 1) _ (hL.drewN _) hs (by omega) hq).mono ?_; rintro e w' ⟨rfl, nn, rfl⟩
                        go_wp2_with fail
                        refine (isdigit50 _ _).mono ?_; rintro e w' ⟨rfl, rfl⟩
                        go_wp2_with fail
                        go_roundw
                        case rel => exact ⟨i + 1, false, true, _, by go_num, rfl, rfl, rfl, by omega, by simp, HN⟩
                        case measure => simp [intOf]; omega
                      | false =>
                        go_wp2_with fail
                        refine (ok45 s gl gf t (i) _ (hL.drewN _) hs hp (by omega)).mono ?_; rintro e w' ⟨rfl, nn, rfl⟩
                        go_wp2_with fail
                        refine (peek47 s gl gf t (i) _ (hL.drewN _) hs hlt).mono ?_; rintro e w' ⟨rfl, nn, rfl⟩
                        go_wp2_with fail
                        refine (isdigit50 _ _).mono ?_; rintro e w' ⟨rfl, rfl⟩
                        go_wp2_with fail
                        refine (is43n s gl gf t (i + 1) 43 _ (hL.drewN _) hs hp (by omega) rfl (by omega) (by omega)).mono ?_; rintro e w' ⟨rfl, nn, rfl⟩
                        go_wp2_with fail
                        refine (is43n s gl gf t (i + 1) 45 _ (hL.drewN _) hs hp (by omega) rfl (by omega) (by omega)).mono ?_; rintro e w' ⟨rfl, nn, rfl⟩
                        go_wp2_with fail
                        refine (ok45n s gl gf t (i + 1) _ (hL.drewN _) hs hp (by omega) (by omega)).mono ?_; rintro e w' ⟨rfl, nn, rfl⟩
                        go_wp2_with fail
                        refine (peek47n s gl gf t (i + 1) _ (hL.drewN _) hs (by omega) hq).mono ?_; rintro e w' ⟨rfl, nn, rfl⟩
                        go_wp2_with fail
                        refine (isdigit50 _ _).mono ?_; rintro e w' ⟨rfl, rfl⟩
                        go_wp2_with fail
                        go_roundw
                        case rel => exact ⟨i + 1, false, true, _, by go_num, rfl, rfl, rfl, by omega, by simp, HN⟩
                        case measure => simp [intOf]; omega
                    · have x1 : ((bt s (t.pos + i) : Int) == 69) = true := yb (c := 69) he
                      clear he
                      have y1 : (bt s (t.pos + (i + 1)) == 43) = false := by rw [beq_eq_false_iff_ne]; exact fun h => HS.out (Or.inl h)
                      have y2 : (bt s (t.pos + (i + 1)) == 45) = false := by rw [beq_eq_false_iff_ne]; exact fun h => HS.out (Or.inr h)
                      cases b with
                      | true =>
                        go_wp2_with fail
                        refine (ok45 s gl gf t (i) _ (hL.drewN _) hs hp (by omega)).mono ?_; rintro e w' ⟨rfl, nn, rfl⟩
                        go_wp2_with fail
                        refine (peek47 s gl gf t (i) _ (hL.drewN _) hs hlt).mono ?_; rintro e w' ⟨rfl, nn, rfl⟩
                        go_wp2_with fail
                        refine (isdigit50 _ _).mono ?_; rintro e w' ⟨rfl, rfl⟩
                        go_wp2_with fail
                        refine (is43n s gl gf t (i + 1) 43 _ (hL.drewN _) hs hp (by omega) rfl (by omega) (by omega)).mono ?_; rintro e w' ⟨rfl, nn, rfl⟩
                        go_wp2_with fail
                        refine (is43n s gl gf t (i + 1) 45 _ (hL.drewN _) hs hp (by omega) rfl (by omega) (by omega)).mono ?_; rintro e w' ⟨rfl, nn, rfl⟩
                        go_wp2_with fail
                        refine (ok45n s gl gf t (i + 1) _ (hL.drewN _) hs hp (by omega) (by omega)).mono ?_; rintro e w' ⟨rfl, nn, rfl⟩
                        go_wp2_with fail
                        refine (peek47n s gl gf t (i + 1) _ (hL.drewN _) hs (by omega) hq).mono ?_; rintro e w' ⟨rfl, nn, rfl⟩
                        go_wp2_with fail
                        refine (isdigit50 _ _).mono ?_; rintro e w' ⟨rfl, rfl⟩
                        go_wp2_with fail
                        go_roundw
                        case rel => exact ⟨i + 1, false, true, _, by go_num, rfl, rfl, rfl, by omega, by simp, HN⟩
                        case measure => simp [intOf]; omega
                      | false =>
                        go_wp2_with fail
                        refine (ok45 s gl gf t (i) _ (hL.drewN _) hs hp (by omega)).mono ?_; rintro e w' ⟨rfl, nn, rfl⟩
                        go_wp2_with fail
                        refine (peek47 s gl gf t (i) _ (hL.drewN _) hs hlt).mono ?_; rintro e w' ⟨rfl, nn, rfl⟩
                        go_wp2_with fail
                        refine (isdigit50 _ _).mono ?_; rintro e w' ⟨rfl, rfl⟩
                        go_wp2_with fail
                        refine (is43n s gl gf t (i + 1) 43 _ (hL.drewN _) hs hp (by omega) rfl (by omega) (by omega)).mono ?_; rintro e w' ⟨rfl, nn, rfl⟩
                        go_wp2_with fail
                        refine (is43n s gl gf t (i + 1) 45 _ (hL.drewN _) hs hp (by omega) rfl (by omega) (by omega)).mono ?_; rintro e w' ⟨rfl, nn, rfl⟩
                        go_wp2_with fail
                        refine (ok45n s gl gf t (i + 1) _ (hL.drewN _) hs hp (by omega) (by omega)).mono ?_; rintro e w' ⟨rfl, nn, rfl⟩
                        go_wp2_with fail
                        refine (peek47n s gl gf t (i + 1) _ (hL.drewN _) hs (by omega) hq).mono ?_; rintro e w' ⟨rfl, nn, rfl⟩
                        go_wp2_with fail
                        refine (isdigit50 _ _).mono ?_; rintro e w' ⟨rfl, rfl⟩
                        go_wp2_with fail
                        go_roundw
                        case rel => exact ⟨i + 1, false, true, _, by go_num, rfl, rfl, rfl, by omega, by simp, HN⟩
                        case measure => simp [intOf]; omega
                  · have hdq2 : digB (bt s (t.pos + (i + 1))) = false := by simpa using hdq
                    have HN : Hid (intP s t.pos = (t.pos + i, b)) := by
                      show intP s t.pos = (t.pos + i, b)
                      have hdq4 : ¬ digB (bt s (t.pos + i + 1)) = true := hdq
                      rw [HNX.out]; unfold expoP; rw [if_pos HE.out, if_neg HS.out, if_neg hdq4]
                    clear hdq
                    by_cases hq : t.pos + (i + 1) < s.size
                    · have hq1 : decide (t.pos + (i + 1) < s.size) = true := decide_eq_true (by omega)
                      rcases HE.out with he | he
                      · have x1 : ((bt s (t.pos + i) : Int) == 69) = false := nb (c := 69) (by omega)
                        have x2 : ((bt s (t.pos + i) : Int) == 101) = true := yb (c := 101) he
                        clear he
                        have y1 : (bt s (t.pos + (i + 1)) == 43) = false := by rw [beq_eq_false_iff_ne]; exact fun h => HS.out (Or.inl h)
                        have y2 : (bt s (t.pos + (i + 1)) == 45) = false := by rw [beq_eq_false_iff_ne]; exact fun h => HS.out (Or.inr h)
                        cases b with
                        | true =>
                          go_wp2_with fail
                          refine (ok45 s gl gf t (i) _ (hL.drewN _) hs hp (by omega)).mono ?_; rintro e w' ⟨rfl, nn, rfl⟩
                          go_wp2_with fail
                          refine (peek47 s gl gf t (i) _ (hL.drewN _) hs hlt).mono ?_; rintro e w' ⟨rfl, nn, rfl⟩
                          go_wp2_with fail
                          refine (isdigit50 _ _).mono ?_; rintro e w' ⟨rfl, rfl⟩
                          go_wp2_with fail
                          refine (is43n s gl gf t (i + 1) 43 _ (hL.drewN _) hs hp (by omega) rfl (by omega) (by omega)).mono ?_; rintro e w' ⟨rfl, nn, rfl⟩
                          go_wp2_with fail
                          refine (is43n s gl gf t (i + 1) 45 _ (hL.drewN _) hs hp (by omega) rfl (by omega) (by omega)).mono ?_; rintro e w' ⟨rfl, nn, rfl⟩
                          go_wp2_with fail
                          refine (ok45n s gl gf t (i + 1) _ (hL.drewN _) hs hp (by omega) (by omega)).mono ?_; rintro e w' ⟨rfl, nn, rfl⟩
                          go_wp2_with fail
                          refine (peek47n s gl gf t (i + 1) _ (hL.drewN _) hs (by omega) hq).mono ?_; rintro e w' ⟨rfl, nn, rfl⟩
                          go_wp2_with fail
                          refine (isdigit50 _ _).mono ?_; rintro e w' ⟨rfl, rfl⟩
                          go_wp2_with fail
                          go_meet
                          case rel => exact ⟨i, true, _, rfl, rfl, rfl, hi, HN⟩
                        | false =>
                          go_wp2_with fail
                          refine (ok45 s gl gf t (i) _ (hL.drewN _) hs hp (by omega)).mono ?_; rintro e w' ⟨rfl, nn, rfl⟩
                          go_wp2_with fail
                          refine (peek47 s gl gf t (i) _ (hL.drewN _) hs hlt).mono ?_; rintro e w' ⟨rfl, nn, rfl⟩
                          go_wp2_with fail
                          refine (isdigit50 _ _).mono ?_; rintro e w' ⟨rfl, rfl⟩
                          go_wp2_with fail
                          refine (is43n s gl gf t (i + 1) 43 _ (hL.drewN _) hs hp (by omega) rfl (by omega) (by omega)).mono ?_; rintro e w' ⟨rfl, nn, rfl⟩
                          go_wp2_with fail
                          refine (is43n s gl gf t (i + 1) 45 _ (hL.drewN _) hs hp (by omega) rfl (by omega) (by omega)).mono ?_; rintro e w' ⟨rfl, nn, rfl⟩
                          go_wp2_with fail
                          refine (ok45n s gl gf t (i + 1) _ (hL.drewN _) hs hp (by omega) (by omega)).mono ?_; rintro e w' ⟨rfl, nn, rfl⟩
                          go_wp2_with fail
                          refine (peek47n s gl gf t (i + 1) _ (hL.drewN _) hs (by omega) hq).mono ?_; rintro e w' ⟨rfl, nn, rfl⟩
                          go_wp2_with fail
                          refine (isdigit50 _ _).mono ?_; rintro e w' ⟨rfl, rfl⟩
                          go_wp2_with fail
                          go_meet
                          case rel => exact ⟨i, false, _, rfl, rfl, rfl, hi, HN⟩
                      · have x1 : ((bt s (t.pos + i) : Int) == 69) = true := yb (c := 69) he
                        clear he
                        have y1 : (bt s (t.pos + (i + 1)) == 43) = false := by rw [beq_eq_false_iff_ne]; exact fun h => HS.out (Or.inl h)
                        have y2 : (bt s (t.pos + (i + 1)) == 45) = false := by rw [beq_eq_false_iff_ne]; exact fun h => HS.out (Or.inr h)
                        cases b with
                        | true =>
                          go_wp2_with fail
                          refine (ok45 s gl gf t (i) _ (hL.drewN _) hs hp (by omega)).mono ?_; rintro e w' ⟨rfl, nn, rfl⟩
                          go_wp2_with fail
                          refine (peek47 s gl gf t (i) _ (hL.drewN _) hs hlt).mono ?_; rintro e w' ⟨rfl, nn, rfl⟩
                          go_wp2_with fail
                          refine (isdigit50 _ _).mono ?_; rintro e w' ⟨rfl, rfl⟩
                          go_wp2_with fail
                          refine (is43n s gl gf t (i + 1) 43 _ (hL.drewN _) hs hp (by omega) rfl (by omega) (by omega)).mono ?_; rintro e w' ⟨rfl, nn, rfl⟩
                          go_wp2_with fail
                          refine (is43n s gl gf t (i + 1) 45 _ (hL.drewN _) hs hp (by omega) rfl (by omega) (by omega)).mono ?_; rintro e w' ⟨rfl, nn, rfl⟩
                          go_wp2_with fail
                          refine (ok45n s gl gf t (i + 1) _ (hL.drewN _) hs hp (by omega) (by omega)).mono ?_; rintro e w' ⟨rfl, nn, rfl⟩
                          go_wp2_with fail
                          refine (peek47n s gl gf t (i + 1) _ (hL.drewN _) hs (by omega) hq).mono ?_; rintro e w' ⟨rfl, nn, rfl⟩
                          go_wp2_with fail
                          refine (isdigit50 _ _).mono ?_; rintro e w' ⟨rfl, rfl⟩
                          go_wp2_with fail
                          go_meet
                          case rel => exact ⟨i, true, _, rfl, rfl, rfl, hi, HN⟩
                        | false =>
                          go_wp2_with fail
                          refine (ok45 s gl gf t (i) _ (hL.drewN _) hs hp (by omega)).mono ?_; rintro e w' ⟨rfl, nn, rfl⟩
                          go_wp2_with fail
                          refine (peek47 s gl gf t (i) _ (hL.drewN _) hs hlt).mono ?_; rintro e w' ⟨rfl, nn, rfl⟩
                          go_wp2_with fail
                          refine (isdigit50 _ _).mono ?_; rintro e w' ⟨rfl, rfl⟩
                          go_wp2_with fail
                          refine (is43n s gl gf t (i + 1) 43 _ (hL.drewN _) hs hp (by omega) rfl (by omega) (by omega)).mono ?_; rintro e w' ⟨rfl, nn, rfl⟩
                          go_wp2_with fail
                          refine (is43n s gl gf t (i + 1) 45 _ (hL.drewN _) hs hp (by omega) rfl (by omega) (by omega)).mono ?_; rintro e w' ⟨rfl, nn, rfl⟩
                          go_wp2_with fail
                          refine (ok45n s gl gf t (i + 1) _ (hL.drewN _) hs hp (by omega) (by omega)).mono ?_; rintro e w' ⟨rfl, nn, rfl⟩
                          go_wp2_with fail
                          refine (peek47n s gl gf t (i + 1) _ (hL.drewN _) hs (by omega) hq).mono ?_; rintro e w' ⟨rfl, nn, rfl⟩
                          go_wp2_with fail
                          refine (isdigit50 _ _).mono ?_; rintro e w' ⟨rfl, rfl⟩
                          go_wp2_with fail
                          go_meet
                          case rel => exact ⟨i, false, _, rfl, rfl, rfl, hi, HN⟩
                    · have hq1 : decide (t.pos + (i + 1) < s.size) = false := decide_eq_false (by omega)
                      rcases HE.out with he | he
                      · have x1 : ((bt s (t.pos + i) : Int) == 69) = false := nb (c := 69) (by omega)
                        have x2 : ((bt s (t.pos + i) : Int) == 101) = true := yb (c := 101) he
                        clear he
                        have y1 : (bt s (t.pos + (i + 1)) == 43) = false := by rw [beq_eq_false_iff_ne]; exact fun h => HS.out (Or.inl h)
                        have y2 : (bt s (t.pos + (i + 1)) == 45) = false := by rw [beq_eq_false_iff_ne]; exact fun h => HS.out (Or.inr h)
                        cases b with
                        | true =>
                          go_wp2_with fail
                          refine (ok45 s gl gf t (i) _ (hL.drewN _) hs hp (by omega)).mono ?_; rintro e w' ⟨rfl, nn, rfl⟩
                          go_wp2_with fail
                          refine (peek47 s gl gf t (i) _ (hL.drewN _) hs hlt).mono ?_; rintro e w' ⟨rfl, nn, rfl⟩
                          go_wp2_with fail
                          refine (isdigit50 _ _).mono ?_; rintro e w' ⟨rfl, rfl⟩
                          go_wp2_with fail
                          refine (is43n s gl gf t (i + 1) 43 _ (hL.drewN _) hs hp (by omega) rfl (by omega) (by omega)).mono ?_; rintro e w' ⟨rfl, nn, rfl⟩
                          go_wp2_with fail
                          refine (is43n s gl gf t (i + 1) 45 _ (hL.drewN _) hs hp (by omega) rfl (by omega) (by omega)).mono ?_; rintro e w' ⟨rfl, nn, rfl⟩
                          go_wp2_with fail
                          refine (ok45n s gl gf t (i + 1) _ (hL.drewN _) hs hp (by omega) (by omega)).mono ?_; rintro e w' ⟨rfl, nn, rfl⟩
                          go_wp2_with fail
                          go_meet
                          case rel => exact ⟨i, true, _, rfl, rfl, rfl, hi, HN⟩
                        | false =>
                          go_wp2_with fail
                          refine (ok45 s gl gf t (i) _ (hL.drewN _) hs hp (by omega)).mono ?_; rintro e w' ⟨rfl, nn, rfl⟩
                          go_wp2_with fail
                          refine (peek47 s gl gf t (i) _ (hL.drewN _) hs hlt).mono ?_; rintro e w' ⟨rfl, nn, rfl⟩
                          go_wp2_with fail
                          refine (isdigit50 _ _).mono ?_; rintro e w' ⟨rfl, rfl⟩
                          go_wp2_with fail
                          refine (is43n s gl gf t (i + 1) 43 _ (hL.drewN _) hs hp (by omega) rfl (by omega) (by omega)).mono ?_; rintro e w' ⟨rfl, nn, rfl⟩
                          go_wp2_with fail
                          refine (is43n s gl gf t (i + 1) 45 _ (hL.drewN _) hs hp (by omega) rfl (by omega) (by omega)).mono ?_; rintro e w' ⟨rfl, nn, rfl⟩
                          go_wp2_with fail
                          refine (ok45n s gl gf t (i + 1) _ (hL.drewN _) hs hp (by omega) (by omega)).mono ?_; rintro e w' ⟨rfl, nn, rfl⟩
                          go_wp2_with fail
                          go_meet
                          case rel => exact ⟨i, false, _, rfl, rfl, rfl, hi, HN⟩
                      · have x1 : ((bt s (t.pos + i) : Int) == 69) = true := yb (c := 69) he
                        clear he
                        have y1 : (bt s (t.pos + (i + 1)) == 43) = false := by rw [beq_eq_false_iff_ne]; exact fun h => HS.out (Or.inl h)
                        have y2 : (bt s (t.pos + (i + 1)) == 45) = false := by rw [beq_eq_false_iff_ne]; exact fun h => HS.out (Or.inr h)
                        cases b with
                        | true =>
                          go_wp2_with fail
                          refine (ok45 s gl gf t (i) _ (hL.drewN _) hs hp (by omega)).mono ?_; rintro e w' ⟨rfl, nn, rfl⟩
                          go_wp2_with fail
                          refine (peek47 s gl gf t (i) _ (hL.drewN _) hs hlt).mono ?_; rintro e w' ⟨rfl, nn, rfl⟩
                          go_wp2_with fail
                          refine (isdigit50 _ _).mono ?_; rintro e w' ⟨rfl, rfl⟩
                          go_wp2_with fail
                          refine (is43n s gl gf t (i + 1) 43 _ (hL.drewN _) hs hp (by omega) rfl (by omega) (by omega)).mono ?_; rintro e w' ⟨rfl, nn, rfl⟩
                          go_wp2_with fail
                          refine (is43n s gl gf t (i + 1) 45 _ (hL.drewN _) hs hp (by omega) rfl (by omega) (by omega)).mono ?_; rintro e w' ⟨rfl, nn, rfl⟩
                          go_wp2_with fail
                          refine (ok45n s gl gf t (i + 1) _ (hL.drewN _) hs hp (by omega) (by omega)).mono ?_; rintro e w' ⟨rfl, nn, rfl⟩
                          go_wp2_with fail
                          go_meet
                          case rel => exact ⟨i, true, _, rfl, rfl, rfl, hi, HN⟩
                        | false =>
                          go_wp2_with fail
                          refine (ok45 s gl gf t (i) _ (hL.drewN _) hs hp (by omega)).mono ?_; rintro e w' ⟨rfl, nn, rfl⟩
                          go_wp2_with fail
                          refine (peek47 s gl gf t (i) _ (hL.drewN _) hs hlt).mono ?_; rintro e w' ⟨rfl, nn, rfl⟩
                          go_wp2_with fail
                          refine (isdigit50 _ _).mono ?_; rintro e w' ⟨rfl, rfl⟩
                          go_wp2_with fail
                          refine (is43n s gl gf t (i + 1) 43 _ (hL.drewN _) hs hp (by omega) rfl (by omega) (by omega)).mono ?_; rintro e w' ⟨rfl, nn, rfl⟩
                          go_wp2_with fail
                          refine (is43n s gl gf t (i + 1) 45 _ (hL.drewN _) hs hp (by omega) rfl (by omega) (by omega)).mono ?_; rintro e w' ⟨rfl, nn, rfl⟩
                          go_wp2_with fail
                          refine (ok45n s gl gf t (i + 1) _ (hL.drewN _) hs hp (by omega) (by omega)).mono ?_; rintro e w' ⟨rfl, nn, rfl⟩
                          go_wp2_with fail
                          go_meet
                          case rel => exact ⟨i, false, _, rfl, rfl, rfl, hi, HN⟩
              · have HN : Hid (intP s t.pos = (t.pos + i, b)) := by
                  show intP s t.pos = (t.pos + i, b)
                  rw [hrn.out]; exact numF_stop HX.out hdg2 (or3 HD.out) (Or.inr hex)
                have x1 : ((bt s (t.pos + i) : Int) == 69) = false := nb (c := 69) (fun h => hex (Or.inr h))
                have x2 : ((bt s (t.pos + i) : Int) == 101) = false := nb (c := 101) (fun h => hex (Or.inl h))
                clear hex
                cases b with
                | true =>
                  have d1 : ((bt s (t.pos + i) : Int) == 46) = false := nb (c := 46) (fun h => HD.out ⟨rfl, h⟩)
                  go_wp2_with fail
                  refine (ok45 s gl gf t (i) _ (hL.drewN _) hs hp (by omega)).mono ?_; rintro e w' ⟨rfl, nn, rfl⟩
                  go_wp2_with fail
                  refine (peek47 s gl gf t (i) _ (hL.drewN _) hs hlt).mono ?_; rintro e w' ⟨rfl, nn, rfl⟩
                  go_wp2_with fail
                  refine (isdigit50 _ _).mono ?_; rintro e w' ⟨rfl, rfl⟩
                  go_wp2_with fail
                  go_meet
                  case rel => exact ⟨i, true, _, rfl, rfl, rfl, hi, HN⟩
                | false =>
                  go_wp2_with fail
                  refine (ok45 s gl gf t (i) _ (hL.drewN _) hs hp (by omega)).mono ?_; rintro e w' ⟨rfl, nn, rfl⟩
                  go_wp2_with fail
                  refine (peek47 s gl gf t (i) _ (hL.drewN _) hs hlt).mono ?_; rintro e w' ⟨rfl, nn, rfl⟩
                  go_wp2_with fail
                  refine (isdigit50 _ _).mono ?_; rintro e w' ⟨rfl, rfl⟩
                  go_wp2_with fail
                  go_meet
                  case rel => exact ⟨i, false, _, rfl, rfl, rfl, hi, HN⟩
      · have hd0 : decide (t.pos + i < s.size) = false := decide_eq_false hlt
        have HN : Hid (intP s t.pos = (t.pos + i, b)) := by
          show intP s t.pos = (t.pos + i, b)
          rw [hrn.out]; exact numF_end HX.out (by omega)
        have hm : 2147483647 ≥ i := by omega
        go_wp2_with fail
        refine (ok45 s gl gf t (i) _ (hL.drewN _) hs hp (by omega)).mono ?_; rintro e w' ⟨rfl, nn, rfl⟩
        go_wp2_with fail
        go_meet
        case rel => exact ⟨i, b, _, rfl, rfl, rfl, hi, HN⟩
  case rest =>
    obtain ⟨i, b, n, rfl, rfl, rfl, hi, hI⟩ := hcut
    have hm : 2147483647 ≥ i := by omega
    have HE : Hid (numP s t.pos = (t.pos + i, if b = true then kInt else kFloat, if b = true then 10 else 0)) := by
      show numP s t.pos = _
      unfold numP
      rw [if_neg H0.out, hI.out]
      cases b <;> rfl
    have hX1 := (hL.drewN n).pos (t.pos + i)
    have k1 := (hL.drewN n).c1
    have k6 := (hL.drewN n).c6
    have f1 := (hL.drewN n).fr 1
    have f6 := (hL.drewN n).fr 6
    cases b with
    | true =>
      have hX2 := (hX1.kind kInt).base 10
      by_cases hpar : parB (bt s (t.pos + i)) = true
      · have hlt : t.pos + i < s.size := lt_of_bt (by intro h; rw [h] at hpar; exact absurd hpar (by decide))
        have hd0 : decide (t.pos + i < s.size) = true := decide_eq_true hlt
        go_wp2_with fail
        refine (skipN42 s gl gf t i _ (hL.drewN _) hs hi).mono ?_; rintro e w' ⟨rfl, rfl⟩
        go_wp2_with fail
        refine (ok45n s gl gf _ 0 _ hX2 hs hi rfl (by omega)).mono ?_; rintro e w' ⟨rfl, nn, rfl⟩
        go_wp2_with fail
        refine (peek47n s gl gf _ 0 _ (hX2.drewN _) hs rfl hlt).mono ?_; rintro e w' ⟨rfl, nn, rfl⟩
        go_wp2_with fail
        refine (part46 _ _).mono ?_; rintro e w' ⟨rfl, rfl⟩
        go_wp2_with fail
        refine (panic69 s gl gf _ _ _ hP (hX2.drewN _) hi).mono ?_; rintro e w' ⟨pe, pp, m, cs, n4, rfl, q⟩
        go_wp2_with fail
        exact ⟨rfl, Or.inl ⟨by rw [HE.out]; exact hpar, Fault.after ⟨pe, pp, m, cs, n4, rfl, q⟩ (Fr2.of (fr_drewN (fr_set (fr_set (fr_set (fr_drewN (fr_refl w (some gl)) n) 9 _) 1 _) 6 _) _))⟩⟩
      · have hpar2 : parB (bt s (t.pos + i)) = false := by simpa using hpar
        clear hpar
        by_cases hlt : t.pos + i < s.size
        · have hd0 : decide (t.pos + i < s.size) = true := decide_eq_true hlt
          go_wp2_with fail
          refine (skipN42 s gl gf t i _ (hL.drewN _) hs hi).mono ?_; rintro e w' ⟨rfl, rfl⟩
          go_wp2_with fail
          refine (ok45n s gl gf _ 0 _ hX2 hs hi rfl (by omega)).mono ?_; rintro e w' ⟨rfl, nn, rfl⟩
          go_wp2_with fail
          refine (peek47n s gl gf _ 0 _ (hX2.drewN _) hs rfl hlt).mono ?_; rintro e w' ⟨rfl, nn, rfl⟩
          go_wp2_with fail
          refine (part46 _ _).mono ?_; rintro e w' ⟨rfl, rfl⟩
          go_wp2_with fail
          refine bodyPost_ret (results_none rfl _ _ _) rfl (Or.inr ⟨by rw [HE.out]; exact hpar2, rfl, ?_, fr_drewN (fr_set (fr_set (fr_set (fr_drewN (fr_refl w (some gl)) n) 9 _) 1 _) 6 _) _⟩)
          rw [HE.out]; exact hX2.drewN _
        · have hd0 : decide (t.pos + i < s.size) = false := decide_eq_false hlt
          go_wp2_with fail
          refine (skipN42 s gl gf t i _ (hL.drewN _) hs hi).mono ?_; rintro e w' ⟨rfl, rfl⟩
          go_wp2_with fail
          refine (ok45n s gl gf _ 0 _ hX2 hs hi rfl (by omega)).mono ?_; rintro e w' ⟨rfl, nn, rfl⟩
          go_wp2_with fail
          refine bodyPost_ret (results_none rfl _ _ _) rfl (Or.inr ⟨by rw [HE.out]; exact hpar2, rfl, ?_, fr_drewN (fr_set (fr_set (fr_set (fr_drewN (fr_refl w (some gl)) n) 9 _) 1 _) 6 _) _⟩)
          rw [HE.out]; exact hX2.drewN _
    | false =>
      have hX2 := (hX1.kind kFloat).base0 hb0
      by_cases hpar : parB (bt s (t.pos + i)) = true
      · have hlt : t.pos + i < s.size := lt_of_bt (by intro h; rw [h] at hpar; exact absurd hpar (by decide))
        have hd0 : decide (t.pos + i < s.size) = true := decide_eq_true hlt
        go_wp2_with fail
        refine (skipN42 s gl gf t i _ (hL.drewN _) hs hi).mono ?_; rintro e w' ⟨rfl, rfl⟩
        go_wp2_with fail
        refine (ok45n s gl gf _ 0 _ hX2 hs hi rfl (by omega)).mono ?_; rintro e w' ⟨rfl, nn, rfl⟩
        go_wp2_with fail
        refine (peek47n s gl gf _ 0 _ (hX2.drewN _) hs rfl hlt).mono ?_; rintro e w' ⟨rfl, nn, rfl⟩
        go_wp2_with fail
        refine (part46 _ _).mono ?_; rintro e w' ⟨rfl, rfl⟩
        go_wp2_with fail
        refine (panic69 s gl gf _ _ _ hP (hX2.drewN _) hi).mono ?_; rintro e w' ⟨pe, pp, m, cs, n4, rfl, q⟩
        go_wp2_with fail
        exact ⟨rfl, Or.inl ⟨by rw [HE.out]; exact hpar, Fault.after ⟨pe, pp, m, cs, n4, rfl, q⟩ (Fr2.of (fr_drewN (fr_set (fr_set (fr_drewN (fr_refl w (some gl)) n) 9 _) 1 _) _))⟩⟩
      · have hpar2 : parB (bt s (t.pos + i)) = false := by simpa using hpar
        clear hpar
        by_cases hlt : t.pos + i < s.size
        · have hd0 : decide (t.pos + i < s.size) = true := decide_eq_true hlt
          go_wp2_with fail
          refine (skipN42 s gl gf t i _ (hL.drewN _) hs hi).mono ?_; rintro e w' ⟨rfl, rfl⟩
          go_wp2_with fail
          refine (ok45n s gl gf _ 0 _ hX2 hs hi rfl (by omega)).mono ?_; rintro e w' ⟨rfl, nn, rfl⟩
          go_wp2_with fail
          refine (peek47n s gl gf _ 0 _ (hX2.drewN _) hs rfl hlt).mono ?_; rintro e w' ⟨rfl, nn, rfl⟩
          go_wp2_with fail
          refine (part46 _ _).mono ?_; rintro e w' ⟨rfl, rfl⟩
          go_wp2_with fail
          refine bodyPost_ret (results_none rfl _ _ _) rfl (Or.inr ⟨by rw [HE.out]; exact hpar2, rfl, ?_, fr_drewN (fr_set (fr_set (fr_drewN (fr_refl w (some gl)) n) 9 _) 1 _) _⟩)
          rw [HE.out]; exact hX2.drewN _
        · have hd0 : decide (t.pos + i < s.size) = false := decide_eq_false hlt
          go_wp2_with fail
          refine (skipN42 s gl gf t i _ (hL.drewN _) hs hi).mono ?_; rintro e w' ⟨rfl, rfl⟩
          go_wp2_with fail
          refine (ok45n s gl gf _ 0 _ hX2 hs hi rfl (by omega)).mono ?_; rintro e w' ⟨rfl, nn, rfl⟩
          go_wp2_with fail
          refine bodyPost_ret (results_none rfl _ _ _) rfl (Or.inr ⟨by rw [HE.out]; exact hpar2, rfl, ?_, fr_drewN (fr_set (fr_set (fr_drewN (fr_refl w (some gl)) n) 9 _) 1 _) _⟩)
          rw [HE.out]; exact hX2.drewN _
end Go.Proofs.YtahcbeofaeflgaaGreatDoor
