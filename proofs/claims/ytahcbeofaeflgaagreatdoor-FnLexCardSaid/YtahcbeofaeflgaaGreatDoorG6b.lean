/- Lemmas towards the statement FnLexCardSaid, conditions: as each theorem says. -/
import Derived.Test.YtahcbeofaeflgaaGreatDoorG6
namespace Go.Proofs.YtahcbeofaeflgaaGreatDoor
open Go.RowKit

set_option maxRecDepth 100000 in
set_option maxHeartbeats 4000000 in
theorem tok31_F82e (s : ByteArray) (gl gf : Nat) (t : St) (w : World) (hP : Hid (PL s)) (hL : LX w gl gf s t) (hp : t.pos < s.size) (hcl : Hid (Clr t)) (hc : Hid (bt s t.pos = 82)) (hend : Hid (s.size ≤ t.pos + 1)) (hpq : Hid ((preP s t.pos).2.2 = false)) :
    Calls Tryz.prog 31 #[.pointer (some ⟨gl, 0, none⟩), .bool false] w (TokPost s gl gf t w) := by
  have hs : s.size ≤ 2147483647 := Nat.le_trans hP.out.size (by decide)
  have h0 : Hid (bt s (t.pos + 0) = 82) := hc.out
  have hlet : Hid (letB 82 = true) := show letB 82 = true by decide
  have hqw : Hid (oneQ s t.pos t.last = some (wordP s t.pos)) := word_q (by rw [hc.out]; decide) hpq.out
  have hd : decide (s.size ≤ t.pos) = false := decide_eq_false (by omega)
  go_enter Tryz.func31, Tryz.ntmps31
  go_wp2_with fail
  refine (eof39 s gl gf t w hL hs).mono ?_; rintro e w' ⟨rfl, n0, rfl⟩
  go_wp2_with fail
  refine (peek0 s gl gf t 82 _ (hL.drewN _) hs hp hc.out rfl).mono ?_; rintro e w' ⟨rfl, n1, rfl⟩
  go_wp2_with fail
  go_step3
  go_wp2_with fail
  go_step3
  go_wp2_with fail
  refine wp_loop_rounds 2 ?_
  rw [rounds_succ]
  go_wp2_with fail
  refine (ok45c s gl gf t 0 true _ (hL.drewN _) hs (by omega) rfl (by decide) (decide_eq_true (by have := hp; omega))).mono ?_; rintro e w' ⟨rfl, o0, rfl⟩
  go_wp2_with fail
  refine (is43c s gl gf t 0 66 false _ (hL.drewN _) hs (by omega) rfl rfl (by decide) (by decide) (by rw [h0.out]; rfl)).mono ?_; rintro e w' ⟨rfl, j0_66, rfl⟩
  go_wp2_with fail
  refine (is43c s gl gf t 0 98 false _ (hL.drewN _) hs (by omega) rfl rfl (by decide) (by decide) (by rw [h0.out]; rfl)).mono ?_; rintro e w' ⟨rfl, j0_98, rfl⟩
  go_wp2_with fail
  refine (is43c s gl gf t 0 82 true _ (hL.drewN _) hs (by omega) rfl rfl (by decide) (by decide) (by rw [h0.out]; rfl)).mono ?_; rintro e w' ⟨rfl, j0_82, rfl⟩
  go_wp2_with fail
  rw [rounds_succ]
  go_wp2_with fail
  refine (ok45c s gl gf t 1 false _ (hL.drewN _) hs (by omega) rfl (by decide) (decide_eq_false (by have := hend.out; omega))).mono ?_; rintro e w' ⟨rfl, o1, rfl⟩
  go_wp2_with fail
  rw [Exit.noGoto_normal]
  go_wp2_with fail
  refine (peek0 s gl gf t 82 _ (hL.drewN _) hs hp hc.out rfl).mono ?_; rintro e w' ⟨rfl, n2, rfl⟩
  go_wp2_with fail
  refine (start52c 82 true _ hlet.out).mono ?_; rintro e w' ⟨rfl, rfl⟩
  go_wp2_with fail
  go_loopw [10] (fun v10 wr => ∃ i : Nat, v10 = .int .i64 i ∧ t.pos + i ≤ s.size ∧ LX wr gl gf s t ∧ w.grownBy wr (some gl) ∧ Hid (run s parB t.pos = run s parB (t.pos + i))) (fun v10 _ => s.size - (intOf v10).toNat)
  case atStart => exact ⟨0, rfl, Nat.le_of_lt hp, hL.drewN _, fr_drewN (fr_refl w (some gl)) _, rfl⟩
  case round =>
    obtain ⟨i, rfl, hi2, hX, hg, hrn⟩ := hrel
    by_cases hlt : t.pos + i < s.size
    · rcases Bool.eq_false_or_eq_true (parB (bt s (t.pos + i))) with hb | hb
      · have HB := Lib.hid hb
        have HLT := Lib.hid hlt
        clear hb
        go_wp2_with fail
        refine (ok45c s gl gf t i true _ hX hs (by omega) rfl (by omega) (decide_eq_true hlt)).mono ?_; rintro e w' ⟨rfl, a1, rfl⟩
        go_wp2_with fail
        refine (peek47n s gl gf t i _ (hX.drewN _) hs rfl hlt).mono ?_; rintro e w' ⟨rfl, a2, rfl⟩
        go_wp2_with fail
        refine (part46c _ true _ HB.out).mono ?_; rintro e w' ⟨rfl, rfl⟩
        go_wp2_with fail
        go_roundw
        case rel => exact ⟨i + 1, by go_num, by omega, hX.drewN _, fr_drewN hg _, by have h := hrn.out; rw [run_yes HLT.out HB.out] at h; exact h⟩
        case measure => simp [intOf]; omega
      · have HB := Lib.hid hb
        have HRUN : Hid (run s parB t.pos = t.pos + i) := by show run s parB t.pos = t.pos + i; rw [hrn.out, run_no HB.out]
        clear hb
        go_wp2_with fail
        refine (ok45c s gl gf t i true _ hX hs (by omega) rfl (by omega) (decide_eq_true hlt)).mono ?_; rintro e w' ⟨rfl, a1, rfl⟩
        go_wp2_with fail
        refine (peek47n s gl gf t i _ (hX.drewN _) hs rfl hlt).mono ?_; rintro e w' ⟨rfl, a2, rfl⟩
        go_wp2_with fail
        refine (part46c _ false _ HB.out).mono ?_; rintro e w' ⟨rfl, rfl⟩
        go_wp2_with fail
        refine (slice58z s gl gf t i _ (hX.drewN _) hs rfl (by omega) (by omega)).mono ?_; rintro e w' ⟨rfl, a3, rfl⟩
        go_wp2_with fail
        refine (skip2 s gl gf t i _ (hX.drewN _) hs rfl hi2).mono ?_; rintro e w1 ⟨rfl, hX1, hg1⟩
        go_wp2_with fail
        refine (toUpper59 (s.extract t.pos (t.pos + i)) w1 (by rw [ByteArray.size_extract]; have := hP.out.size; omega)).mono ?_; rintro e w2 ⟨rfl, hb2⟩
        have hX2 := hX1.grown (fr_below hb2 none) (fun k hk => by cases hk) (by simp)
        have hfr := fr_trans (fr_trans (fr_drewN hg _) hg1) (fr_below hb2 (some gl))
        have k1 := hX2.c1
        have f1 := hX2.fr 1
        rcases Bool.eq_false_or_eq_true (kwB (upB (s.extract t.pos (t.pos + i)))) with hk | hk
        · have HK := Lib.hid hk
          clear hk
          go_wp2_with fail
          refine (keyword60c _ true w2 HK.out).mono ?_; rintro e w' ⟨rfl, rfl⟩
          go_wp2_with fail
          refine bodyPost_ret (results_none rfl _ _ _) rfl (tok_kw hcl.out hp hqw.out HRUN.out HK.out (hX2.kind _) (fr_set hfr 1 _))
        · have HK := Lib.hid hk
          clear hk
          have k5 := hX2.c5
          have f5 := hX2.fr 5
          go_wp2_with fail
          refine (keyword60c _ false w2 HK.out).mono ?_; rintro e w' ⟨rfl, rfl⟩
          go_wp2_with fail
          refine bodyPost_ret (results_none rfl _ _ _) rfl (tok_id hcl.out hp hqw.out HRUN.out HK.out ((hX2.kind kIdent).txt _) (fr_set (fr_set hfr 1 _) 5 _))
    · have HRUN : Hid (run s parB t.pos = t.pos + i) := by show run s parB t.pos = t.pos + i; rw [hrn.out, run_end (by omega)]
      go_wp2_with fail
      refine (ok45c s gl gf t i false _ hX hs (by omega) rfl (by omega) (decide_eq_false hlt)).mono ?_; rintro e w' ⟨rfl, a1, rfl⟩
      go_wp2_with fail
      refine (slice58z s gl gf t i _ (hX.drewN _) hs rfl (by omega) (by omega)).mono ?_; rintro e w' ⟨rfl, a3, rfl⟩
      go_wp2_with fail
      refine (skip2 s gl gf t i _ (hX.drewN _) hs rfl hi2).mono ?_; rintro e w1 ⟨rfl, hX1, hg1⟩
      go_wp2_with fail
      refine (toUpper59 (s.extract t.pos (t.pos + i)) w1 (by rw [ByteArray.size_extract]; have := hP.out.size; omega)).mono ?_; rintro e w2 ⟨rfl, hb2⟩
      have hX2 := hX1.grown (fr_below hb2 none) (fun k hk => by cases hk) (by simp)
      have hfr := fr_trans (fr_trans (fr_drewN hg _) hg1) (fr_below hb2 (some gl))
      have k1 := hX2.c1
      have f1 := hX2.fr 1
      rcases Bool.eq_false_or_eq_true (kwB (upB (s.extract t.pos (t.pos + i)))) with hk | hk
      · have HK := Lib.hid hk
        clear hk
        go_wp2_with fail
        refine (keyword60c _ true w2 HK.out).mono ?_; rintro e w' ⟨rfl, rfl⟩
        go_wp2_with fail
        refine bodyPost_ret (results_none rfl _ _ _) rfl (tok_kw hcl.out hp hqw.out HRUN.out HK.out (hX2.kind _) (fr_set hfr 1 _))
      · have HK := Lib.hid hk
        clear hk
        have k5 := hX2.c5
        have f5 := hX2.fr 5
        go_wp2_with fail
        refine (keyword60c _ false w2 HK.out).mono ?_; rintro e w' ⟨rfl, rfl⟩
        go_wp2_with fail
        refine bodyPost_ret (results_none rfl _ _ _) rfl (tok_id hcl.out hp hqw.out HRUN.out HK.out ((hX2.kind kIdent).txt _) (fr_set (fr_set hfr 1 _) 5 _))

set_option maxRecDepth 100000 in
set_option maxHeartbeats 4000000 in
theorem tok31_F82n (s : ByteArray) (gl gf : Nat) (t : St) (w : World) (hP : Hid (PL s)) (hL : LX w gl gf s t) (hp : t.pos < s.size) (hcl : Hid (Clr t)) (hc : Hid (bt s t.pos = 82)) (hlt1 : Hid (t.pos + 1 < s.size)) (hx : Hid (bt s (t.pos + 1) ≠ 34 ∧ bt s (t.pos + 1) ≠ 39 ∧ bt s (t.pos + 1) ≠ 66 ∧ bt s (t.pos + 1) ≠ 98)) (hpq : Hid ((preP s t.pos).2.2 = false)) :
    Calls Tryz.prog 31 #[.pointer (some ⟨gl, 0, none⟩), .bool false] w (TokPost s gl gf t w) := by
  have hs : s.size ≤ 2147483647 := Nat.le_trans hP.out.size (by decide)
  have h0 : Hid (bt s (t.pos + 0) = 82) := hc.out
  have hlet : Hid (letB 82 = true) := show letB 82 = true by decide
  have hqw : Hid (oneQ s t.pos t.last = some (wordP s t.pos)) := word_q (by rw [hc.out]; decide) hpq.out
  have hd : decide (s.size ≤ t.pos) = false := decide_eq_false (by omega)
  go_enter Tryz.func31, Tryz.ntmps31
  go_wp2_with fail
  refine (eof39 s gl gf t w hL hs).mono ?_; rintro e w' ⟨rfl, n0, rfl⟩
  go_wp2_with fail
  refine (peek0 s gl gf t 82 _ (hL.drewN _) hs hp hc.out rfl).mono ?_; rintro e w' ⟨rfl, n1, rfl⟩
  go_wp2_with fail
  go_step3
  go_wp2_with fail
  go_step3
  go_wp2_with fail
  refine wp_loop_rounds 2 ?_
  rw [rounds_succ]
  go_wp2_with fail
  refine (ok45c s gl gf t 0 true _ (hL.drewN _) hs (by omega) rfl (by decide) (decide_eq_true (by have := hp; omega))).mono ?_; rintro e w' ⟨rfl, o0, rfl⟩
  go_wp2_with fail
  refine (is43c s gl gf t 0 66 false _ (hL.drewN _) hs (by omega) rfl rfl (by decide) (by decide) (by rw [h0.out]; rfl)).mono ?_; rintro e w' ⟨rfl, j0_66, rfl⟩
  go_wp2_with fail
  refine (is43c s gl gf t 0 98 false _ (hL.drewN _) hs (by omega) rfl rfl (by decide) (by decide) (by rw [h0.out]; rfl)).mono ?_; rintro e w' ⟨rfl, j0_98, rfl⟩
  go_wp2_with fail
  refine (is43c s gl gf t 0 82 true _ (hL.drewN _) hs (by omega) rfl rfl (by decide) (by decide) (by rw [h0.out]; rfl)).mono ?_; rintro e w' ⟨rfl, j0_82, rfl⟩
  go_wp2_with fail
  rw [rounds_succ]
  go_wp2_with fail
  refine (ok45c s gl gf t 1 true _ (hL.drewN _) hs (by omega) rfl (by decide) (decide_eq_true (by have := hlt1.out; omega))).mono ?_; rintro e w' ⟨rfl, o1, rfl⟩
  go_wp2_with fail
  refine (is43c s gl gf t 1 66 false _ (hL.drewN _) hs (by omega) rfl rfl (by decide) (by decide) (by have := hx.out; rw [beq_eq_false_iff_ne]; omega)).mono ?_; rintro e w' ⟨rfl, j1_66, rfl⟩
  go_wp2_with fail
  refine (is43c s gl gf t 1 98 false _ (hL.drewN _) hs (by omega) rfl rfl (by decide) (by decide) (by have := hx.out; rw [beq_eq_false_iff_ne]; omega)).mono ?_; rintro e w' ⟨rfl, j1_98, rfl⟩
  go_wp2_with fail
  refine (is43c s gl gf t 1 34 false _ (hL.drewN _) hs (by omega) rfl rfl (by decide) (by decide) (by have := hx.out; rw [beq_eq_false_iff_ne]; omega)).mono ?_; rintro e w' ⟨rfl, j1_34, rfl⟩
  go_wp2_with fail
  refine (is43c s gl gf t 1 39 false _ (hL.drewN _) hs (by omega) rfl rfl (by decide) (by decide) (by have := hx.out; rw [beq_eq_false_iff_ne]; omega)).mono ?_; rintro e w' ⟨rfl, j1_39, rfl⟩
  go_wp2_with fail
  rw [Exit.noGoto_normal]
  go_wp2_with fail
  refine (peek0 s gl gf t 82 _ (hL.drewN _) hs hp hc.out rfl).mono ?_; rintro e w' ⟨rfl, n2, rfl⟩
  go_wp2_with fail
  refine (start52c 82 true _ hlet.out).mono ?_; rintro e w' ⟨rfl, rfl⟩
  go_wp2_with fail
  go_loopw [10] (fun v10 wr => ∃ i : Nat, v10 = .int .i64 i ∧ t.pos + i ≤ s.size ∧ LX wr gl gf s t ∧ w.grownBy wr (some gl) ∧ Hid (run s parB t.pos = run s parB (t.pos + i))) (fun v10 _ => s.size - (intOf v10).toNat)
  case atStart => exact ⟨0, rfl, Nat.le_of_lt hp, hL.drewN _, fr_drewN (fr_refl w (some gl)) _, rfl⟩
  case round =>
    obtain ⟨i, rfl, hi2, hX, hg, hrn⟩ := hrel
    by_cases hlt : t.pos + i < s.size
    · rcases Bool.eq_false_or_eq_true (parB (bt s (t.pos + i))) with hb | hb
      · have HB := Lib.hid hb
        have HLT := Lib.hid hlt
        clear hb
        go_wp2_with fail
        refine (ok45c s gl gf t i true _ hX hs (by omega) rfl (by omega) (decide_eq_true hlt)).mono ?_; rintro e w' ⟨rfl, a1, rfl⟩
        go_wp2_with fail
        refine (peek47n s gl gf t i _ (hX.drewN _) hs rfl hlt).mono ?_; rintro e w' ⟨rfl, a2, rfl⟩
        go_wp2_with fail
        refine (part46c _ true _ HB.out).mono ?_; rintro e w' ⟨rfl, rfl⟩
        go_wp2_with fail
        go_roundw
        case rel => exact ⟨i + 1, by go_num, by omega, hX.drewN _, fr_drewN hg _, by have h := hrn.out; rw [run_yes HLT.out HB.out] at h; exact h⟩
        case measure => simp [intOf]; omega
      · have HB := Lib.hid hb
        have HRUN : Hid (run s parB t.pos = t.pos + i) := by show run s parB t.pos = t.pos + i; rw [hrn.out, run_no HB.out]
        clear hb
        go_wp2_with fail
        refine (ok45c s gl gf t i true _ hX hs (by omega) rfl (by omega) (decide_eq_true hlt)).mono ?_; rintro e w' ⟨rfl, a1, rfl⟩
        go_wp2_with fail
        refine (peek47n s gl gf t i _ (hX.drewN _) hs rfl hlt).mono ?_; rintro e w' ⟨rfl, a2, rfl⟩
        go_wp2_with fail
        refine (part46c _ false _ HB.out).mono ?_; rintro e w' ⟨rfl, rfl⟩
        go_wp2_with fail
        refine (slice58z s gl gf t i _ (hX.drewN _) hs rfl (by omega) (by omega)).mono ?_; rintro e w' ⟨rfl, a3, rfl⟩
        go_wp2_with fail
        refine (skip2 s gl gf t i _ (hX.drewN _) hs rfl hi2).mono ?_; rintro e w1 ⟨rfl, hX1, hg1⟩
        go_wp2_with fail
        refine (toUpper59 (s.extract t.pos (t.pos + i)) w1 (by rw [ByteArray.size_extract]; have := hP.out.size; omega)).mono ?_; rintro e w2 ⟨rfl, hb2⟩
        have hX2 := hX1.grown (fr_below hb2 none) (fun k hk => by cases hk) (by simp)
        have hfr := fr_trans (fr_trans (fr_drewN hg _) hg1) (fr_below hb2 (some gl))
        have k1 := hX2.c1
        have f1 := hX2.fr 1
        rcases Bool.eq_false_or_eq_true (kwB (upB (s.extract t.pos (t.pos + i)))) with hk | hk
        · have HK := Lib.hid hk
          clear hk
          go_wp2_with fail
          refine (keyword60c _ true w2 HK.out).mono ?_; rintro e w' ⟨rfl, rfl⟩
          go_wp2_with fail
          refine bodyPost_ret (results_none rfl _ _ _) rfl (tok_kw hcl.out hp hqw.out HRUN.out HK.out (hX2.kind _) (fr_set hfr 1 _))
        · have HK := Lib.hid hk
          clear hk
          have k5 := hX2.c5
          have f5 := hX2.fr 5
          go_wp2_with fail
          refine (keyword60c _ false w2 HK.out).mono ?_; rintro e w' ⟨rfl, rfl⟩
          go_wp2_with fail
          refine bodyPost_ret (results_none rfl _ _ _) rfl (tok_id hcl.out hp hqw.out HRUN.out HK.out ((hX2.kind kIdent).txt _) (fr_set (fr_set hfr 1 _) 5 _))
    · have HRUN : Hid (run s parB t.pos = t.pos + i) := by show run s parB t.pos = t.pos + i; rw [hrn.out, run_end (by omega)]
      go_wp2_with fail
      refine (ok45c s gl gf t i false _ hX hs (by omega) rfl (by omega) (decide_eq_false hlt)).mono ?_; rintro e w' ⟨rfl, a1, rfl⟩
      go_wp2_with fail
      refine (slice58z s gl gf t i _ (hX.drewN _) hs rfl (by omega) (by omega)).mono ?_; rintro e w' ⟨rfl, a3, rfl⟩
      go_wp2_with fail
      refine (skip2 s gl gf t i _ (hX.drewN _) hs rfl hi2).mono ?_; rintro e w1 ⟨rfl, hX1, hg1⟩
      go_wp2_with fail
      refine (toUpper59 (s.extract t.pos (t.pos + i)) w1 (by rw [ByteArray.size_extract]; have := hP.out.size; omega)).mono ?_; rintro e w2 ⟨rfl, hb2⟩
      have hX2 := hX1.grown (fr_below hb2 none) (fun k hk => by cases hk) (by simp)
      have hfr := fr_trans (fr_trans (fr_drewN hg _) hg1) (fr_below hb2 (some gl))
      have k1 := hX2.c1
      have f1 := hX2.fr 1
      rcases Bool.eq_false_or_eq_true (kwB (upB (s.extract t.pos (t.pos + i)))) with hk | hk
      · have HK := Lib.hid hk
        clear hk
        go_wp2_with fail
        refine (keyword60c _ true w2 HK.out).mono ?_; rintro e w' ⟨rfl, rfl⟩
        go_wp2_with fail
        refine bodyPost_ret (results_none rfl _ _ _) rfl (tok_kw hcl.out hp hqw.out HRUN.out HK.out (hX2.kind _) (fr_set hfr 1 _))
      · have HK := Lib.hid hk
        clear hk
        have k5 := hX2.c5
        have f5 := hX2.fr 5
        go_wp2_with fail
        refine (keyword60c _ false w2 HK.out).mono ?_; rintro e w' ⟨rfl, rfl⟩
        go_wp2_with fail
        refine bodyPost_ret (results_none rfl _ _ _) rfl (tok_id hcl.out hp hqw.out HRUN.out HK.out ((hX2.kind kIdent).txt _) (fr_set (fr_set hfr 1 _) 5 _))

set_option maxRecDepth 100000 in
set_option maxHeartbeats 4000000 in
theorem tok31_F114e (s : ByteArray) (gl gf : Nat) (t : St) (w : World) (hP : Hid (PL s)) (hL : LX w gl gf s t) (hp : t.pos < s.size) (hcl : Hid (Clr t)) (hc : Hid (bt s t.pos = 114)) (hend : Hid (s.size ≤ t.pos + 1)) (hpq : Hid ((preP s t.pos).2.2 = false)) :
    Calls Tryz.prog 31 #[.pointer (some ⟨gl, 0, none⟩), .bool false] w (TokPost s gl gf t w) := by
  have hs : s.size ≤ 2147483647 := Nat.le_trans hP.out.size (by decide)
  have h0 : Hid (bt s (t.pos + 0) = 114) := hc.out
  have hlet : Hid (letB 114 = true) := show letB 114 = true by decide
  have hqw : Hid (oneQ s t.pos t.last = some (wordP s t.pos)) := word_q (by rw [hc.out]; decide) hpq.out
  have hd : decide (s.size ≤ t.pos) = false := decide_eq_false (by omega)
  go_enter Tryz.func31, Tryz.ntmps31
  go_wp2_with fail
  refine (eof39 s gl gf t w hL hs).mono ?_; rintro e w' ⟨rfl, n0, rfl⟩
  go_wp2_with fail
  refine (peek0 s gl gf t 114 _ (hL.drewN _) hs hp hc.out rfl).mono ?_; rintro e w' ⟨rfl, n1, rfl⟩
  go_wp2_with fail
  go_step3
  go_wp2_with fail
  go_step3
  go_wp2_with fail
  refine wp_loop_rounds 2 ?_
  rw [rounds_succ]
  go_wp2_with fail
  refine (ok45c s gl gf t 0 true _ (hL.drewN _) hs (by omega) rfl (by decide) (decide_eq_true (by have := hp; omega))).mono ?_; rintro e w' ⟨rfl, o0, rfl⟩
  go_wp2_with fail
  refine (is43c s gl gf t 0 66 false _ (hL.drewN _) hs (by omega) rfl rfl (by decide) (by decide) (by rw [h0.out]; rfl)).mono ?_; rintro e w' ⟨rfl, j0_66, rfl⟩
  go_wp2_with fail
  refine (is43c s gl gf t 0 98 false _ (hL.drewN _) hs (by omega) rfl rfl (by decide) (by decide) (by rw [h0.out]; rfl)).mono ?_; rintro e w' ⟨rfl, j0_98, rfl⟩
  go_wp2_with fail
  refine (is43c s gl gf t 0 82 false _ (hL.drewN _) hs (by omega) rfl rfl (by decide) (by decide) (by rw [h0.out]; rfl)).mono ?_; rintro e w' ⟨rfl, j0_82, rfl⟩
  go_wp2_with fail
  refine (is43c s gl gf t 0 114 true _ (hL.drewN _) hs (by omega) rfl rfl (by decide) (by decide) (by rw [h0.out]; rfl)).mono ?_; rintro e w' ⟨rfl, j0_114, rfl⟩
  go_wp2_with fail
  rw [rounds_succ]
  go_wp2_with fail
  refine (ok45c s gl gf t 1 false _ (hL.drewN _) hs (by omega) rfl (by decide) (decide_eq_false (by have := hend.out; omega))).mono ?_; rintro e w' ⟨rfl, o1, rfl⟩
  go_wp2_with fail
  rw [Exit.noGoto_normal]
  go_wp2_with fail
  refine (peek0 s gl gf t 114 _ (hL.drewN _) hs hp hc.out rfl).mono ?_; rintro e w' ⟨rfl, n2, rfl⟩
  go_wp2_with fail
  refine (start52c 114 true _ hlet.out).mono ?_; rintro e w' ⟨rfl, rfl⟩
  go_wp2_with fail
  go_loopw [10] (fun v10 wr => ∃ i : Nat, v10 = .int .i64 i ∧ t.pos + i ≤ s.size ∧ LX wr gl gf s t ∧ w.grownBy wr (some gl) ∧ Hid (run s parB t.pos = run s parB (t.pos + i))) (fun v10 _ => s.size - (intOf v10).toNat)
  case atStart => exact ⟨0, rfl, Nat.le_of_lt hp, hL.drewN _, fr_drewN (fr_refl w (some gl)) _, rfl⟩
  case round =>
    obtain ⟨i, rfl, hi2, hX, hg, hrn⟩ := hrel
    by_cases hlt : t.pos + i < s.size
    · rcases Bool.eq_false_or_eq_true (parB (bt s (t.pos + i))) with hb | hb
      · have HB := Lib.hid hb
        have HLT := Lib.hid hlt
        clear hb
        go_wp2_with fail
        refine (ok45c s gl gf t i true _ hX hs (by omega) rfl (by omega) (decide_eq_true hlt)).mono ?_; rintro e w' ⟨rfl, a1, rfl⟩
        go_wp2_with fail
        refine (peek47n s gl gf t i _ (hX.drewN _) hs rfl hlt).mono ?_; rintro e w' ⟨rfl, a2, rfl⟩
        go_wp2_with fail
        refine (part46c _ true _ HB.out).mono ?_; rintro e w' ⟨rfl, rfl⟩
        go_wp2_with fail
        go_roundw
        case rel => exact ⟨i + 1, by go_num, by omega, hX.drewN _, fr_drewN hg _, by have h := hrn.out; rw [run_yes HLT.out HB.out] at h; exact h⟩
        case measure => simp [intOf]; omega
      · have HB := Lib.hid hb
        have HRUN : Hid (run s parB t.pos = t.pos + i) := by show run s parB t.pos = t.pos + i; rw [hrn.out, run_no HB.out]
        clear hb
        go_wp2_with fail
        refine (ok45c s gl gf t i true _ hX hs (by omega) rfl (by omega) (decide_eq_true hlt)).mono ?_; rintro e w' ⟨rfl, a1, rfl⟩
        go_wp2_with fail
        refine (peek47n s gl gf t i _ (hX.drewN _) hs rfl hlt).mono ?_; rintro e w' ⟨rfl, a2, rfl⟩
        go_wp2_with fail
        refine (part46c _ false _ HB.out).mono ?_; rintro e w' ⟨rfl, rfl⟩
        go_wp2_with fail
        refine (slice58z s gl gf t i _ (hX.drewN _) hs rfl (by omega) (by omega)).mono ?_; rintro e w' ⟨rfl, a3, rfl⟩
        go_wp2_with fail
        refine (skip2 s gl gf t i _ (hX.drewN _) hs rfl hi2).mono ?_; rintro e w1 ⟨rfl, hX1, hg1⟩
        go_wp2_with fail
        refine (toUpper59 (s.extract t.pos (t.pos + i)) w1 (by rw [ByteArray.size_extract]; have := hP.out.size; omega)).mono ?_; rintro e w2 ⟨rfl, hb2⟩
        have hX2 := hX1.grown (fr_below hb2 none) (fun k hk => by cases hk) (by simp)
        have hfr := fr_trans (fr_trans (fr_drewN hg _) hg1) (fr_below hb2 (some gl))
        have k1 := hX2.c1
        have f1 := hX2.fr 1
        rcases Bool.eq_false_or_eq_true (kwB (upB (s.extract t.pos (t.pos + i)))) with hk | hk
        · have HK := Lib.hid hk
          clear hk
          go_wp2_with fail
          refine (keyword60c _ true w2 HK.out).mono ?_; rintro e w' ⟨rfl, rfl⟩
          go_wp2_with fail
          refine bodyPost_ret (results_none rfl _ _ _) rfl (tok_kw hcl.out hp hqw.out HRUN.out HK.out (hX2.kind _) (fr_set hfr 1 _))
        · have HK := Lib.hid hk
          clear hk
          have k5 := hX2.c5
          have f5 := hX2.fr 5
          go_wp2_with fail
          refine (keyword60c _ false w2 HK.out).mono ?_; rintro e w' ⟨rfl, rfl⟩
          go_wp2_with fail
          refine bodyPost_ret (results_none rfl _ _ _) rfl (tok_id hcl.out hp hqw.out HRUN.out HK.out ((hX2.kind kIdent).txt _) (fr_set (fr_set hfr 1 _) 5 _))
    · have HRUN : Hid (run s parB t.pos = t.pos + i) := by show run s parB t.pos = t.pos + i; rw [hrn.out, run_end (by omega)]
      go_wp2_with fail
      refine (ok45c s gl gf t i false _ hX hs (by omega) rfl (by omega) (decide_eq_false hlt)).mono ?_; rintro e w' ⟨rfl, a1, rfl⟩
      go_wp2_with fail
      refine (slice58z s gl gf t i _ (hX.drewN _) hs rfl (by omega) (by omega)).mono ?_; rintro e w' ⟨rfl, a3, rfl⟩
      go_wp2_with fail
      refine (skip2 s gl gf t i _ (hX.drewN _) hs rfl hi2).mono ?_; rintro e w1 ⟨rfl, hX1, hg1⟩
      go_wp2_with fail
      refine (toUpper59 (s.extract t.pos (t.pos + i)) w1 (by rw [ByteArray.size_extract]; have := hP.out.size; omega)).mono ?_; rintro e w2 ⟨rfl, hb2⟩
      have hX2 := hX1.grown (fr_below hb2 none) (fun k hk => by cases hk) (by simp)
      have hfr := fr_trans (fr_trans (fr_drewN hg _) hg1) (fr_below hb2 (some gl))
      have k1 := hX2.c1
      have f1 := hX2.fr 1
      rcases Bool.eq_false_or_eq_true (kwB (upB (s.extract t.pos (t.pos + i)))) with hk | hk
      · have HK := Lib.hid hk
        clear hk
        go_wp2_with fail
        refine (keyword60c _ true w2 HK.out).mono ?_; rintro e w' ⟨rfl, rfl⟩
        go_wp2_with fail
        refine bodyPost_ret (results_none rfl _ _ _) rfl (tok_kw hcl.out hp hqw.out HRUN.out HK.out (hX2.kind _) (fr_set hfr 1 _))
      · have HK := Lib.hid hk
        clear hk
        have k5 := hX2.c5
        have f5 := hX2.fr 5
        go_wp2_with fail
        refine (keyword60c _ false w2 HK.out).mono ?_; rintro e w' ⟨rfl, rfl⟩
        go_wp2_with fail
        refine bodyPost_ret (results_none rfl _ _ _) rfl (tok_id hcl.out hp hqw.out HRUN.out HK.out ((hX2.kind kIdent).txt _) (fr_set (fr_set hfr 1 _) 5 _))

set_option maxRecDepth 100000 in
set_option maxHeartbeats 4000000 in
theorem tok31_F114n (s : ByteArray) (gl gf : Nat) (t : St) (w : World) (hP : Hid (PL s)) (hL : LX w gl gf s t) (hp : t.pos < s.size) (hcl : Hid (Clr t)) (hc : Hid (bt s t.pos = 114)) (hlt1 : Hid (t.pos + 1 < s.size)) (hx : Hid (bt s (t.pos + 1) ≠ 34 ∧ bt s (t.pos + 1) ≠ 39 ∧ bt s (t.pos + 1) ≠ 66 ∧ bt s (t.pos + 1) ≠ 98)) (hpq : Hid ((preP s t.pos).2.2 = false)) :
    Calls Tryz.prog 31 #[.pointer (some ⟨gl, 0, none⟩), .bool false] w (TokPost s gl gf t w) := by
  have hs : s.size ≤ 2147483647 := Nat.le_trans hP.out.size (by decide)
  have h0 : Hid (bt s (t.pos + 0) = 114) := hc.out
  have hlet : Hid (letB 114 = true) := show letB 114 = true by decide
  have hqw : Hid (oneQ s t.pos t.last = some (wordP s t.pos)) := word_q (by rw [hc.out]; decide) hpq.out
  have hd : decide (s.size ≤ t.pos) = false := decide_eq_false (by omega)
  go_enter Tryz.func31, Tryz.ntmps31
  go_wp2_with fail
  refine (eof39 s gl gf t w hL hs).mono ?_; rintro e w' ⟨rfl, n0, rfl⟩
  go_wp2_with fail
  refine (peek0 s gl gf t 114 _ (hL.drewN _) hs hp hc.out rfl).mono ?_; rintro e w' ⟨rfl, n1, rfl⟩
  go_wp2_with fail
  go_step3
  go_wp2_with fail
  go_step3
  go_wp2_with fail
  refine wp_loop_rounds 2 ?_
  rw [rounds_succ]
  go_wp2_with fail
  refine (ok45c s gl gf t 0 true _ (hL.drewN _) hs (by omega) rfl (by decide) (decide_eq_true (by have := hp; omega))).mono ?_; rintro e w' ⟨rfl, o0, rfl⟩
  go_wp2_with fail
  refine (is43c s gl gf t 0 66 false _ (hL.drewN _) hs (by omega) rfl rfl (by decide) (by decide) (by rw [h0.out]; rfl)).mono ?_; rintro e w' ⟨rfl, j0_66, rfl⟩
  go_wp2_with fail
  refine (is43c s gl gf t 0 98 false _ (hL.drewN _) hs (by omega) rfl rfl (by decide) (by decide) (by rw [h0.out]; rfl)).mono ?_; rintro e w' ⟨rfl, j0_98, rfl⟩
  go_wp2_with fail
  refine (is43c s gl gf t 0 82 false _ (hL.drewN _) hs (by omega) rfl rfl (by decide) (by decide) (by rw [h0.out]; rfl)).mono ?_; rintro e w' ⟨rfl, j0_82, rfl⟩
  go_wp2_with fail
  refine (is43c s gl gf t 0 114 true _ (hL.drewN _) hs (by omega) rfl rfl (by decide) (by decide) (by rw [h0.out]; rfl)).mono ?_; rintro e w' ⟨rfl, j0_114, rfl⟩
  go_wp2_with fail
  rw [rounds_succ]
  go_wp2_with fail
  refine (ok45c s gl gf t 1 true _ (hL.drewN _) hs (by omega) rfl (by decide) (decide_eq_true (by have := hlt1.out; omega))).mono ?_; rintro e w' ⟨rfl, o1, rfl⟩
  go_wp2_with fail
  refine (is43c s gl gf t 1 66 false _ (hL.drewN _) hs (by omega) rfl rfl (by decide) (by decide) (by have := hx.out; rw [beq_eq_false_iff_ne]; omega)).mono ?_; rintro e w' ⟨rfl, j1_66, rfl⟩
  go_wp2_with fail
  refine (is43c s gl gf t 1 98 false _ (hL.drewN _) hs (by omega) rfl rfl (by decide) (by decide) (by have := hx.out; rw [beq_eq_false_iff_ne]; omega)).mono ?_; rintro e w' ⟨rfl, j1_98, rfl⟩
  go_wp2_with fail
  refine (is43c s gl gf t 1 34 false _ (hL.drewN _) hs (by omega) rfl rfl (by decide) (by decide) (by have := hx.out; rw [beq_eq_false_iff_ne]; omega)).mono ?_; rintro e w' ⟨rfl, j1_34, rfl⟩
  go_wp2_with fail
  refine (is43c s gl gf t 1 39 false _ (hL.drewN _) hs (by omega) rfl rfl (by decide) (by decide) (by have := hx.out; rw [beq_eq_false_iff_ne]; omega)).mono ?_; rintro e w' ⟨rfl, j1_39, rfl⟩
  go_wp2_with fail
  rw [Exit.noGoto_normal]
  go_wp2_with fail
  refine (peek0 s gl gf t 114 _ (hL.drewN _) hs hp hc.out rfl).mono ?_; rintro e w' ⟨rfl, n2, rfl⟩
  go_wp2_with fail
  refine (start52c 114 true _ hlet.out).mono ?_; rintro e w' ⟨rfl, rfl⟩
  go_wp2_with fail
  go_loopw [10] (fun v10 wr => ∃ i : Nat, v10 = .int .i64 i ∧ t.pos + i ≤ s.size ∧ LX wr gl gf s t ∧ w.grownBy wr (some gl) ∧ Hid (run s parB t.pos = run s parB (t.pos + i))) (fun v10 _ => s.size - (intOf v10).toNat)
  case atStart => exact ⟨0, rfl, Nat.le_of_lt hp, hL.drewN _, fr_drewN (fr_refl w (some gl)) _, rfl⟩
  case round =>
    obtain ⟨i, rfl, hi2, hX, hg, hrn⟩ := hrel
    by_cases hlt : t.pos + i < s.size
    · rcases Bool.eq_false_or_eq_true (parB (bt s (t.pos + i))) with hb | hb
      · have HB := Lib.hid hb
        have HLT := Lib.hid hlt
        clear hb
        go_wp2_with fail
        refine (ok45c s gl gf t i true _ hX hs (by omega) rfl (by omega) (decide_eq_true hlt)).mono ?_; rintro e w' ⟨rfl, a1, rfl⟩
        go_wp2_with fail
        refine (peek47n s gl gf t i _ (hX.drewN _) hs rfl hlt).mono ?_; rintro e w' ⟨rfl, a2, rfl⟩
        go_wp2_with fail
        refine (part46c _ true _ HB.out).mono ?_; rintro e w' ⟨rfl, rfl⟩
        go_wp2_with fail
        go_roundw
        case rel => exact ⟨i + 1, by go_num, by omega, hX.drewN _, fr_drewN hg _, by have h := hrn.out; rw [run_yes HLT.out HB.out] at h; exact h⟩
        case measure => simp [intOf]; omega
      · have HB := Lib.hid hb
        have HRUN : Hid (run s parB t.pos = t.pos + i) := by show run s parB t.pos = t.pos + i; rw [hrn.out, run_no HB.out]
        clear hb
        go_wp2_with fail
        refine (ok45c s gl gf t i true _ hX hs (by omega) rfl (by omega) (decide_eq_true hlt)).mono ?_; rintro e w' ⟨rfl, a1, rfl⟩
        go_wp2_with fail
        refine (peek47n s gl gf t i _ (hX.drewN _) hs rfl hlt).mono ?_; rintro e w' ⟨rfl, a2, rfl⟩
        go_wp2_with fail
        refine (part46c _ false _ HB.out).mono ?_; rintro e w' ⟨rfl, rfl⟩
        go_wp2_with fail
        refine (slice58z s gl gf t i _ (hX.drewN _) hs rfl (by omega) (by omega)).mono ?_; rintro e w' ⟨rfl, a3, rfl⟩
        go_wp2_with fail
        refine (skip2 s gl gf t i _ (hX.drewN _) hs rfl hi2).mono ?_; rintro e w1 ⟨rfl, hX1, hg1⟩
        go_wp2_with fail
        refine (toUpper59 (s.extract t.pos (t.pos + i)) w1 (by rw [ByteArray.size_extract]; have := hP.out.size; omega)).mono ?_; rintro e w2 ⟨rfl, hb2⟩
        have hX2 := hX1.grown (fr_below hb2 none) (fun k hk => by cases hk) (by simp)
        have hfr := fr_trans (fr_trans (fr_drewN hg _) hg1) (fr_below hb2 (some gl))
        have k1 := hX2.c1
        have f1 := hX2.fr 1
        rcases Bool.eq_false_or_eq_true (kwB (upB (s.extract t.pos (t.pos + i)))) with hk | hk
        · have HK := Lib.hid hk
          clear hk
          go_wp2_with fail
          refine (keyword60c _ true w2 HK.out).mono ?_; rintro e w' ⟨rfl, rfl⟩
          go_wp2_with fail
          refine bodyPost_ret (results_none rfl _ _ _) rfl (tok_kw hcl.out hp hqw.out HRUN.out HK.out (hX2.kind _) (fr_set hfr 1 _))
        · have HK := Lib.hid hk
          clear hk
          have k5 := hX2.c5
          have f5 := hX2.fr 5
          go_wp2_with fail
          refine (keyword60c _ false w2 HK.out).mono ?_; rintro e w' ⟨rfl, rfl⟩
          go_wp2_with fail
          refine bodyPost_ret (results_none rfl _ _ _) rfl (tok_id hcl.out hp hqw.out HRUN.out HK.out ((hX2.kind kIdent).txt _) (fr_set (fr_set hfr 1 _) 5 _))
    · have HRUN : Hid (run s parB t.pos = t.pos + i) := by show run s parB t.pos = t.pos + i; rw [hrn.out, run_end (by omega)]
      go_wp2_with fail
      refine (ok45c s gl gf t i false _ hX hs (by omega) rfl (by omega) (decide_eq_false hlt)).mono ?_; rintro e w' ⟨rfl, a1, rfl⟩
      go_wp2_with fail
      refine (slice58z s gl gf t i _ (hX.drewN _) hs rfl (by omega) (by omega)).mono ?_; rintro e w' ⟨rfl, a3, rfl⟩
      go_wp2_with fail
      refine (skip2 s gl gf t i _ (hX.drewN _) hs rfl hi2).mono ?_; rintro e w1 ⟨rfl, hX1, hg1⟩
      go_wp2_with fail
      refine (toUpper59 (s.extract t.pos (t.pos + i)) w1 (by rw [ByteArray.size_extract]; have := hP.out.size; omega)).mono ?_; rintro e w2 ⟨rfl, hb2⟩
      have hX2 := hX1.grown (fr_below hb2 none) (fun k hk => by cases hk) (by simp)
      have hfr := fr_trans (fr_trans (fr_drewN hg _) hg1) (fr_below hb2 (some gl))
      have k1 := hX2.c1
      have f1 := hX2.fr 1
      rcases Bool.eq_false_or_eq_true (kwB (upB (s.extract t.pos (t.pos + i)))) with hk | hk
      · have HK := Lib.hid hk
        clear hk
        go_wp2_with fail
        refine (keyword60c _ true w2 HK.out).mono ?_; rintro e w' ⟨rfl, rfl⟩
        go_wp2_with fail
        refine bodyPost_ret (results_none rfl _ _ _) rfl (tok_kw hcl.out hp hqw.out HRUN.out HK.out (hX2.kind _) (fr_set hfr 1 _))
      · have HK := Lib.hid hk
        clear hk
        have k5 := hX2.c5
        have f5 := hX2.fr 5
        go_wp2_with fail
        refine (keyword60c _ false w2 HK.out).mono ?_; rintro e w' ⟨rfl, rfl⟩
        go_wp2_with fail
        refine bodyPost_ret (results_none rfl _ _ _) rfl (tok_id hcl.out hp hqw.out HRUN.out HK.out ((hX2.kind kIdent).txt _) (fr_set (fr_set hfr 1 _) 5 _))

end Go.Proofs.YtahcbeofaeflgaaGreatDoor
