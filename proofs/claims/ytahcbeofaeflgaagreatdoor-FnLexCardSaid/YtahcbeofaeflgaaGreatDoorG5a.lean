/- Lemmas towards the statement FnLexCardSaid, conditions: as each theorem says. -/
import Derived.Test.YtahcbeofaeflgaaGreatDoorG5
namespace Go.Proofs.YtahcbeofaeflgaaGreatDoor
open Go.RowKit

set_option maxRecDepth 100000 in
set_option maxHeartbeats 4000000 in
theorem tok31_L34 (s : ByteArray) (gl gf : Nat) (t : St) (w : World) (hP : Hid (PL s)) (hL : LX w gl gf s t) (hp : t.pos < s.size) (hcl : Hid (Clr t)) (hc : Hid (bt s t.pos = 34)) :
    Calls Tryz.prog 31 #[.pointer (some ⟨gl, 0, none⟩), .bool false] w (TokPost s gl gf t w) := by
  have hs : s.size ≤ 2147483647 := Nat.le_trans hP.out.size (by decide)
  have h0 : Hid (bt s (t.pos + 0) = 34) := hc.out
  have hd : decide (s.size ≤ t.pos) = false := decide_eq_false (by omega)
  go_enter Tryz.func31, Tryz.ntmps31
  go_wp2_with fail
  refine (eof39 s gl gf t w hL hs).mono ?_; rintro e w' ⟨rfl, n0, rfl⟩
  go_wp2_with fail
  refine (peek0 s gl gf t 34 _ (hL.drewN _) hs hp hc.out rfl).mono ?_; rintro e w' ⟨rfl, n1, rfl⟩
  go_wp2_with fail
  go_step3
  go_wp2_with fail
  go_step3
  go_wp2_with fail
  refine wp_loop_rounds 1 ?_
  rw [rounds_succ]
  go_wp2_with fail
  refine (ok45c s gl gf t 0 true _ (hL.drewN _) hs (by omega) rfl (by decide) (decide_eq_true (by have := hp; omega))).mono ?_; rintro e w' ⟨rfl, o0, rfl⟩
  go_wp2_with fail
  refine (is43c s gl gf t 0 66 false _ (hL.drewN _) hs (by omega) rfl rfl (by decide) (by decide) (by rw [h0.out]; rfl)).mono ?_; rintro e w' ⟨rfl, j0_66, rfl⟩
  go_wp2_with fail
  refine (is43c s gl gf t 0 98 false _ (hL.drewN _) hs (by omega) rfl rfl (by decide) (by decide) (by rw [h0.out]; rfl)).mono ?_; rintro e w' ⟨rfl, j0_98, rfl⟩
  go_wp2_with fail
  refine (is43c s gl gf t 0 82 false _ (hL.drewN _) hs (by omega) rfl rfl (by decide) (by decide) (by rw [h0.out]; rfl)).mono ?_; rintro e w' ⟨rfl, j0_82, rfl⟩
  go_wp2_with fail
  refine (is43c s gl gf t 0 114 false _ (hL.drewN _) hs (by omega) rfl rfl (by decide) (by decide) (by rw [h0.out]; rfl)).mono ?_; rintro e w' ⟨rfl, j0_114, rfl⟩
  go_wp2_with fail
  refine (is43c s gl gf t 0 34 true _ (hL.drewN _) hs (by omega) rfl rfl (by decide) (by decide) (by rw [h0.out]; rfl)).mono ?_; rintro e w' ⟨rfl, j0_34, rfl⟩
  go_wp2_with fail
  refine (skip2 s gl gf t 0 _ (hL.drewN _) hs rfl (by have := hp; omega)).mono ?_; rintro e w1 ⟨rfl, hX, hg⟩
  go_wp2_with fail
  refine (lit57 s gl gf _ w1 hP hX (show markB (bt s (t.pos + 0)) = true by rw [h0.out]; rfl)).mono ?_
  intro e w2 hq
  have hpre : preP s t.pos = (0, false, true) := by
    have g0 := h0.out
    simp only [Nat.add_zero] at g0
    simp [preP, preN, inP, isBB, isRR, markB, *]
  have hlq : oneQ s t.pos t.last = litP s t.pos := by
    have g0 := h0.out
    simp only [Nat.add_zero] at g0
    exact lit_q (by rw [g0]; decide) (by rw [g0]; rfl) (by rw [g0]; decide) (by rw [g0]; rfl) (by rw [hpre])
  have hfr := fr_trans (fr_drewN (fr_refl w (some gl)) _) hg
  rcases hq with ⟨q1, pe, pp, m, cs, nn, rfl, q⟩ | ⟨d, v, q1, rfl, hX2, hg2, _⟩
  · go_wp2_with fail
    exact ⟨rfl, tok_litF hp hlq hpre q1 (Fault.after ⟨pe, pp, m, cs, nn, rfl, q⟩ (Fr2.of hfr))⟩
  · go_wp2_with fail
    refine bodyPost_ret (results_none rfl _ _ _) rfl (tok_lit hcl.out hp hlq hpre q1 hX2 (fr_trans hfr hg2))

set_option maxRecDepth 100000 in
set_option maxHeartbeats 4000000 in
theorem tok31_L39 (s : ByteArray) (gl gf : Nat) (t : St) (w : World) (hP : Hid (PL s)) (hL : LX w gl gf s t) (hp : t.pos < s.size) (hcl : Hid (Clr t)) (hc : Hid (bt s t.pos = 39)) :
    Calls Tryz.prog 31 #[.pointer (some ⟨gl, 0, none⟩), .bool false] w (TokPost s gl gf t w) := by
  have hs : s.size ≤ 2147483647 := Nat.le_trans hP.out.size (by decide)
  have h0 : Hid (bt s (t.pos + 0) = 39) := hc.out
  have hd : decide (s.size ≤ t.pos) = false := decide_eq_false (by omega)
  go_enter Tryz.func31, Tryz.ntmps31
  go_wp2_with fail
  refine (eof39 s gl gf t w hL hs).mono ?_; rintro e w' ⟨rfl, n0, rfl⟩
  go_wp2_with fail
  refine (peek0 s gl gf t 39 _ (hL.drewN _) hs hp hc.out rfl).mono ?_; rintro e w' ⟨rfl, n1, rfl⟩
  go_wp2_with fail
  go_step3
  go_wp2_with fail
  go_step3
  go_wp2_with fail
  refine wp_loop_rounds 1 ?_
  rw [rounds_succ]
  go_wp2_with fail
  refine (ok45c s gl gf t 0 true _ (hL.drewN _) hs (by omega) rfl (by decide) (decide_eq_true (by have := hp; omega))).mono ?_; rintro e w' ⟨rfl, o0, rfl⟩
  go_wp2_with fail
  refine (is43c s gl gf t 0 66 false _ (hL.drewN _) hs (by omega) rfl rfl (by decide) (by decide) (by rw [h0.out]; rfl)).mono ?_; rintro e w' ⟨rfl, j0_66, rfl⟩
  go_wp2_with fail
  refine (is43c s gl gf t 0 98 false _ (hL.drewN _) hs (by omega) rfl rfl (by decide) (by decide) (by rw [h0.out]; rfl)).mono ?_; rintro e w' ⟨rfl, j0_98, rfl⟩
  go_wp2_with fail
  refine (is43c s gl gf t 0 82 false _ (hL.drewN _) hs (by omega) rfl rfl (by decide) (by decide) (by rw [h0.out]; rfl)).mono ?_; rintro e w' ⟨rfl, j0_82, rfl⟩
  go_wp2_with fail
  refine (is43c s gl gf t 0 114 false _ (hL.drewN _) hs (by omega) rfl rfl (by decide) (by decide) (by rw [h0.out]; rfl)).mono ?_; rintro e w' ⟨rfl, j0_114, rfl⟩
  go_wp2_with fail
  refine (is43c s gl gf t 0 34 false _ (hL.drewN _) hs (by omega) rfl rfl (by decide) (by decide) (by rw [h0.out]; rfl)).mono ?_; rintro e w' ⟨rfl, j0_34, rfl⟩
  go_wp2_with fail
  refine (is43c s gl gf t 0 39 true _ (hL.drewN _) hs (by omega) rfl rfl (by decide) (by decide) (by rw [h0.out]; rfl)).mono ?_; rintro e w' ⟨rfl, j0_39, rfl⟩
  go_wp2_with fail
  refine (skip2 s gl gf t 0 _ (hL.drewN _) hs rfl (by have := hp; omega)).mono ?_; rintro e w1 ⟨rfl, hX, hg⟩
  go_wp2_with fail
  refine (lit57 s gl gf _ w1 hP hX (show markB (bt s (t.pos + 0)) = true by rw [h0.out]; rfl)).mono ?_
  intro e w2 hq
  have hpre : preP s t.pos = (0, false, true) := by
    have g0 := h0.out
    simp only [Nat.add_zero] at g0
    simp [preP, preN, inP, isBB, isRR, markB, *]
  have hlq : oneQ s t.pos t.last = litP s t.pos := by
    have g0 := h0.out
    simp only [Nat.add_zero] at g0
    exact lit_q (by rw [g0]; decide) (by rw [g0]; rfl) (by rw [g0]; decide) (by rw [g0]; rfl) (by rw [hpre])
  have hfr := fr_trans (fr_drewN (fr_refl w (some gl)) _) hg
  rcases hq with ⟨q1, pe, pp, m, cs, nn, rfl, q⟩ | ⟨d, v, q1, rfl, hX2, hg2, _⟩
  · go_wp2_with fail
    exact ⟨rfl, tok_litF hp hlq hpre q1 (Fault.after ⟨pe, pp, m, cs, nn, rfl, q⟩ (Fr2.of hfr))⟩
  · go_wp2_with fail
    refine bodyPost_ret (results_none rfl _ _ _) rfl (tok_lit hcl.out hp hlq hpre q1 hX2 (fr_trans hfr hg2))

set_option maxRecDepth 100000 in
set_option maxHeartbeats 4000000 in
theorem tok31_L66_34 (s : ByteArray) (gl gf : Nat) (t : St) (w : World) (hP : Hid (PL s)) (hL : LX w gl gf s t) (hp : t.pos < s.size) (hcl : Hid (Clr t)) (hc : Hid (bt s t.pos = 66)) (h1 : Hid (bt s (t.pos + 1) = 34)) :
    Calls Tryz.prog 31 #[.pointer (some ⟨gl, 0, none⟩), .bool false] w (TokPost s gl gf t w) := by
  have hs : s.size ≤ 2147483647 := Nat.le_trans hP.out.size (by decide)
  have hlt1 : Hid (t.pos + 1 < s.size) := lt_of_bt (by rw [h1.out]; decide)
  have h0 : Hid (bt s (t.pos + 0) = 66) := hc.out
  have hd : decide (s.size ≤ t.pos) = false := decide_eq_false (by omega)
  go_enter Tryz.func31, Tryz.ntmps31
  go_wp2_with fail
  refine (eof39 s gl gf t w hL hs).mono ?_; rintro e w' ⟨rfl, n0, rfl⟩
  go_wp2_with fail
  refine (peek0 s gl gf t 66 _ (hL.drewN _) hs hp hc.out rfl).mono ?_; rintro e w' ⟨rfl, n1, rfl⟩
  go_wp2_with fail
  go_step3
  go_wp2_with fail
  go_step3
  go_wp2_with fail
  refine wp_loop_rounds 2 ?_
  rw [rounds_succ]
  go_wp2_with fail
  refine (ok45c s gl gf t 0 true _ (hL.drewN _) hs (by omega) rfl (by decide) (decide_eq_true (by have := hp; omega))).mono ?_; rintro e w' ⟨rfl, o0, rfl⟩
  go_wp2_with fail
  refine (is43c s gl gf t 0 66 true _ (hL.drewN _) hs (by omega) rfl rfl (by decide) (by decide) (by rw [h0.out]; rfl)).mono ?_; rintro e w' ⟨rfl, j0_66, rfl⟩
  go_wp2_with fail
  rw [rounds_succ]
  go_wp2_with fail
  refine (ok45c s gl gf t 1 true _ (hL.drewN _) hs (by omega) rfl (by decide) (decide_eq_true (by have := hlt1.out; omega))).mono ?_; rintro e w' ⟨rfl, o1, rfl⟩
  go_wp2_with fail
  refine (is43c s gl gf t 1 82 false _ (hL.drewN _) hs (by omega) rfl rfl (by decide) (by decide) (by rw [h1.out]; rfl)).mono ?_; rintro e w' ⟨rfl, j1_82, rfl⟩
  go_wp2_with fail
  refine (is43c s gl gf t 1 114 false _ (hL.drewN _) hs (by omega) rfl rfl (by decide) (by decide) (by rw [h1.out]; rfl)).mono ?_; rintro e w' ⟨rfl, j1_114, rfl⟩
  go_wp2_with fail
  refine (is43c s gl gf t 1 34 true _ (hL.drewN _) hs (by omega) rfl rfl (by decide) (by decide) (by rw [h1.out]; rfl)).mono ?_; rintro e w' ⟨rfl, j1_34, rfl⟩
  go_wp2_with fail
  refine (skip2 s gl gf t 1 _ (hL.drewN _) hs rfl (by have := hlt1.out; omega)).mono ?_; rintro e w1 ⟨rfl, hX, hg⟩
  go_wp2_with fail
  refine (lit55 s gl gf _ w1 hP hX (show markB (bt s (t.pos + 1)) = true by rw [h1.out]; rfl)).mono ?_
  intro e w2 hq
  have hpre : preP s t.pos = (1, true, true) := by
    have g0 := h0.out
    have g1 := h1.out
    simp only [Nat.add_zero] at g0
    simp [preP, preN, inP, isBB, isRR, markB, *]
  have hlq : oneQ s t.pos t.last = litP s t.pos := by
    have g0 := h0.out
    simp only [Nat.add_zero] at g0
    exact lit_q (by rw [g0]; decide) (by rw [g0]; rfl) (by rw [g0]; decide) (by rw [g0]; rfl) (by rw [hpre])
  have hfr := fr_trans (fr_drewN (fr_refl w (some gl)) _) hg
  rcases hq with ⟨q1, pe, pp, m, cs, nn, rfl, q⟩ | ⟨d, v, q1, rfl, hX2, hg2, _⟩
  · go_wp2_with fail
    exact ⟨rfl, tok_litF hp hlq hpre q1 (Fault.after ⟨pe, pp, m, cs, nn, rfl, q⟩ (Fr2.of hfr))⟩
  · go_wp2_with fail
    refine bodyPost_ret (results_none rfl _ _ _) rfl (tok_lit hcl.out hp hlq hpre q1 hX2 (fr_trans hfr hg2))

set_option maxRecDepth 100000 in
set_option maxHeartbeats 4000000 in
theorem tok31_L66_39 (s : ByteArray) (gl gf : Nat) (t : St) (w : World) (hP : Hid (PL s)) (hL : LX w gl gf s t) (hp : t.pos < s.size) (hcl : Hid (Clr t)) (hc : Hid (bt s t.pos = 66)) (h1 : Hid (bt s (t.pos + 1) = 39)) :
    Calls Tryz.prog 31 #[.pointer (some ⟨gl, 0, none⟩), .bool false] w (TokPost s gl gf t w) := by
  have hs : s.size ≤ 2147483647 := Nat.le_trans hP.out.size (by decide)
  have hlt1 : Hid (t.pos + 1 < s.size) := lt_of_bt (by rw [h1.out]; decide)
  have h0 : Hid (bt s (t.pos + 0) = 66) := hc.out
  have hd : decide (s.size ≤ t.pos) = false := decide_eq_false (by omega)
  go_enter Tryz.func31, Tryz.ntmps31
  go_wp2_with fail
  refine (eof39 s gl gf t w hL hs).mono ?_; rintro e w' ⟨rfl, n0, rfl⟩
  go_wp2_with fail
  refine (peek0 s gl gf t 66 _ (hL.drewN _) hs hp hc.out rfl).mono ?_; rintro e w' ⟨rfl, n1, rfl⟩
  go_wp2_with fail
  go_step3
  go_wp2_with fail
  go_step3
  go_wp2_with fail
  refine wp_loop_rounds 2 ?_
  rw [rounds_succ]
  go_wp2_with fail
  refine (ok45c s gl gf t 0 true _ (hL.drewN _) hs (by omega) rfl (by decide) (decide_eq_true (by have := hp; omega))).mono ?_; rintro e w' ⟨rfl, o0, rfl⟩
  go_wp2_with fail
  refine (is43c s gl gf t 0 66 true _ (hL.drewN _) hs (by omega) rfl rfl (by decide) (by decide) (by rw [h0.out]; rfl)).mono ?_; rintro e w' ⟨rfl, j0_66, rfl⟩
  go_wp2_with fail
  rw [rounds_succ]
  go_wp2_with fail
  refine (ok45c s gl gf t 1 true _ (hL.drewN _) hs (by omega) rfl (by decide) (decide_eq_true (by have := hlt1.out; omega))).mono ?_; rintro e w' ⟨rfl, o1, rfl⟩
  go_wp2_with fail
  refine (is43c s gl gf t 1 82 false _ (hL.drewN _) hs (by omega) rfl rfl (by decide) (by decide) (by rw [h1.out]; rfl)).mono ?_; rintro e w' ⟨rfl, j1_82, rfl⟩
  go_wp2_with fail
  refine (is43c s gl gf t 1 114 false _ (hL.drewN _) hs (by omega) rfl rfl (by decide) (by decide) (by rw [h1.out]; rfl)).mono ?_; rintro e w' ⟨rfl, j1_114, rfl⟩
  go_wp2_with fail
  refine (is43c s gl gf t 1 34 false _ (hL.drewN _) hs (by omega) rfl rfl (by decide) (by decide) (by rw [h1.out]; rfl)).mono ?_; rintro e w' ⟨rfl, j1_34, rfl⟩
  go_wp2_with fail
  refine (is43c s gl gf t 1 39 true _ (hL.drewN _) hs (by omega) rfl rfl (by decide) (by decide) (by rw [h1.out]; rfl)).mono ?_; rintro e w' ⟨rfl, j1_39, rfl⟩
  go_wp2_with fail
  refine (skip2 s gl gf t 1 _ (hL.drewN _) hs rfl (by have := hlt1.out; omega)).mono ?_; rintro e w1 ⟨rfl, hX, hg⟩
  go_wp2_with fail
  refine (lit55 s gl gf _ w1 hP hX (show markB (bt s (t.pos + 1)) = true by rw [h1.out]; rfl)).mono ?_
  intro e w2 hq
  have hpre : preP s t.pos = (1, true, true) := by
    have g0 := h0.out
    have g1 := h1.out
    simp only [Nat.add_zero] at g0
    simp [preP, preN, inP, isBB, isRR, markB, *]
  have hlq : oneQ s t.pos t.last = litP s t.pos := by
    have g0 := h0.out
    simp only [Nat.add_zero] at g0
    exact lit_q (by rw [g0]; decide) (by rw [g0]; rfl) (by rw [g0]; decide) (by rw [g0]; rfl) (by rw [hpre])
  have hfr := fr_trans (fr_drewN (fr_refl w (some gl)) _) hg
  rcases hq with ⟨q1, pe, pp, m, cs, nn, rfl, q⟩ | ⟨d, v, q1, rfl, hX2, hg2, _⟩
  · go_wp2_with fail
    exact ⟨rfl, tok_litF hp hlq hpre q1 (Fault.after ⟨pe, pp, m, cs, nn, rfl, q⟩ (Fr2.of hfr))⟩
  · go_wp2_with fail
    refine bodyPost_ret (results_none rfl _ _ _) rfl (tok_lit hcl.out hp hlq hpre q1 hX2 (fr_trans hfr hg2))

set_option maxRecDepth 100000 in
set_option maxHeartbeats 4000000 in
theorem tok31_L98_34 (s : ByteArray) (gl gf : Nat) (t : St) (w : World) (hP : Hid (PL s)) (hL : LX w gl gf s t) (hp : t.pos < s.size) (hcl : Hid (Clr t)) (hc : Hid (bt s t.pos = 98)) (h1 : Hid (bt s (t.pos + 1) = 34)) :
    Calls Tryz.prog 31 #[.pointer (some ⟨gl, 0, none⟩), .bool false] w (TokPost s gl gf t w) := by
  have hs : s.size ≤ 2147483647 := Nat.le_trans hP.out.size (by decide)
  have hlt1 : Hid (t.pos + 1 < s.size) := lt_of_bt (by rw [h1.out]; decide)
  have h0 : Hid (bt s (t.pos + 0) = 98) := hc.out
  have hd : decide (s.size ≤ t.pos) = false := decide_eq_false (by omega)
  go_enter Tryz.func31, Tryz.ntmps31
  go_wp2_with fail
  refine (eof39 s gl gf t w hL hs).mono ?_; rintro e w' ⟨rfl, n0, rfl⟩
  go_wp2_with fail
  refine (peek0 s gl gf t 98 _ (hL.drewN _) hs hp hc.out rfl).mono ?_; rintro e w' ⟨rfl, n1, rfl⟩
  go_wp2_with fail
  go_step3
  go_wp2_with fail
  go_step3
  go_wp2_with fail
  refine wp_loop_rounds 2 ?_
  rw [rounds_succ]
  go_wp2_with fail
  refine (ok45c s gl gf t 0 true _ (hL.drewN _) hs (by omega) rfl (by decide) (decide_eq_true (by have := hp; omega))).mono ?_; rintro e w' ⟨rfl, o0, rfl⟩
  go_wp2_with fail
  refine (is43c s gl gf t 0 66 false _ (hL.drewN _) hs (by omega) rfl rfl (by decide) (by decide) (by rw [h0.out]; rfl)).mono ?_; rintro e w' ⟨rfl, j0_66, rfl⟩
  go_wp2_with fail
  refine (is43c s gl gf t 0 98 true _ (hL.drewN _) hs (by omega) rfl rfl (by decide) (by decide) (by rw [h0.out]; rfl)).mono ?_; rintro e w' ⟨rfl, j0_98, rfl⟩
  go_wp2_with fail
  rw [rounds_succ]
  go_wp2_with fail
  refine (ok45c s gl gf t 1 true _ (hL.drewN _) hs (by omega) rfl (by decide) (decide_eq_true (by have := hlt1.out; omega))).mono ?_; rintro e w' ⟨rfl, o1, rfl⟩
  go_wp2_with fail
  refine (is43c s gl gf t 1 82 false _ (hL.drewN _) hs (by omega) rfl rfl (by decide) (by decide) (by rw [h1.out]; rfl)).mono ?_; rintro e w' ⟨rfl, j1_82, rfl⟩
  go_wp2_with fail
  refine (is43c s gl gf t 1 114 false _ (hL.drewN _) hs (by omega) rfl rfl (by decide) (by decide) (by rw [h1.out]; rfl)).mono ?_; rintro e w' ⟨rfl, j1_114, rfl⟩
  go_wp2_with fail
  refine (is43c s gl gf t 1 34 true _ (hL.drewN _) hs (by omega) rfl rfl (by decide) (by decide) (by rw [h1.out]; rfl)).mono ?_; rintro e w' ⟨rfl, j1_34, rfl⟩
  go_wp2_with fail
  refine (skip2 s gl gf t 1 _ (hL.drewN _) hs rfl (by have := hlt1.out; omega)).mono ?_; rintro e w1 ⟨rfl, hX, hg⟩
  go_wp2_with fail
  refine (lit55 s gl gf _ w1 hP hX (show markB (bt s (t.pos + 1)) = true by rw [h1.out]; rfl)).mono ?_
  intro e w2 hq
  have hpre : preP s t.pos = (1, true, true) := by
    have g0 := h0.out
    have g1 := h1.out
    simp only [Nat.add_zero] at g0
    simp [preP, preN, inP, isBB, isRR, markB, *]
  have hlq : oneQ s t.pos t.last = litP s t.pos := by
    have g0 := h0.out
    simp only [Nat.add_zero] at g0
    exact lit_q (by rw [g0]; decide) (by rw [g0]; rfl) (by rw [g0]; decide) (by rw [g0]; rfl) (by rw [hpre])
  have hfr := fr_trans (fr_drewN (fr_refl w (some gl)) _) hg
  rcases hq with ⟨q1, pe, pp, m, cs, nn, rfl, q⟩ | ⟨d, v, q1, rfl, hX2, hg2, _⟩
  · go_wp2_with fail
    exact ⟨rfl, tok_litF hp hlq hpre q1 (Fault.after ⟨pe, pp, m, cs, nn, rfl, q⟩ (Fr2.of hfr))⟩
  · go_wp2_with fail
    refine bodyPost_ret (results_none rfl _ _ _) rfl (tok_lit hcl.out hp hlq hpre q1 hX2 (fr_trans hfr hg2))

set_option maxRecDepth 100000 in
set_option maxHeartbeats 4000000 in
theorem tok31_L98_39 (s : ByteArray) (gl gf : Nat) (t : St) (w : World) (hP : Hid (PL s)) (hL : LX w gl gf s t) (hp : t.pos < s.size) (hcl : Hid (Clr t)) (hc : Hid (bt s t.pos = 98)) (h1 : Hid (bt s (t.pos + 1) = 39)) :
    Calls Tryz.prog 31 #[.pointer (some ⟨gl, 0, none⟩), .bool false] w (TokPost s gl gf t w) := by
  have hs : s.size ≤ 2147483647 := Nat.le_trans hP.out.size (by decide)
  have hlt1 : Hid (t.pos + 1 < s.size) := lt_of_bt (by rw [h1.out]; decide)
  have h0 : Hid (bt s (t.pos + 0) = 98) := hc.out
  have hd : decide (s.size ≤ t.pos) = false := decide_eq_false (by omega)
  go_enter Tryz.func31, Tryz.ntmps31
  go_wp2_with fail
  refine (eof39 s gl gf t w hL hs).mono ?_; rintro e w' ⟨rfl, n0, rfl⟩
  go_wp2_with fail
  refine (peek0 s gl gf t 98 _ (hL.drewN _) hs hp hc.out rfl).mono ?_; rintro e w' ⟨rfl, n1, rfl⟩
  go_wp2_with fail
  go_step3
  go_wp2_with fail
  go_step3
  go_wp2_with fail
  refine wp_loop_rounds 2 ?_
  rw [rounds_succ]
  go_wp2_with fail
  refine (ok45c s gl gf t 0 true _ (hL.drewN _) hs (by omega) rfl (by decide) (decide_eq_true (by have := hp; omega))).mono ?_; rintro e w' ⟨rfl, o0, rfl⟩
  go_wp2_with fail
  refine (is43c s gl gf t 0 66 false _ (hL.drewN _) hs (by omega) rfl rfl (by decide) (by decide) (by rw [h0.out]; rfl)).mono ?_; rintro e w' ⟨rfl, j0_66, rfl⟩
  go_wp2_with fail
  refine (is43c s gl gf t 0 98 true _ (hL.drewN _) hs (by omega) rfl rfl (by decide) (by decide) (by rw [h0.out]; rfl)).mono ?_; rintro e w' ⟨rfl, j0_98, rfl⟩
  go_wp2_with fail
  rw [rounds_succ]
  go_wp2_with fail
  refine (ok45c s gl gf t 1 true _ (hL.drewN _) hs (by omega) rfl (by decide) (decide_eq_true (by have := hlt1.out; omega))).mono ?_; rintro e w' ⟨rfl, o1, rfl⟩
  go_wp2_with fail
  refine (is43c s gl gf t 1 82 false _ (hL.drewN _) hs (by omega) rfl rfl (by decide) (by decide) (by rw [h1.out]; rfl)).mono ?_; rintro e w' ⟨rfl, j1_82, rfl⟩
  go_wp2_with fail
  refine (is43c s gl gf t 1 114 false _ (hL.drewN _) hs (by omega) rfl rfl (by decide) (by decide) (by rw [h1.out]; rfl)).mono ?_; rintro e w' ⟨rfl, j1_114, rfl⟩
  go_wp2_with fail
  refine (is43c s gl gf t 1 34 false _ (hL.drewN _) hs (by omega) rfl rfl (by decide) (by decide) (by rw [h1.out]; rfl)).mono ?_; rintro e w' ⟨rfl, j1_34, rfl⟩
  go_wp2_with fail
  refine (is43c s gl gf t 1 39 true _ (hL.drewN _) hs (by omega) rfl rfl (by decide) (by decide) (by rw [h1.out]; rfl)).mono ?_; rintro e w' ⟨rfl, j1_39, rfl⟩
  go_wp2_with fail
  refine (skip2 s gl gf t 1 _ (hL.drewN _) hs rfl (by have := hlt1.out; omega)).mono ?_; rintro e w1 ⟨rfl, hX, hg⟩
  go_wp2_with fail
  refine (lit55 s gl gf _ w1 hP hX (show markB (bt s (t.pos + 1)) = true by rw [h1.out]; rfl)).mono ?_
  intro e w2 hq
  have hpre : preP s t.pos = (1, true, true) := by
    have g0 := h0.out
    have g1 := h1.out
    simp only [Nat.add_zero] at g0
    simp [preP, preN, inP, isBB, isRR, markB, *]
  have hlq : oneQ s t.pos t.last = litP s t.pos := by
    have g0 := h0.out
    simp only [Nat.add_zero] at g0
    exact lit_q (by rw [g0]; decide) (by rw [g0]; rfl) (by rw [g0]; decide) (by rw [g0]; rfl) (by rw [hpre])
  have hfr := fr_trans (fr_drewN (fr_refl w (some gl)) _) hg
  rcases hq with ⟨q1, pe, pp, m, cs, nn, rfl, q⟩ | ⟨d, v, q1, rfl, hX2, hg2, _⟩
  · go_wp2_with fail
    exact ⟨rfl, tok_litF hp hlq hpre q1 (Fault.after ⟨pe, pp, m, cs, nn, rfl, q⟩ (Fr2.of hfr))⟩
  · go_wp2_with fail
    refine bodyPost_ret (results_none rfl _ _ _) rfl (tok_lit hcl.out hp hlq hpre q1 hX2 (fr_trans hfr hg2))

set_option maxRecDepth 100000 in
set_option maxHeartbeats 4000000 in
theorem tok31_L82_34 (s : ByteArray) (gl gf : Nat) (t : St) (w : World) (hP : Hid (PL s)) (hL : LX w gl gf s t) (hp : t.pos < s.size) (hcl : Hid (Clr t)) (hc : Hid (bt s t.pos = 82)) (h1 : Hid (bt s (t.pos + 1) = 34)) :
    Calls Tryz.prog 31 #[.pointer (some ⟨gl, 0, none⟩), .bool false] w (TokPost s gl gf t w) := by
  have hs : s.size ≤ 2147483647 := Nat.le_trans hP.out.size (by decide)
  have hlt1 : Hid (t.pos + 1 < s.size) := lt_of_bt (by rw [h1.out]; decide)
  have h0 : Hid (bt s (t.pos + 0) = 82) := hc.out
  have hd : decide (s.size ≤ t.pos) = false := decide_eq_false (by omega)
  go_enter Tryz.func31, Tryz.ntmps31
  go_wp2_with fail
  refine (eof39 s gl gf t w hL hs).mono ?_; rintro e w' ⟨rfl, n0, rfl⟩
  go_wp2_with fail
  refine (peek0 s gl gf t 82 _ (hL.drewN _) hs hp hc.out rfl).mono ?_; rintro e w' ⟨rfl, n1, rfl⟩
  go_wp2_with fail
  go_step3
  go_wp2_with fail
  go_step3
  go_wp2_with fail
  refine wp_loop_rounds 2 ?_
  rw [rounds_succ]
  go_wp2_with fail
  refine (ok45c s gl gf t 0 true _ (hL.drewN _) hs (by omega) rfl (by decide) (decide_eq_true (by have := hp; omega))).mono ?_; rintro e w' ⟨rfl, o0, rfl⟩
  go_wp2_with fail
  refine (is43c s gl gf t 0 66 false _ (hL.drewN _) hs (by omega) rfl rfl (by decide) (by decide) (by rw [h0.out]; rfl)).mono ?_; rintro e w' ⟨rfl, j0_66, rfl⟩
  go_wp2_with fail
  refine (is43c s gl gf t 0 98 false _ (hL.drewN _) hs (by omega) rfl rfl (by decide) (by decide) (by rw [h0.out]; rfl)).mono ?_; rintro e w' ⟨rfl, j0_98, rfl⟩
  go_wp2_with fail
  refine (is43c s gl gf t 0 82 true _ (hL.drewN _) hs (by omega) rfl rfl (by decide) (by decide) (by rw [h0.out]; rfl)).mono ?_; rintro e w' ⟨rfl, j0_82, rfl⟩
  go_wp2_with fail
  rw [rounds_succ]
  go_wp2_with fail
  refine (ok45c s gl gf t 1 true _ (hL.drewN _) hs (by omega) rfl (by decide) (decide_eq_true (by have := hlt1.out; omega))).mono ?_; rintro e w' ⟨rfl, o1, rfl⟩
  go_wp2_with fail
  refine (is43c s gl gf t 1 66 false _ (hL.drewN _) hs (by omega) rfl rfl (by decide) (by decide) (by rw [h1.out]; rfl)).mono ?_; rintro e w' ⟨rfl, j1_66, rfl⟩
  go_wp2_with fail
  refine (is43c s gl gf t 1 98 false _ (hL.drewN _) hs (by omega) rfl rfl (by decide) (by decide) (by rw [h1.out]; rfl)).mono ?_; rintro e w' ⟨rfl, j1_98, rfl⟩
  go_wp2_with fail
  refine (is43c s gl gf t 1 34 true _ (hL.drewN _) hs (by omega) rfl rfl (by decide) (by decide) (by rw [h1.out]; rfl)).mono ?_; rintro e w' ⟨rfl, j1_34, rfl⟩
  go_wp2_with fail
  refine (skip2 s gl gf t 1 _ (hL.drewN _) hs rfl (by have := hlt1.out; omega)).mono ?_; rintro e w1 ⟨rfl, hX, hg⟩
  go_wp2_with fail
  refine (lit56 s gl gf _ w1 hP hX (show markB (bt s (t.pos + 1)) = true by rw [h1.out]; rfl)).mono ?_
  intro e w2 hq
  have hpre : preP s t.pos = (1, false, true) := by
    have g0 := h0.out
    have g1 := h1.out
    simp only [Nat.add_zero] at g0
    simp [preP, preN, inP, isBB, isRR, markB, *]
  have hlq : oneQ s t.pos t.last = litP s t.pos := by
    have g0 := h0.out
    simp only [Nat.add_zero] at g0
    exact lit_q (by rw [g0]; decide) (by rw [g0]; rfl) (by rw [g0]; decide) (by rw [g0]; rfl) (by rw [hpre])
  have hfr := fr_trans (fr_drewN (fr_refl w (some gl)) _) hg
  rcases hq with ⟨q1, pe, pp, m, cs, nn, rfl, q⟩ | ⟨d, v, q1, rfl, hX2, hg2, _⟩
  · go_wp2_with fail
    exact ⟨rfl, tok_litF hp hlq hpre q1 (Fault.after ⟨pe, pp, m, cs, nn, rfl, q⟩ (Fr2.of hfr))⟩
  · go_wp2_with fail
    refine bodyPost_ret (results_none rfl _ _ _) rfl (tok_lit hcl.out hp hlq hpre q1 hX2 (fr_trans hfr hg2))

set_option maxRecDepth 100000 in
set_option maxHeartbeats 4000000 in
theorem tok31_L82_39 (s : ByteArray) (gl gf : Nat) (t : St) (w : World) (hP : Hid (PL s)) (hL : LX w gl gf s t) (hp : t.pos < s.size) (hcl : Hid (Clr t)) (hc : Hid (bt s t.pos = 82)) (h1 : Hid (bt s (t.pos + 1) = 39)) :
    Calls Tryz.prog 31 #[.pointer (some ⟨gl, 0, none⟩), .bool false] w (TokPost s gl gf t w) := by
  have hs : s.size ≤ 2147483647 := Nat.le_trans hP.out.size (by decide)
  have hlt1 : Hid (t.pos + 1 < s.size) := lt_of_bt (by rw [h1.out]; decide)
  have h0 : Hid (bt s (t.pos + 0) = 82) := hc.out
  have hd : decide (s.size ≤ t.pos) = false := decide_eq_false (by omega)
  go_enter Tryz.func31, Tryz.ntmps31
  go_wp2_with fail
  refine (eof39 s gl gf t w hL hs).mono ?_; rintro e w' ⟨rfl, n0, rfl⟩
  go_wp2_with fail
  refine (peek0 s gl gf t 82 _ (hL.drewN _) hs hp hc.out rfl).mono ?_; rintro e w' ⟨rfl, n1, rfl⟩
  go_wp2_with fail
  go_step3
  go_wp2_with fail
  go_step3
  go_wp2_with fail
  refine wp_loop_rounds 2 ?_
  rw [rounds_succ]
  go_wp2_with fail
  refine (ok45c s gl gf t 0 true _ (hL.drewN _) hs (by omega) rfl (by decide) (decide_eq_true (by have := hp; omega))).mono ?_; rintro e w' ⟨rfl, o0, rfl⟩
  go_wp2_with fail
  refine (is43c s gl gf t 0 66 false _ (hL.drewN _) hs (by omega) rfl rfl (by decide) (by decide) (by rw [h0.out]; rfl)).mono ?_; rintro e w' ⟨rfl, j0_66, rfl⟩
  go_wp2_with fail
  refine (is43c s gl gf t 0 98 false _ (hL.drewN _) hs (by omega) rfl rfl (by decide) (by decide) (by rw [h0.out]; rfl)).mono ?_; rintro e w' ⟨rfl, j0_98, rfl⟩
  go_wp2_with fail
  refine (is43c s gl gf t 0 82 true _ (hL.drewN _) hs (by omega) rfl rfl (by decide) (by decide) (by rw [h0.out]; rfl)).mono ?_; rintro e w' ⟨rfl, j0_82, rfl⟩
  go_wp2_with fail
  rw [rounds_succ]
  go_wp2_with fail
  refine (ok45c s gl gf t 1 true _ (hL.drewN _) hs (by omega) rfl (by decide) (decide_eq_true (by have := hlt1.out; omega))).mono ?_; rintro e w' ⟨rfl, o1, rfl⟩
  go_wp2_with fail
  refine (is43c s gl gf t 1 66 false _ (hL.drewN _) hs (by omega) rfl rfl (by decide) (by decide) (by rw [h1.out]; rfl)).mono ?_; rintro e w' ⟨rfl, j1_66, rfl⟩
  go_wp2_with fail
  refine (is43c s gl gf t 1 98 false _ (hL.drewN _) hs (by omega) rfl rfl (by decide) (by decide) (by rw [h1.out]; rfl)).mono ?_; rintro e w' ⟨rfl, j1_98, rfl⟩
  go_wp2_with fail
  refine (is43c s gl gf t 1 34 false _ (hL.drewN _) hs (by omega) rfl rfl (by decide) (by decide) (by rw [h1.out]; rfl)).mono ?_; rintro e w' ⟨rfl, j1_34, rfl⟩
  go_wp2_with fail
  refine (is43c s gl gf t 1 39 true _ (hL.drewN _) hs (by omega) rfl rfl (by decide) (by decide) (by rw [h1.out]; rfl)).mono ?_; rintro e w' ⟨rfl, j1_39, rfl⟩
  go_wp2_with fail
  refine (skip2 s gl gf t 1 _ (hL.drewN _) hs rfl (by have := hlt1.out; omega)).mono ?_; rintro e w1 ⟨rfl, hX, hg⟩
  go_wp2_with fail
  refine (lit56 s gl gf _ w1 hP hX (show markB (bt s (t.pos + 1)) = true by rw [h1.out]; rfl)).mono ?_
  intro e w2 hq
  have hpre : preP s t.pos = (1, false, true) := by
    have g0 := h0.out
    have g1 := h1.out
    simp only [Nat.add_zero] at g0
    simp [preP, preN, inP, isBB, isRR, markB, *]
  have hlq : oneQ s t.pos t.last = litP s t.pos := by
    have g0 := h0.out
    simp only [Nat.add_zero] at g0
    exact lit_q (by rw [g0]; decide) (by rw [g0]; rfl) (by rw [g0]; decide) (by rw [g0]; rfl) (by rw [hpre])
  have hfr := fr_trans (fr_drewN (fr_refl w (some gl)) _) hg
  rcases hq with ⟨q1, pe, pp, m, cs, nn, rfl, q⟩ | ⟨d, v, q1, rfl, hX2, hg2, _⟩
  · go_wp2_with fail
    exact ⟨rfl, tok_litF hp hlq hpre q1 (Fault.after ⟨pe, pp, m, cs, nn, rfl, q⟩ (Fr2.of hfr))⟩
  · go_wp2_with fail
    refine bodyPost_ret (results_none rfl _ _ _) rfl (tok_lit hcl.out hp hlq hpre q1 hX2 (fr_trans hfr hg2))

set_option maxRecDepth 100000 in
set_option maxHeartbeats 4000000 in
theorem tok31_L114_34 (s : ByteArray) (gl gf : Nat) (t : St) (w : World) (hP : Hid (PL s)) (hL : LX w gl gf s t) (hp : t.pos < s.size) (hcl : Hid (Clr t)) (hc : Hid (bt s t.pos = 114)) (h1 : Hid (bt s (t.pos + 1) = 34)) :
    Calls Tryz.prog 31 #[.pointer (some ⟨gl, 0, none⟩), .bool false] w (TokPost s gl gf t w) := by
  have hs : s.size ≤ 2147483647 := Nat.le_trans hP.out.size (by decide)
  have hlt1 : Hid (t.pos + 1 < s.size) := lt_of_bt (by rw [h1.out]; decide)
  have h0 : Hid (bt s (t.pos + 0) = 114) := hc.out
  have hd : decide (s.size ≤ t.pos) = false := decide_eq_false (by omega)
  go_enter Tryz.func31, Tryz.ntmps31
  go_wp2_with fail
  refine (eof39 s gl gf t w hL hs).mono ?_; rintro e w' ⟨rfl, n0, rfl⟩
  go_wp2_with fail
  refine (peek0 s gl gf t 114 _ (hL.drewN _) hs hp hc.out rfl).mono ?_; rintro e w' ⟨rfl, n1, rfl⟩
  go_wp2_with fail
  go_step3
  go_wp2_with fail
  go_step3
  go_wp2_with fail
  refine wp_loop_rounds 2 ?_
  rw [rounds_succ]
  go_wp2_with fail
  refine (ok45c s gl gf t 0 true _ (hL.drewN _) hs (by omega) rfl (by decide) (decide_eq_true (by have := hp; omega))).mono ?_; rintro e w' ⟨rfl, o0, rfl⟩
  go_wp2_with fail
  refine (is43c s gl gf t 0 66 false _ (hL.drewN _) hs (by omega) rfl rfl (by decide) (by decide) (by rw [h0.out]; rfl)).mono ?_; rintro e w' ⟨rfl, j0_66, rfl⟩
  go_wp2_with fail
  refine (is43c s gl gf t 0 98 false _ (hL.drewN _) hs (by omega) rfl rfl (by decide) (by decide) (by rw [h0.out]; rfl)).mono ?_; rintro e w' ⟨rfl, j0_98, rfl⟩
  go_wp2_with fail
  refine (is43c s gl gf t 0 82 false _ (hL.drewN _) hs (by omega) rfl rfl (by decide) (by decide) (by rw [h0.out]; rfl)).mono ?_; rintro e w' ⟨rfl, j0_82, rfl⟩
  go_wp2_with fail
  refine (is43c s gl gf t 0 114 true _ (hL.drewN _) hs (by omega) rfl rfl (by decide) (by decide) (by rw [h0.out]; rfl)).mono ?_; rintro e w' ⟨rfl, j0_114, rfl⟩
  go_wp2_with fail
  rw [rounds_succ]
  go_wp2_with fail
  refine (ok45c s gl gf t 1 true _ (hL.drewN _) hs (by omega) rfl (by decide) (decide_eq_true (by have := hlt1.out; omega))).mono ?_; rintro e w' ⟨rfl, o1, rfl⟩
  go_wp2_with fail
  refine (is43c s gl gf t 1 66 false _ (hL.drewN _) hs (by omega) rfl rfl (by decide) (by decide) (by rw [h1.out]; rfl)).mono ?_; rintro e w' ⟨rfl, j1_66, rfl⟩
  go_wp2_with fail
  refine (is43c s gl gf t 1 98 false _ (hL.drewN _) hs (by omega) rfl rfl (by decide) (by decide) (by rw [h1.out]; rfl)).mono ?_; rintro e w' ⟨rfl, j1_98, rfl⟩
  go_wp2_with fail
  refine (is43c s gl gf t 1 34 true _ (hL.drewN _) hs (by omega) rfl rfl (by decide) (by decide) (by rw [h1.out]; rfl)).mono ?_; rintro e w' ⟨rfl, j1_34, rfl⟩
  go_wp2_with fail
  refine (skip2 s gl gf t 1 _ (hL.drewN _) hs rfl (by have := hlt1.out; omega)).mono ?_; rintro e w1 ⟨rfl, hX, hg⟩
  go_wp2_with fail
  refine (lit56 s gl gf _ w1 hP hX (show markB (bt s (t.pos + 1)) = true by rw [h1.out]; rfl)).mono ?_
  intro e w2 hq
  have hpre : preP s t.pos = (1, false, true) := by
    have g0 := h0.out
    have g1 := h1.out
    simp only [Nat.add_zero] at g0
    simp [preP, preN, inP, isBB, isRR, markB, *]
  have hlq : oneQ s t.pos t.last = litP s t.pos := by
    have g0 := h0.out
    simp only [Nat.add_zero] at g0
    exact lit_q (by rw [g0]; decide) (by rw [g0]; rfl) (by rw [g0]; decide) (by rw [g0]; rfl) (by rw [hpre])
  have hfr := fr_trans (fr_drewN (fr_refl w (some gl)) _) hg
  rcases hq with ⟨q1, pe, pp, m, cs, nn, rfl, q⟩ | ⟨d, v, q1, rfl, hX2, hg2, _⟩
  · go_wp2_with fail
    exact ⟨rfl, tok_litF hp hlq hpre q1 (Fault.after ⟨pe, pp, m, cs, nn, rfl, q⟩ (Fr2.of hfr))⟩
  · go_wp2_with fail
    refine bodyPost_ret (results_none rfl _ _ _) rfl (tok_lit hcl.out hp hlq hpre q1 hX2 (fr_trans hfr hg2))

set_option maxRecDepth 100000 in
set_option maxHeartbeats 4000000 in
theorem tok31_L114_39 (s : ByteArray) (gl gf : Nat) (t : St) (w : World) (hP : Hid (PL s)) (hL : LX w gl gf s t) (hp : t.pos < s.size) (hcl : Hid (Clr t)) (hc : Hid (bt s t.pos = 114)) (h1 : Hid (bt s (t.pos + 1) = 39)) :
    Calls Tryz.prog 31 #[.pointer (some ⟨gl, 0, none⟩), .bool false] w (TokPost s gl gf t w) := by
  have hs : s.size ≤ 2147483647 := Nat.le_trans hP.out.size (by decide)
  have hlt1 : Hid (t.pos + 1 < s.size) := lt_of_bt (by rw [h1.out]; decide)
  have h0 : Hid (bt s (t.pos + 0) = 114) := hc.out
  have hd : decide (s.size ≤ t.pos) = false := decide_eq_false (by omega)
  go_enter Tryz.func31, Tryz.ntmps31
  go_wp2_with fail
  refine (eof39 s gl gf t w hL hs).mono ?_; rintro e w' ⟨rfl, n0, rfl⟩
  go_wp2_with fail
  refine (peek0 s gl gf t 114 _ (hL.drewN _) hs hp hc.out rfl).mono ?_; rintro e w' ⟨rfl, n1, rfl⟩
  go_wp2_with fail
  go_step3
  go_wp2_with fail
  go_step3
  go_wp2_with fail
  refine wp_loop_rounds 2 ?_
  rw [rounds_succ]
  go_wp2_with fail
  refine (ok45c s gl gf t 0 true _ (hL.drewN _) hs (by omega) rfl (by decide) (decide_eq_true (by have := hp; omega))).mono ?_; rintro e w' ⟨rfl, o0, rfl⟩
  go_wp2_with fail
  refine (is43c s gl gf t 0 66 false _ (hL.drewN _) hs (by omega) rfl rfl (by decide) (by decide) (by rw [h0.out]; rfl)).mono ?_; rintro e w' ⟨rfl, j0_66, rfl⟩
  go_wp2_with fail
  refine (is43c s gl gf t 0 98 false _ (hL.drewN _) hs (by omega) rfl rfl (by decide) (by decide) (by rw [h0.out]; rfl)).mono ?_; rintro e w' ⟨rfl, j0_98, rfl⟩
  go_wp2_with fail
  refine (is43c s gl gf t 0 82 false _ (hL.drewN _) hs (by omega) rfl rfl (by decide) (by decide) (by rw [h0.out]; rfl)).mono ?_; rintro e w' ⟨rfl, j0_82, rfl⟩
  go_wp2_with fail
  refine (is43c s gl gf t 0 114 true _ (hL.drewN _) hs (by omega) rfl rfl (by decide) (by decide) (by rw [h0.out]; rfl)).mono ?_; rintro e w' ⟨rfl, j0_114, rfl⟩
  go_wp2_with fail
  rw [rounds_succ]
  go_wp2_with fail
  refine (ok45c s gl gf t 1 true _ (hL.drewN _) hs (by omega) rfl (by decide) (decide_eq_true (by have := hlt1.out; omega))).mono ?_; rintro e w' ⟨rfl, o1, rfl⟩
  go_wp2_with fail
  refine (is43c s gl gf t 1 66 false _ (hL.drewN _) hs (by omega) rfl rfl (by decide) (by decide) (by rw [h1.out]; rfl)).mono ?_; rintro e w' ⟨rfl, j1_66, rfl⟩
  go_wp2_with fail
  refine (is43c s gl gf t 1 98 false _ (hL.drewN _) hs (by omega) rfl rfl (by decide) (by decide) (by rw [h1.out]; rfl)).mono ?_; rintro e w' ⟨rfl, j1_98, rfl⟩
  go_wp2_with fail
  refine (is43c s gl gf t 1 34 false _ (hL.drewN _) hs (by omega) rfl rfl (by decide) (by decide) (by rw [h1.out]; rfl)).mono ?_; rintro e w' ⟨rfl, j1_34, rfl⟩
  go_wp2_with fail
  refine (is43c s gl gf t 1 39 true _ (hL.drewN _) hs (by omega) rfl rfl (by decide) (by decide) (by rw [h1.out]; rfl)).mono ?_; rintro e w' ⟨rfl, j1_39, rfl⟩
  go_wp2_with fail
  refine (skip2 s gl gf t 1 _ (hL.drewN _) hs rfl (by have := hlt1.out; omega)).mono ?_; rintro e w1 ⟨rfl, hX, hg⟩
  go_wp2_with fail
  refine (lit56 s gl gf _ w1 hP hX (show markB (bt s (t.pos + 1)) = true by rw [h1.out]; rfl)).mono ?_
  intro e w2 hq
  have hpre : preP s t.pos = (1, false, true) := by
    have g0 := h0.out
    have g1 := h1.out
    simp only [Nat.add_zero] at g0
    simp [preP, preN, inP, isBB, isRR, markB, *]
  have hlq : oneQ s t.pos t.last = litP s t.pos := by
    have g0 := h0.out
    simp only [Nat.add_zero] at g0
    exact lit_q (by rw [g0]; decide) (by rw [g0]; rfl) (by rw [g0]; decide) (by rw [g0]; rfl) (by rw [hpre])
  have hfr := fr_trans (fr_drewN (fr_refl w (some gl)) _) hg
  rcases hq with ⟨q1, pe, pp, m, cs, nn, rfl, q⟩ | ⟨d, v, q1, rfl, hX2, hg2, _⟩
  · go_wp2_with fail
    exact ⟨rfl, tok_litF hp hlq hpre q1 (Fault.after ⟨pe, pp, m, cs, nn, rfl, q⟩ (Fr2.of hfr))⟩
  · go_wp2_with fail
    refine bodyPost_ret (results_none rfl _ _ _) rfl (tok_lit hcl.out hp hlq hpre q1 hX2 (fr_trans hfr hg2))

end Go.Proofs.YtahcbeofaeflgaaGreatDoor
