/- Lemmas towards the statement FnLexCardSaid, conditions: as each theorem says. -/
import Derived.Test.YtahcbeofaeflgaaGreatDoorG1
namespace Go.Proofs.YtahcbeofaeflgaaGreatDoor
open Go.RowKit

set_option maxRecDepth 100000 in
set_option maxHeartbeats 4000000 in
theorem tok31_60_60 (s : ByteArray) (gl gf : Nat) (t : St) (w : World) (hP : Hid (PL s)) (hL : LX w gl gf s t) (hp : t.pos < s.size) (hcl : Hid (Clr t)) (hc : Hid (bt s t.pos = 60)) (h2 : Hid (bt s (t.pos + 1) = 60)) :
    Calls Tryz.prog 31 #[.pointer (some ⟨gl, 0, none⟩), .bool false] w (TokPost s gl gf t w) := by
  have hs : s.size ≤ 2147483647 := Nat.le_trans hP.out.size (by decide)
  have hd : decide (s.size ≤ t.pos) = false := decide_eq_false (by omega)
  go_enter Tryz.func31, Tryz.ntmps31
  go_wp2_with fail
  refine (eof39 s gl gf t w hL hs).mono ?_; rintro e w' ⟨rfl, n0, rfl⟩
  go_wp2_with fail
  refine (peek0 s gl gf t 60 _ (hL.drewN _) hs hp hc.out rfl).mono ?_; rintro e w' ⟨rfl, n1, rfl⟩
  go_wp2_with fail
  refine (is43c s gl gf t 1 60 true _ (hL.drewN _) hs (by omega) rfl rfl (by decide) (by decide) (by rw [h2.out]; rfl)).mono ?_; rintro e w' ⟨rfl, m0, rfl⟩
  go_wp2_with fail
  refine (skip2 s gl gf t 2 _ (hL.drewN _) hs rfl (by have := lt_of_bt (s := s) (k := t.pos + 1) (by rw [h2.out]; decide); omega)).mono ?_; rintro e w1 ⟨rfl, hX, hg⟩
  have k1 := hX.c1
  have f1 := hX.fr 1
  go_wp2_with fail
  refine bodyPost_ret (results_none rfl _ _ _) rfl (tok_sign hcl.out hp (hX.kind ⟨#[60, 60]⟩) (fr_set (fr_trans (fr_drewN (fr_refl w (some gl)) _) hg) 1 _) (by simp) ?_)
  have h1 := hc.out
  have h3 := h2.out
  refine oneQ_sign (v := ⟨#[60, 60]⟩) ?_ ?_ ?_ ?_ ?_ (show (2 : Nat) ≠ 0 by decide)
  · simp [parP, letB, h1, h3]
  · simp [nmB, digB, h1]
  · simp [markB, h1]
  · simp [letB, h1]
  · unfold signP
    rw [show (twoL.find? fun p => stB s t.pos p) = some ⟨#[60, 60]⟩ by simp only [twoL, List.find?_cons, stB_two, h1, h3]; rfl]

set_option maxRecDepth 100000 in
set_option maxHeartbeats 4000000 in
theorem tok31_60_61 (s : ByteArray) (gl gf : Nat) (t : St) (w : World) (hP : Hid (PL s)) (hL : LX w gl gf s t) (hp : t.pos < s.size) (hcl : Hid (Clr t)) (hc : Hid (bt s t.pos = 60)) (h2 : Hid (bt s (t.pos + 1) = 61)) :
    Calls Tryz.prog 31 #[.pointer (some ⟨gl, 0, none⟩), .bool false] w (TokPost s gl gf t w) := by
  have hs : s.size ≤ 2147483647 := Nat.le_trans hP.out.size (by decide)
  have hd : decide (s.size ≤ t.pos) = false := decide_eq_false (by omega)
  go_enter Tryz.func31, Tryz.ntmps31
  go_wp2_with fail
  refine (eof39 s gl gf t w hL hs).mono ?_; rintro e w' ⟨rfl, n0, rfl⟩
  go_wp2_with fail
  refine (peek0 s gl gf t 60 _ (hL.drewN _) hs hp hc.out rfl).mono ?_; rintro e w' ⟨rfl, n1, rfl⟩
  go_wp2_with fail
  refine (is43c s gl gf t 1 60 false _ (hL.drewN _) hs (by omega) rfl rfl (by decide) (by decide) (by rw [h2.out]; rfl)).mono ?_; rintro e w' ⟨rfl, m0, rfl⟩
  go_wp2_with fail
  refine (is43c s gl gf t 1 61 true _ (hL.drewN _) hs (by omega) rfl rfl (by decide) (by decide) (by rw [h2.out]; rfl)).mono ?_; rintro e w' ⟨rfl, m1, rfl⟩
  go_wp2_with fail
  refine (skip2 s gl gf t 2 _ (hL.drewN _) hs rfl (by have := lt_of_bt (s := s) (k := t.pos + 1) (by rw [h2.out]; decide); omega)).mono ?_; rintro e w1 ⟨rfl, hX, hg⟩
  have k1 := hX.c1
  have f1 := hX.fr 1
  go_wp2_with fail
  refine bodyPost_ret (results_none rfl _ _ _) rfl (tok_sign hcl.out hp (hX.kind ⟨#[60, 61]⟩) (fr_set (fr_trans (fr_drewN (fr_refl w (some gl)) _) hg) 1 _) (by simp) ?_)
  have h1 := hc.out
  have h3 := h2.out
  refine oneQ_sign (v := ⟨#[60, 61]⟩) ?_ ?_ ?_ ?_ ?_ (show (2 : Nat) ≠ 0 by decide)
  · simp [parP, letB, h1, h3]
  · simp [nmB, digB, h1]
  · simp [markB, h1]
  · simp [letB, h1]
  · unfold signP
    rw [show (twoL.find? fun p => stB s t.pos p) = some ⟨#[60, 61]⟩ by simp only [twoL, List.find?_cons, stB_two, h1, h3]; rfl]

set_option maxRecDepth 100000 in
set_option maxHeartbeats 4000000 in
theorem tok31_60_62 (s : ByteArray) (gl gf : Nat) (t : St) (w : World) (hP : Hid (PL s)) (hL : LX w gl gf s t) (hp : t.pos < s.size) (hcl : Hid (Clr t)) (hc : Hid (bt s t.pos = 60)) (h2 : Hid (bt s (t.pos + 1) = 62)) :
    Calls Tryz.prog 31 #[.pointer (some ⟨gl, 0, none⟩), .bool false] w (TokPost s gl gf t w) := by
  have hs : s.size ≤ 2147483647 := Nat.le_trans hP.out.size (by decide)
  have hd : decide (s.size ≤ t.pos) = false := decide_eq_false (by omega)
  go_enter Tryz.func31, Tryz.ntmps31
  go_wp2_with fail
  refine (eof39 s gl gf t w hL hs).mono ?_; rintro e w' ⟨rfl, n0, rfl⟩
  go_wp2_with fail
  refine (peek0 s gl gf t 60 _ (hL.drewN _) hs hp hc.out rfl).mono ?_; rintro e w' ⟨rfl, n1, rfl⟩
  go_wp2_with fail
  refine (is43c s gl gf t 1 60 false _ (hL.drewN _) hs (by omega) rfl rfl (by decide) (by decide) (by rw [h2.out]; rfl)).mono ?_; rintro e w' ⟨rfl, m0, rfl⟩
  go_wp2_with fail
  refine (is43c s gl gf t 1 61 false _ (hL.drewN _) hs (by omega) rfl rfl (by decide) (by decide) (by rw [h2.out]; rfl)).mono ?_; rintro e w' ⟨rfl, m1, rfl⟩
  go_wp2_with fail
  refine (is43c s gl gf t 1 62 true _ (hL.drewN _) hs (by omega) rfl rfl (by decide) (by decide) (by rw [h2.out]; rfl)).mono ?_; rintro e w' ⟨rfl, m2, rfl⟩
  go_wp2_with fail
  refine (skip2 s gl gf t 2 _ (hL.drewN _) hs rfl (by have := lt_of_bt (s := s) (k := t.pos + 1) (by rw [h2.out]; decide); omega)).mono ?_; rintro e w1 ⟨rfl, hX, hg⟩
  have k1 := hX.c1
  have f1 := hX.fr 1
  go_wp2_with fail
  refine bodyPost_ret (results_none rfl _ _ _) rfl (tok_sign hcl.out hp (hX.kind ⟨#[60, 62]⟩) (fr_set (fr_trans (fr_drewN (fr_refl w (some gl)) _) hg) 1 _) (by simp) ?_)
  have h1 := hc.out
  have h3 := h2.out
  refine oneQ_sign (v := ⟨#[60, 62]⟩) ?_ ?_ ?_ ?_ ?_ (show (2 : Nat) ≠ 0 by decide)
  · simp [parP, letB, h1, h3]
  · simp [nmB, digB, h1]
  · simp [markB, h1]
  · simp [letB, h1]
  · unfold signP
    rw [show (twoL.find? fun p => stB s t.pos p) = some ⟨#[60, 62]⟩ by simp only [twoL, List.find?_cons, stB_two, h1, h3]; rfl]

set_option maxRecDepth 100000 in
set_option maxHeartbeats 4000000 in
theorem tok31_60_d (s : ByteArray) (gl gf : Nat) (t : St) (w : World) (hP : Hid (PL s)) (hL : LX w gl gf s t) (hp : t.pos < s.size) (hcl : Hid (Clr t)) (hc : Hid (bt s t.pos = 60)) (h2 : Hid (bt s (t.pos + 1) ≠ 60 ∧ bt s (t.pos + 1) ≠ 61 ∧ bt s (t.pos + 1) ≠ 62)) :
    Calls Tryz.prog 31 #[.pointer (some ⟨gl, 0, none⟩), .bool false] w (TokPost s gl gf t w) := by
  have hs : s.size ≤ 2147483647 := Nat.le_trans hP.out.size (by decide)
  have hd : decide (s.size ≤ t.pos) = false := decide_eq_false (by omega)
  go_enter Tryz.func31, Tryz.ntmps31
  go_wp2_with fail
  refine (eof39 s gl gf t w hL hs).mono ?_; rintro e w' ⟨rfl, n0, rfl⟩
  go_wp2_with fail
  refine (peek0 s gl gf t 60 _ (hL.drewN _) hs hp hc.out rfl).mono ?_; rintro e w' ⟨rfl, n1, rfl⟩
  go_wp2_with fail
  refine (is43c s gl gf t 1 60 false _ (hL.drewN _) hs (by omega) rfl rfl (by decide) (by decide) (by have := h2.out; rw [beq_eq_false_iff_ne]; omega)).mono ?_; rintro e w' ⟨rfl, m0, rfl⟩
  go_wp2_with fail
  refine (is43c s gl gf t 1 61 false _ (hL.drewN _) hs (by omega) rfl rfl (by decide) (by decide) (by have := h2.out; rw [beq_eq_false_iff_ne]; omega)).mono ?_; rintro e w' ⟨rfl, m1, rfl⟩
  go_wp2_with fail
  refine (is43c s gl gf t 1 62 false _ (hL.drewN _) hs (by omega) rfl rfl (by decide) (by decide) (by have := h2.out; rw [beq_eq_false_iff_ne]; omega)).mono ?_; rintro e w' ⟨rfl, m2, rfl⟩
  go_wp2_with fail
  refine (skip48c s gl gf t 60 _ (hL.drewN _) hs hp hc.out rfl).mono ?_; rintro e w1 ⟨rfl, hX, hg⟩
  have k1 := hX.c1
  have f1 := hX.fr 1
  go_wp2_with fail
  refine bodyPost_ret (results_none rfl _ _ _) rfl (tok_sign hcl.out hp (hX.kind ⟨#[60]⟩) (fr_set (fr_trans (fr_drewN (fr_refl w (some gl)) _) hg) 1 _) (by simp) ?_)
  have h1 := hc.out
  have h3 := h2.out
  refine oneQ_sign (v := ⟨#[60]⟩) ?_ ?_ ?_ ?_ (sign_one (c := 60) h1 ?_ (by decide)) (show (1 : Nat) ≠ 0 by decide)
  · simp [parP, h1]
  · simp [nmB, digB, h1]
  · simp [markB, h1]
  · simp [letB, h1]
  · apply two_none
    intro p hp
    simp only [twoL, List.mem_cons, List.mem_nil_iff, or_false] at hp
    rcases hp with rfl | rfl | rfl | rfl | rfl | rfl | rfl | rfl | rfl | rfl | rfl <;> (rw [stB_two, h1]; simp; try omega)

set_option maxRecDepth 100000 in
set_option maxHeartbeats 4000000 in
theorem tok31_62_62 (s : ByteArray) (gl gf : Nat) (t : St) (w : World) (hP : Hid (PL s)) (hL : LX w gl gf s t) (hp : t.pos < s.size) (hcl : Hid (Clr t)) (hc : Hid (bt s t.pos = 62)) (h2 : Hid (bt s (t.pos + 1) = 62)) :
    Calls Tryz.prog 31 #[.pointer (some ⟨gl, 0, none⟩), .bool false] w (TokPost s gl gf t w) := by
  have hs : s.size ≤ 2147483647 := Nat.le_trans hP.out.size (by decide)
  have hd : decide (s.size ≤ t.pos) = false := decide_eq_false (by omega)
  go_enter Tryz.func31, Tryz.ntmps31
  go_wp2_with fail
  refine (eof39 s gl gf t w hL hs).mono ?_; rintro e w' ⟨rfl, n0, rfl⟩
  go_wp2_with fail
  refine (peek0 s gl gf t 62 _ (hL.drewN _) hs hp hc.out rfl).mono ?_; rintro e w' ⟨rfl, n1, rfl⟩
  go_wp2_with fail
  refine (is43c s gl gf t 1 62 true _ (hL.drewN _) hs (by omega) rfl rfl (by decide) (by decide) (by rw [h2.out]; rfl)).mono ?_; rintro e w' ⟨rfl, m0, rfl⟩
  go_wp2_with fail
  refine (skip2 s gl gf t 2 _ (hL.drewN _) hs rfl (by have := lt_of_bt (s := s) (k := t.pos + 1) (by rw [h2.out]; decide); omega)).mono ?_; rintro e w1 ⟨rfl, hX, hg⟩
  have k1 := hX.c1
  have f1 := hX.fr 1
  go_wp2_with fail
  refine bodyPost_ret (results_none rfl _ _ _) rfl (tok_sign hcl.out hp (hX.kind ⟨#[62, 62]⟩) (fr_set (fr_trans (fr_drewN (fr_refl w (some gl)) _) hg) 1 _) (by simp) ?_)
  have h1 := hc.out
  have h3 := h2.out
  refine oneQ_sign (v := ⟨#[62, 62]⟩) ?_ ?_ ?_ ?_ ?_ (show (2 : Nat) ≠ 0 by decide)
  · simp [parP, letB, h1, h3]
  · simp [nmB, digB, h1]
  · simp [markB, h1]
  · simp [letB, h1]
  · unfold signP
    rw [show (twoL.find? fun p => stB s t.pos p) = some ⟨#[62, 62]⟩ by simp only [twoL, List.find?_cons, stB_two, h1, h3]; rfl]

set_option maxRecDepth 100000 in
set_option maxHeartbeats 4000000 in
theorem tok31_62_61 (s : ByteArray) (gl gf : Nat) (t : St) (w : World) (hP : Hid (PL s)) (hL : LX w gl gf s t) (hp : t.pos < s.size) (hcl : Hid (Clr t)) (hc : Hid (bt s t.pos = 62)) (h2 : Hid (bt s (t.pos + 1) = 61)) :
    Calls Tryz.prog 31 #[.pointer (some ⟨gl, 0, none⟩), .bool false] w (TokPost s gl gf t w) := by
  have hs : s.size ≤ 2147483647 := Nat.le_trans hP.out.size (by decide)
  have hd : decide (s.size ≤ t.pos) = false := decide_eq_false (by omega)
  go_enter Tryz.func31, Tryz.ntmps31
  go_wp2_with fail
  refine (eof39 s gl gf t w hL hs).mono ?_; rintro e w' ⟨rfl, n0, rfl⟩
  go_wp2_with fail
  refine (peek0 s gl gf t 62 _ (hL.drewN _) hs hp hc.out rfl).mono ?_; rintro e w' ⟨rfl, n1, rfl⟩
  go_wp2_with fail
  refine (is43c s gl gf t 1 62 false _ (hL.drewN _) hs (by omega) rfl rfl (by decide) (by decide) (by rw [h2.out]; rfl)).mono ?_; rintro e w' ⟨rfl, m0, rfl⟩
  go_wp2_with fail
  refine (is43c s gl gf t 1 61 true _ (hL.drewN _) hs (by omega) rfl rfl (by decide) (by decide) (by rw [h2.out]; rfl)).mono ?_; rintro e w' ⟨rfl, m1, rfl⟩
  go_wp2_with fail
  refine (skip2 s gl gf t 2 _ (hL.drewN _) hs rfl (by have := lt_of_bt (s := s) (k := t.pos + 1) (by rw [h2.out]; decide); omega)).mono ?_; rintro e w1 ⟨rfl, hX, hg⟩
  have k1 := hX.c1
  have f1 := hX.fr 1
  go_wp2_with fail
  refine bodyPost_ret (results_none rfl _ _ _) rfl (tok_sign hcl.out hp (hX.kind ⟨#[62, 61]⟩) (fr_set (fr_trans (fr_drewN (fr_refl w (some gl)) _) hg) 1 _) (by simp) ?_)
  have h1 := hc.out
  have h3 := h2.out
  refine oneQ_sign (v := ⟨#[62, 61]⟩) ?_ ?_ ?_ ?_ ?_ (show (2 : Nat) ≠ 0 by decide)
  · simp [parP, letB, h1, h3]
  · simp [nmB, digB, h1]
  · simp [markB, h1]
  · simp [letB, h1]
  · unfold signP
    rw [show (twoL.find? fun p => stB s t.pos p) = some ⟨#[62, 61]⟩ by simp only [twoL, List.find?_cons, stB_two, h1, h3]; rfl]

set_option maxRecDepth 100000 in
set_option maxHeartbeats 4000000 in
theorem tok31_62_d (s : ByteArray) (gl gf : Nat) (t : St) (w : World) (hP : Hid (PL s)) (hL : LX w gl gf s t) (hp : t.pos < s.size) (hcl : Hid (Clr t)) (hc : Hid (bt s t.pos = 62)) (h2 : Hid (bt s (t.pos + 1) ≠ 62 ∧ bt s (t.pos + 1) ≠ 61)) :
    Calls Tryz.prog 31 #[.pointer (some ⟨gl, 0, none⟩), .bool false] w (TokPost s gl gf t w) := by
  have hs : s.size ≤ 2147483647 := Nat.le_trans hP.out.size (by decide)
  have hd : decide (s.size ≤ t.pos) = false := decide_eq_false (by omega)
  go_enter Tryz.func31, Tryz.ntmps31
  go_wp2_with fail
  refine (eof39 s gl gf t w hL hs).mono ?_; rintro e w' ⟨rfl, n0, rfl⟩
  go_wp2_with fail
  refine (peek0 s gl gf t 62 _ (hL.drewN _) hs hp hc.out rfl).mono ?_; rintro e w' ⟨rfl, n1, rfl⟩
  go_wp2_with fail
  refine (is43c s gl gf t 1 62 false _ (hL.drewN _) hs (by omega) rfl rfl (by decide) (by decide) (by have := h2.out; rw [beq_eq_false_iff_ne]; omega)).mono ?_; rintro e w' ⟨rfl, m0, rfl⟩
  go_wp2_with fail
  refine (is43c s gl gf t 1 61 false _ (hL.drewN _) hs (by omega) rfl rfl (by decide) (by decide) (by have := h2.out; rw [beq_eq_false_iff_ne]; omega)).mono ?_; rintro e w' ⟨rfl, m1, rfl⟩
  go_wp2_with fail
  refine (skip48c s gl gf t 62 _ (hL.drewN _) hs hp hc.out rfl).mono ?_; rintro e w1 ⟨rfl, hX, hg⟩
  have k1 := hX.c1
  have f1 := hX.fr 1
  go_wp2_with fail
  refine bodyPost_ret (results_none rfl _ _ _) rfl (tok_sign hcl.out hp (hX.kind ⟨#[62]⟩) (fr_set (fr_trans (fr_drewN (fr_refl w (some gl)) _) hg) 1 _) (by simp) ?_)
  have h1 := hc.out
  have h3 := h2.out
  refine oneQ_sign (v := ⟨#[62]⟩) ?_ ?_ ?_ ?_ (sign_one (c := 62) h1 ?_ (by decide)) (show (1 : Nat) ≠ 0 by decide)
  · simp [parP, h1]
  · simp [nmB, digB, h1]
  · simp [markB, h1]
  · simp [letB, h1]
  · apply two_none
    intro p hp
    simp only [twoL, List.mem_cons, List.mem_nil_iff, or_false] at hp
    rcases hp with rfl | rfl | rfl | rfl | rfl | rfl | rfl | rfl | rfl | rfl | rfl <;> (rw [stB_two, h1]; simp; try omega)

set_option maxRecDepth 100000 in
set_option maxHeartbeats 4000000 in
theorem tok31_43_d (s : ByteArray) (gl gf : Nat) (t : St) (w : World) (hP : Hid (PL s)) (hL : LX w gl gf s t) (hp : t.pos < s.size) (hcl : Hid (Clr t)) (hc : Hid (bt s t.pos = 43)) (h2 : Hid (bt s (t.pos + 1) ≠ 61)) :
    Calls Tryz.prog 31 #[.pointer (some ⟨gl, 0, none⟩), .bool false] w (TokPost s gl gf t w) := by
  have hs : s.size ≤ 2147483647 := Nat.le_trans hP.out.size (by decide)
  have hd : decide (s.size ≤ t.pos) = false := decide_eq_false (by omega)
  go_enter Tryz.func31, Tryz.ntmps31
  go_wp2_with fail
  refine (eof39 s gl gf t w hL hs).mono ?_; rintro e w' ⟨rfl, n0, rfl⟩
  go_wp2_with fail
  refine (peek0 s gl gf t 43 _ (hL.drewN _) hs hp hc.out rfl).mono ?_; rintro e w' ⟨rfl, n1, rfl⟩
  go_wp2_with fail
  refine (is43c s gl gf t 1 61 false _ (hL.drewN _) hs (by omega) rfl rfl (by decide) (by decide) (by have := h2.out; rw [beq_eq_false_iff_ne]; omega)).mono ?_; rintro e w' ⟨rfl, m0, rfl⟩
  go_wp2_with fail
  refine (skip48c s gl gf t 43 _ (hL.drewN _) hs hp hc.out rfl).mono ?_; rintro e w1 ⟨rfl, hX, hg⟩
  have k1 := hX.c1
  have f1 := hX.fr 1
  go_wp2_with fail
  refine bodyPost_ret (results_none rfl _ _ _) rfl (tok_sign hcl.out hp (hX.kind ⟨#[43]⟩) (fr_set (fr_trans (fr_drewN (fr_refl w (some gl)) _) hg) 1 _) (by simp) ?_)
  have h1 := hc.out
  have h3 := h2.out
  refine oneQ_sign (v := ⟨#[43]⟩) ?_ ?_ ?_ ?_ (sign_one (c := 43) h1 ?_ (by decide)) (show (1 : Nat) ≠ 0 by decide)
  · simp [parP, h1]
  · simp [nmB, digB, h1]
  · simp [markB, h1]
  · simp [letB, h1]
  · apply two_none
    intro p hp
    simp only [twoL, List.mem_cons, List.mem_nil_iff, or_false] at hp
    rcases hp with rfl | rfl | rfl | rfl | rfl | rfl | rfl | rfl | rfl | rfl | rfl <;> (rw [stB_two, h1]; simp; try omega)

set_option maxRecDepth 100000 in
set_option maxHeartbeats 4000000 in
theorem tok31_45_62 (s : ByteArray) (gl gf : Nat) (t : St) (w : World) (hP : Hid (PL s)) (hL : LX w gl gf s t) (hp : t.pos < s.size) (hcl : Hid (Clr t)) (hc : Hid (bt s t.pos = 45)) (h2 : Hid (bt s (t.pos + 1) = 62)) :
    Calls Tryz.prog 31 #[.pointer (some ⟨gl, 0, none⟩), .bool false] w (TokPost s gl gf t w) := by
  have hs : s.size ≤ 2147483647 := Nat.le_trans hP.out.size (by decide)
  have hd : decide (s.size ≤ t.pos) = false := decide_eq_false (by omega)
  go_enter Tryz.func31, Tryz.ntmps31
  go_wp2_with fail
  refine (eof39 s gl gf t w hL hs).mono ?_; rintro e w' ⟨rfl, n0, rfl⟩
  go_wp2_with fail
  refine (peek0 s gl gf t 45 _ (hL.drewN _) hs hp hc.out rfl).mono ?_; rintro e w' ⟨rfl, n1, rfl⟩
  go_wp2_with fail
  refine (is43c s gl gf t 1 61 false _ (hL.drewN _) hs (by omega) rfl rfl (by decide) (by decide) (by rw [h2.out]; rfl)).mono ?_; rintro e w' ⟨rfl, m0, rfl⟩
  go_wp2_with fail
  refine (is43c s gl gf t 1 62 true _ (hL.drewN _) hs (by omega) rfl rfl (by decide) (by decide) (by rw [h2.out]; rfl)).mono ?_; rintro e w' ⟨rfl, m1, rfl⟩
  go_wp2_with fail
  refine (skip2 s gl gf t 2 _ (hL.drewN _) hs rfl (by have := lt_of_bt (s := s) (k := t.pos + 1) (by rw [h2.out]; decide); omega)).mono ?_; rintro e w1 ⟨rfl, hX, hg⟩
  have k1 := hX.c1
  have f1 := hX.fr 1
  go_wp2_with fail
  refine bodyPost_ret (results_none rfl _ _ _) rfl (tok_sign hcl.out hp (hX.kind ⟨#[45, 62]⟩) (fr_set (fr_trans (fr_drewN (fr_refl w (some gl)) _) hg) 1 _) (by simp) ?_)
  have h1 := hc.out
  have h3 := h2.out
  refine oneQ_sign (v := ⟨#[45, 62]⟩) ?_ ?_ ?_ ?_ ?_ (show (2 : Nat) ≠ 0 by decide)
  · simp [parP, letB, h1, h3]
  · simp [nmB, digB, h1]
  · simp [markB, h1]
  · simp [letB, h1]
  · unfold signP
    rw [show (twoL.find? fun p => stB s t.pos p) = some ⟨#[45, 62]⟩ by simp only [twoL, List.find?_cons, stB_two, h1, h3]; rfl]

set_option maxRecDepth 100000 in
set_option maxHeartbeats 4000000 in
theorem tok31_45_d (s : ByteArray) (gl gf : Nat) (t : St) (w : World) (hP : Hid (PL s)) (hL : LX w gl gf s t) (hp : t.pos < s.size) (hcl : Hid (Clr t)) (hc : Hid (bt s t.pos = 45)) (h2 : Hid (bt s (t.pos + 1) ≠ 61 ∧ bt s (t.pos + 1) ≠ 62)) :
    Calls Tryz.prog 31 #[.pointer (some ⟨gl, 0, none⟩), .bool false] w (TokPost s gl gf t w) := by
  have hs : s.size ≤ 2147483647 := Nat.le_trans hP.out.size (by decide)
  have hd : decide (s.size ≤ t.pos) = false := decide_eq_false (by omega)
  go_enter Tryz.func31, Tryz.ntmps31
  go_wp2_with fail
  refine (eof39 s gl gf t w hL hs).mono ?_; rintro e w' ⟨rfl, n0, rfl⟩
  go_wp2_with fail
  refine (peek0 s gl gf t 45 _ (hL.drewN _) hs hp hc.out rfl).mono ?_; rintro e w' ⟨rfl, n1, rfl⟩
  go_wp2_with fail
  refine (is43c s gl gf t 1 61 false _ (hL.drewN _) hs (by omega) rfl rfl (by decide) (by decide) (by have := h2.out; rw [beq_eq_false_iff_ne]; omega)).mono ?_; rintro e w' ⟨rfl, m0, rfl⟩
  go_wp2_with fail
  refine (is43c s gl gf t 1 62 false _ (hL.drewN _) hs (by omega) rfl rfl (by decide) (by decide) (by have := h2.out; rw [beq_eq_false_iff_ne]; omega)).mono ?_; rintro e w' ⟨rfl, m1, rfl⟩
  go_wp2_with fail
  refine (skip48c s gl gf t 45 _ (hL.drewN _) hs hp hc.out rfl).mono ?_; rintro e w1 ⟨rfl, hX, hg⟩
  have k1 := hX.c1
  have f1 := hX.fr 1
  go_wp2_with fail
  refine bodyPost_ret (results_none rfl _ _ _) rfl (tok_sign hcl.out hp (hX.kind ⟨#[45]⟩) (fr_set (fr_trans (fr_drewN (fr_refl w (some gl)) _) hg) 1 _) (by simp) ?_)
  have h1 := hc.out
  have h3 := h2.out
  refine oneQ_sign (v := ⟨#[45]⟩) ?_ ?_ ?_ ?_ (sign_one (c := 45) h1 ?_ (by decide)) (show (1 : Nat) ≠ 0 by decide)
  · simp [parP, h1]
  · simp [nmB, digB, h1]
  · simp [markB, h1]
  · simp [letB, h1]
  · apply two_none
    intro p hp
    simp only [twoL, List.mem_cons, List.mem_nil_iff, or_false] at hp
    rcases hp with rfl | rfl | rfl | rfl | rfl | rfl | rfl | rfl | rfl | rfl | rfl <;> (rw [stB_two, h1]; simp; try omega)

set_option maxRecDepth 100000 in
set_option maxHeartbeats 4000000 in
theorem tok31_61_62 (s : ByteArray) (gl gf : Nat) (t : St) (w : World) (hP : Hid (PL s)) (hL : LX w gl gf s t) (hp : t.pos < s.size) (hcl : Hid (Clr t)) (hc : Hid (bt s t.pos = 61)) (h2 : Hid (bt s (t.pos + 1) = 62)) :
    Calls Tryz.prog 31 #[.pointer (some ⟨gl, 0, none⟩), .bool false] w (TokPost s gl gf t w) := by
  have hs : s.size ≤ 2147483647 := Nat.le_trans hP.out.size (by decide)
  have hd : decide (s.size ≤ t.pos) = false := decide_eq_false (by omega)
  go_enter Tryz.func31, Tryz.ntmps31
  go_wp2_with fail
  refine (eof39 s gl gf t w hL hs).mono ?_; rintro e w' ⟨rfl, n0, rfl⟩
  go_wp2_with fail
  refine (peek0 s gl gf t 61 _ (hL.drewN _) hs hp hc.out rfl).mono ?_; rintro e w' ⟨rfl, n1, rfl⟩
  go_wp2_with fail
  refine (is43c s gl gf t 1 62 true _ (hL.drewN _) hs (by omega) rfl rfl (by decide) (by decide) (by rw [h2.out]; rfl)).mono ?_; rintro e w' ⟨rfl, m0, rfl⟩
  go_wp2_with fail
  refine (skip2 s gl gf t 2 _ (hL.drewN _) hs rfl (by have := lt_of_bt (s := s) (k := t.pos + 1) (by rw [h2.out]; decide); omega)).mono ?_; rintro e w1 ⟨rfl, hX, hg⟩
  have k1 := hX.c1
  have f1 := hX.fr 1
  go_wp2_with fail
  refine bodyPost_ret (results_none rfl _ _ _) rfl (tok_sign hcl.out hp (hX.kind ⟨#[61, 62]⟩) (fr_set (fr_trans (fr_drewN (fr_refl w (some gl)) _) hg) 1 _) (by simp) ?_)
  have h1 := hc.out
  have h3 := h2.out
  refine oneQ_sign (v := ⟨#[61, 62]⟩) ?_ ?_ ?_ ?_ ?_ (show (2 : Nat) ≠ 0 by decide)
  · simp [parP, letB, h1, h3]
  · simp [nmB, digB, h1]
  · simp [markB, h1]
  · simp [letB, h1]
  · unfold signP
    rw [show (twoL.find? fun p => stB s t.pos p) = some ⟨#[61, 62]⟩ by simp only [twoL, List.find?_cons, stB_two, h1, h3]; rfl]

set_option maxRecDepth 100000 in
set_option maxHeartbeats 4000000 in
theorem tok31_61_d (s : ByteArray) (gl gf : Nat) (t : St) (w : World) (hP : Hid (PL s)) (hL : LX w gl gf s t) (hp : t.pos < s.size) (hcl : Hid (Clr t)) (hc : Hid (bt s t.pos = 61)) (h2 : Hid (bt s (t.pos + 1) ≠ 62)) :
    Calls Tryz.prog 31 #[.pointer (some ⟨gl, 0, none⟩), .bool false] w (TokPost s gl gf t w) := by
  have hs : s.size ≤ 2147483647 := Nat.le_trans hP.out.size (by decide)
  have hd : decide (s.size ≤ t.pos) = false := decide_eq_false (by omega)
  go_enter Tryz.func31, Tryz.ntmps31
  go_wp2_with fail
  refine (eof39 s gl gf t w hL hs).mono ?_; rintro e w' ⟨rfl, n0, rfl⟩
  go_wp2_with fail
  refine (peek0 s gl gf t 61 _ (hL.drewN _) hs hp hc.out rfl).mono ?_; rintro e w' ⟨rfl, n1, rfl⟩
  go_wp2_with fail
  refine (is43c s gl gf t 1 62 false _ (hL.drewN _) hs (by omega) rfl rfl (by decide) (by decide) (by have := h2.out; rw [beq_eq_false_iff_ne]; omega)).mono ?_; rintro e w' ⟨rfl, m0, rfl⟩
  go_wp2_with fail
  refine (skip48c s gl gf t 61 _ (hL.drewN _) hs hp hc.out rfl).mono ?_; rintro e w1 ⟨rfl, hX, hg⟩
  have k1 := hX.c1
  have f1 := hX.fr 1
  go_wp2_with fail
  refine bodyPost_ret (results_none rfl _ _ _) rfl (tok_sign hcl.out hp (hX.kind ⟨#[61]⟩) (fr_set (fr_trans (fr_drewN (fr_refl w (some gl)) _) hg) 1 _) (by simp) ?_)
  have h1 := hc.out
  have h3 := h2.out
  refine oneQ_sign (v := ⟨#[61]⟩) ?_ ?_ ?_ ?_ (sign_one (c := 61) h1 ?_ (by decide)) (show (1 : Nat) ≠ 0 by decide)
  · simp [parP, h1]
  · simp [nmB, digB, h1]
  · simp [markB, h1]
  · simp [letB, h1]
  · apply two_none
    intro p hp
    simp only [twoL, List.mem_cons, List.mem_nil_iff, or_false] at hp
    rcases hp with rfl | rfl | rfl | rfl | rfl | rfl | rfl | rfl | rfl | rfl | rfl <;> (rw [stB_two, h1]; simp; try omega)

set_option maxRecDepth 100000 in
set_option maxHeartbeats 4000000 in
theorem tok31_124_62 (s : ByteArray) (gl gf : Nat) (t : St) (w : World) (hP : Hid (PL s)) (hL : LX w gl gf s t) (hp : t.pos < s.size) (hcl : Hid (Clr t)) (hc : Hid (bt s t.pos = 124)) (h2 : Hid (bt s (t.pos + 1) = 62)) :
    Calls Tryz.prog 31 #[.pointer (some ⟨gl, 0, none⟩), .bool false] w (TokPost s gl gf t w) := by
  have hs : s.size ≤ 2147483647 := Nat.le_trans hP.out.size (by decide)
  have hd : decide (s.size ≤ t.pos) = false := decide_eq_false (by omega)
  go_enter Tryz.func31, Tryz.ntmps31
  go_wp2_with fail
  refine (eof39 s gl gf t w hL hs).mono ?_; rintro e w' ⟨rfl, n0, rfl⟩
  go_wp2_with fail
  refine (peek0 s gl gf t 124 _ (hL.drewN _) hs hp hc.out rfl).mono ?_; rintro e w' ⟨rfl, n1, rfl⟩
  go_wp2_with fail
  refine (is43c s gl gf t 1 62 true _ (hL.drewN _) hs (by omega) rfl rfl (by decide) (by decide) (by rw [h2.out]; rfl)).mono ?_; rintro e w' ⟨rfl, m0, rfl⟩
  go_wp2_with fail
  refine (skip2 s gl gf t 2 _ (hL.drewN _) hs rfl (by have := lt_of_bt (s := s) (k := t.pos + 1) (by rw [h2.out]; decide); omega)).mono ?_; rintro e w1 ⟨rfl, hX, hg⟩
  have k1 := hX.c1
  have f1 := hX.fr 1
  go_wp2_with fail
  refine bodyPost_ret (results_none rfl _ _ _) rfl (tok_sign hcl.out hp (hX.kind ⟨#[124, 62]⟩) (fr_set (fr_trans (fr_drewN (fr_refl w (some gl)) _) hg) 1 _) (by simp) ?_)
  have h1 := hc.out
  have h3 := h2.out
  refine oneQ_sign (v := ⟨#[124, 62]⟩) ?_ ?_ ?_ ?_ ?_ (show (2 : Nat) ≠ 0 by decide)
  · simp [parP, letB, h1, h3]
  · simp [nmB, digB, h1]
  · simp [markB, h1]
  · simp [letB, h1]
  · unfold signP
    rw [show (twoL.find? fun p => stB s t.pos p) = some ⟨#[124, 62]⟩ by simp only [twoL, List.find?_cons, stB_two, h1, h3]; rfl]

set_option maxRecDepth 100000 in
set_option maxHeartbeats 4000000 in
theorem tok31_124_124 (s : ByteArray) (gl gf : Nat) (t : St) (w : World) (hP : Hid (PL s)) (hL : LX w gl gf s t) (hp : t.pos < s.size) (hcl : Hid (Clr t)) (hc : Hid (bt s t.pos = 124)) (h2 : Hid (bt s (t.pos + 1) = 124)) :
    Calls Tryz.prog 31 #[.pointer (some ⟨gl, 0, none⟩), .bool false] w (TokPost s gl gf t w) := by
  have hs : s.size ≤ 2147483647 := Nat.le_trans hP.out.size (by decide)
  have hd : decide (s.size ≤ t.pos) = false := decide_eq_false (by omega)
  go_enter Tryz.func31, Tryz.ntmps31
  go_wp2_with fail
  refine (eof39 s gl gf t w hL hs).mono ?_; rintro e w' ⟨rfl, n0, rfl⟩
  go_wp2_with fail
  refine (peek0 s gl gf t 124 _ (hL.drewN _) hs hp hc.out rfl).mono ?_; rintro e w' ⟨rfl, n1, rfl⟩
  go_wp2_with fail
  refine (is43c s gl gf t 1 62 false _ (hL.drewN _) hs (by omega) rfl rfl (by decide) (by decide) (by rw [h2.out]; rfl)).mono ?_; rintro e w' ⟨rfl, m0, rfl⟩
  go_wp2_with fail
  refine (is43c s gl gf t 1 124 true _ (hL.drewN _) hs (by omega) rfl rfl (by decide) (by decide) (by rw [h2.out]; rfl)).mono ?_; rintro e w' ⟨rfl, m1, rfl⟩
  go_wp2_with fail
  refine (skip2 s gl gf t 2 _ (hL.drewN _) hs rfl (by have := lt_of_bt (s := s) (k := t.pos + 1) (by rw [h2.out]; decide); omega)).mono ?_; rintro e w1 ⟨rfl, hX, hg⟩
  have k1 := hX.c1
  have f1 := hX.fr 1
  go_wp2_with fail
  refine bodyPost_ret (results_none rfl _ _ _) rfl (tok_sign hcl.out hp (hX.kind ⟨#[124, 124]⟩) (fr_set (fr_trans (fr_drewN (fr_refl w (some gl)) _) hg) 1 _) (by simp) ?_)
  have h1 := hc.out
  have h3 := h2.out
  refine oneQ_sign (v := ⟨#[124, 124]⟩) ?_ ?_ ?_ ?_ ?_ (show (2 : Nat) ≠ 0 by decide)
  · simp [parP, letB, h1, h3]
  · simp [nmB, digB, h1]
  · simp [markB, h1]
  · simp [letB, h1]
  · unfold signP
    rw [show (twoL.find? fun p => stB s t.pos p) = some ⟨#[124, 124]⟩ by simp only [twoL, List.find?_cons, stB_two, h1, h3]; rfl]

set_option maxRecDepth 100000 in
set_option maxHeartbeats 4000000 in
theorem tok31_124_d (s : ByteArray) (gl gf : Nat) (t : St) (w : World) (hP : Hid (PL s)) (hL : LX w gl gf s t) (hp : t.pos < s.size) (hcl : Hid (Clr t)) (hc : Hid (bt s t.pos = 124)) (h2 : Hid (bt s (t.pos + 1) ≠ 62 ∧ bt s (t.pos + 1) ≠ 124)) :
    Calls Tryz.prog 31 #[.pointer (some ⟨gl, 0, none⟩), .bool false] w (TokPost s gl gf t w) := by
  have hs : s.size ≤ 2147483647 := Nat.le_trans hP.out.size (by decide)
  have hd : decide (s.size ≤ t.pos) = false := decide_eq_false (by omega)
  go_enter Tryz.func31, Tryz.ntmps31
  go_wp2_with fail
  refine (eof39 s gl gf t w hL hs).mono ?_; rintro e w' ⟨rfl, n0, rfl⟩
  go_wp2_with fail
  refine (peek0 s gl gf t 124 _ (hL.drewN _) hs hp hc.out rfl).mono ?_; rintro e w' ⟨rfl, n1, rfl⟩
  go_wp2_with fail
  refine (is43c s gl gf t 1 62 false _ (hL.drewN _) hs (by omega) rfl rfl (by decide) (by decide) (by have := h2.out; rw [beq_eq_false_iff_ne]; omega)).mono ?_; rintro e w' ⟨rfl, m0, rfl⟩
  go_wp2_with fail
  refine (is43c s gl gf t 1 124 false _ (hL.drewN _) hs (by omega) rfl rfl (by decide) (by decide) (by have := h2.out; rw [beq_eq_false_iff_ne]; omega)).mono ?_; rintro e w' ⟨rfl, m1, rfl⟩
  go_wp2_with fail
  refine (skip48c s gl gf t 124 _ (hL.drewN _) hs hp hc.out rfl).mono ?_; rintro e w1 ⟨rfl, hX, hg⟩
  have k1 := hX.c1
  have f1 := hX.fr 1
  go_wp2_with fail
  refine bodyPost_ret (results_none rfl _ _ _) rfl (tok_sign hcl.out hp (hX.kind ⟨#[124]⟩) (fr_set (fr_trans (fr_drewN (fr_refl w (some gl)) _) hg) 1 _) (by simp) ?_)
  have h1 := hc.out
  have h3 := h2.out
  refine oneQ_sign (v := ⟨#[124]⟩) ?_ ?_ ?_ ?_ (sign_one (c := 124) h1 ?_ (by decide)) (show (1 : Nat) ≠ 0 by decide)
  · simp [parP, h1]
  · simp [nmB, digB, h1]
  · simp [markB, h1]
  · simp [letB, h1]
  · apply two_none
    intro p hp
    simp only [twoL, List.mem_cons, List.mem_nil_iff, or_false] at hp
    rcases hp with rfl | rfl | rfl | rfl | rfl | rfl | rfl | rfl | rfl | rfl | rfl <;> (rw [stB_two, h1]; simp; try omega)

set_option maxRecDepth 100000 in
set_option maxHeartbeats 4000000 in
theorem tok31_33_61 (s : ByteArray) (gl gf : Nat) (t : St) (w : World) (hP : Hid (PL s)) (hL : LX w gl gf s t) (hp : t.pos < s.size) (hcl : Hid (Clr t)) (hc : Hid (bt s t.pos = 33)) (h2 : Hid (bt s (t.pos + 1) = 61)) :
    Calls Tryz.prog 31 #[.pointer (some ⟨gl, 0, none⟩), .bool false] w (TokPost s gl gf t w) := by
  have hs : s.size ≤ 2147483647 := Nat.le_trans hP.out.size (by decide)
  have hd : decide (s.size ≤ t.pos) = false := decide_eq_false (by omega)
  go_enter Tryz.func31, Tryz.ntmps31
  go_wp2_with fail
  refine (eof39 s gl gf t w hL hs).mono ?_; rintro e w' ⟨rfl, n0, rfl⟩
  go_wp2_with fail
  refine (peek0 s gl gf t 33 _ (hL.drewN _) hs hp hc.out rfl).mono ?_; rintro e w' ⟨rfl, n1, rfl⟩
  go_wp2_with fail
  refine (is43c s gl gf t 1 61 true _ (hL.drewN _) hs (by omega) rfl rfl (by decide) (by decide) (by rw [h2.out]; rfl)).mono ?_; rintro e w' ⟨rfl, m0, rfl⟩
  go_wp2_with fail
  refine (skip2 s gl gf t 2 _ (hL.drewN _) hs rfl (by have := lt_of_bt (s := s) (k := t.pos + 1) (by rw [h2.out]; decide); omega)).mono ?_; rintro e w1 ⟨rfl, hX, hg⟩
  have k1 := hX.c1
  have f1 := hX.fr 1
  go_wp2_with fail
  refine bodyPost_ret (results_none rfl _ _ _) rfl (tok_sign hcl.out hp (hX.kind ⟨#[33, 61]⟩) (fr_set (fr_trans (fr_drewN (fr_refl w (some gl)) _) hg) 1 _) (by simp) ?_)
  have h1 := hc.out
  have h3 := h2.out
  refine oneQ_sign (v := ⟨#[33, 61]⟩) ?_ ?_ ?_ ?_ ?_ (show (2 : Nat) ≠ 0 by decide)
  · simp [parP, letB, h1, h3]
  · simp [nmB, digB, h1]
  · simp [markB, h1]
  · simp [letB, h1]
  · unfold signP
    rw [show (twoL.find? fun p => stB s t.pos p) = some ⟨#[33, 61]⟩ by simp only [twoL, List.find?_cons, stB_two, h1, h3]; rfl]

set_option maxRecDepth 100000 in
set_option maxHeartbeats 4000000 in
theorem tok31_64_64 (s : ByteArray) (gl gf : Nat) (t : St) (w : World) (hP : Hid (PL s)) (hL : LX w gl gf s t) (hp : t.pos < s.size) (hcl : Hid (Clr t)) (hc : Hid (bt s t.pos = 64)) (h2 : Hid (bt s (t.pos + 1) = 64)) :
    Calls Tryz.prog 31 #[.pointer (some ⟨gl, 0, none⟩), .bool false] w (TokPost s gl gf t w) := by
  have hs : s.size ≤ 2147483647 := Nat.le_trans hP.out.size (by decide)
  have hd : decide (s.size ≤ t.pos) = false := decide_eq_false (by omega)
  go_enter Tryz.func31, Tryz.ntmps31
  go_wp2_with fail
  refine (eof39 s gl gf t w hL hs).mono ?_; rintro e w' ⟨rfl, n0, rfl⟩
  go_wp2_with fail
  refine (peek0 s gl gf t 64 _ (hL.drewN _) hs hp hc.out rfl).mono ?_; rintro e w' ⟨rfl, n1, rfl⟩
  go_wp2_with fail
  refine (is43c s gl gf t 1 64 true _ (hL.drewN _) hs (by omega) rfl rfl (by decide) (by decide) (by rw [h2.out]; rfl)).mono ?_; rintro e w' ⟨rfl, m0, rfl⟩
  go_wp2_with fail
  refine (skip2 s gl gf t 2 _ (hL.drewN _) hs rfl (by have := lt_of_bt (s := s) (k := t.pos + 1) (by rw [h2.out]; decide); omega)).mono ?_; rintro e w1 ⟨rfl, hX, hg⟩
  have k1 := hX.c1
  have f1 := hX.fr 1
  go_wp2_with fail
  refine bodyPost_ret (results_none rfl _ _ _) rfl (tok_sign hcl.out hp (hX.kind ⟨#[64, 64]⟩) (fr_set (fr_trans (fr_drewN (fr_refl w (some gl)) _) hg) 1 _) (by simp) ?_)
  have h1 := hc.out
  have h3 := h2.out
  refine oneQ_sign (v := ⟨#[64, 64]⟩) ?_ ?_ ?_ ?_ ?_ (show (2 : Nat) ≠ 0 by decide)
  · simp [parP, letB, h1, h3]
  · simp [nmB, digB, h1]
  · simp [markB, h1]
  · simp [letB, h1]
  · unfold signP
    rw [show (twoL.find? fun p => stB s t.pos p) = some ⟨#[64, 64]⟩ by simp only [twoL, List.find?_cons, stB_two, h1, h3]; rfl]

end Go.Proofs.YtahcbeofaeflgaaGreatDoor
