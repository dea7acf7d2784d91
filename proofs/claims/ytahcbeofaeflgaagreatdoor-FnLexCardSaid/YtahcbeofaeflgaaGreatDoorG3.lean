/- Lemmas towards the statement FnLexCardSaid, conditions: as each theorem says. -/
import Derived.Test.YtahcbeofaeflgaaGreatDoorG1
import Derived.Test.YtahcbeofaeflgaaGreatDoorB2
namespace Go.Proofs.YtahcbeofaeflgaaGreatDoor
open Go.RowKit

theorem ok45c (s : ByteArray) (gl gf : Nat) (t : St) (i : Nat) (b : Bool) {ii : Int} (w : World) (hL : LX w gl gf s t) (hs : s.size ≤ 2147483647) (hp : t.pos ≤ s.size) (hii : ii = (i : Int)) (hi : i ≤ 2147483647) (hb : decide (t.pos + i < s.size) = b) :
    Calls Tryz.prog 45 #[.pointer (some ⟨gl, 0, none⟩), .int .i64 ii] w fun e w' => e = .returned (.bool b) ∧ ∃ n, w' = w.drewN n := by
  subst hb; exact ok45n s gl gf t i w hL hs hp hii hi
theorem start52c (c : Nat) (b : Bool) (w : World) (h : letB c = b) : Calls Tryz.prog 52 #[.int .u8 (c : Int)] w fun e w' => e = .returned (.bool b) ∧ w = w' := by subst h; exact start52 c w
theorem part46c (c : Nat) (b : Bool) (w : World) (h : parB c = b) : Calls Tryz.prog 46 #[.int .u8 (c : Int)] w fun e w' => e = .returned (.bool b) ∧ w = w' := by subst h; exact part46 c w

theorem at_q {s : ByteArray} {k : Nat} {k1 : ByteArray} (h1 : bt s k = 64) (h2 : bt s (k + 1) ≠ 64) (h3 : letB (bt s (k + 1)) = false) : oneQ s k k1 = some ⟨⟨#[64]⟩, ⟨#[]⟩, 0, k + 1⟩ := by
  refine oneQ_sign (v := ⟨#[64]⟩) ?_ ?_ ?_ ?_ (sign_one (c := 64) h1 ?_ (by decide)) (show (1 : Nat) ≠ 0 by decide)
  · simp [parP, h1, h3]
  · simp [nmB, digB, h1]
  · simp [markB, h1]
  · simp [letB, h1]
  · apply two_none
    intro p hp
    simp only [twoL, List.mem_cons, List.mem_nil_iff, or_false] at hp
    rcases hp with rfl | rfl | rfl | rfl | rfl | rfl | rfl | rfl | rfl | rfl | rfl <;> (rw [stB_two, h1]; simp; try omega)

set_option maxRecDepth 100000 in
set_option maxHeartbeats 4000000 in
theorem tok31_64_e (s : ByteArray) (gl gf : Nat) (t : St) (w : World) (hP : Hid (PL s)) (hL : LX w gl gf s t) (hp : t.pos < s.size) (hcl : Hid (Clr t)) (hc : Hid (bt s t.pos = 64)) (h2 : Hid (s.size ≤ t.pos + 1)) :
    Calls Tryz.prog 31 #[.pointer (some ⟨gl, 0, none⟩), .bool false] w (TokPost s gl gf t w) := by
  have hs : s.size ≤ 2147483647 := Nat.le_trans hP.out.size (by decide)
  have hd : decide (s.size ≤ t.pos) = false := decide_eq_false (by omega)
  have hb2 : Hid (bt s (t.pos + 1) = 256) := bt_ge h2.out
  go_enter Tryz.func31, Tryz.ntmps31
  go_wp2_with fail
  refine (eof39 s gl gf t w hL hs).mono ?_; rintro e w' ⟨rfl, n0, rfl⟩
  go_wp2_with fail
  refine (peek0 s gl gf t 64 _ (hL.drewN _) hs hp hc.out rfl).mono ?_; rintro e w' ⟨rfl, n1, rfl⟩
  go_wp2_with fail
  refine (is43c s gl gf t 1 64 false _ (hL.drewN _) hs (by omega) rfl rfl (by decide) (by decide) (by rw [hb2.out]; rfl)).mono ?_; rintro e w' ⟨rfl, m0, rfl⟩
  go_wp2_with fail
  refine (ok45c s gl gf t 1 false _ (hL.drewN _) hs (by omega) rfl (by decide) (decide_eq_false (by have := h2.out; omega))).mono ?_; rintro e w' ⟨rfl, m1, rfl⟩
  go_wp2_with fail
  refine (skip48c s gl gf t 64 _ (hL.drewN _) hs hp hc.out rfl).mono ?_; rintro e w1 ⟨rfl, hX, hg⟩
  have k1 := hX.c1
  have f1 := hX.fr 1
  go_wp2_with fail
  refine bodyPost_ret (results_none rfl _ _ _) rfl (tok_sign hcl.out hp (hX.kind ⟨#[64]⟩) (fr_set (fr_trans (fr_drewN (fr_refl w (some gl)) _) hg) 1 _) (by simp) (at_q hc.out (by rw [hb2.out]; decide) (by rw [hb2.out]; rfl)))

set_option maxRecDepth 100000 in
set_option maxHeartbeats 4000000 in
theorem tok31_64_n (s : ByteArray) (gl gf : Nat) (t : St) (w : World) (hP : Hid (PL s)) (hL : LX w gl gf s t) (hp : t.pos < s.size) (hcl : Hid (Clr t)) (hc : Hid (bt s t.pos = 64)) (h2 : Hid (t.pos + 1 < s.size)) (h3 : Hid (bt s (t.pos + 1) ≠ 64)) (h4 : Hid (letB (bt s (t.pos + 1)) = false)) :
    Calls Tryz.prog 31 #[.pointer (some ⟨gl, 0, none⟩), .bool false] w (TokPost s gl gf t w) := by
  have hs : s.size ≤ 2147483647 := Nat.le_trans hP.out.size (by decide)
  have hd : decide (s.size ≤ t.pos) = false := decide_eq_false (by omega)
  go_enter Tryz.func31, Tryz.ntmps31
  go_wp2_with fail
  refine (eof39 s gl gf t w hL hs).mono ?_; rintro e w' ⟨rfl, n0, rfl⟩
  go_wp2_with fail
  refine (peek0 s gl gf t 64 _ (hL.drewN _) hs hp hc.out rfl).mono ?_; rintro e w' ⟨rfl, n1, rfl⟩
  go_wp2_with fail
  refine (is43c s gl gf t 1 64 false _ (hL.drewN _) hs (by omega) rfl rfl (by decide) (by decide) (by have := h3.out; rw [beq_eq_false_iff_ne]; omega)).mono ?_; rintro e w' ⟨rfl, m0, rfl⟩
  go_wp2_with fail
  refine (ok45c s gl gf t 1 true _ (hL.drewN _) hs (by omega) rfl (by decide) (decide_eq_true h2.out)).mono ?_; rintro e w' ⟨rfl, m1, rfl⟩
  go_wp2_with fail
  refine (peek47n s gl gf t 1 _ (hL.drewN _) hs rfl h2.out).mono ?_; rintro e w' ⟨rfl, m2, rfl⟩
  go_wp2_with fail
  refine (start52c _ false _ h4.out).mono ?_; rintro e w' ⟨rfl, rfl⟩
  go_wp2_with fail
  refine (skip48c s gl gf t 64 _ (hL.drewN _) hs hp hc.out rfl).mono ?_; rintro e w1 ⟨rfl, hX, hg⟩
  have k1 := hX.c1
  have f1 := hX.fr 1
  go_wp2_with fail
  refine bodyPost_ret (results_none rfl _ _ _) rfl (tok_sign hcl.out hp (hX.kind ⟨#[64]⟩) (fr_set (fr_trans (fr_drewN (fr_refl w (some gl)) _) hg) 1 _) (by simp) (at_q hc.out h3.out h4.out))

theorem par_q {s : ByteArray} {k : Nat} {k1 : ByteArray} (h1 : bt s k = 64) (h3 : letB (bt s (k + 1)) = true) : oneQ s k k1 = some ⟨kParam, s.extract (k + 1) (run s parB (k + 1)), 0, run s parB (k + 1)⟩ := by
  unfold oneQ
  rw [if_pos (by simp [parP, h1, h3])]
theorem tok_txt {s : ByteArray} {gl gf : Nat} {t : St} {w w' : World} {v x : ByteArray} {p : Nat} (hcl : Clr t) (hp : t.pos < s.size) (hX : LX w' gl gf s { t with kind := v, txt := x, pos := p }) (hg : w.grownBy w' (some gl)) (hv : v.toList ≠ [46])
    (hq : oneQ s t.pos t.last = some ⟨v, x, 0, p⟩) : TokPost s gl gf t w (.returned (.tuple #[])) w' := by
  refine Or.inr (Or.inl ⟨⟨v, x, 0, p⟩, hp, hq, rfl, ?_, hg⟩)
  have e : t.tok ⟨v, x, 0, p⟩ = { t with kind := v, txt := x, pos := p } := by
    obtain ⟨h1, h2, h3⟩ := hcl
    cases t
    simp only at h1 h2 h3
    subst h1; subst h2; subst h3
    unfold St.tok
    rw [if_neg hv]
  rw [e]; exact hX

set_option maxRecDepth 100000 in
set_option maxHeartbeats 4000000 in
theorem tok31_64_p (s : ByteArray) (gl gf : Nat) (t : St) (w : World) (hP : Hid (PL s)) (hL : LX w gl gf s t) (hp : t.pos < s.size) (hcl : Hid (Clr t)) (hc : Hid (bt s t.pos = 64)) (h4 : Hid (letB (bt s (t.pos + 1)) = true)) :
    Calls Tryz.prog 31 #[.pointer (some ⟨gl, 0, none⟩), .bool false] w (TokPost s gl gf t w) := by
  have hs : s.size ≤ 2147483647 := Nat.le_trans hP.out.size (by decide)
  have hd : decide (s.size ≤ t.pos) = false := decide_eq_false (by omega)
  have h2 : Hid (t.pos + 1 < s.size) := lt_of_bt (by intro h; have := h4.out; rw [h] at this; exact absurd this (by decide))
  have h3 : Hid (bt s (t.pos + 1) ≠ 64) := fun h => by have := h4.out; rw [h] at this; exact absurd this (by decide)
  go_enter Tryz.func31, Tryz.ntmps31
  go_wp2_with fail
  refine (eof39 s gl gf t w hL hs).mono ?_; rintro e w' ⟨rfl, n0, rfl⟩
  go_wp2_with fail
  refine (peek0 s gl gf t 64 _ (hL.drewN _) hs hp hc.out rfl).mono ?_; rintro e w' ⟨rfl, n1, rfl⟩
  go_wp2_with fail
  refine (is43c s gl gf t 1 64 false _ (hL.drewN _) hs (by omega) rfl rfl (by decide) (by decide) (by have := h3.out; rw [beq_eq_false_iff_ne]; omega)).mono ?_; rintro e w' ⟨rfl, m0, rfl⟩
  go_wp2_with fail
  refine (ok45c s gl gf t 1 true _ (hL.drewN _) hs (by omega) rfl (by decide) (decide_eq_true h2.out)).mono ?_; rintro e w' ⟨rfl, m1, rfl⟩
  go_wp2_with fail
  refine (peek47n s gl gf t 1 _ (hL.drewN _) hs rfl h2.out).mono ?_; rintro e w' ⟨rfl, m2, rfl⟩
  go_wp2_with fail
  refine (start52c _ true _ h4.out).mono ?_; rintro e w' ⟨rfl, rfl⟩
  go_wp2_with fail
  go_loopw [5] (fun v5 wr => ∃ i : Nat, v5 = .int .i64 i ∧ 1 ≤ i ∧ t.pos + i ≤ s.size ∧ LX wr gl gf s t ∧ w.grownBy wr (some gl) ∧ Hid (run s parB (t.pos + 1) = run s parB (t.pos + i))) (fun v5 _ => s.size - (intOf v5).toNat)
  case atStart => exact ⟨1, rfl, Nat.le_refl _, Nat.le_of_lt h2.out, hL.drewN _, fr_drewN (fr_refl w (some gl)) _, rfl⟩
  case round =>
    obtain ⟨i, rfl, hi1, hi2, hX, hg, hrn⟩ := hrel
    have c0 := hX.c0
    have c9 := hX.c9
    have cf := hX.fb
    by_cases hlt : t.pos + i < s.size
    · rcases Bool.eq_false_or_eq_true (parB (bt s (t.pos + i))) with hb | hb
      · have HB := Lib.hid hb
        have HLT := Lib.hid hlt
        clear hb
        go_wp2_with fail
        refine (ok45c s gl gf t i true _ hX hs (by omega) rfl (by omega) (decide_eq_true hlt)).mono ?_; rintro e w' ⟨rfl, a1, rfl⟩
        go_wp2_with fail
        refine (peek47n s gl gf t i _ (hX.drewN _) hs rfl hlt).mono ?_; rintro e w' ⟨rfl, a2, rfl⟩
        go_wp2_with fail
        refine (part46c _ true _ HB.out).mono ?_; rintro e w' ⟨rfl, rfl⟩
        go_wp2_with fail
        go_roundw
        case rel => exact ⟨i + 1, by go_num, by omega, by omega, hX.drewN _, fr_drewN hg _, by have h := hrn.out; rw [run_yes HLT.out HB.out] at h; exact h⟩
        case measure => simp [intOf]; omega
      · have HB := Lib.hid hb
        clear hb
        go_wp2_with fail
        refine (ok45c s gl gf t i true _ hX hs (by omega) rfl (by omega) (decide_eq_true hlt)).mono ?_; rintro e w' ⟨rfl, a1, rfl⟩
        go_wp2_with fail
        refine (peek47n s gl gf t i _ (hX.drewN _) hs rfl hlt).mono ?_; rintro e w' ⟨rfl, a2, rfl⟩
        go_wp2_with fail
        refine (part46c _ false _ HB.out).mono ?_; rintro e w' ⟨rfl, rfl⟩
        have HRUN : Hid (run s parB (t.pos + 1) = t.pos + i) := by show run s parB (t.pos + 1) = t.pos + i; rw [hrn.out, run_no HB.out]
        have k1 := hX.c1
        have f1 := hX.fr 1
        have e1 : IntKind.i64.wrap ((t.pos : Int) + 1) = (t.pos : Int) + 1 := IntWalk.i64_in _ (by omega)
        have e2 : IntKind.i64.wrap ((t.pos : Int) + (i : Int)) = (t.pos : Int) + (i : Int) := IntWalk.i64_in _ (by omega)
        have e3 : ((t.pos : Int) + 1).toNat = t.pos + 1 := by omega
        have e4 : ((t.pos : Int) + (i : Int)).toNat = t.pos + i := by omega
        have e5 : (0 : Int) ≤ (t.pos : Int) + 1 := by omega
        have e6 : (t.pos : Int) + 1 ≤ (t.pos : Int) + (i : Int) := by omega
        have e7 : (t.pos : Int) + (i : Int) ≤ (s.size : Int) := by omega
        go_wp2_with fail
        refine still_tail (fun W4 => LX W4 gl gf s { t with kind := kParam } ∧ w.grownBy W4 (some gl)) ⟨((hX.drewN _).kind kParam).drew, fr_drew (fr_set (fr_drewN hg _) 1 _)⟩ 23 (by kernel_rfl) (by kernel_rfl) ?_
        rintro W4 ⟨hX4, hg4⟩
        have c0s := hX4.c0
        have c9s := hX4.c9
        have cfs := hX4.fb
        simp only [List.take_succ_cons, List.take_zero, List.drop_succ_cons, List.drop_zero]
        repeat still_step
        refine wpStill_nil ?_
        have k5 := hX4.c5
        have f5 := hX4.fr 5
        go_wp2_with fail
        refine (skip2 s gl gf _ i _ (hX4.txt (s.extract (t.pos + 1) (t.pos + i))) hs rfl (show t.pos + i ≤ s.size by omega)).mono ?_; rintro e w5 ⟨rfl, hX5, hg5⟩
        go_wp2_with fail
        refine bodyPost_ret (results_none rfl _ _ _) rfl (tok_txt hcl.out hp hX5 (fr_trans (fr_set hg4 5 _) hg5) (by simp [kParam]) ?_)
        rw [par_q hc.out h4.out, HRUN.out]
    · have HRUN : Hid (run s parB (t.pos + 1) = t.pos + i) := by show run s parB (t.pos + 1) = t.pos + i; rw [hrn.out, run_end (by omega)]
      go_wp2_with fail
      refine (ok45c s gl gf t i false _ hX hs (by omega) rfl (by omega) (decide_eq_false hlt)).mono ?_; rintro e w' ⟨rfl, a1, rfl⟩
      have k1 := hX.c1
      have f1 := hX.fr 1
      have e1 : IntKind.i64.wrap ((t.pos : Int) + 1) = (t.pos : Int) + 1 := IntWalk.i64_in _ (by omega)
      have e2 : IntKind.i64.wrap ((t.pos : Int) + (i : Int)) = (t.pos : Int) + (i : Int) := IntWalk.i64_in _ (by omega)
      have e3 : ((t.pos : Int) + 1).toNat = t.pos + 1 := by omega
      have e4 : ((t.pos : Int) + (i : Int)).toNat = t.pos + i := by omega
      have e5 : (0 : Int) ≤ (t.pos : Int) + 1 := by omega
      have e6 : (t.pos : Int) + 1 ≤ (t.pos : Int) + (i : Int) := by omega
      have e7 : (t.pos : Int) + (i : Int) ≤ (s.size : Int) := by omega
      go_wp2_with fail
      refine still_tail (fun W4 => LX W4 gl gf s { t with kind := kParam } ∧ w.grownBy W4 (some gl)) ⟨((hX.drewN _).kind kParam).drew, fr_drew (fr_set (fr_drewN hg _) 1 _)⟩ 23 (by kernel_rfl) (by kernel_rfl) ?_
      rintro W4 ⟨hX4, hg4⟩
      have c0s := hX4.c0
      have c9s := hX4.c9
      have cfs := hX4.fb
      simp only [List.take_succ_cons, List.take_zero, List.drop_succ_cons, List.drop_zero]
      repeat still_step
      refine wpStill_nil ?_
      have k5 := hX4.c5
      have f5 := hX4.fr 5
      go_wp2_with fail
      refine (skip2 s gl gf _ i _ (hX4.txt (s.extract (t.pos + 1) (t.pos + i))) hs rfl (show t.pos + i ≤ s.size by omega)).mono ?_; rintro e w5 ⟨rfl, hX5, hg5⟩
      go_wp2_with fail
      refine bodyPost_ret (results_none rfl _ _ _) rfl (tok_txt hcl.out hp hX5 (fr_trans (fr_set hg4 5 _) hg5) (by simp [kParam]) ?_)
      rw [par_q hc.out h4.out, HRUN.out]
end Go.Proofs.YtahcbeofaeflgaaGreatDoor
