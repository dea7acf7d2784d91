/- Lemmas towards the statement FnLexCardSaid, conditions: as each theorem says. -/
import Derived.Test.YtahcbeofaeflgaaGreatDoorF1
namespace Go.Proofs.YtahcbeofaeflgaaGreatDoor
open Go.RowKit

theorem exB (s : ByteArray) (k : Nat) (p : ByteArray) : ((s.extract k (k + p.size)).toList == p.toList) = true → k + p.size ≤ s.size ∨ p.size = 0 := by
  intro h
  rw [beq_iff_eq] at h
  have := congrArg ByteArray.size (toList_inj h)
  rw [ByteArray.size_extract] at this
  omega
theorem exB_eq (s : ByteArray) (k : Nat) (p : ByteArray) (h0 : 0 < p.size) : ((s.extract k (k + p.size)).toList == p.toList) = stB s k p := by
  rw [Bool.eq_iff_iff]
  constructor
  · intro h
    unfold stB
    rcases exB s k p h with h1 | h1
    · simp [h1, h]
    · omega
  · intro h
    unfold stB at h
    simp only [Bool.and_eq_true] at h
    exact h.2

set_option maxHeartbeats 1000000 in
theorem until44_line (s : ByteArray) (gl gf : Nat) (t : St) (w : World) (hP : Hid (PL s)) (hL : LX w gl gf s t) (hp : t.pos ≤ s.size) :
    Calls Tryz.prog 44 #[.pointer (some ⟨gl, 0, none⟩), .string ⟨#[10]⟩, .bool false, .bool false] w fun e w' => e = .returned (.bool false) ∧ LX w' gl gf s { t with pos := min s.size (run s nlB t.pos + 1) } ∧ w.grownBy w' (some gl) := by
  have hs : s.size ≤ 2147483647 := Nat.le_trans hP.out.size (by decide)
  have c9 := hL.c9
  go_enter Tryz.func44, Tryz.ntmps44
  go_wp2_with fail
  go_loopw [] (fun wr => ∃ j : Nat, j ≤ s.size ∧ t.pos ≤ j ∧ LX wr gl gf s { t with pos := j } ∧ w.grownBy wr (some gl) ∧ Hid (run s nlB j = run s nlB t.pos)) (fun wr => s.size - posIn gl wr)
  case atStart => exact ⟨t.pos, hp, Nat.le_refl _, hL, fr_refl _ _, rfl⟩
  case round =>
    obtain ⟨j, hj, hpj, hX, hg, hrn⟩ := hrel
    by_cases hlt : j < s.size
    · have hd : decide (s.size ≤ j) = false := decide_eq_false (by omega)
      have HE := Lib.hid (exB_eq s j ⟨#[10]⟩ (Nat.zero_lt_succ 0))
      by_cases hq : ((s.extract j (j + 1)).toList == [10]) = true
      · go_wp2_with (first | (go_at_call 39; refine (eof39 _ _ _ _ _ hX hs).mono ?_; rintro e w' ⟨rfl, n, rfl⟩) | (go_at_call 58; refine (slice58 s gl gf { t with pos := j } 0 1 _ (hX.drewN _) hs (by omega) (by simp; omega) (by omega)).mono ?_; rintro e w' ⟨rfl, n2, rfl⟩) | (go_at_call 42; refine (skipN42 s gl gf { t with pos := j } 1 _ (hX.drewN _) hs (by simp; omega)).mono ?_; rintro e w' ⟨rfl, rfl⟩) | (go_at_call 48; refine (skip48 s gl gf { t with pos := j } _ (hX.drewN _) hs hlt).mono ?_; rintro e w' ⟨rfl, n3, rfl⟩) | (go_at_call 67; refine (panic67 s gl gf { t with pos := j } t.pos j _ _ hP (hX.drewN _) (by omega) hj).mono ?_; rintro e w' ⟨pe, pp, m, cs, n4, rfl, q⟩))
        have hb : bt s j = 10 := by
          have h1 := HE.out
          rw [show j + ByteArray.size ⟨#[10]⟩ = j + 1 from rfl, show (ByteArray.toList ⟨#[10]⟩) = [10] from ByteArray.toList_mk [10], hq, stB_one] at h1
          simpa using h1.symm
        have h1 := hrn.out
        rw [run_no (by simp [nlB, hb])] at h1
        go_ret
        refine ⟨rfl, ?_, fr_set (fr_drewN hg _) _ _⟩
        have hX2 := (hX.drewN (n + n2)).pos (j + 1)
        rw [← h1, Nat.min_eq_right (by omega)]
        exact hX2
      · have hq' : ((s.extract j (j + 1)).toList == [10]) = false := by simpa using hq
        clear hq
        go_wp2_with (first | (go_at_call 39; refine (eof39 _ _ _ _ _ hX hs).mono ?_; rintro e w' ⟨rfl, n, rfl⟩) | (go_at_call 58; refine (slice58 s gl gf { t with pos := j } 0 1 _ (hX.drewN _) hs (by omega) (by simp; omega) (by omega)).mono ?_; rintro e w' ⟨rfl, n2, rfl⟩) | (go_at_call 42; refine (skipN42 s gl gf { t with pos := j } 1 _ (hX.drewN _) hs (by simp; omega)).mono ?_; rintro e w' ⟨rfl, rfl⟩) | (go_at_call 48; refine (skip48 s gl gf { t with pos := j } _ (hX.drewN _) hs hlt).mono ?_; rintro e w' ⟨rfl, n3, rfl⟩) | (go_at_call 67; refine (panic67 s gl gf { t with pos := j } t.pos j _ _ hP (hX.drewN _) (by omega) hj).mono ?_; rintro e w' ⟨pe, pp, m, cs, n4, rfl, q⟩))
        have hb : bt s j ≠ 10 := by
          have h1 := HE.out
          rw [show j + ByteArray.size ⟨#[10]⟩ = j + 1 from rfl, show (ByteArray.toList ⟨#[10]⟩) = [10] from ByteArray.toList_mk [10], hq', stB_one] at h1
          simpa using h1.symm
        have hX2 := ((hX.drewN (n + n2)).pos (j + 1)).drewN n3
        have hp1 := posIn_of hX2
        have hp2 := posIn_of hX
        have hb2 := bt_256 hlt
        go_roundw
        case rel =>
          exact ⟨j + 1, by omega, by omega, hX2, fr_drewN (fr_set (fr_drewN hg _) _ _) _, by rw [← run_yes hlt (by simp [nlB]; omega)]; exact hrn⟩
        case measure =>
          rw [hp2]
          simp only at hp1 ⊢
          refine Nat.lt_of_le_of_lt (Nat.le_of_eq (congrArg (fun x => s.size - x) hp1)) ?_
          omega
    · have hd : decide (s.size ≤ j) = true := decide_eq_true (by omega)
      go_wp2_with (first | (go_at_call 39; refine (eof39 _ _ _ _ _ hX hs).mono ?_; rintro e w' ⟨rfl, n, rfl⟩) | (go_at_call 58; refine (slice58 s gl gf { t with pos := j } 0 1 _ (hX.drewN _) hs (by omega) (by simp; omega) (by omega)).mono ?_; rintro e w' ⟨rfl, n2, rfl⟩) | (go_at_call 42; refine (skipN42 s gl gf { t with pos := j } 1 _ (hX.drewN _) hs (by simp; omega)).mono ?_; rintro e w' ⟨rfl, rfl⟩) | (go_at_call 48; refine (skip48 s gl gf { t with pos := j } _ (hX.drewN _) hs hlt).mono ?_; rintro e w' ⟨rfl, n3, rfl⟩) | (go_at_call 67; refine (panic67 s gl gf { t with pos := j } t.pos j _ _ hP (hX.drewN _) (by omega) hj).mono ?_; rintro e w' ⟨pe, pp, m, cs, n4, rfl, q⟩))
      have h1 := hrn.out
      rw [run_end (by omega)] at h1
      go_ret
      refine ⟨rfl, ?_, fr_drewN hg _⟩
      rw [← h1, Nat.min_eq_left (by omega)]
      have : s.size = j := by omega
      rw [this]
      exact hX.drewN _

theorem clo_first {s : ByteArray} (hP : PL s) {k : Nat} (hk : k + 2 ≤ s.size) (h : bt s k = 47 ∧ bt s (k + 1) = 42) : clo s k = clo s (k + 2) := by
  rw [clo_no (by omega) (by omega), clo_no (by omega) (by
    intro h2
    exact hP.com k ⟨h.1, h.2, h2.2⟩)]

/-- What a comment's search comes to. -/
def ComEnd (s : ByteArray) (gl gf : Nat) (t : St) (w : World) (e : Ending) (w' : World) : Prop :=
  (clo s t.pos < s.size ∧ e = .returned (.bool false) ∧ LX w' gl gf s { t with pos := clo s t.pos + 2 } ∧ w.grownBy w' (some gl)) ∨ (¬ clo s t.pos < s.size ∧ Fault gl gf w e w')

set_option maxHeartbeats 1000000 in
theorem until44_com (s : ByteArray) (gl gf : Nat) (t : St) (w : World) (hP : Hid (PL s)) (hL : LX w gl gf s t) (hp : t.pos ≤ s.size) :
    Calls Tryz.prog 44 #[.pointer (some ⟨gl, 0, none⟩), .string ⟨#[42, 47]⟩, .bool true, .bool false] w (ComEnd s gl gf t w) := by
  have hs : s.size ≤ 2147483647 := Nat.le_trans hP.out.size (by decide)
  have c9 := hL.c9
  go_enter Tryz.func44, Tryz.ntmps44
  go_wp2_with fail
  go_loopw [] (fun wr => ∃ j : Nat, j ≤ s.size ∧ t.pos ≤ j ∧ LX wr gl gf s { t with pos := j } ∧ w.grownBy wr (some gl) ∧ Hid (clo s j = clo s t.pos)) (fun wr => s.size - posIn gl wr)
  case atStart => exact ⟨t.pos, hp, Nat.le_refl _, hL, fr_refl _ _, rfl⟩
  case round =>
    obtain ⟨j, hj, hpj, hX, hg, hrn⟩ := hrel
    have c9 := hX.c9
    by_cases hlt : j < s.size
    · have hd : decide (s.size ≤ j) = false := decide_eq_false (by omega)
      have HE := Lib.hid (exB_eq s j ⟨#[42, 47]⟩ (Nat.zero_lt_succ 1))
      by_cases hq : ((s.extract j (j + 2)).toList == [42, 47]) = true
      · have HB : Hid (bt s j = 42 ∧ bt s (j + 1) = 47) := by
          have h1 := HE.out
          rw [show j + ByteArray.size ⟨#[42, 47]⟩ = j + 2 from rfl, show (ByteArray.toList ⟨#[42, 47]⟩) = [42, 47] from ByteArray.toList_mk [42, 47], hq] at h1
          exact two_yes h1.symm
        have hle : j + 2 ≤ s.size := by
          rcases Nat.lt_or_ge (j + 1) s.size with hl | hl
          · omega
          · have := bt_ge hl; have := HB.out; omega
        go_wp2_with (first | (go_at_call 39; refine (eof39 _ _ _ _ _ hX hs).mono ?_; rintro e w' ⟨rfl, n, rfl⟩) | (go_at_call 58; refine (slice58 s gl gf { t with pos := j } 0 2 _ (hX.drewN _) hs (by omega) (by simp; omega) (by omega)).mono ?_; rintro e w' ⟨rfl, n2, rfl⟩) | (go_at_call 42; refine (skipN42 s gl gf { t with pos := j } 2 _ (hX.drewN _) hs (by simp; omega)).mono ?_; rintro e w' ⟨rfl, rfl⟩) | (go_at_call 48; refine (skip48 s gl gf { t with pos := j } _ (hX.drewN _) hs hlt).mono ?_; rintro e w' ⟨rfl, n3, rfl⟩) | (go_at_call 67; refine (panic67 s gl gf { t with pos := j } t.pos j _ _ hP (hX.drewN _) (by omega) hj).mono ?_; rintro e w' ⟨pe, pp, m, cs, n4, rfl, q⟩))
        have h1 := hrn.out
        rw [clo_yes hlt HB.out] at h1
        refine bodyPost_ret (results_tmp rfl _ _ _) rfl ?_
        have hX2 := (hX.drewN (n + n2)).pos (j + 2)
        refine Or.inl ⟨by omega, rfl, ?_, fr_set (fr_drewN hg _) _ _⟩
        rw [← h1]
        exact hX2
      · have hq' : ((s.extract j (j + 2)).toList == [42, 47]) = false := by simpa using hq
        clear hq
        have HB : Hid (¬ (bt s j = 42 ∧ bt s (j + 1) = 47)) := by
          have h1 := HE.out
          rw [show j + ByteArray.size ⟨#[42, 47]⟩ = j + 2 from rfl, show (ByteArray.toList ⟨#[42, 47]⟩) = [42, 47] from ByteArray.toList_mk [42, 47], hq'] at h1
          exact two_no (a := 42) (b := 47) (by rw [← h1]; decide)
        go_wp2_with (first | (go_at_call 39; refine (eof39 _ _ _ _ _ hX hs).mono ?_; rintro e w' ⟨rfl, n, rfl⟩) | (go_at_call 58; refine (slice58 s gl gf { t with pos := j } 0 2 _ (hX.drewN _) hs (by omega) (by simp; omega) (by omega)).mono ?_; rintro e w' ⟨rfl, n2, rfl⟩) | (go_at_call 42; refine (skipN42 s gl gf { t with pos := j } 2 _ (hX.drewN _) hs (by simp; omega)).mono ?_; rintro e w' ⟨rfl, rfl⟩) | (go_at_call 48; refine (skip48 s gl gf { t with pos := j } _ (hX.drewN _) hs hlt).mono ?_; rintro e w' ⟨rfl, n3, rfl⟩) | (go_at_call 67; refine (panic67 s gl gf { t with pos := j } t.pos j _ _ hP (hX.drewN _) (by omega) hj).mono ?_; rintro e w' ⟨pe, pp, m, cs, n4, rfl, q⟩))
        have hX2 := ((hX.drewN (n + n2)).pos (j + 1)).drewN n3
        have hp1 := posIn_of hX2
        have hp2 := posIn_of hX
        go_roundw
        case rel =>
          exact ⟨j + 1, by omega, by omega, hX2, fr_drewN (fr_set (fr_drewN hg _) _ _) _, by rw [← clo_no hlt HB.out]; exact hrn⟩
        case measure =>
          rw [hp2]
          simp only at hp1 ⊢
          refine Nat.lt_of_le_of_lt (Nat.le_of_eq (congrArg (fun x => s.size - x) hp1)) ?_
          omega
    · have hd : decide (s.size ≤ j) = true := decide_eq_true (by omega)
      go_wp2_with (first | (go_at_call 39; refine (eof39 _ _ _ _ _ hX hs).mono ?_; rintro e w' ⟨rfl, n, rfl⟩) | (go_at_call 58; refine (slice58 s gl gf { t with pos := j } 0 2 _ (hX.drewN _) hs (by omega) (by simp; omega) (by omega)).mono ?_; rintro e w' ⟨rfl, n2, rfl⟩) | (go_at_call 42; refine (skipN42 s gl gf { t with pos := j } 2 _ (hX.drewN _) hs (by simp; omega)).mono ?_; rintro e w' ⟨rfl, rfl⟩) | (go_at_call 48; refine (skip48 s gl gf { t with pos := j } _ (hX.drewN _) hs hlt).mono ?_; rintro e w' ⟨rfl, n3, rfl⟩) | (go_at_call 67; refine (panic67 s gl gf { t with pos := j } t.pos j _ _ hP (hX.drewN _) (by omega) hj).mono ?_; rintro e w' ⟨pe, pp, m, cs, n4, rfl, q⟩))
      have h1 := hrn.out
      rw [clo_end (by omega)] at h1
      exact ⟨rfl, Or.inr ⟨by omega, Fault.after ⟨pe, pp, m, cs, n4, rfl, q⟩ (Fr2.of (fr_drewN hg _))⟩⟩

theorem run_stop (s : ByteArray) (p : Nat → Bool) (k : Nat) (h : run s p k < s.size) : p (bt s (run s p k)) = false := by
  fun_induction run s p k with
  | case1 k hk hp ih => exact ih h
  | case2 k hk hp => simpa using hp
  | case3 => omega
theorem tail_bt (s : ByteArray) (k : Nat) (hk : k ≤ s.size) : s.size ≤ k → s.extract k s.size = ⟨#[]⟩ := by
  intro h
  have : k = s.size := by omega
  rw [this]; exact extract_nil s

theorem decode40z (s : ByteArray) (j : Nat) (w : World) (hp : j ≤ s.size) (hj : s.size ≤ j) :
    Calls Tryz.prog 40 #[.string (s.extract j s.size)] w fun e w' => e = .returned (.tuple #[.int .i32 65533, .int .i64 0]) ∧ w = w' := by
  rw [tail_bt s j hp hj]; exact decode40e w

/-- What a skipped comment comes to: none; one that ends; one that is not closed. -/
def ComPost (s : ByteArray) (gl gf : Nat) (t : St) (j : Nat) (w : World) (e : Ending) (w' : World) : Prop :=
  ((blankP s j).2 = false ∧ Fault gl gf w e w') ∨
  (∃ p, e = .returned (.bool false) ∧ LX w' gl gf s { t with pos := p } ∧ w.grownBy w' (some gl) ∧ p ≤ s.size ∧ blankP s p = blankP s j ∧ (p = j → blankP s j = (j, true)) ∧ j ≤ p)

set_option maxRecDepth 100000 in
set_option maxHeartbeats 1000000 in
theorem skipComment29 (s : ByteArray) (gl gf : Nat) (t : St) (j : Nat) (w : World) (hP : Hid (PL s)) (hL : LX w gl gf s { t with pos := j }) (hp : j ≤ s.size) (hsp : Hid (spB (bt s j) = false)) :
    Calls Tryz.prog 29 #[.pointer (some ⟨gl, 0, none⟩), .bool false] w (ComPost s gl gf t j w) := by
  have hs : s.size ≤ 2147483647 := Nat.le_trans hP.out.size (by decide)
  have c0 := hL.c0
  have c9 := hL.c9
  have cf := hL.fb
  by_cases hlt : j < s.size
  · have hb := hP.out.lt hlt
    have e2 : (j : Int) ≤ (s.size : Int) := by omega
    have e3 : 0 ≤ (j : Int) := by omega
    have hlin : bt s j = 35 ∨ bt s j = 45 ∧ bt s (j + 1) = 45 → j ≤ s.size ∧ min s.size (run s nlB j + 1) ≤ s.size ∧ blankP s (min s.size (run s nlB j + 1)) = blankP s j ∧ j < min s.size (run s nlB j + 1) := by
      intro h
      have h1 := blank_line hlt h
      have h2 := run_le s nlB j hp
      have h3 : j + 1 ≤ run s nlB j := run_gt hlt (by simp [nlB]; omega)
      refine ⟨hp, Nat.min_le_left _ _, ?_, by omega⟩
      rw [h1]
      rcases Nat.lt_or_ge (run s nlB j) s.size with hl | hl
      · rw [Nat.min_eq_right (by omega)]
        symm
        apply blank_space hl
        right; right
        have := run_stop s nlB j hl
        have h5 := bt_256 hl
        simp [nlB] at this
        omega
      · rw [Nat.min_eq_left (by omega)]
        congr 1; omega
    have HL := Lib.hid hlin
    clear hlin
    rcases (show bt s j = 35 ∨ bt s j = 45 ∨ bt s j = 47 ∨ (bt s j ≠ 35 ∧ bt s j ≠ 45 ∧ bt s j ≠ 47) from by omega) with hc | hc | hc | hc
    · obtain ⟨_, h2, h3, h4⟩ := HL.out (Or.inl hc)
      have H3 := Lib.hid h3
      clear h3
      go_enter Tryz.func29, Tryz.ntmps29
      go_wp2_with fail
      go_quiet ((go_at_call 40; refine quiet1 (decode40x s j _ hlt hb)))
      go_wp2_with (first | (go_at_call 44; refine (until44_line s gl gf { t with pos := j } _ hP (hL.drewN _) hp).mono ?_; rintro e w' ⟨rfl, hX2, hg2⟩))
      refine bodyPost_ret (results_tmp rfl _ _ _) rfl (Or.inr ⟨_, rfl, hX2, fr_trans (fr_drewN (fr_refl _ _) _) hg2, h2, H3.out, fun h => absurd h (by omega), by omega⟩)
    · by_cases hd : bt s (j + 1) = 45
      · obtain ⟨_, h2, h3, h4⟩ := HL.out (Or.inr ⟨hc, hd⟩)
        have H3 := Lib.hid h3
        clear h3
        go_enter Tryz.func29, Tryz.ntmps29
        go_wp2_with fail
        go_quiet ((go_at_call 40; refine quiet1 (decode40x s j _ hlt hb)))
        go_wp2_with (first | (go_at_call 43; refine (is43n s gl gf { t with pos := j } 1 45 _ (hL.drewN _) hs hp rfl rfl (by omega) (by omega)).mono ?_; rintro e w' ⟨rfl, n, rfl⟩) | (go_at_call 44; refine (until44_line s gl gf { t with pos := j } _ hP (hL.drewN _) hp).mono ?_; rintro e w' ⟨rfl, hX2, hg2⟩))
        refine bodyPost_ret (results_tmp rfl _ _ _) rfl (Or.inr ⟨_, rfl, hX2, fr_trans (fr_drewN (fr_refl _ _) _) hg2, h2, H3.out, fun h => absurd h (by omega), by omega⟩)
      · have HS := Lib.hid (blank_stop (s := s) (k := j) (by omega) (by omega) (by omega))
        have hd2 : (bt s (j + 1) == 45) = false := by simpa using hd
        go_enter Tryz.func29, Tryz.ntmps29
        go_wp2_with fail
        go_quiet ((go_at_call 40; refine quiet1 (decode40x s j _ hlt hb)))
        go_wp2_with (first | (go_at_call 43; refine (is43n s gl gf { t with pos := j } 1 45 _ (hL.drewN _) hs hp rfl rfl (by omega) (by omega)).mono ?_; rintro e w' ⟨rfl, n, rfl⟩))
        refine bodyPost_ret (results_tmp rfl _ _ _) rfl (Or.inr ⟨j, rfl, hL.drewN _, fr_drewN (fr_refl _ _) _, hp, rfl, fun _ => HS.out, Nat.le_refl _⟩)
    · by_cases hd : bt s (j + 1) = 42
      · have hj2 : j + 2 ≤ s.size := by
          rcases Nat.lt_or_ge (j + 1) s.size with hl | hl
          · omega
          · have := bt_ge hl; omega
        have HF := Lib.hid (clo_first hP.out hj2 ⟨hc, hd⟩)
        have HC := Lib.hid (fun he => blank_com hlt ⟨hc, hd⟩ he)
        have HO := Lib.hid (fun he => blank_open hlt ⟨hc, hd⟩ he)
        go_enter Tryz.func29, Tryz.ntmps29
        go_wp2_with fail
        go_quiet ((go_at_call 40; refine quiet1 (decode40x s j _ hlt hb)))
        go_wp2_with (first | (go_at_call 43; refine (is43n s gl gf { t with pos := j } 1 42 _ (hL.drewN _) hs hp rfl rfl (by omega) (by omega)).mono ?_; rintro e w' ⟨rfl, n, rfl⟩) | (go_at_call 44; refine (until44_com s gl gf { t with pos := j } _ hP (hL.drewN _) hp).mono ?_))
        intro e w' hce
        rcases hce with ⟨h1, rfl, h3, h4⟩ | ⟨h1, ⟨pe, pp, m, cs, n4, rfl, q⟩⟩
        · go_wp2_with fail
          have h5 := clo_lt h1
          have h6 := clo_ge s j
          simp only [HF.out] at h1 h5
          refine bodyPost_ret (results_tmp rfl _ _ _) rfl (Or.inr ⟨clo s j + 2, rfl, h3, fr_trans (fr_drewN (fr_refl _ _) _) h4, by rw [HF.out]; exact h5, ?_, fun h => absurd h (by omega), by omega⟩)
          rw [HC.out h1, HF.out]
        · go_wp2_with fail
          simp only [HF.out] at h1
          refine ⟨rfl, Or.inl ⟨by rw [HO.out h1], Fault.after ⟨pe, pp, m, cs, n4, rfl, q⟩ (Fr2.of (fr_drewN (fr_refl _ _) _))⟩⟩
      · have HS := Lib.hid (blank_stop (s := s) (k := j) (by omega) (by omega) (by omega))
        have hd2 : (bt s (j + 1) == 42) = false := by simpa using hd
        go_enter Tryz.func29, Tryz.ntmps29
        go_wp2_with fail
        go_quiet ((go_at_call 40; refine quiet1 (decode40x s j _ hlt hb)))
        go_wp2_with (first | (go_at_call 43; refine (is43n s gl gf { t with pos := j } 1 42 _ (hL.drewN _) hs hp rfl rfl (by omega) (by omega)).mono ?_; rintro e w' ⟨rfl, n, rfl⟩))
        refine bodyPost_ret (results_tmp rfl _ _ _) rfl (Or.inr ⟨j, rfl, hL.drewN _, fr_drewN (fr_refl _ _) _, hp, rfl, fun _ => HS.out, Nat.le_refl _⟩)
    · have hsp2 := hsp.out
      simp [spB] at hsp2
      have HS := Lib.hid (blank_stop (s := s) (k := j) (by omega) (by omega) (by omega))
      clear hsp2
      obtain ⟨h1, h2, h3⟩ := hc
      have k1 : ((bt s j : Int) == 35) = false := by rw [beq_eq_false_iff_ne]; omega
      have k2 : ((bt s j : Int) == 45) = false := by rw [beq_eq_false_iff_ne]; omega
      have k3 : ((bt s j : Int) == 47) = false := by rw [beq_eq_false_iff_ne]; omega
      go_enter Tryz.func29, Tryz.ntmps29
      go_wp2_with fail
      go_quiet ((go_at_call 40; refine quiet1 (decode40x s j _ hlt hb)))
      go_wp2_with fail
      refine bodyPost_ret (results_tmp rfl _ _ _) rfl (Or.inr ⟨j, rfl, hL.drewN _, fr_drewN (fr_refl _ _) _, hp, rfl, fun _ => HS.out, Nat.le_refl _⟩)
  · have hj : s.size ≤ j := by omega
    have e2 : (j : Int) ≤ (s.size : Int) := by omega
    have e3 : 0 ≤ (j : Int) := by omega
    have HS := Lib.hid (blank_end hj)
    go_enter Tryz.func29, Tryz.ntmps29
    go_wp2_with fail
    go_quiet ((go_at_call 40; refine quiet1 (decode40z s j _ hp hj)))
    go_wp2_with fail
    refine bodyPost_ret (results_tmp rfl _ _ _) rfl (Or.inr ⟨j, rfl, hL.drewN _, fr_drewN (fr_refl _ _) _, hp, rfl, fun _ => HS.out, Nat.le_refl _⟩)
end Go.Proofs.YtahcbeofaeflgaaGreatDoor
