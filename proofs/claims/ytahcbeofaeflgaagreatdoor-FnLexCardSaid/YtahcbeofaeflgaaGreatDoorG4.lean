/- Lemmas towards the statement FnLexCardSaid, conditions: as each theorem says. -/
import Derived.Test.YtahcbeofaeflgaaGreatDoorG3
import Derived.Test.YtahcbeofaeflgaaGreatDoorA8b
import Derived.Test.YtahcbeofaeflgaaGreatDoorA8c
import Derived.Test.YtahcbeofaeflgaaGreatDoorF1
namespace Go.Proofs.YtahcbeofaeflgaaGreatDoor
open Go.RowKit

theorem number51 (s : ByteArray) (gl gf : Nat) (t : St) (w : World) (hP : Hid (PL s)) (hL : LX w gl gf s t) (hp : t.pos ≤ s.size) (hb0 : t.base = 0) :
    Calls Tryz.prog 51 #[.pointer (some ⟨gl, 0, none⟩), .bool false] w (NumPost s gl gf t w) := by
  by_cases h0 : isHex s t.pos
  · rcases h0.2 with hx | hx
    · exact number51_hexx s gl gf t w hP hL hp h0 hx
    · exact number51_hexX s gl gf t w hP hL hp h0 hx
  · by_cases hz : bt s t.pos = 48
    · exact number51_z s gl gf t w hP hL hp hb0 h0 hz
    · exact number51_nz s gl gf t w hP hL hp hb0 h0 hz

theorem num_q {s : ByteArray} {k : Nat} {k1 : ByteArray} (h1 : parP s k = false) (h2 : nmB s k k1 = true) : oneQ s k k1 = if parB (bt s (numP s k).1) = true then none else some ⟨(numP s k).2.1, ⟨#[]⟩, (numP s k).2.2, (numP s k).1⟩ := by
  unfold oneQ
  rw [if_neg (by rw [h1]; decide), if_pos h2]
theorem tok_num {s : ByteArray} {gl gf : Nat} {t : St} {w w' : World} (hcl : Clr t) (hp : t.pos < s.size) (h1 : parP s t.pos = false) (h2 : nmB s t.pos t.last = true) (hn : parB (bt s (numP s t.pos).1) = false)
    (hX : LX w' gl gf s { t with pos := (numP s t.pos).1, kind := (numP s t.pos).2.1, base := (numP s t.pos).2.2 }) (hg : w.grownBy w' (some gl)) : TokPost s gl gf t w (.returned (.tuple #[])) w' := by
  have hb := numP_bd s t.pos hp (by
    simp only [nmB, Bool.or_eq_true, Bool.and_eq_true, decide_eq_true_eq] at h2
    rcases h2 with h | h
    · exact Or.inl h
    · exact Or.inr h.1.1)
  refine Or.inr (Or.inl ⟨⟨(numP s t.pos).2.1, ⟨#[]⟩, (numP s t.pos).2.2, (numP s t.pos).1⟩, hp, ?_, rfl, ?_, hg⟩)
  · rw [num_q h1 h2, if_neg (by rw [hn]; decide)]
  · have e : t.tok ⟨(numP s t.pos).2.1, ⟨#[]⟩, (numP s t.pos).2.2, (numP s t.pos).1⟩ = { t with pos := (numP s t.pos).1, kind := (numP s t.pos).2.1, base := (numP s t.pos).2.2 } := by
      have hk : (numP s t.pos).2.1.toList ≠ [46] := by
        rcases hb.2.2 with h | h <;> rw [h] <;> simp [kInt, kFloat]
      obtain ⟨h1, h2, h3⟩ := hcl
      unfold St.tok
      rw [if_neg hk, ← h2]
    rw [e]; exact hX
theorem tok_numF {s : ByteArray} {gl gf : Nat} {t : St} {w w' : World} {e : Ending} (hp : t.pos < s.size) (h1 : parP s t.pos = false) (h2 : nmB s t.pos t.last = true) (hn : parB (bt s (numP s t.pos).1) = true)
    (hf : Fault gl gf w e w') : TokPost s gl gf t w e w' := by
  refine Or.inl ⟨hp, ?_, hf⟩
  rw [num_q h1 h2, if_pos hn]

set_option maxRecDepth 100000 in
set_option maxHeartbeats 4000000 in
/-- The end of the text. -/
theorem tok31_eof (s : ByteArray) (gl gf : Nat) (t : St) (w : World) (hP : Hid (PL s)) (hL : LX w gl gf s t) (hp : s.size ≤ t.pos) :
    Calls Tryz.prog 31 #[.pointer (some ⟨gl, 0, none⟩), .bool false] w (TokPost s gl gf t w) := by
  have hs : s.size ≤ 2147483647 := Nat.le_trans hP.out.size (by decide)
  have hd : decide (s.size ≤ t.pos) = true := decide_eq_true hp
  have k1 := hL.c1
  have f1 := hL.fr 1
  go_enter Tryz.func31, Tryz.ntmps31
  go_wp2_with fail
  refine (eof39 s gl gf t w hL hs).mono ?_; rintro e w' ⟨rfl, n0, rfl⟩
  go_wp2_with fail
  refine bodyPost_ret (results_none rfl _ _ _) rfl (Or.inr (Or.inr ⟨hp, rfl, (hL.drewN _).kind kEof, fr_set (fr_drewN (fr_refl w (some gl)) _) 1 _⟩))

theorem dot_q {s : ByteArray} {k : Nat} {k1 : ByteArray} (h1 : bt s k = 46) (h2 : digB (bt s (k + 1)) = false ∨ ndB k1 = true) : oneQ s k k1 = some ⟨⟨#[46]⟩, ⟨#[]⟩, 0, k + 1⟩ := by
  refine oneQ_sign (v := ⟨#[46]⟩) ?_ ?_ ?_ ?_ (sign_one (c := 46) h1 (no_two h1 (by decide)) (by decide)) (show (1 : Nat) ≠ 0 by decide)
  · simp [parP, h1]
  · rcases h2 with h | h
    · rw [nmB, h]; simp [h1, digB]
    · rw [nmB, h]; simp [h1, digB]
  · simp [markB, h1]
  · simp [letB, h1]
theorem tok_dot {s : ByteArray} {gl gf : Nat} {t : St} {w w' : World} {b : Bool} (hcl : Clr t) (hp : t.pos < s.size) (hX : LX w' gl gf s { t with kind := ⟨#[46]⟩, pos := t.pos + 1, dot := b }) (hg : w.grownBy w' (some gl)) (hb : ndB t.last = b)
    (hq : oneQ s t.pos t.last = some ⟨⟨#[46]⟩, ⟨#[]⟩, 0, t.pos + 1⟩) : TokPost s gl gf t w (.returned (.tuple #[])) w' := by
  subst hb
  refine Or.inr (Or.inl ⟨⟨⟨#[46]⟩, ⟨#[]⟩, 0, t.pos + 1⟩, hp, hq, rfl, ?_, hg⟩)
  have e : t.tok ⟨⟨#[46]⟩, ⟨#[]⟩, 0, t.pos + 1⟩ = { t with kind := ⟨#[46]⟩, pos := t.pos + 1, dot := ndB t.last } := by
    obtain ⟨h1, h2, h3⟩ := hcl
    cases t
    simp only at h1 h2 h3
    subst h1; subst h2; subst h3
    unfold St.tok
    rw [if_pos (by simp)]
  rw [e]; exact hX
theorem nextdot49c (k : ByteArray) (b : Bool) (w : World) (h : ndB k = b) :
    Calls Tryz.prog 49 #[.string k] w fun e w' => e = .returned (.bool b) ∧ w = w' := by subst h; exact nextdot49 k w
theorem isdigit50c (c : Nat) (b : Bool) (w : World) (h : digB c = b) : Calls Tryz.prog 50 #[.int .u8 (c : Int)] w fun e w' => e = .returned (.bool b) ∧ w = w' := by subst h; exact isdigit50 c w

set_option maxRecDepth 100000 in
set_option maxHeartbeats 4000000 in
theorem tok31_46_a (s : ByteArray) (gl gf : Nat) (t : St) (w : World) (hP : Hid (PL s)) (hL : LX w gl gf s t) (hp : t.pos < s.size) (hcl : Hid (Clr t)) (hc : Hid (bt s t.pos = 46)) (h2 : Hid (ndB t.last = true)) :
    Calls Tryz.prog 31 #[.pointer (some ⟨gl, 0, none⟩), .bool false] w (TokPost s gl gf t w) := by
  have hs : s.size ≤ 2147483647 := Nat.le_trans hP.out.size (by decide)
  have hd : decide (s.size ≤ t.pos) = false := decide_eq_false (by omega)
  have k10 := hL.c10
  go_enter Tryz.func31, Tryz.ntmps31
  go_wp2_with fail
  refine (eof39 s gl gf t w hL hs).mono ?_; rintro e w' ⟨rfl, n0, rfl⟩
  go_wp2_with fail
  refine (peek0 s gl gf t 46 _ (hL.drewN _) hs hp hc.out rfl).mono ?_; rintro e w' ⟨rfl, n1, rfl⟩
  go_wp2_with fail
  refine (nextdot49c t.last true _ h2.out).mono ?_; rintro e w' ⟨rfl, rfl⟩
  go_wp2_with fail
  refine (skip48c s gl gf t 46 _ (hL.drewN _) hs hp hc.out rfl).mono ?_; rintro e w1 ⟨rfl, hX, hg⟩
  have k1 := hX.c1
  have f1 := hX.fr 1
  have k11 := (hX.kind ⟨#[46]⟩).c11
  have f11 := (hX.kind ⟨#[46]⟩).fr 11
  go_wp2_with fail
  refine bodyPost_ret (results_none rfl _ _ _) rfl (tok_dot hcl.out hp ((hX.kind ⟨#[46]⟩).dot true) (fr_set (fr_set (fr_trans (fr_drewN (fr_refl w (some gl)) _) hg) 1 _) 11 _) h2.out (dot_q hc.out (Or.inr h2.out)))

set_option maxRecDepth 100000 in
set_option maxHeartbeats 4000000 in
theorem tok31_46_b (s : ByteArray) (gl gf : Nat) (t : St) (w : World) (hP : Hid (PL s)) (hL : LX w gl gf s t) (hp : t.pos < s.size) (hcl : Hid (Clr t)) (hc : Hid (bt s t.pos = 46)) (h2 : Hid (ndB t.last = false)) (h3 : Hid (s.size ≤ t.pos + 1)) :
    Calls Tryz.prog 31 #[.pointer (some ⟨gl, 0, none⟩), .bool false] w (TokPost s gl gf t w) := by
  have hs : s.size ≤ 2147483647 := Nat.le_trans hP.out.size (by decide)
  have hd : decide (s.size ≤ t.pos) = false := decide_eq_false (by omega)
  have k10 := hL.c10
  go_enter Tryz.func31, Tryz.ntmps31
  go_wp2_with fail
  refine (eof39 s gl gf t w hL hs).mono ?_; rintro e w' ⟨rfl, n0, rfl⟩
  go_wp2_with fail
  refine (peek0 s gl gf t 46 _ (hL.drewN _) hs hp hc.out rfl).mono ?_; rintro e w' ⟨rfl, n1, rfl⟩
  go_wp2_with fail
  refine (nextdot49c t.last false _ h2.out).mono ?_; rintro e w' ⟨rfl, rfl⟩
  go_wp2_with fail
  refine (ok45c s gl gf t 1 false _ (hL.drewN _) hs (by omega) rfl (by decide) (decide_eq_false (by have := h3.out; omega))).mono ?_; rintro e w' ⟨rfl, m1, rfl⟩
  go_wp2_with fail
  refine (skip48c s gl gf t 46 _ (hL.drewN _) hs hp hc.out rfl).mono ?_; rintro e w1 ⟨rfl, hX, hg⟩
  have k1 := hX.c1
  have f1 := hX.fr 1
  have k11 := (hX.kind ⟨#[46]⟩).c11
  have f11 := (hX.kind ⟨#[46]⟩).fr 11
  go_wp2_with fail
  refine bodyPost_ret (results_none rfl _ _ _) rfl (tok_dot hcl.out hp ((hX.kind ⟨#[46]⟩).dot false) (fr_set (fr_set (fr_trans (fr_drewN (fr_refl w (some gl)) _) hg) 1 _) 11 _) h2.out (dot_q hc.out (Or.inl (by rw [bt_ge h3.out]; rfl))))

set_option maxRecDepth 100000 in
set_option maxHeartbeats 4000000 in
theorem tok31_46_c (s : ByteArray) (gl gf : Nat) (t : St) (w : World) (hP : Hid (PL s)) (hL : LX w gl gf s t) (hp : t.pos < s.size) (hcl : Hid (Clr t)) (hc : Hid (bt s t.pos = 46)) (h2 : Hid (ndB t.last = false)) (h3 : Hid (t.pos + 1 < s.size)) (h4 : Hid (digB (bt s (t.pos + 1)) = false)) :
    Calls Tryz.prog 31 #[.pointer (some ⟨gl, 0, none⟩), .bool false] w (TokPost s gl gf t w) := by
  have hs : s.size ≤ 2147483647 := Nat.le_trans hP.out.size (by decide)
  have hd : decide (s.size ≤ t.pos) = false := decide_eq_false (by omega)
  have k10 := hL.c10
  go_enter Tryz.func31, Tryz.ntmps31
  go_wp2_with fail
  refine (eof39 s gl gf t w hL hs).mono ?_; rintro e w' ⟨rfl, n0, rfl⟩
  go_wp2_with fail
  refine (peek0 s gl gf t 46 _ (hL.drewN _) hs hp hc.out rfl).mono ?_; rintro e w' ⟨rfl, n1, rfl⟩
  go_wp2_with fail
  refine (nextdot49c t.last false _ h2.out).mono ?_; rintro e w' ⟨rfl, rfl⟩
  go_wp2_with fail
  refine (ok45c s gl gf t 1 true _ (hL.drewN _) hs (by omega) rfl (by decide) (decide_eq_true h3.out)).mono ?_; rintro e w' ⟨rfl, m1, rfl⟩
  go_wp2_with fail
  refine (peek47n s gl gf t 1 _ (hL.drewN _) hs rfl h3.out).mono ?_; rintro e w' ⟨rfl, m2, rfl⟩
  go_wp2_with fail
  refine (isdigit50c _ false _ h4.out).mono ?_; rintro e w' ⟨rfl, rfl⟩
  go_wp2_with fail
  refine (skip48c s gl gf t 46 _ (hL.drewN _) hs hp hc.out rfl).mono ?_; rintro e w1 ⟨rfl, hX, hg⟩
  have k1 := hX.c1
  have f1 := hX.fr 1
  have k11 := (hX.kind ⟨#[46]⟩).c11
  have f11 := (hX.kind ⟨#[46]⟩).fr 11
  go_wp2_with fail
  refine bodyPost_ret (results_none rfl _ _ _) rfl (tok_dot hcl.out hp ((hX.kind ⟨#[46]⟩).dot false) (fr_set (fr_set (fr_trans (fr_drewN (fr_refl w (some gl)) _) hg) 1 _) 11 _) h2.out (dot_q hc.out (Or.inl h4.out)))

set_option maxRecDepth 100000 in
set_option maxHeartbeats 4000000 in
theorem tok31_46_d (s : ByteArray) (gl gf : Nat) (t : St) (w : World) (hP : Hid (PL s)) (hL : LX w gl gf s t) (hp : t.pos < s.size) (hcl : Hid (Clr t)) (hc : Hid (bt s t.pos = 46)) (h2 : Hid (ndB t.last = false)) (h4 : Hid (digB (bt s (t.pos + 1)) = true)) :
    Calls Tryz.prog 31 #[.pointer (some ⟨gl, 0, none⟩), .bool false] w (TokPost s gl gf t w) := by
  have hs : s.size ≤ 2147483647 := Nat.le_trans hP.out.size (by decide)
  have h3 : Hid (t.pos + 1 < s.size) := digB_lt h4.out
  have hd : decide (s.size ≤ t.pos) = false := decide_eq_false (by omega)
  have k10 := hL.c10
  go_enter Tryz.func31, Tryz.ntmps31
  go_wp2_with fail
  refine (eof39 s gl gf t w hL hs).mono ?_; rintro e w' ⟨rfl, n0, rfl⟩
  go_wp2_with fail
  refine (peek0 s gl gf t 46 _ (hL.drewN _) hs hp hc.out rfl).mono ?_; rintro e w' ⟨rfl, n1, rfl⟩
  go_wp2_with fail
  refine (nextdot49c t.last false _ h2.out).mono ?_; rintro e w' ⟨rfl, rfl⟩
  go_wp2_with fail
  refine (ok45c s gl gf t 1 true _ (hL.drewN _) hs (by omega) rfl (by decide) (decide_eq_true h3.out)).mono ?_; rintro e w' ⟨rfl, m1, rfl⟩
  go_wp2_with fail
  refine (peek47n s gl gf t 1 _ (hL.drewN _) hs rfl h3.out).mono ?_; rintro e w' ⟨rfl, m2, rfl⟩
  go_wp2_with fail
  refine (isdigit50c _ true _ h4.out).mono ?_; rintro e w' ⟨rfl, rfl⟩
  go_wp2_with fail
  refine (number51 s gl gf t _ hP (hL.drewN _) (by omega) hcl.out.base).mono ?_
  intro e w1 hn
  have hnm : nmB s t.pos t.last = true := by have h1 := hc.out; rw [nmB, h4.out, h2.out]; simp [h1]
  have hpp : parP s t.pos = false := by have h1 := hc.out; simp [parP, h1]
  rcases hn with ⟨hn1, pe, pp, m, cs, nn, rfl, q⟩ | ⟨hn1, rfl, hX, hg⟩
  · go_wp2_with fail
    exact ⟨rfl, tok_numF hp hpp hnm hn1 (Fault.after ⟨pe, pp, m, cs, nn, rfl, q⟩ (Fr2.of (fr_drewN (fr_refl w (some gl)) _)))⟩
  · go_wp2_with fail
    refine bodyPost_ret (results_none rfl _ _ _) rfl (tok_num hcl.out hp hpp hnm hn1 hX (fr_trans (fr_drewN (fr_refl w (some gl)) _) hg))

set_option maxRecDepth 100000 in
set_option maxHeartbeats 4000000 in
theorem tok31_48 (s : ByteArray) (gl gf : Nat) (t : St) (w : World) (hP : Hid (PL s)) (hL : LX w gl gf s t) (hp : t.pos < s.size) (hcl : Hid (Clr t)) (hc : Hid (bt s t.pos = 48)) :
    Calls Tryz.prog 31 #[.pointer (some ⟨gl, 0, none⟩), .bool false] w (TokPost s gl gf t w) := by
  have hs : s.size ≤ 2147483647 := Nat.le_trans hP.out.size (by decide)
  have hd : decide (s.size ≤ t.pos) = false := decide_eq_false (by omega)
  go_enter Tryz.func31, Tryz.ntmps31
  go_wp2_with fail
  refine (eof39 s gl gf t w hL hs).mono ?_; rintro e w' ⟨rfl, n0, rfl⟩
  go_wp2_with fail
  refine (peek0 s gl gf t 48 _ (hL.drewN _) hs hp hc.out rfl).mono ?_; rintro e w' ⟨rfl, n1, rfl⟩
  go_wp2_with fail
  refine (number51 s gl gf t _ hP (hL.drewN _) (by omega) hcl.out.base).mono ?_
  intro e w1 hn
  have hnm : nmB s t.pos t.last = true := by have h1 := hc.out; simp [nmB, digB, h1]
  have hpp : parP s t.pos = false := by have h1 := hc.out; simp [parP, h1]
  rcases hn with ⟨hn1, pe, pp, m, cs, nn, rfl, q⟩ | ⟨hn1, rfl, hX, hg⟩
  · go_wp2_with fail
    exact ⟨rfl, tok_numF hp hpp hnm hn1 (Fault.after ⟨pe, pp, m, cs, nn, rfl, q⟩ (Fr2.of (fr_drewN (fr_refl w (some gl)) _)))⟩
  · go_wp2_with fail
    refine bodyPost_ret (results_none rfl _ _ _) rfl (tok_num hcl.out hp hpp hnm hn1 hX (fr_trans (fr_drewN (fr_refl w (some gl)) _) hg))

set_option maxRecDepth 100000 in
set_option maxHeartbeats 4000000 in
theorem tok31_49 (s : ByteArray) (gl gf : Nat) (t : St) (w : World) (hP : Hid (PL s)) (hL : LX w gl gf s t) (hp : t.pos < s.size) (hcl : Hid (Clr t)) (hc : Hid (bt s t.pos = 49)) :
    Calls Tryz.prog 31 #[.pointer (some ⟨gl, 0, none⟩), .bool false] w (TokPost s gl gf t w) := by
  have hs : s.size ≤ 2147483647 := Nat.le_trans hP.out.size (by decide)
  have hd : decide (s.size ≤ t.pos) = false := decide_eq_false (by omega)
  go_enter Tryz.func31, Tryz.ntmps31
  go_wp2_with fail
  refine (eof39 s gl gf t w hL hs).mono ?_; rintro e w' ⟨rfl, n0, rfl⟩
  go_wp2_with fail
  refine (peek0 s gl gf t 49 _ (hL.drewN _) hs hp hc.out rfl).mono ?_; rintro e w' ⟨rfl, n1, rfl⟩
  go_wp2_with fail
  refine (number51 s gl gf t _ hP (hL.drewN _) (by omega) hcl.out.base).mono ?_
  intro e w1 hn
  have hnm : nmB s t.pos t.last = true := by have h1 := hc.out; simp [nmB, digB, h1]
  have hpp : parP s t.pos = false := by have h1 := hc.out; simp [parP, h1]
  rcases hn with ⟨hn1, pe, pp, m, cs, nn, rfl, q⟩ | ⟨hn1, rfl, hX, hg⟩
  · go_wp2_with fail
    exact ⟨rfl, tok_numF hp hpp hnm hn1 (Fault.after ⟨pe, pp, m, cs, nn, rfl, q⟩ (Fr2.of (fr_drewN (fr_refl w (some gl)) _)))⟩
  · go_wp2_with fail
    refine bodyPost_ret (results_none rfl _ _ _) rfl (tok_num hcl.out hp hpp hnm hn1 hX (fr_trans (fr_drewN (fr_refl w (some gl)) _) hg))

set_option maxRecDepth 100000 in
set_option maxHeartbeats 4000000 in
theorem tok31_50 (s : ByteArray) (gl gf : Nat) (t : St) (w : World) (hP : Hid (PL s)) (hL : LX w gl gf s t) (hp : t.pos < s.size) (hcl : Hid (Clr t)) (hc : Hid (bt s t.pos = 50)) :
    Calls Tryz.prog 31 #[.pointer (some ⟨gl, 0, none⟩), .bool false] w (TokPost s gl gf t w) := by
  have hs : s.size ≤ 2147483647 := Nat.le_trans hP.out.size (by decide)
  have hd : decide (s.size ≤ t.pos) = false := decide_eq_false (by omega)
  go_enter Tryz.func31, Tryz.ntmps31
  go_wp2_with fail
  refine (eof39 s gl gf t w hL hs).mono ?_; rintro e w' ⟨rfl, n0, rfl⟩
  go_wp2_with fail
  refine (peek0 s gl gf t 50 _ (hL.drewN _) hs hp hc.out rfl).mono ?_; rintro e w' ⟨rfl, n1, rfl⟩
  go_wp2_with fail
  refine (number51 s gl gf t _ hP (hL.drewN _) (by omega) hcl.out.base).mono ?_
  intro e w1 hn
  have hnm : nmB s t.pos t.last = true := by have h1 := hc.out; simp [nmB, digB, h1]
  have hpp : parP s t.pos = false := by have h1 := hc.out; simp [parP, h1]
  rcases hn with ⟨hn1, pe, pp, m, cs, nn, rfl, q⟩ | ⟨hn1, rfl, hX, hg⟩
  · go_wp2_with fail
    exact ⟨rfl, tok_numF hp hpp hnm hn1 (Fault.after ⟨pe, pp, m, cs, nn, rfl, q⟩ (Fr2.of (fr_drewN (fr_refl w (some gl)) _)))⟩
  · go_wp2_with fail
    refine bodyPost_ret (results_none rfl _ _ _) rfl (tok_num hcl.out hp hpp hnm hn1 hX (fr_trans (fr_drewN (fr_refl w (some gl)) _) hg))

set_option maxRecDepth 100000 in
set_option maxHeartbeats 4000000 in
theorem tok31_51 (s : ByteArray) (gl gf : Nat) (t : St) (w : World) (hP : Hid (PL s)) (hL : LX w gl gf s t) (hp : t.pos < s.size) (hcl : Hid (Clr t)) (hc : Hid (bt s t.pos = 51)) :
    Calls Tryz.prog 31 #[.pointer (some ⟨gl, 0, none⟩), .bool false] w (TokPost s gl gf t w) := by
  have hs : s.size ≤ 2147483647 := Nat.le_trans hP.out.size (by decide)
  have hd : decide (s.size ≤ t.pos) = false := decide_eq_false (by omega)
  go_enter Tryz.func31, Tryz.ntmps31
  go_wp2_with fail
  refine (eof39 s gl gf t w hL hs).mono ?_; rintro e w' ⟨rfl, n0, rfl⟩
  go_wp2_with fail
  refine (peek0 s gl gf t 51 _ (hL.drewN _) hs hp hc.out rfl).mono ?_; rintro e w' ⟨rfl, n1, rfl⟩
  go_wp2_with fail
  refine (number51 s gl gf t _ hP (hL.drewN _) (by omega) hcl.out.base).mono ?_
  intro e w1 hn
  have hnm : nmB s t.pos t.last = true := by have h1 := hc.out; simp [nmB, digB, h1]
  have hpp : parP s t.pos = false := by have h1 := hc.out; simp [parP, h1]
  rcases hn with ⟨hn1, pe, pp, m, cs, nn, rfl, q⟩ | ⟨hn1, rfl, hX, hg⟩
  · go_wp2_with fail
    exact ⟨rfl, tok_numF hp hpp hnm hn1 (Fault.after ⟨pe, pp, m, cs, nn, rfl, q⟩ (Fr2.of (fr_drewN (fr_refl w (some gl)) _)))⟩
  · go_wp2_with fail
    refine bodyPost_ret (results_none rfl _ _ _) rfl (tok_num hcl.out hp hpp hnm hn1 hX (fr_trans (fr_drewN (fr_refl w (some gl)) _) hg))

set_option maxRecDepth 100000 in
set_option maxHeartbeats 4000000 in
theorem tok31_52 (s : ByteArray) (gl gf : Nat) (t : St) (w : World) (hP : Hid (PL s)) (hL : LX w gl gf s t) (hp : t.pos < s.size) (hcl : Hid (Clr t)) (hc : Hid (bt s t.pos = 52)) :
    Calls Tryz.prog 31 #[.pointer (some ⟨gl, 0, none⟩), .bool false] w (TokPost s gl gf t w) := by
  have hs : s.size ≤ 2147483647 := Nat.le_trans hP.out.size (by decide)
  have hd : decide (s.size ≤ t.pos) = false := decide_eq_false (by omega)
  go_enter Tryz.func31, Tryz.ntmps31
  go_wp2_with fail
  refine (eof39 s gl gf t w hL hs).mono ?_; rintro e w' ⟨rfl, n0, rfl⟩
  go_wp2_with fail
  refine (peek0 s gl gf t 52 _ (hL.drewN _) hs hp hc.out rfl).mono ?_; rintro e w' ⟨rfl, n1, rfl⟩
  go_wp2_with fail
  refine (number51 s gl gf t _ hP (hL.drewN _) (by omega) hcl.out.base).mono ?_
  intro e w1 hn
  have hnm : nmB s t.pos t.last = true := by have h1 := hc.out; simp [nmB, digB, h1]
  have hpp : parP s t.pos = false := by have h1 := hc.out; simp [parP, h1]
  rcases hn with ⟨hn1, pe, pp, m, cs, nn, rfl, q⟩ | ⟨hn1, rfl, hX, hg⟩
  · go_wp2_with fail
    exact ⟨rfl, tok_numF hp hpp hnm hn1 (Fault.after ⟨pe, pp, m, cs, nn, rfl, q⟩ (Fr2.of (fr_drewN (fr_refl w (some gl)) _)))⟩
  · go_wp2_with fail
    refine bodyPost_ret (results_none rfl _ _ _) rfl (tok_num hcl.out hp hpp hnm hn1 hX (fr_trans (fr_drewN (fr_refl w (some gl)) _) hg))

set_option maxRecDepth 100000 in
set_option maxHeartbeats 4000000 in
theorem tok31_53 (s : ByteArray) (gl gf : Nat) (t : St) (w : World) (hP : Hid (PL s)) (hL : LX w gl gf s t) (hp : t.pos < s.size) (hcl : Hid (Clr t)) (hc : Hid (bt s t.pos = 53)) :
    Calls Tryz.prog 31 #[.pointer (some ⟨gl, 0, none⟩), .bool false] w (TokPost s gl gf t w) := by
  have hs : s.size ≤ 2147483647 := Nat.le_trans hP.out.size (by decide)
  have hd : decide (s.size ≤ t.pos) = false := decide_eq_false (by omega)
  go_enter Tryz.func31, Tryz.ntmps31
  go_wp2_with fail
  refine (eof39 s gl gf t w hL hs).mono ?_; rintro e w' ⟨rfl, n0, rfl⟩
  go_wp2_with fail
  refine (peek0 s gl gf t 53 _ (hL.drewN _) hs hp hc.out rfl).mono ?_; rintro e w' ⟨rfl, n1, rfl⟩
  go_wp2_with fail
  refine (number51 s gl gf t _ hP (hL.drewN _) (by omega) hcl.out.base).mono ?_
  intro e w1 hn
  have hnm : nmB s t.pos t.last = true := by have h1 := hc.out; simp [nmB, digB, h1]
  have hpp : parP s t.pos = false := by have h1 := hc.out; simp [parP, h1]
  rcases hn with ⟨hn1, pe, pp, m, cs, nn, rfl, q⟩ | ⟨hn1, rfl, hX, hg⟩
  · go_wp2_with fail
    exact ⟨rfl, tok_numF hp hpp hnm hn1 (Fault.after ⟨pe, pp, m, cs, nn, rfl, q⟩ (Fr2.of (fr_drewN (fr_refl w (some gl)) _)))⟩
  · go_wp2_with fail
    refine bodyPost_ret (results_none rfl _ _ _) rfl (tok_num hcl.out hp hpp hnm hn1 hX (fr_trans (fr_drewN (fr_refl w (some gl)) _) hg))

set_option maxRecDepth 100000 in
set_option maxHeartbeats 4000000 in
theorem tok31_54 (s : ByteArray) (gl gf : Nat) (t : St) (w : World) (hP : Hid (PL s)) (hL : LX w gl gf s t) (hp : t.pos < s.size) (hcl : Hid (Clr t)) (hc : Hid (bt s t.pos = 54)) :
    Calls Tryz.prog 31 #[.pointer (some ⟨gl, 0, none⟩), .bool false] w (TokPost s gl gf t w) := by
  have hs : s.size ≤ 2147483647 := Nat.le_trans hP.out.size (by decide)
  have hd : decide (s.size ≤ t.pos) = false := decide_eq_false (by omega)
  go_enter Tryz.func31, Tryz.ntmps31
  go_wp2_with fail
  refine (eof39 s gl gf t w hL hs).mono ?_; rintro e w' ⟨rfl, n0, rfl⟩
  go_wp2_with fail
  refine (peek0 s gl gf t 54 _ (hL.drewN _) hs hp hc.out rfl).mono ?_; rintro e w' ⟨rfl, n1, rfl⟩
  go_wp2_with fail
  refine (number51 s gl gf t _ hP (hL.drewN _) (by omega) hcl.out.base).mono ?_
  intro e w1 hn
  have hnm : nmB s t.pos t.last = true := by have h1 := hc.out; simp [nmB, digB, h1]
  have hpp : parP s t.pos = false := by have h1 := hc.out; simp [parP, h1]
  rcases hn with ⟨hn1, pe, pp, m, cs, nn, rfl, q⟩ | ⟨hn1, rfl, hX, hg⟩
  · go_wp2_with fail
    exact ⟨rfl, tok_numF hp hpp hnm hn1 (Fault.after ⟨pe, pp, m, cs, nn, rfl, q⟩ (Fr2.of (fr_drewN (fr_refl w (some gl)) _)))⟩
  · go_wp2_with fail
    refine bodyPost_ret (results_none rfl _ _ _) rfl (tok_num hcl.out hp hpp hnm hn1 hX (fr_trans (fr_drewN (fr_refl w (some gl)) _) hg))

set_option maxRecDepth 100000 in
set_option maxHeartbeats 4000000 in
theorem tok31_55 (s : ByteArray) (gl gf : Nat) (t : St) (w : World) (hP : Hid (PL s)) (hL : LX w gl gf s t) (hp : t.pos < s.size) (hcl : Hid (Clr t)) (hc : Hid (bt s t.pos = 55)) :
    Calls Tryz.prog 31 #[.pointer (some ⟨gl, 0, none⟩), .bool false] w (TokPost s gl gf t w) := by
  have hs : s.size ≤ 2147483647 := Nat.le_trans hP.out.size (by decide)
  have hd : decide (s.size ≤ t.pos) = false := decide_eq_false (by omega)
  go_enter Tryz.func31, Tryz.ntmps31
  go_wp2_with fail
  refine (eof39 s gl gf t w hL hs).mono ?_; rintro e w' ⟨rfl, n0, rfl⟩
  go_wp2_with fail
  refine (peek0 s gl gf t 55 _ (hL.drewN _) hs hp hc.out rfl).mono ?_; rintro e w' ⟨rfl, n1, rfl⟩
  go_wp2_with fail
  refine (number51 s gl gf t _ hP (hL.drewN _) (by omega) hcl.out.base).mono ?_
  intro e w1 hn
  have hnm : nmB s t.pos t.last = true := by have h1 := hc.out; simp [nmB, digB, h1]
  have hpp : parP s t.pos = false := by have h1 := hc.out; simp [parP, h1]
  rcases hn with ⟨hn1, pe, pp, m, cs, nn, rfl, q⟩ | ⟨hn1, rfl, hX, hg⟩
  · go_wp2_with fail
    exact ⟨rfl, tok_numF hp hpp hnm hn1 (Fault.after ⟨pe, pp, m, cs, nn, rfl, q⟩ (Fr2.of (fr_drewN (fr_refl w (some gl)) _)))⟩
  · go_wp2_with fail
    refine bodyPost_ret (results_none rfl _ _ _) rfl (tok_num hcl.out hp hpp hnm hn1 hX (fr_trans (fr_drewN (fr_refl w (some gl)) _) hg))

set_option maxRecDepth 100000 in
set_option maxHeartbeats 4000000 in
theorem tok31_56 (s : ByteArray) (gl gf : Nat) (t : St) (w : World) (hP : Hid (PL s)) (hL : LX w gl gf s t) (hp : t.pos < s.size) (hcl : Hid (Clr t)) (hc : Hid (bt s t.pos = 56)) :
    Calls Tryz.prog 31 #[.pointer (some ⟨gl, 0, none⟩), .bool false] w (TokPost s gl gf t w) := by
  have hs : s.size ≤ 2147483647 := Nat.le_trans hP.out.size (by decide)
  have hd : decide (s.size ≤ t.pos) = false := decide_eq_false (by omega)
  go_enter Tryz.func31, Tryz.ntmps31
  go_wp2_with fail
  refine (eof39 s gl gf t w hL hs).mono ?_; rintro e w' ⟨rfl, n0, rfl⟩
  go_wp2_with fail
  refine (peek0 s gl gf t 56 _ (hL.drewN _) hs hp hc.out rfl).mono ?_; rintro e w' ⟨rfl, n1, rfl⟩
  go_wp2_with fail
  refine (number51 s gl gf t _ hP (hL.drewN _) (by omega) hcl.out.base).mono ?_
  intro e w1 hn
  have hnm : nmB s t.pos t.last = true := by have h1 := hc.out; simp [nmB, digB, h1]
  have hpp : parP s t.pos = false := by have h1 := hc.out; simp [parP, h1]
  rcases hn with ⟨hn1, pe, pp, m, cs, nn, rfl, q⟩ | ⟨hn1, rfl, hX, hg⟩
  · go_wp2_with fail
    exact ⟨rfl, tok_numF hp hpp hnm hn1 (Fault.after ⟨pe, pp, m, cs, nn, rfl, q⟩ (Fr2.of (fr_drewN (fr_refl w (some gl)) _)))⟩
  · go_wp2_with fail
    refine bodyPost_ret (results_none rfl _ _ _) rfl (tok_num hcl.out hp hpp hnm hn1 hX (fr_trans (fr_drewN (fr_refl w (some gl)) _) hg))

set_option maxRecDepth 100000 in
set_option maxHeartbeats 4000000 in
theorem tok31_57 (s : ByteArray) (gl gf : Nat) (t : St) (w : World) (hP : Hid (PL s)) (hL : LX w gl gf s t) (hp : t.pos < s.size) (hcl : Hid (Clr t)) (hc : Hid (bt s t.pos = 57)) :
    Calls Tryz.prog 31 #[.pointer (some ⟨gl, 0, none⟩), .bool false] w (TokPost s gl gf t w) := by
  have hs : s.size ≤ 2147483647 := Nat.le_trans hP.out.size (by decide)
  have hd : decide (s.size ≤ t.pos) = false := decide_eq_false (by omega)
  go_enter Tryz.func31, Tryz.ntmps31
  go_wp2_with fail
  refine (eof39 s gl gf t w hL hs).mono ?_; rintro e w' ⟨rfl, n0, rfl⟩
  go_wp2_with fail
  refine (peek0 s gl gf t 57 _ (hL.drewN _) hs hp hc.out rfl).mono ?_; rintro e w' ⟨rfl, n1, rfl⟩
  go_wp2_with fail
  refine (number51 s gl gf t _ hP (hL.drewN _) (by omega) hcl.out.base).mono ?_
  intro e w1 hn
  have hnm : nmB s t.pos t.last = true := by have h1 := hc.out; simp [nmB, digB, h1]
  have hpp : parP s t.pos = false := by have h1 := hc.out; simp [parP, h1]
  rcases hn with ⟨hn1, pe, pp, m, cs, nn, rfl, q⟩ | ⟨hn1, rfl, hX, hg⟩
  · go_wp2_with fail
    exact ⟨rfl, tok_numF hp hpp hnm hn1 (Fault.after ⟨pe, pp, m, cs, nn, rfl, q⟩ (Fr2.of (fr_drewN (fr_refl w (some gl)) _)))⟩
  · go_wp2_with fail
    refine bodyPost_ret (results_none rfl _ _ _) rfl (tok_num hcl.out hp hpp hnm hn1 hX (fr_trans (fr_drewN (fr_refl w (some gl)) _) hg))

set_option maxRecDepth 100000 in
set_option maxHeartbeats 4000000 in
theorem tok31_9 (s : ByteArray) (gl gf : Nat) (t : St) (w : World) (hP : Hid (PL s)) (hL : LX w gl gf s t) (hp : t.pos < s.size) (_hcl : Hid (Clr t)) (hc : Hid (bt s t.pos = 9)) :
    Calls Tryz.prog 31 #[.pointer (some ⟨gl, 0, none⟩), .bool false] w (TokPost s gl gf t w) := by
  have hs : s.size ≤ 2147483647 := Nat.le_trans hP.out.size (by decide)
  have hd : decide (s.size ≤ t.pos) = false := decide_eq_false (by omega)
  go_enter Tryz.func31, Tryz.ntmps31
  go_wp2_with fail
  refine (eof39 s gl gf t w hL hs).mono ?_; rintro e w' ⟨rfl, n0, rfl⟩
  go_wp2_with fail
  refine (peek0 s gl gf t 9 _ (hL.drewN _) hs hp hc.out rfl).mono ?_; rintro e w' ⟨rfl, n1, rfl⟩
  go_wp2_with fail
  refine (peek0 s gl gf t 9 _ (hL.drewN _) hs hp hc.out rfl).mono ?_; rintro e w' ⟨rfl, n2, rfl⟩
  go_wp2_with fail
  refine (start52c 9 false _ (by decide)).mono ?_; rintro e w' ⟨rfl, rfl⟩
  go_wp2_with fail
  refine (error61 s gl gf t _ _ hP (hL.drewN _) (by omega)).mono ?_; rintro e w' ⟨pe, pp, cs, nn, rfl, q⟩
  go_wp2_with fail
  refine ⟨rfl, Or.inl ⟨hp, ?_, Fault.after ⟨pe, pp, _, cs, nn, rfl, q⟩ (Fr2.of (fr_drewN (fr_refl w (some gl)) _))⟩⟩
  have h1 := hc.out
  have h2 : signP s t.pos = ⟨#[]⟩ := by
    unfold signP
    rw [no_two h1 (by decide)]
    show (if hasF oneS (s.extract t.pos (t.pos + 1)) 0 = true then _ else _) = _
    rw [one_ext (c := 9) h1, show oneS = ⟨([40, 41, 91, 93, 123, 125, 44, 59, 58, 46, 64, 61, 60, 62, 43, 45, 42, 47, 38, 94, 37, 124, 126, 36, 63] : List UInt8).toArray⟩ from rfl, has_one, if_neg (by decide)]
  unfold oneQ
  rw [if_neg (by simp [parP, h1]), if_neg (by simp [nmB, digB, h1]), if_neg (by simp [markB, letB, h1]), h2]
  exact if_pos rfl

set_option maxRecDepth 100000 in
set_option maxHeartbeats 4000000 in
theorem tok31_10 (s : ByteArray) (gl gf : Nat) (t : St) (w : World) (hP : Hid (PL s)) (hL : LX w gl gf s t) (hp : t.pos < s.size) (_hcl : Hid (Clr t)) (hc : Hid (bt s t.pos = 10)) :
    Calls Tryz.prog 31 #[.pointer (some ⟨gl, 0, none⟩), .bool false] w (TokPost s gl gf t w) := by
  have hs : s.size ≤ 2147483647 := Nat.le_trans hP.out.size (by decide)
  have hd : decide (s.size ≤ t.pos) = false := decide_eq_false (by omega)
  go_enter Tryz.func31, Tryz.ntmps31
  go_wp2_with fail
  refine (eof39 s gl gf t w hL hs).mono ?_; rintro e w' ⟨rfl, n0, rfl⟩
  go_wp2_with fail
  refine (peek0 s gl gf t 10 _ (hL.drewN _) hs hp hc.out rfl).mono ?_; rintro e w' ⟨rfl, n1, rfl⟩
  go_wp2_with fail
  refine (peek0 s gl gf t 10 _ (hL.drewN _) hs hp hc.out rfl).mono ?_; rintro e w' ⟨rfl, n2, rfl⟩
  go_wp2_with fail
  refine (start52c 10 false _ (by decide)).mono ?_; rintro e w' ⟨rfl, rfl⟩
  go_wp2_with fail
  refine (error61 s gl gf t _ _ hP (hL.drewN _) (by omega)).mono ?_; rintro e w' ⟨pe, pp, cs, nn, rfl, q⟩
  go_wp2_with fail
  refine ⟨rfl, Or.inl ⟨hp, ?_, Fault.after ⟨pe, pp, _, cs, nn, rfl, q⟩ (Fr2.of (fr_drewN (fr_refl w (some gl)) _))⟩⟩
  have h1 := hc.out
  have h2 : signP s t.pos = ⟨#[]⟩ := by
    unfold signP
    rw [no_two h1 (by decide)]
    show (if hasF oneS (s.extract t.pos (t.pos + 1)) 0 = true then _ else _) = _
    rw [one_ext (c := 10) h1, show oneS = ⟨([40, 41, 91, 93, 123, 125, 44, 59, 58, 46, 64, 61, 60, 62, 43, 45, 42, 47, 38, 94, 37, 124, 126, 36, 63] : List UInt8).toArray⟩ from rfl, has_one, if_neg (by decide)]
  unfold oneQ
  rw [if_neg (by simp [parP, h1]), if_neg (by simp [nmB, digB, h1]), if_neg (by simp [markB, letB, h1]), h2]
  exact if_pos rfl

set_option maxRecDepth 100000 in
set_option maxHeartbeats 4000000 in
theorem tok31_32 (s : ByteArray) (gl gf : Nat) (t : St) (w : World) (hP : Hid (PL s)) (hL : LX w gl gf s t) (hp : t.pos < s.size) (_hcl : Hid (Clr t)) (hc : Hid (bt s t.pos = 32)) :
    Calls Tryz.prog 31 #[.pointer (some ⟨gl, 0, none⟩), .bool false] w (TokPost s gl gf t w) := by
  have hs : s.size ≤ 2147483647 := Nat.le_trans hP.out.size (by decide)
  have hd : decide (s.size ≤ t.pos) = false := decide_eq_false (by omega)
  go_enter Tryz.func31, Tryz.ntmps31
  go_wp2_with fail
  refine (eof39 s gl gf t w hL hs).mono ?_; rintro e w' ⟨rfl, n0, rfl⟩
  go_wp2_with fail
  refine (peek0 s gl gf t 32 _ (hL.drewN _) hs hp hc.out rfl).mono ?_; rintro e w' ⟨rfl, n1, rfl⟩
  go_wp2_with fail
  refine (peek0 s gl gf t 32 _ (hL.drewN _) hs hp hc.out rfl).mono ?_; rintro e w' ⟨rfl, n2, rfl⟩
  go_wp2_with fail
  refine (start52c 32 false _ (by decide)).mono ?_; rintro e w' ⟨rfl, rfl⟩
  go_wp2_with fail
  refine (error61 s gl gf t _ _ hP (hL.drewN _) (by omega)).mono ?_; rintro e w' ⟨pe, pp, cs, nn, rfl, q⟩
  go_wp2_with fail
  refine ⟨rfl, Or.inl ⟨hp, ?_, Fault.after ⟨pe, pp, _, cs, nn, rfl, q⟩ (Fr2.of (fr_drewN (fr_refl w (some gl)) _))⟩⟩
  have h1 := hc.out
  have h2 : signP s t.pos = ⟨#[]⟩ := by
    unfold signP
    rw [no_two h1 (by decide)]
    show (if hasF oneS (s.extract t.pos (t.pos + 1)) 0 = true then _ else _) = _
    rw [one_ext (c := 32) h1, show oneS = ⟨([40, 41, 91, 93, 123, 125, 44, 59, 58, 46, 64, 61, 60, 62, 43, 45, 42, 47, 38, 94, 37, 124, 126, 36, 63] : List UInt8).toArray⟩ from rfl, has_one, if_neg (by decide)]
  unfold oneQ
  rw [if_neg (by simp [parP, h1]), if_neg (by simp [nmB, digB, h1]), if_neg (by simp [markB, letB, h1]), h2]
  exact if_pos rfl

set_option maxRecDepth 100000 in
set_option maxHeartbeats 4000000 in
theorem tok31_35 (s : ByteArray) (gl gf : Nat) (t : St) (w : World) (hP : Hid (PL s)) (hL : LX w gl gf s t) (hp : t.pos < s.size) (_hcl : Hid (Clr t)) (hc : Hid (bt s t.pos = 35)) :
    Calls Tryz.prog 31 #[.pointer (some ⟨gl, 0, none⟩), .bool false] w (TokPost s gl gf t w) := by
  have hs : s.size ≤ 2147483647 := Nat.le_trans hP.out.size (by decide)
  have hd : decide (s.size ≤ t.pos) = false := decide_eq_false (by omega)
  go_enter Tryz.func31, Tryz.ntmps31
  go_wp2_with fail
  refine (eof39 s gl gf t w hL hs).mono ?_; rintro e w' ⟨rfl, n0, rfl⟩
  go_wp2_with fail
  refine (peek0 s gl gf t 35 _ (hL.drewN _) hs hp hc.out rfl).mono ?_; rintro e w' ⟨rfl, n1, rfl⟩
  go_wp2_with fail
  refine (peek0 s gl gf t 35 _ (hL.drewN _) hs hp hc.out rfl).mono ?_; rintro e w' ⟨rfl, n2, rfl⟩
  go_wp2_with fail
  refine (start52c 35 false _ (by decide)).mono ?_; rintro e w' ⟨rfl, rfl⟩
  go_wp2_with fail
  refine (error61 s gl gf t _ _ hP (hL.drewN _) (by omega)).mono ?_; rintro e w' ⟨pe, pp, cs, nn, rfl, q⟩
  go_wp2_with fail
  refine ⟨rfl, Or.inl ⟨hp, ?_, Fault.after ⟨pe, pp, _, cs, nn, rfl, q⟩ (Fr2.of (fr_drewN (fr_refl w (some gl)) _))⟩⟩
  have h1 := hc.out
  have h2 : signP s t.pos = ⟨#[]⟩ := by
    unfold signP
    rw [no_two h1 (by decide)]
    show (if hasF oneS (s.extract t.pos (t.pos + 1)) 0 = true then _ else _) = _
    rw [one_ext (c := 35) h1, show oneS = ⟨([40, 41, 91, 93, 123, 125, 44, 59, 58, 46, 64, 61, 60, 62, 43, 45, 42, 47, 38, 94, 37, 124, 126, 36, 63] : List UInt8).toArray⟩ from rfl, has_one, if_neg (by decide)]
  unfold oneQ
  rw [if_neg (by simp [parP, h1]), if_neg (by simp [nmB, digB, h1]), if_neg (by simp [markB, letB, h1]), h2]
  exact if_pos rfl

end Go.Proofs.YtahcbeofaeflgaaGreatDoor
