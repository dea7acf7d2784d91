/- Lemmas towards the statement FnLexCardSaid, conditions: as each theorem says. -/
import Derived.Test.YtahcbeofaeflgaaGreatDoorG0
import Derived.Test.YtahcbeofaeflgaaGreatDoorB1
namespace Go.Proofs.YtahcbeofaeflgaaGreatDoor
open Go.RowKit

theorem peek0 (s : ByteArray) (gl gf : Nat) (t : St) (c : Nat) {cc : Int} (w : World) (hL : LX w gl gf s t) (hs : s.size ≤ 2147483647) (hi : t.pos < s.size) (hc : bt s t.pos = c) (hcc : cc = (c : Int)) :
    Calls Tryz.prog 47 #[.pointer (some ⟨gl, 0, none⟩), .int .i64 0] w fun e w' => e = .returned (.int .u8 cc) ∧ ∃ n, w' = w.drewN n := by
  subst hcc; subst hc
  exact peek47n s gl gf t 0 w hL hs rfl (by omega)
theorem skip48c (s : ByteArray) (gl gf : Nat) (t : St) (c : Nat) {cc : Int} (w : World) (hL : LX w gl gf s t) (hs : s.size ≤ 2147483647) (hi : t.pos < s.size) (hc : bt s t.pos = c) (hcc : cc = (c : Int)) :
    Calls Tryz.prog 48 #[.pointer (some ⟨gl, 0, none⟩)] w fun e w' => e = .returned (.int .u8 cc) ∧ LX w' gl gf s { t with pos := t.pos + 1 } ∧ w.grownBy w' (some gl) := by
  subst hcc; subst hc
  refine (skip48 s gl gf t w hL hs hi).mono ?_
  rintro e w' ⟨rfl, n, rfl⟩
  exact ⟨rfl, (hL.pos (t.pos + 1)).drewN n, fr_drewN (fr_set (fr_refl w (some gl)) 9 _) n⟩
theorem is43c (s : ByteArray) (gl gf : Nat) (t : St) (i : Nat) (c : Nat) (b : Bool) {ii cc : Int} (w : World) (hL : LX w gl gf s t) (hs : s.size ≤ 2147483647) (hp : t.pos ≤ s.size) (hii : ii = (i : Int)) (hcc : cc = (c : Int)) (hi : i ≤ 2147483647) (hc : c < 256) (hb : (bt s (t.pos + i) == c) = b) :
    Calls Tryz.prog 43 #[.pointer (some ⟨gl, 0, none⟩), .int .i64 ii, .int .u8 cc] w fun e w' => e = .returned (.bool b) ∧ ∃ n, w' = w.drewN n := by
  subst hb; exact is43n s gl gf t i c w hL hs hp hii hcc hi hc
theorem skip2 (s : ByteArray) (gl gf : Nat) (t : St) (i : Nat) {ii : Int} (w : World) (hL : LX w gl gf s t) (hs : s.size ≤ 2147483647) (hii : ii = (i : Int)) (hi : t.pos + i ≤ s.size) :
    Calls Tryz.prog 42 #[.pointer (some ⟨gl, 0, none⟩), .int .i64 ii] w fun e w' => e = .returned (.tuple #[]) ∧ LX w' gl gf s { t with pos := t.pos + i } ∧ w.grownBy w' (some gl) := by
  subst hii
  refine (skipN42 s gl gf t i w hL hs hi).mono ?_
  rintro e w' ⟨rfl, rfl⟩
  exact ⟨rfl, hL.pos (t.pos + i), fr_set (fr_refl w (some gl)) 9 _⟩

theorem tok_eq {t : St} (hcl : Clr t) (k : ByteArray) (p : Nat) (hk : k.toList ≠ [46]) : t.tok ⟨k, ⟨#[]⟩, 0, p⟩ = { t with kind := k, pos := p } := by
  obtain ⟨h1, h2, h3⟩ := hcl
  cases t
  simp only at h1 h2 h3
  subst h1; subst h2; subst h3
  unfold St.tok
  rw [if_neg hk]
theorem tok_sign {s : ByteArray} {gl gf : Nat} {t : St} {w w' : World} {v : ByteArray} {p : Nat} (hcl : Clr t) (hp : t.pos < s.size) (hX : LX w' gl gf s { t with kind := v, pos := p }) (hg : w.grownBy w' (some gl)) (hv : v.toList ≠ [46])
    (hq : oneQ s t.pos t.last = some ⟨v, ⟨#[]⟩, 0, p⟩) : TokPost s gl gf t w (.returned (.tuple #[])) w' :=
  Or.inr (Or.inl ⟨⟨v, ⟨#[]⟩, 0, p⟩, hp, hq, rfl, by rw [tok_eq hcl v p hv]; exact hX, hg⟩)

theorem no_two {s : ByteArray} {k : Nat} {c : Nat} (h : bt s k = c) (hc : c ≠ 60 ∧ c ≠ 62 ∧ c ≠ 33 ∧ c ≠ 124 ∧ c ≠ 61 ∧ c ≠ 45 ∧ c ≠ 64) : (twoL.find? fun p => stB s k p) = none := by
  apply two_none
  intro p hp
  simp only [twoL, List.mem_cons, List.mem_nil_iff, or_false] at hp
  rcases hp with rfl | rfl | rfl | rfl | rfl | rfl | rfl | rfl | rfl | rfl | rfl <;> (rw [stB_two, h]; simp; omega)

theorem single_q {s : ByteArray} {k : Nat} {k1 : ByteArray} {c : UInt8} (h : bt s k = c.toNat) (hc : ([40, 41, 91, 93, 123, 125, 44, 59, 58, 42, 47, 38, 94, 37, 126, 36, 63] : List UInt8).contains c = true) :
    oneQ s k k1 = some ⟨⟨#[c]⟩, ⟨#[]⟩, 0, k + 1⟩ := by
  simp only [List.contains_cons, List.contains_nil, Bool.or_false, Bool.or_eq_true, beq_iff_eq] at hc
  refine oneQ_sign (v := ⟨#[c]⟩) ?_ ?_ ?_ ?_ (sign_one h (no_two h ?_) ?_) (show (1 : Nat) ≠ 0 by decide)
  all_goals rcases hc with rfl | rfl | rfl | rfl | rfl | rfl | rfl | rfl | rfl | rfl | rfl | rfl | rfl | rfl | rfl | rfl | rfl
  all_goals simp [parP, nmB, digB, markB, letB, h]

set_option maxRecDepth 100000 in
set_option maxHeartbeats 4000000 in
theorem tok31_40 (s : ByteArray) (gl gf : Nat) (t : St) (w : World) (hP : Hid (PL s)) (hL : LX w gl gf s t) (hp : t.pos < s.size) (hcl : Hid (Clr t)) (hc : Hid (bt s t.pos = 40)) :
    Calls Tryz.prog 31 #[.pointer (some ⟨gl, 0, none⟩), .bool false] w (TokPost s gl gf t w) := by
  have hs : s.size ≤ 2147483647 := Nat.le_trans hP.out.size (by decide)
  have hd : decide (s.size ≤ t.pos) = false := decide_eq_false (by omega)
  go_enter Tryz.func31, Tryz.ntmps31
  go_wp2_with fail
  refine (eof39 s gl gf t w hL hs).mono ?_; rintro e w' ⟨rfl, n0, rfl⟩
  go_wp2_with fail
  refine (peek0 s gl gf t 40 _ (hL.drewN _) hs hp hc.out rfl).mono ?_; rintro e w' ⟨rfl, n1, rfl⟩
  go_wp2_with fail
  refine (skip48c s gl gf t 40 _ (hL.drewN _) hs hp hc.out rfl).mono ?_; rintro e w1 ⟨rfl, hX, hg⟩
  have hcv : (convert 91 33 (.slice (some ⟨w1.heap.size, 0, none⟩) 1 1)).run Tryz.prog (w1.alloc (.cells #[.int .u8 40] 5)) = .ok (.string ⟨#[40]⟩) (w1.alloc (.cells #[.int .u8 40] 5)) := conv1 33 Tryz.underlying33 w1 40 rfl 0
  have hX2 := hX.alloc (.cells #[.int .u8 40] 5)
  have k1 := hX2.c1
  have f1 := hX2.fr 1
  have hlt := lt_of_heap hX.l
  go_wp2_with fail
  refine bodyPost_ret (results_none rfl _ _ _) rfl (tok_sign hcl.out hp ((hX.kind ⟨#[40]⟩).alloc _) (fr_alloc (fr_set (fr_trans (fr_drewN (fr_refl w (some gl)) _) hg) 1 _) _) (by simp) (single_q (c := 40) hc.out (by decide)))

set_option maxRecDepth 100000 in
set_option maxHeartbeats 4000000 in
theorem tok31_41 (s : ByteArray) (gl gf : Nat) (t : St) (w : World) (hP : Hid (PL s)) (hL : LX w gl gf s t) (hp : t.pos < s.size) (hcl : Hid (Clr t)) (hc : Hid (bt s t.pos = 41)) :
    Calls Tryz.prog 31 #[.pointer (some ⟨gl, 0, none⟩), .bool false] w (TokPost s gl gf t w) := by
  have hs : s.size ≤ 2147483647 := Nat.le_trans hP.out.size (by decide)
  have hd : decide (s.size ≤ t.pos) = false := decide_eq_false (by omega)
  go_enter Tryz.func31, Tryz.ntmps31
  go_wp2_with fail
  refine (eof39 s gl gf t w hL hs).mono ?_; rintro e w' ⟨rfl, n0, rfl⟩
  go_wp2_with fail
  refine (peek0 s gl gf t 41 _ (hL.drewN _) hs hp hc.out rfl).mono ?_; rintro e w' ⟨rfl, n1, rfl⟩
  go_wp2_with fail
  refine (skip48c s gl gf t 41 _ (hL.drewN _) hs hp hc.out rfl).mono ?_; rintro e w1 ⟨rfl, hX, hg⟩
  have hcv : (convert 91 33 (.slice (some ⟨w1.heap.size, 0, none⟩) 1 1)).run Tryz.prog (w1.alloc (.cells #[.int .u8 41] 5)) = .ok (.string ⟨#[41]⟩) (w1.alloc (.cells #[.int .u8 41] 5)) := conv1 33 Tryz.underlying33 w1 41 rfl 0
  have hX2 := hX.alloc (.cells #[.int .u8 41] 5)
  have k1 := hX2.c1
  have f1 := hX2.fr 1
  have hlt := lt_of_heap hX.l
  go_wp2_with fail
  refine bodyPost_ret (results_none rfl _ _ _) rfl (tok_sign hcl.out hp ((hX.kind ⟨#[41]⟩).alloc _) (fr_alloc (fr_set (fr_trans (fr_drewN (fr_refl w (some gl)) _) hg) 1 _) _) (by simp) (single_q (c := 41) hc.out (by decide)))

set_option maxRecDepth 100000 in
set_option maxHeartbeats 4000000 in
theorem tok31_123 (s : ByteArray) (gl gf : Nat) (t : St) (w : World) (hP : Hid (PL s)) (hL : LX w gl gf s t) (hp : t.pos < s.size) (hcl : Hid (Clr t)) (hc : Hid (bt s t.pos = 123)) :
    Calls Tryz.prog 31 #[.pointer (some ⟨gl, 0, none⟩), .bool false] w (TokPost s gl gf t w) := by
  have hs : s.size ≤ 2147483647 := Nat.le_trans hP.out.size (by decide)
  have hd : decide (s.size ≤ t.pos) = false := decide_eq_false (by omega)
  go_enter Tryz.func31, Tryz.ntmps31
  go_wp2_with fail
  refine (eof39 s gl gf t w hL hs).mono ?_; rintro e w' ⟨rfl, n0, rfl⟩
  go_wp2_with fail
  refine (peek0 s gl gf t 123 _ (hL.drewN _) hs hp hc.out rfl).mono ?_; rintro e w' ⟨rfl, n1, rfl⟩
  go_wp2_with fail
  refine (skip48c s gl gf t 123 _ (hL.drewN _) hs hp hc.out rfl).mono ?_; rintro e w1 ⟨rfl, hX, hg⟩
  have hcv : (convert 91 33 (.slice (some ⟨w1.heap.size, 0, none⟩) 1 1)).run Tryz.prog (w1.alloc (.cells #[.int .u8 123] 5)) = .ok (.string ⟨#[123]⟩) (w1.alloc (.cells #[.int .u8 123] 5)) := conv1 33 Tryz.underlying33 w1 123 rfl 0
  have hX2 := hX.alloc (.cells #[.int .u8 123] 5)
  have k1 := hX2.c1
  have f1 := hX2.fr 1
  have hlt := lt_of_heap hX.l
  go_wp2_with fail
  refine bodyPost_ret (results_none rfl _ _ _) rfl (tok_sign hcl.out hp ((hX.kind ⟨#[123]⟩).alloc _) (fr_alloc (fr_set (fr_trans (fr_drewN (fr_refl w (some gl)) _) hg) 1 _) _) (by simp) (single_q (c := 123) hc.out (by decide)))

set_option maxRecDepth 100000 in
set_option maxHeartbeats 4000000 in
theorem tok31_125 (s : ByteArray) (gl gf : Nat) (t : St) (w : World) (hP : Hid (PL s)) (hL : LX w gl gf s t) (hp : t.pos < s.size) (hcl : Hid (Clr t)) (hc : Hid (bt s t.pos = 125)) :
    Calls Tryz.prog 31 #[.pointer (some ⟨gl, 0, none⟩), .bool false] w (TokPost s gl gf t w) := by
  have hs : s.size ≤ 2147483647 := Nat.le_trans hP.out.size (by decide)
  have hd : decide (s.size ≤ t.pos) = false := decide_eq_false (by omega)
  go_enter Tryz.func31, Tryz.ntmps31
  go_wp2_with fail
  refine (eof39 s gl gf t w hL hs).mono ?_; rintro e w' ⟨rfl, n0, rfl⟩
  go_wp2_with fail
  refine (peek0 s gl gf t 125 _ (hL.drewN _) hs hp hc.out rfl).mono ?_; rintro e w' ⟨rfl, n1, rfl⟩
  go_wp2_with fail
  refine (skip48c s gl gf t 125 _ (hL.drewN _) hs hp hc.out rfl).mono ?_; rintro e w1 ⟨rfl, hX, hg⟩
  have hcv : (convert 91 33 (.slice (some ⟨w1.heap.size, 0, none⟩) 1 1)).run Tryz.prog (w1.alloc (.cells #[.int .u8 125] 5)) = .ok (.string ⟨#[125]⟩) (w1.alloc (.cells #[.int .u8 125] 5)) := conv1 33 Tryz.underlying33 w1 125 rfl 0
  have hX2 := hX.alloc (.cells #[.int .u8 125] 5)
  have k1 := hX2.c1
  have f1 := hX2.fr 1
  have hlt := lt_of_heap hX.l
  go_wp2_with fail
  refine bodyPost_ret (results_none rfl _ _ _) rfl (tok_sign hcl.out hp ((hX.kind ⟨#[125]⟩).alloc _) (fr_alloc (fr_set (fr_trans (fr_drewN (fr_refl w (some gl)) _) hg) 1 _) _) (by simp) (single_q (c := 125) hc.out (by decide)))

set_option maxRecDepth 100000 in
set_option maxHeartbeats 4000000 in
theorem tok31_59 (s : ByteArray) (gl gf : Nat) (t : St) (w : World) (hP : Hid (PL s)) (hL : LX w gl gf s t) (hp : t.pos < s.size) (hcl : Hid (Clr t)) (hc : Hid (bt s t.pos = 59)) :
    Calls Tryz.prog 31 #[.pointer (some ⟨gl, 0, none⟩), .bool false] w (TokPost s gl gf t w) := by
  have hs : s.size ≤ 2147483647 := Nat.le_trans hP.out.size (by decide)
  have hd : decide (s.size ≤ t.pos) = false := decide_eq_false (by omega)
  go_enter Tryz.func31, Tryz.ntmps31
  go_wp2_with fail
  refine (eof39 s gl gf t w hL hs).mono ?_; rintro e w' ⟨rfl, n0, rfl⟩
  go_wp2_with fail
  refine (peek0 s gl gf t 59 _ (hL.drewN _) hs hp hc.out rfl).mono ?_; rintro e w' ⟨rfl, n1, rfl⟩
  go_wp2_with fail
  refine (skip48c s gl gf t 59 _ (hL.drewN _) hs hp hc.out rfl).mono ?_; rintro e w1 ⟨rfl, hX, hg⟩
  have hcv : (convert 91 33 (.slice (some ⟨w1.heap.size, 0, none⟩) 1 1)).run Tryz.prog (w1.alloc (.cells #[.int .u8 59] 5)) = .ok (.string ⟨#[59]⟩) (w1.alloc (.cells #[.int .u8 59] 5)) := conv1 33 Tryz.underlying33 w1 59 rfl 0
  have hX2 := hX.alloc (.cells #[.int .u8 59] 5)
  have k1 := hX2.c1
  have f1 := hX2.fr 1
  have hlt := lt_of_heap hX.l
  go_wp2_with fail
  refine bodyPost_ret (results_none rfl _ _ _) rfl (tok_sign hcl.out hp ((hX.kind ⟨#[59]⟩).alloc _) (fr_alloc (fr_set (fr_trans (fr_drewN (fr_refl w (some gl)) _) hg) 1 _) _) (by simp) (single_q (c := 59) hc.out (by decide)))

set_option maxRecDepth 100000 in
set_option maxHeartbeats 4000000 in
theorem tok31_44 (s : ByteArray) (gl gf : Nat) (t : St) (w : World) (hP : Hid (PL s)) (hL : LX w gl gf s t) (hp : t.pos < s.size) (hcl : Hid (Clr t)) (hc : Hid (bt s t.pos = 44)) :
    Calls Tryz.prog 31 #[.pointer (some ⟨gl, 0, none⟩), .bool false] w (TokPost s gl gf t w) := by
  have hs : s.size ≤ 2147483647 := Nat.le_trans hP.out.size (by decide)
  have hd : decide (s.size ≤ t.pos) = false := decide_eq_false (by omega)
  go_enter Tryz.func31, Tryz.ntmps31
  go_wp2_with fail
  refine (eof39 s gl gf t w hL hs).mono ?_; rintro e w' ⟨rfl, n0, rfl⟩
  go_wp2_with fail
  refine (peek0 s gl gf t 44 _ (hL.drewN _) hs hp hc.out rfl).mono ?_; rintro e w' ⟨rfl, n1, rfl⟩
  go_wp2_with fail
  refine (skip48c s gl gf t 44 _ (hL.drewN _) hs hp hc.out rfl).mono ?_; rintro e w1 ⟨rfl, hX, hg⟩
  have hcv : (convert 91 33 (.slice (some ⟨w1.heap.size, 0, none⟩) 1 1)).run Tryz.prog (w1.alloc (.cells #[.int .u8 44] 5)) = .ok (.string ⟨#[44]⟩) (w1.alloc (.cells #[.int .u8 44] 5)) := conv1 33 Tryz.underlying33 w1 44 rfl 0
  have hX2 := hX.alloc (.cells #[.int .u8 44] 5)
  have k1 := hX2.c1
  have f1 := hX2.fr 1
  have hlt := lt_of_heap hX.l
  go_wp2_with fail
  refine bodyPost_ret (results_none rfl _ _ _) rfl (tok_sign hcl.out hp ((hX.kind ⟨#[44]⟩).alloc _) (fr_alloc (fr_set (fr_trans (fr_drewN (fr_refl w (some gl)) _) hg) 1 _) _) (by simp) (single_q (c := 44) hc.out (by decide)))

set_option maxRecDepth 100000 in
set_option maxHeartbeats 4000000 in
theorem tok31_91 (s : ByteArray) (gl gf : Nat) (t : St) (w : World) (hP : Hid (PL s)) (hL : LX w gl gf s t) (hp : t.pos < s.size) (hcl : Hid (Clr t)) (hc : Hid (bt s t.pos = 91)) :
    Calls Tryz.prog 31 #[.pointer (some ⟨gl, 0, none⟩), .bool false] w (TokPost s gl gf t w) := by
  have hs : s.size ≤ 2147483647 := Nat.le_trans hP.out.size (by decide)
  have hd : decide (s.size ≤ t.pos) = false := decide_eq_false (by omega)
  go_enter Tryz.func31, Tryz.ntmps31
  go_wp2_with fail
  refine (eof39 s gl gf t w hL hs).mono ?_; rintro e w' ⟨rfl, n0, rfl⟩
  go_wp2_with fail
  refine (peek0 s gl gf t 91 _ (hL.drewN _) hs hp hc.out rfl).mono ?_; rintro e w' ⟨rfl, n1, rfl⟩
  go_wp2_with fail
  refine (skip48c s gl gf t 91 _ (hL.drewN _) hs hp hc.out rfl).mono ?_; rintro e w1 ⟨rfl, hX, hg⟩
  have hcv : (convert 91 33 (.slice (some ⟨w1.heap.size, 0, none⟩) 1 1)).run Tryz.prog (w1.alloc (.cells #[.int .u8 91] 5)) = .ok (.string ⟨#[91]⟩) (w1.alloc (.cells #[.int .u8 91] 5)) := conv1 33 Tryz.underlying33 w1 91 rfl 0
  have hX2 := hX.alloc (.cells #[.int .u8 91] 5)
  have k1 := hX2.c1
  have f1 := hX2.fr 1
  have hlt := lt_of_heap hX.l
  go_wp2_with fail
  refine bodyPost_ret (results_none rfl _ _ _) rfl (tok_sign hcl.out hp ((hX.kind ⟨#[91]⟩).alloc _) (fr_alloc (fr_set (fr_trans (fr_drewN (fr_refl w (some gl)) _) hg) 1 _) _) (by simp) (single_q (c := 91) hc.out (by decide)))

set_option maxRecDepth 100000 in
set_option maxHeartbeats 4000000 in
theorem tok31_93 (s : ByteArray) (gl gf : Nat) (t : St) (w : World) (hP : Hid (PL s)) (hL : LX w gl gf s t) (hp : t.pos < s.size) (hcl : Hid (Clr t)) (hc : Hid (bt s t.pos = 93)) :
    Calls Tryz.prog 31 #[.pointer (some ⟨gl, 0, none⟩), .bool false] w (TokPost s gl gf t w) := by
  have hs : s.size ≤ 2147483647 := Nat.le_trans hP.out.size (by decide)
  have hd : decide (s.size ≤ t.pos) = false := decide_eq_false (by omega)
  go_enter Tryz.func31, Tryz.ntmps31
  go_wp2_with fail
  refine (eof39 s gl gf t w hL hs).mono ?_; rintro e w' ⟨rfl, n0, rfl⟩
  go_wp2_with fail
  refine (peek0 s gl gf t 93 _ (hL.drewN _) hs hp hc.out rfl).mono ?_; rintro e w' ⟨rfl, n1, rfl⟩
  go_wp2_with fail
  refine (skip48c s gl gf t 93 _ (hL.drewN _) hs hp hc.out rfl).mono ?_; rintro e w1 ⟨rfl, hX, hg⟩
  have hcv : (convert 91 33 (.slice (some ⟨w1.heap.size, 0, none⟩) 1 1)).run Tryz.prog (w1.alloc (.cells #[.int .u8 93] 5)) = .ok (.string ⟨#[93]⟩) (w1.alloc (.cells #[.int .u8 93] 5)) := conv1 33 Tryz.underlying33 w1 93 rfl 0
  have hX2 := hX.alloc (.cells #[.int .u8 93] 5)
  have k1 := hX2.c1
  have f1 := hX2.fr 1
  have hlt := lt_of_heap hX.l
  go_wp2_with fail
  refine bodyPost_ret (results_none rfl _ _ _) rfl (tok_sign hcl.out hp ((hX.kind ⟨#[93]⟩).alloc _) (fr_alloc (fr_set (fr_trans (fr_drewN (fr_refl w (some gl)) _) hg) 1 _) _) (by simp) (single_q (c := 93) hc.out (by decide)))

set_option maxRecDepth 100000 in
set_option maxHeartbeats 4000000 in
theorem tok31_126 (s : ByteArray) (gl gf : Nat) (t : St) (w : World) (hP : Hid (PL s)) (hL : LX w gl gf s t) (hp : t.pos < s.size) (hcl : Hid (Clr t)) (hc : Hid (bt s t.pos = 126)) :
    Calls Tryz.prog 31 #[.pointer (some ⟨gl, 0, none⟩), .bool false] w (TokPost s gl gf t w) := by
  have hs : s.size ≤ 2147483647 := Nat.le_trans hP.out.size (by decide)
  have hd : decide (s.size ≤ t.pos) = false := decide_eq_false (by omega)
  go_enter Tryz.func31, Tryz.ntmps31
  go_wp2_with fail
  refine (eof39 s gl gf t w hL hs).mono ?_; rintro e w' ⟨rfl, n0, rfl⟩
  go_wp2_with fail
  refine (peek0 s gl gf t 126 _ (hL.drewN _) hs hp hc.out rfl).mono ?_; rintro e w' ⟨rfl, n1, rfl⟩
  go_wp2_with fail
  refine (skip48c s gl gf t 126 _ (hL.drewN _) hs hp hc.out rfl).mono ?_; rintro e w1 ⟨rfl, hX, hg⟩
  have hcv : (convert 91 33 (.slice (some ⟨w1.heap.size, 0, none⟩) 1 1)).run Tryz.prog (w1.alloc (.cells #[.int .u8 126] 5)) = .ok (.string ⟨#[126]⟩) (w1.alloc (.cells #[.int .u8 126] 5)) := conv1 33 Tryz.underlying33 w1 126 rfl 0
  have hX2 := hX.alloc (.cells #[.int .u8 126] 5)
  have k1 := hX2.c1
  have f1 := hX2.fr 1
  have hlt := lt_of_heap hX.l
  go_wp2_with fail
  refine bodyPost_ret (results_none rfl _ _ _) rfl (tok_sign hcl.out hp ((hX.kind ⟨#[126]⟩).alloc _) (fr_alloc (fr_set (fr_trans (fr_drewN (fr_refl w (some gl)) _) hg) 1 _) _) (by simp) (single_q (c := 126) hc.out (by decide)))

set_option maxRecDepth 100000 in
set_option maxHeartbeats 4000000 in
theorem tok31_42 (s : ByteArray) (gl gf : Nat) (t : St) (w : World) (hP : Hid (PL s)) (hL : LX w gl gf s t) (hp : t.pos < s.size) (hcl : Hid (Clr t)) (hc : Hid (bt s t.pos = 42)) :
    Calls Tryz.prog 31 #[.pointer (some ⟨gl, 0, none⟩), .bool false] w (TokPost s gl gf t w) := by
  have hs : s.size ≤ 2147483647 := Nat.le_trans hP.out.size (by decide)
  have hd : decide (s.size ≤ t.pos) = false := decide_eq_false (by omega)
  go_enter Tryz.func31, Tryz.ntmps31
  go_wp2_with fail
  refine (eof39 s gl gf t w hL hs).mono ?_; rintro e w' ⟨rfl, n0, rfl⟩
  go_wp2_with fail
  refine (peek0 s gl gf t 42 _ (hL.drewN _) hs hp hc.out rfl).mono ?_; rintro e w' ⟨rfl, n1, rfl⟩
  go_wp2_with fail
  refine (skip48c s gl gf t 42 _ (hL.drewN _) hs hp hc.out rfl).mono ?_; rintro e w1 ⟨rfl, hX, hg⟩
  have hcv : (convert 91 33 (.slice (some ⟨w1.heap.size, 0, none⟩) 1 1)).run Tryz.prog (w1.alloc (.cells #[.int .u8 42] 5)) = .ok (.string ⟨#[42]⟩) (w1.alloc (.cells #[.int .u8 42] 5)) := conv1 33 Tryz.underlying33 w1 42 rfl 0
  have hX2 := hX.alloc (.cells #[.int .u8 42] 5)
  have k1 := hX2.c1
  have f1 := hX2.fr 1
  have hlt := lt_of_heap hX.l
  go_wp2_with fail
  refine bodyPost_ret (results_none rfl _ _ _) rfl (tok_sign hcl.out hp ((hX.kind ⟨#[42]⟩).alloc _) (fr_alloc (fr_set (fr_trans (fr_drewN (fr_refl w (some gl)) _) hg) 1 _) _) (by simp) (single_q (c := 42) hc.out (by decide)))

set_option maxRecDepth 100000 in
set_option maxHeartbeats 4000000 in
theorem tok31_47 (s : ByteArray) (gl gf : Nat) (t : St) (w : World) (hP : Hid (PL s)) (hL : LX w gl gf s t) (hp : t.pos < s.size) (hcl : Hid (Clr t)) (hc : Hid (bt s t.pos = 47)) :
    Calls Tryz.prog 31 #[.pointer (some ⟨gl, 0, none⟩), .bool false] w (TokPost s gl gf t w) := by
  have hs : s.size ≤ 2147483647 := Nat.le_trans hP.out.size (by decide)
  have hd : decide (s.size ≤ t.pos) = false := decide_eq_false (by omega)
  go_enter Tryz.func31, Tryz.ntmps31
  go_wp2_with fail
  refine (eof39 s gl gf t w hL hs).mono ?_; rintro e w' ⟨rfl, n0, rfl⟩
  go_wp2_with fail
  refine (peek0 s gl gf t 47 _ (hL.drewN _) hs hp hc.out rfl).mono ?_; rintro e w' ⟨rfl, n1, rfl⟩
  go_wp2_with fail
  refine (skip48c s gl gf t 47 _ (hL.drewN _) hs hp hc.out rfl).mono ?_; rintro e w1 ⟨rfl, hX, hg⟩
  have hcv : (convert 91 33 (.slice (some ⟨w1.heap.size, 0, none⟩) 1 1)).run Tryz.prog (w1.alloc (.cells #[.int .u8 47] 5)) = .ok (.string ⟨#[47]⟩) (w1.alloc (.cells #[.int .u8 47] 5)) := conv1 33 Tryz.underlying33 w1 47 rfl 0
  have hX2 := hX.alloc (.cells #[.int .u8 47] 5)
  have k1 := hX2.c1
  have f1 := hX2.fr 1
  have hlt := lt_of_heap hX.l
  go_wp2_with fail
  refine bodyPost_ret (results_none rfl _ _ _) rfl (tok_sign hcl.out hp ((hX.kind ⟨#[47]⟩).alloc _) (fr_alloc (fr_set (fr_trans (fr_drewN (fr_refl w (some gl)) _) hg) 1 _) _) (by simp) (single_q (c := 47) hc.out (by decide)))

set_option maxRecDepth 100000 in
set_option maxHeartbeats 4000000 in
theorem tok31_38 (s : ByteArray) (gl gf : Nat) (t : St) (w : World) (hP : Hid (PL s)) (hL : LX w gl gf s t) (hp : t.pos < s.size) (hcl : Hid (Clr t)) (hc : Hid (bt s t.pos = 38)) :
    Calls Tryz.prog 31 #[.pointer (some ⟨gl, 0, none⟩), .bool false] w (TokPost s gl gf t w) := by
  have hs : s.size ≤ 2147483647 := Nat.le_trans hP.out.size (by decide)
  have hd : decide (s.size ≤ t.pos) = false := decide_eq_false (by omega)
  go_enter Tryz.func31, Tryz.ntmps31
  go_wp2_with fail
  refine (eof39 s gl gf t w hL hs).mono ?_; rintro e w' ⟨rfl, n0, rfl⟩
  go_wp2_with fail
  refine (peek0 s gl gf t 38 _ (hL.drewN _) hs hp hc.out rfl).mono ?_; rintro e w' ⟨rfl, n1, rfl⟩
  go_wp2_with fail
  refine (skip48c s gl gf t 38 _ (hL.drewN _) hs hp hc.out rfl).mono ?_; rintro e w1 ⟨rfl, hX, hg⟩
  have hcv : (convert 91 33 (.slice (some ⟨w1.heap.size, 0, none⟩) 1 1)).run Tryz.prog (w1.alloc (.cells #[.int .u8 38] 5)) = .ok (.string ⟨#[38]⟩) (w1.alloc (.cells #[.int .u8 38] 5)) := conv1 33 Tryz.underlying33 w1 38 rfl 0
  have hX2 := hX.alloc (.cells #[.int .u8 38] 5)
  have k1 := hX2.c1
  have f1 := hX2.fr 1
  have hlt := lt_of_heap hX.l
  go_wp2_with fail
  refine bodyPost_ret (results_none rfl _ _ _) rfl (tok_sign hcl.out hp ((hX.kind ⟨#[38]⟩).alloc _) (fr_alloc (fr_set (fr_trans (fr_drewN (fr_refl w (some gl)) _) hg) 1 _) _) (by simp) (single_q (c := 38) hc.out (by decide)))

set_option maxRecDepth 100000 in
set_option maxHeartbeats 4000000 in
theorem tok31_94 (s : ByteArray) (gl gf : Nat) (t : St) (w : World) (hP : Hid (PL s)) (hL : LX w gl gf s t) (hp : t.pos < s.size) (hcl : Hid (Clr t)) (hc : Hid (bt s t.pos = 94)) :
    Calls Tryz.prog 31 #[.pointer (some ⟨gl, 0, none⟩), .bool false] w (TokPost s gl gf t w) := by
  have hs : s.size ≤ 2147483647 := Nat.le_trans hP.out.size (by decide)
  have hd : decide (s.size ≤ t.pos) = false := decide_eq_false (by omega)
  go_enter Tryz.func31, Tryz.ntmps31
  go_wp2_with fail
  refine (eof39 s gl gf t w hL hs).mono ?_; rintro e w' ⟨rfl, n0, rfl⟩
  go_wp2_with fail
  refine (peek0 s gl gf t 94 _ (hL.drewN _) hs hp hc.out rfl).mono ?_; rintro e w' ⟨rfl, n1, rfl⟩
  go_wp2_with fail
  refine (skip48c s gl gf t 94 _ (hL.drewN _) hs hp hc.out rfl).mono ?_; rintro e w1 ⟨rfl, hX, hg⟩
  have hcv : (convert 91 33 (.slice (some ⟨w1.heap.size, 0, none⟩) 1 1)).run Tryz.prog (w1.alloc (.cells #[.int .u8 94] 5)) = .ok (.string ⟨#[94]⟩) (w1.alloc (.cells #[.int .u8 94] 5)) := conv1 33 Tryz.underlying33 w1 94 rfl 0
  have hX2 := hX.alloc (.cells #[.int .u8 94] 5)
  have k1 := hX2.c1
  have f1 := hX2.fr 1
  have hlt := lt_of_heap hX.l
  go_wp2_with fail
  refine bodyPost_ret (results_none rfl _ _ _) rfl (tok_sign hcl.out hp ((hX.kind ⟨#[94]⟩).alloc _) (fr_alloc (fr_set (fr_trans (fr_drewN (fr_refl w (some gl)) _) hg) 1 _) _) (by simp) (single_q (c := 94) hc.out (by decide)))

set_option maxRecDepth 100000 in
set_option maxHeartbeats 4000000 in
theorem tok31_37 (s : ByteArray) (gl gf : Nat) (t : St) (w : World) (hP : Hid (PL s)) (hL : LX w gl gf s t) (hp : t.pos < s.size) (hcl : Hid (Clr t)) (hc : Hid (bt s t.pos = 37)) :
    Calls Tryz.prog 31 #[.pointer (some ⟨gl, 0, none⟩), .bool false] w (TokPost s gl gf t w) := by
  have hs : s.size ≤ 2147483647 := Nat.le_trans hP.out.size (by decide)
  have hd : decide (s.size ≤ t.pos) = false := decide_eq_false (by omega)
  go_enter Tryz.func31, Tryz.ntmps31
  go_wp2_with fail
  refine (eof39 s gl gf t w hL hs).mono ?_; rintro e w' ⟨rfl, n0, rfl⟩
  go_wp2_with fail
  refine (peek0 s gl gf t 37 _ (hL.drewN _) hs hp hc.out rfl).mono ?_; rintro e w' ⟨rfl, n1, rfl⟩
  go_wp2_with fail
  refine (skip48c s gl gf t 37 _ (hL.drewN _) hs hp hc.out rfl).mono ?_; rintro e w1 ⟨rfl, hX, hg⟩
  have hcv : (convert 91 33 (.slice (some ⟨w1.heap.size, 0, none⟩) 1 1)).run Tryz.prog (w1.alloc (.cells #[.int .u8 37] 5)) = .ok (.string ⟨#[37]⟩) (w1.alloc (.cells #[.int .u8 37] 5)) := conv1 33 Tryz.underlying33 w1 37 rfl 0
  have hX2 := hX.alloc (.cells #[.int .u8 37] 5)
  have k1 := hX2.c1
  have f1 := hX2.fr 1
  have hlt := lt_of_heap hX.l
  go_wp2_with fail
  refine bodyPost_ret (results_none rfl _ _ _) rfl (tok_sign hcl.out hp ((hX.kind ⟨#[37]⟩).alloc _) (fr_alloc (fr_set (fr_trans (fr_drewN (fr_refl w (some gl)) _) hg) 1 _) _) (by simp) (single_q (c := 37) hc.out (by decide)))

set_option maxRecDepth 100000 in
set_option maxHeartbeats 4000000 in
theorem tok31_58 (s : ByteArray) (gl gf : Nat) (t : St) (w : World) (hP : Hid (PL s)) (hL : LX w gl gf s t) (hp : t.pos < s.size) (hcl : Hid (Clr t)) (hc : Hid (bt s t.pos = 58)) :
    Calls Tryz.prog 31 #[.pointer (some ⟨gl, 0, none⟩), .bool false] w (TokPost s gl gf t w) := by
  have hs : s.size ≤ 2147483647 := Nat.le_trans hP.out.size (by decide)
  have hd : decide (s.size ≤ t.pos) = false := decide_eq_false (by omega)
  go_enter Tryz.func31, Tryz.ntmps31
  go_wp2_with fail
  refine (eof39 s gl gf t w hL hs).mono ?_; rintro e w' ⟨rfl, n0, rfl⟩
  go_wp2_with fail
  refine (peek0 s gl gf t 58 _ (hL.drewN _) hs hp hc.out rfl).mono ?_; rintro e w' ⟨rfl, n1, rfl⟩
  go_wp2_with fail
  refine (skip48c s gl gf t 58 _ (hL.drewN _) hs hp hc.out rfl).mono ?_; rintro e w1 ⟨rfl, hX, hg⟩
  have hcv : (convert 91 33 (.slice (some ⟨w1.heap.size, 0, none⟩) 1 1)).run Tryz.prog (w1.alloc (.cells #[.int .u8 58] 5)) = .ok (.string ⟨#[58]⟩) (w1.alloc (.cells #[.int .u8 58] 5)) := conv1 33 Tryz.underlying33 w1 58 rfl 0
  have hX2 := hX.alloc (.cells #[.int .u8 58] 5)
  have k1 := hX2.c1
  have f1 := hX2.fr 1
  have hlt := lt_of_heap hX.l
  go_wp2_with fail
  refine bodyPost_ret (results_none rfl _ _ _) rfl (tok_sign hcl.out hp ((hX.kind ⟨#[58]⟩).alloc _) (fr_alloc (fr_set (fr_trans (fr_drewN (fr_refl w (some gl)) _) hg) 1 _) _) (by simp) (single_q (c := 58) hc.out (by decide)))

set_option maxRecDepth 100000 in
set_option maxHeartbeats 4000000 in
theorem tok31_63 (s : ByteArray) (gl gf : Nat) (t : St) (w : World) (hP : Hid (PL s)) (hL : LX w gl gf s t) (hp : t.pos < s.size) (hcl : Hid (Clr t)) (hc : Hid (bt s t.pos = 63)) :
    Calls Tryz.prog 31 #[.pointer (some ⟨gl, 0, none⟩), .bool false] w (TokPost s gl gf t w) := by
  have hs : s.size ≤ 2147483647 := Nat.le_trans hP.out.size (by decide)
  have hd : decide (s.size ≤ t.pos) = false := decide_eq_false (by omega)
  go_enter Tryz.func31, Tryz.ntmps31
  go_wp2_with fail
  refine (eof39 s gl gf t w hL hs).mono ?_; rintro e w' ⟨rfl, n0, rfl⟩
  go_wp2_with fail
  refine (peek0 s gl gf t 63 _ (hL.drewN _) hs hp hc.out rfl).mono ?_; rintro e w' ⟨rfl, n1, rfl⟩
  go_wp2_with fail
  refine (skip48c s gl gf t 63 _ (hL.drewN _) hs hp hc.out rfl).mono ?_; rintro e w1 ⟨rfl, hX, hg⟩
  have hcv : (convert 91 33 (.slice (some ⟨w1.heap.size, 0, none⟩) 1 1)).run Tryz.prog (w1.alloc (.cells #[.int .u8 63] 5)) = .ok (.string ⟨#[63]⟩) (w1.alloc (.cells #[.int .u8 63] 5)) := conv1 33 Tryz.underlying33 w1 63 rfl 0
  have hX2 := hX.alloc (.cells #[.int .u8 63] 5)
  have k1 := hX2.c1
  have f1 := hX2.fr 1
  have hlt := lt_of_heap hX.l
  go_wp2_with fail
  refine bodyPost_ret (results_none rfl _ _ _) rfl (tok_sign hcl.out hp ((hX.kind ⟨#[63]⟩).alloc _) (fr_alloc (fr_set (fr_trans (fr_drewN (fr_refl w (some gl)) _) hg) 1 _) _) (by simp) (single_q (c := 63) hc.out (by decide)))

set_option maxRecDepth 100000 in
set_option maxHeartbeats 4000000 in
theorem tok31_36 (s : ByteArray) (gl gf : Nat) (t : St) (w : World) (hP : Hid (PL s)) (hL : LX w gl gf s t) (hp : t.pos < s.size) (hcl : Hid (Clr t)) (hc : Hid (bt s t.pos = 36)) :
    Calls Tryz.prog 31 #[.pointer (some ⟨gl, 0, none⟩), .bool false] w (TokPost s gl gf t w) := by
  have hs : s.size ≤ 2147483647 := Nat.le_trans hP.out.size (by decide)
  have hd : decide (s.size ≤ t.pos) = false := decide_eq_false (by omega)
  go_enter Tryz.func31, Tryz.ntmps31
  go_wp2_with fail
  refine (eof39 s gl gf t w hL hs).mono ?_; rintro e w' ⟨rfl, n0, rfl⟩
  go_wp2_with fail
  refine (peek0 s gl gf t 36 _ (hL.drewN _) hs hp hc.out rfl).mono ?_; rintro e w' ⟨rfl, n1, rfl⟩
  go_wp2_with fail
  refine (skip48c s gl gf t 36 _ (hL.drewN _) hs hp hc.out rfl).mono ?_; rintro e w1 ⟨rfl, hX, hg⟩
  have hcv : (convert 91 33 (.slice (some ⟨w1.heap.size, 0, none⟩) 1 1)).run Tryz.prog (w1.alloc (.cells #[.int .u8 36] 5)) = .ok (.string ⟨#[36]⟩) (w1.alloc (.cells #[.int .u8 36] 5)) := conv1 33 Tryz.underlying33 w1 36 rfl 0
  have hX2 := hX.alloc (.cells #[.int .u8 36] 5)
  have k1 := hX2.c1
  have f1 := hX2.fr 1
  have hlt := lt_of_heap hX.l
  go_wp2_with fail
  refine bodyPost_ret (results_none rfl _ _ _) rfl (tok_sign hcl.out hp ((hX.kind ⟨#[36]⟩).alloc _) (fr_alloc (fr_set (fr_trans (fr_drewN (fr_refl w (some gl)) _) hg) 1 _) _) (by simp) (single_q (c := 36) hc.out (by decide)))

end Go.Proofs.YtahcbeofaeflgaaGreatDoor
