/- Lemmas towards the statement FnLexCardSaid, conditions: as each theorem says. -/
import Derived.Test.YtahcbeofaeflgaaGreatDoorG1
import Derived.Test.YtahcbeofaeflgaaGreatDoorG2
import Derived.Test.YtahcbeofaeflgaaGreatDoorG3
import Derived.Test.YtahcbeofaeflgaaGreatDoorG4
import Derived.Test.YtahcbeofaeflgaaGreatDoorG5a
import Derived.Test.YtahcbeofaeflgaaGreatDoorG5b
import Derived.Test.YtahcbeofaeflgaaGreatDoorG5c
import Derived.Test.YtahcbeofaeflgaaGreatDoorG6a
import Derived.Test.YtahcbeofaeflgaaGreatDoorG6b
import Derived.Test.YtahcbeofaeflgaaGreatDoorG6c
import Derived.Test.YtahcbeofaeflgaaGreatDoorG6d
import Derived.Test.YtahcbeofaeflgaaGreatDoorG6e
import Derived.Test.YtahcbeofaeflgaaGreatDoorG6f
import Derived.Test.YtahcbeofaeflgaaGreatDoorD3a
import Derived.Test.YtahcbeofaeflgaaGreatDoorD3b
import Derived.Test.YtahcbeofaeflgaaGreatDoorD3c
import Derived.Test.YtahcbeofaeflgaaGreatDoorD3e
import Derived.Test.YtahcbeofaeflgaaGreatDoorD3f
import Derived.Test.YtahcbeofaeflgaaGreatDoorD3g
import Derived.Test.YtahcbeofaeflgaaGreatDoorD3h
import Derived.Test.YtahcbeofaeflgaaGreatDoorD3i
import Derived.Test.YtahcbeofaeflgaaGreatDoorD3j
import Derived.KernelRfl
namespace Go.Proofs.YtahcbeofaeflgaaGreatDoor
open Go.RowKit

theorem preF1 {s : ByteArray} {k : Nat} (h0 : inP (bt s k) = true) (h1 : markB (bt s (k + 1)) = false) (h2 : inP (bt s (k + 1)) = true → isBB (bt s k) = isBB (bt s (k + 1))) : (preP s k).2.2 = false := by
  unfold preP preN
  rw [if_pos h0]
  by_cases h3 : inP (bt s (k + 1)) = true
  · rw [if_pos h3]
    split
    · simp [h2 h3]
    · rfl
  · rw [if_neg h3, if_neg (by rw [h1]; decide)]
theorem preF2 {s : ByteArray} {k : Nat} (h0 : inP (bt s k) = true) (h1 : inP (bt s (k + 1)) = true) (h2 : markB (bt s (k + 2)) = false) : (preP s k).2.2 = false := by
  unfold preP preN
  rw [if_pos h0, if_pos h1, if_neg (by rw [h2]; decide)]
theorem mark_no {c : Nat} (h1 : c ≠ 34) (h2 : c ≠ 39) : markB c = false := decide_eq_false (by omega)

theorem tok31_66 (s : ByteArray) (gl gf : Nat) (t : St) (w : World) (hP : Hid (PL s)) (hL : LX w gl gf s t) (hp : t.pos < s.size) (hcl : Hid (Clr t)) (hc : Hid (bt s t.pos = 66)) :
    Calls Tryz.prog 31 #[.pointer (some ⟨gl, 0, none⟩), .bool false] w (TokPost s gl gf t w) := by
  have h0 : inP (bt s t.pos) = true := by rw [hc.out]; rfl
  have hb : isBB (bt s t.pos) = true := by rw [hc.out]; rfl
  by_cases h34 : bt s (t.pos + 1) = 34
  · exact tok31_L66_34 s gl gf t w hP hL hp hcl hc h34
  by_cases h39 : bt s (t.pos + 1) = 39
  · exact tok31_L66_39 s gl gf t w hP hL hp hcl hc h39
  by_cases k82 : bt s (t.pos + 1) = 82
  · have h1 : inP (bt s (t.pos + 1)) = true := by rw [k82]; rfl
    by_cases j34 : bt s (t.pos + 2) = 34
    · exact tok31_L66_82_34 s gl gf t w hP hL hp hcl hc k82 j34
    by_cases j39 : bt s (t.pos + 2) = 39
    · exact tok31_L66_82_39 s gl gf t w hP hL hp hcl hc k82 j39
    have hq : (preP s t.pos).2.2 = false := preF2 h0 h1 (mark_no j34 j39)
    by_cases he : s.size ≤ t.pos + 2
    · exact tok31_F66_82e s gl gf t w hP hL hp hcl hc k82 he hq
    · exact tok31_F66_82n s gl gf t w hP hL hp hcl hc k82 (show t.pos + 2 < s.size by omega) ⟨j34, j39⟩ hq
  by_cases k114 : bt s (t.pos + 1) = 114
  · have h1 : inP (bt s (t.pos + 1)) = true := by rw [k114]; rfl
    by_cases j34 : bt s (t.pos + 2) = 34
    · exact tok31_L66_114_34 s gl gf t w hP hL hp hcl hc k114 j34
    by_cases j39 : bt s (t.pos + 2) = 39
    · exact tok31_L66_114_39 s gl gf t w hP hL hp hcl hc k114 j39
    have hq : (preP s t.pos).2.2 = false := preF2 h0 h1 (mark_no j34 j39)
    by_cases he : s.size ≤ t.pos + 2
    · exact tok31_F66_114e s gl gf t w hP hL hp hcl hc k114 he hq
    · exact tok31_F66_114n s gl gf t w hP hL hp hcl hc k114 (show t.pos + 2 < s.size by omega) ⟨j34, j39⟩ hq
  have hq : (preP s t.pos).2.2 = false := by
    refine preF1 h0 (mark_no h34 h39) (fun h => ?_)
    rw [hb]
    simp only [inP, isBB, isRR, Bool.or_eq_true, decide_eq_true_eq] at h
    symm
    simp only [isBB, decide_eq_true_eq]
    omega
  by_cases he : s.size ≤ t.pos + 1
  · exact tok31_F66e s gl gf t w hP hL hp hcl hc he hq
  · exact tok31_F66n s gl gf t w hP hL hp hcl hc (show t.pos + 1 < s.size by omega) ⟨h34, h39, k82, k114⟩ hq

theorem tok31_98 (s : ByteArray) (gl gf : Nat) (t : St) (w : World) (hP : Hid (PL s)) (hL : LX w gl gf s t) (hp : t.pos < s.size) (hcl : Hid (Clr t)) (hc : Hid (bt s t.pos = 98)) :
    Calls Tryz.prog 31 #[.pointer (some ⟨gl, 0, none⟩), .bool false] w (TokPost s gl gf t w) := by
  have h0 : inP (bt s t.pos) = true := by rw [hc.out]; rfl
  have hb : isBB (bt s t.pos) = true := by rw [hc.out]; rfl
  by_cases h34 : bt s (t.pos + 1) = 34
  · exact tok31_L98_34 s gl gf t w hP hL hp hcl hc h34
  by_cases h39 : bt s (t.pos + 1) = 39
  · exact tok31_L98_39 s gl gf t w hP hL hp hcl hc h39
  by_cases k82 : bt s (t.pos + 1) = 82
  · have h1 : inP (bt s (t.pos + 1)) = true := by rw [k82]; rfl
    by_cases j34 : bt s (t.pos + 2) = 34
    · exact tok31_L98_82_34 s gl gf t w hP hL hp hcl hc k82 j34
    by_cases j39 : bt s (t.pos + 2) = 39
    · exact tok31_L98_82_39 s gl gf t w hP hL hp hcl hc k82 j39
    have hq : (preP s t.pos).2.2 = false := preF2 h0 h1 (mark_no j34 j39)
    by_cases he : s.size ≤ t.pos + 2
    · exact tok31_F98_82e s gl gf t w hP hL hp hcl hc k82 he hq
    · exact tok31_F98_82n s gl gf t w hP hL hp hcl hc k82 (show t.pos + 2 < s.size by omega) ⟨j34, j39⟩ hq
  by_cases k114 : bt s (t.pos + 1) = 114
  · have h1 : inP (bt s (t.pos + 1)) = true := by rw [k114]; rfl
    by_cases j34 : bt s (t.pos + 2) = 34
    · exact tok31_L98_114_34 s gl gf t w hP hL hp hcl hc k114 j34
    by_cases j39 : bt s (t.pos + 2) = 39
    · exact tok31_L98_114_39 s gl gf t w hP hL hp hcl hc k114 j39
    have hq : (preP s t.pos).2.2 = false := preF2 h0 h1 (mark_no j34 j39)
    by_cases he : s.size ≤ t.pos + 2
    · exact tok31_F98_114e s gl gf t w hP hL hp hcl hc k114 he hq
    · exact tok31_F98_114n s gl gf t w hP hL hp hcl hc k114 (show t.pos + 2 < s.size by omega) ⟨j34, j39⟩ hq
  have hq : (preP s t.pos).2.2 = false := by
    refine preF1 h0 (mark_no h34 h39) (fun h => ?_)
    rw [hb]
    simp only [inP, isBB, isRR, Bool.or_eq_true, decide_eq_true_eq] at h
    symm
    simp only [isBB, decide_eq_true_eq]
    omega
  by_cases he : s.size ≤ t.pos + 1
  · exact tok31_F98e s gl gf t w hP hL hp hcl hc he hq
  · exact tok31_F98n s gl gf t w hP hL hp hcl hc (show t.pos + 1 < s.size by omega) ⟨h34, h39, k82, k114⟩ hq

theorem tok31_82 (s : ByteArray) (gl gf : Nat) (t : St) (w : World) (hP : Hid (PL s)) (hL : LX w gl gf s t) (hp : t.pos < s.size) (hcl : Hid (Clr t)) (hc : Hid (bt s t.pos = 82)) :
    Calls Tryz.prog 31 #[.pointer (some ⟨gl, 0, none⟩), .bool false] w (TokPost s gl gf t w) := by
  have h0 : inP (bt s t.pos) = true := by rw [hc.out]; rfl
  have hb : isBB (bt s t.pos) = false := by rw [hc.out]; rfl
  by_cases h34 : bt s (t.pos + 1) = 34
  · exact tok31_L82_34 s gl gf t w hP hL hp hcl hc h34
  by_cases h39 : bt s (t.pos + 1) = 39
  · exact tok31_L82_39 s gl gf t w hP hL hp hcl hc h39
  by_cases k66 : bt s (t.pos + 1) = 66
  · have h1 : inP (bt s (t.pos + 1)) = true := by rw [k66]; rfl
    by_cases j34 : bt s (t.pos + 2) = 34
    · exact tok31_L82_66_34 s gl gf t w hP hL hp hcl hc k66 j34
    by_cases j39 : bt s (t.pos + 2) = 39
    · exact tok31_L82_66_39 s gl gf t w hP hL hp hcl hc k66 j39
    have hq : (preP s t.pos).2.2 = false := preF2 h0 h1 (mark_no j34 j39)
    by_cases he : s.size ≤ t.pos + 2
    · exact tok31_F82_66e s gl gf t w hP hL hp hcl hc k66 he hq
    · exact tok31_F82_66n s gl gf t w hP hL hp hcl hc k66 (show t.pos + 2 < s.size by omega) ⟨j34, j39⟩ hq
  by_cases k98 : bt s (t.pos + 1) = 98
  · have h1 : inP (bt s (t.pos + 1)) = true := by rw [k98]; rfl
    by_cases j34 : bt s (t.pos + 2) = 34
    · exact tok31_L82_98_34 s gl gf t w hP hL hp hcl hc k98 j34
    by_cases j39 : bt s (t.pos + 2) = 39
    · exact tok31_L82_98_39 s gl gf t w hP hL hp hcl hc k98 j39
    have hq : (preP s t.pos).2.2 = false := preF2 h0 h1 (mark_no j34 j39)
    by_cases he : s.size ≤ t.pos + 2
    · exact tok31_F82_98e s gl gf t w hP hL hp hcl hc k98 he hq
    · exact tok31_F82_98n s gl gf t w hP hL hp hcl hc k98 (show t.pos + 2 < s.size by omega) ⟨j34, j39⟩ hq
  have hq : (preP s t.pos).2.2 = false := by
    refine preF1 h0 (mark_no h34 h39) (fun h => ?_)
    rw [hb]
    simp only [inP, isBB, isRR, Bool.or_eq_true, decide_eq_true_eq] at h
    symm
    simp only [isBB, decide_eq_false_iff_not]
    omega
  by_cases he : s.size ≤ t.pos + 1
  · exact tok31_F82e s gl gf t w hP hL hp hcl hc he hq
  · exact tok31_F82n s gl gf t w hP hL hp hcl hc (show t.pos + 1 < s.size by omega) ⟨h34, h39, k66, k98⟩ hq

theorem tok31_114 (s : ByteArray) (gl gf : Nat) (t : St) (w : World) (hP : Hid (PL s)) (hL : LX w gl gf s t) (hp : t.pos < s.size) (hcl : Hid (Clr t)) (hc : Hid (bt s t.pos = 114)) :
    Calls Tryz.prog 31 #[.pointer (some ⟨gl, 0, none⟩), .bool false] w (TokPost s gl gf t w) := by
  have h0 : inP (bt s t.pos) = true := by rw [hc.out]; rfl
  have hb : isBB (bt s t.pos) = false := by rw [hc.out]; rfl
  by_cases h34 : bt s (t.pos + 1) = 34
  · exact tok31_L114_34 s gl gf t w hP hL hp hcl hc h34
  by_cases h39 : bt s (t.pos + 1) = 39
  · exact tok31_L114_39 s gl gf t w hP hL hp hcl hc h39
  by_cases k66 : bt s (t.pos + 1) = 66
  · have h1 : inP (bt s (t.pos + 1)) = true := by rw [k66]; rfl
    by_cases j34 : bt s (t.pos + 2) = 34
    · exact tok31_L114_66_34 s gl gf t w hP hL hp hcl hc k66 j34
    by_cases j39 : bt s (t.pos + 2) = 39
    · exact tok31_L114_66_39 s gl gf t w hP hL hp hcl hc k66 j39
    have hq : (preP s t.pos).2.2 = false := preF2 h0 h1 (mark_no j34 j39)
    by_cases he : s.size ≤ t.pos + 2
    · exact tok31_F114_66e s gl gf t w hP hL hp hcl hc k66 he hq
    · exact tok31_F114_66n s gl gf t w hP hL hp hcl hc k66 (show t.pos + 2 < s.size by omega) ⟨j34, j39⟩ hq
  by_cases k98 : bt s (t.pos + 1) = 98
  · have h1 : inP (bt s (t.pos + 1)) = true := by rw [k98]; rfl
    by_cases j34 : bt s (t.pos + 2) = 34
    · exact tok31_L114_98_34 s gl gf t w hP hL hp hcl hc k98 j34
    by_cases j39 : bt s (t.pos + 2) = 39
    · exact tok31_L114_98_39 s gl gf t w hP hL hp hcl hc k98 j39
    have hq : (preP s t.pos).2.2 = false := preF2 h0 h1 (mark_no j34 j39)
    by_cases he : s.size ≤ t.pos + 2
    · exact tok31_F114_98e s gl gf t w hP hL hp hcl hc k98 he hq
    · exact tok31_F114_98n s gl gf t w hP hL hp hcl hc k98 (show t.pos + 2 < s.size by omega) ⟨j34, j39⟩ hq
  have hq : (preP s t.pos).2.2 = false := by
    refine preF1 h0 (mark_no h34 h39) (fun h => ?_)
    rw [hb]
    simp only [inP, isBB, isRR, Bool.or_eq_true, decide_eq_true_eq] at h
    symm
    simp only [isBB, decide_eq_false_iff_not]
    omega
  by_cases he : s.size ≤ t.pos + 1
  · exact tok31_F114e s gl gf t w hP hL hp hcl hc he hq
  · exact tok31_F114n s gl gf t w hP hL hp hcl hc (show t.pos + 1 < s.size by omega) ⟨h34, h39, k66, k98⟩ hq

def nonL : List Nat := [40, 41, 123, 125, 59, 44, 91, 93, 126, 42, 47, 38, 94, 37, 58, 63, 36, 46, 60, 62, 43, 45, 61, 124, 33, 64, 48, 49, 50, 51, 52, 53, 54, 55, 56, 57, 34, 39, 9, 10, 32, 35]
set_option maxRecDepth 100000 in
theorem nonL_tab : ((List.range 127).all fun c => !(decide (32 ≤ c) || c == 9 || c == 10) || c == 92 || c == 96 || letB c || nonL.contains c) = true := by decide +kernel
theorem nonL_all : ∀ c, c < 127 → (32 ≤ c ∨ c = 9 ∨ c = 10) → c ≠ 92 → c ≠ 96 → letB c = false → c ∈ nonL := by
  intro c h1 h2 h3 h4 h5
  have h := List.all_eq_true.1 nonL_tab c (List.mem_range.2 h1)
  simp only [Bool.or_eq_true, Bool.not_eq_true', Bool.or_eq_false_iff, decide_eq_false_iff_not, beq_iff_eq, beq_eq_false_iff_ne, List.contains_iff_mem, h5] at h
  rcases h with (((h | h) | h) | h) | h
  · exact absurd h2 (by omega)
  · exact absurd h h3
  · exact absurd h h4
  · cases h
  · exact h

theorem tok31 (s : ByteArray) (gl gf : Nat) (t : St) (w : World) (hP : Hid (PL s)) (hL : LX w gl gf s t) (hcl : Hid (Clr t)) :
    Calls Tryz.prog 31 #[.pointer (some ⟨gl, 0, none⟩), .bool false] w (TokPost s gl gf t w) := by
  rcases Nat.lt_or_ge t.pos s.size with hp | hp
  case inr => exact tok31_eof s gl gf t w hP hL hp
  rcases Bool.eq_false_or_eq_true (letB (bt s t.pos)) with hl | hl
  · by_cases h66 : bt s t.pos = 66
    · exact tok31_66 s gl gf t w hP hL hp hcl h66
    by_cases h98 : bt s t.pos = 98
    · exact tok31_98 s gl gf t w hP hL hp hcl h98
    by_cases h82 : bt s t.pos = 82
    · exact tok31_82 s gl gf t w hP hL hp hcl h82
    by_cases h114 : bt s t.pos = 114
    · exact tok31_114 s gl gf t w hP hL hp hcl h114
    exact tok31_let s gl gf t w hP hL hp hcl hl ⟨h66, h98, h82, h114⟩
  have hb := hP.out.byte t.pos hp
  have hm := nonL_all (bt s t.pos) (by omega) (by omega) hb.2.1 hb.2.2 hl
  obtain ⟨c, hc⟩ : ∃ c, bt s t.pos = c := ⟨_, rfl⟩
  rw [hc] at hm
  simp only [nonL, List.mem_cons, List.mem_nil_iff, or_false] at hm
  rcases hm with rfl | rfl | rfl | rfl | rfl | rfl | rfl | rfl | rfl | rfl | rfl | rfl | rfl | rfl | rfl | rfl | rfl | rfl | rfl | rfl | rfl | rfl | rfl | rfl | rfl | rfl | rfl | rfl | rfl | rfl | rfl | rfl | rfl | rfl | rfl | rfl | rfl | rfl | rfl | rfl | rfl | rfl
  · exact tok31_40 s gl gf t w hP hL hp hcl hc
  · exact tok31_41 s gl gf t w hP hL hp hcl hc
  · exact tok31_123 s gl gf t w hP hL hp hcl hc
  · exact tok31_125 s gl gf t w hP hL hp hcl hc
  · exact tok31_59 s gl gf t w hP hL hp hcl hc
  · exact tok31_44 s gl gf t w hP hL hp hcl hc
  · exact tok31_91 s gl gf t w hP hL hp hcl hc
  · exact tok31_93 s gl gf t w hP hL hp hcl hc
  · exact tok31_126 s gl gf t w hP hL hp hcl hc
  · exact tok31_42 s gl gf t w hP hL hp hcl hc
  · exact tok31_47 s gl gf t w hP hL hp hcl hc
  · exact tok31_38 s gl gf t w hP hL hp hcl hc
  · exact tok31_94 s gl gf t w hP hL hp hcl hc
  · exact tok31_37 s gl gf t w hP hL hp hcl hc
  · exact tok31_58 s gl gf t w hP hL hp hcl hc
  · exact tok31_63 s gl gf t w hP hL hp hcl hc
  · exact tok31_36 s gl gf t w hP hL hp hcl hc
  · rcases Bool.eq_false_or_eq_true (ndB t.last) with g | g
    · exact tok31_46_a s gl gf t w hP hL hp hcl hc g
    by_cases he : s.size ≤ t.pos + 1
    · exact tok31_46_b s gl gf t w hP hL hp hcl hc g he
    rcases Bool.eq_false_or_eq_true (digB (bt s (t.pos + 1))) with g2 | g2
    · exact tok31_46_d s gl gf t w hP hL hp hcl hc g g2
    · exact tok31_46_c s gl gf t w hP hL hp hcl hc g (show t.pos + 1 < s.size by omega) g2
  · by_cases g60 : bt s (t.pos + 1) = 60
    · exact tok31_60_60 s gl gf t w hP hL hp hcl hc g60
    by_cases g61 : bt s (t.pos + 1) = 61
    · exact tok31_60_61 s gl gf t w hP hL hp hcl hc g61
    by_cases g62 : bt s (t.pos + 1) = 62
    · exact tok31_60_62 s gl gf t w hP hL hp hcl hc g62
    exact tok31_60_d s gl gf t w hP hL hp hcl hc ⟨g60, g61, g62⟩
  · by_cases g62 : bt s (t.pos + 1) = 62
    · exact tok31_62_62 s gl gf t w hP hL hp hcl hc g62
    by_cases g61 : bt s (t.pos + 1) = 61
    · exact tok31_62_61 s gl gf t w hP hL hp hcl hc g61
    exact tok31_62_d s gl gf t w hP hL hp hcl hc ⟨g62, g61⟩
  · have g61 : bt s (t.pos + 1) ≠ 61 := fun h => by have := hP.out.sgn t.pos h; omega
    exact tok31_43_d s gl gf t w hP hL hp hcl hc g61
  · by_cases g62 : bt s (t.pos + 1) = 62
    · exact tok31_45_62 s gl gf t w hP hL hp hcl hc g62
    have g61 : bt s (t.pos + 1) ≠ 61 := fun h => by have := hP.out.sgn t.pos h; omega
    exact tok31_45_d s gl gf t w hP hL hp hcl hc ⟨g61, g62⟩
  · by_cases g62 : bt s (t.pos + 1) = 62
    · exact tok31_61_62 s gl gf t w hP hL hp hcl hc g62
    exact tok31_61_d s gl gf t w hP hL hp hcl hc g62
  · by_cases g62 : bt s (t.pos + 1) = 62
    · exact tok31_124_62 s gl gf t w hP hL hp hcl hc g62
    by_cases g124 : bt s (t.pos + 1) = 124
    · exact tok31_124_124 s gl gf t w hP hL hp hcl hc g124
    exact tok31_124_d s gl gf t w hP hL hp hcl hc ⟨g62, g124⟩
  · exact tok31_33_61 s gl gf t w hP hL hp hcl hc (hP.out.bang t.pos hp hc)
  · by_cases g64 : bt s (t.pos + 1) = 64
    · exact tok31_64_64 s gl gf t w hP hL hp hcl hc g64
    rcases Bool.eq_false_or_eq_true (letB (bt s (t.pos + 1))) with g | g
    · exact tok31_64_p s gl gf t w hP hL hp hcl hc g
    by_cases he : s.size ≤ t.pos + 1
    · exact tok31_64_e s gl gf t w hP hL hp hcl hc he
    · exact tok31_64_n s gl gf t w hP hL hp hcl hc (show t.pos + 1 < s.size by omega) g64 g
  · exact tok31_48 s gl gf t w hP hL hp hcl hc
  · exact tok31_49 s gl gf t w hP hL hp hcl hc
  · exact tok31_50 s gl gf t w hP hL hp hcl hc
  · exact tok31_51 s gl gf t w hP hL hp hcl hc
  · exact tok31_52 s gl gf t w hP hL hp hcl hc
  · exact tok31_53 s gl gf t w hP hL hp hcl hc
  · exact tok31_54 s gl gf t w hP hL hp hcl hc
  · exact tok31_55 s gl gf t w hP hL hp hcl hc
  · exact tok31_56 s gl gf t w hP hL hp hcl hc
  · exact tok31_57 s gl gf t w hP hL hp hcl hc
  · exact tok31_L34 s gl gf t w hP hL hp hcl hc
  · exact tok31_L39 s gl gf t w hP hL hp hcl hc
  · exact tok31_9 s gl gf t w hP hL hp hcl hc
  · exact tok31_10 s gl gf t w hP hL hp hcl hc
  · exact tok31_32 s gl gf t w hP hL hp hcl hc
  · exact tok31_35 s gl gf t w hP hL hp hcl hc
end Go.Proofs.YtahcbeofaeflgaaGreatDoor
namespace Go.Proofs.YtahcbeofaeflgaaGreatDoor
open Go.RowKit

/-- What 'consumeFieldToken' comes to. -/
def FieldPost (s : ByteArray) (gl gf : Nat) (t : St) (w : World) (e : Ending) (w' : World) : Prop :=
  (parB (bt s t.pos) = true ∧ e = .returned (.tuple #[]) ∧ LX w' gl gf s { t with kind := kIdent, txt := s.extract t.pos (run s parB t.pos), pos := run s parB t.pos } ∧ w.grownBy w' (some gl)) ∨
  (parB (bt s t.pos) = false ∧ TokPost s gl gf t w e w')

theorem Fr2.drewN {gl gf : Nat} {w w' : World} (n : Nat) (h : Fr2 gl gf (w.drewN n) w') : Fr2 gl gf w w' := ⟨h.os, h.tape, h.output, h.size, h.block⟩
theorem Fault.drewN {gl gf : Nat} {w w' : World} {e : Ending} {n : Nat} (h : Fault gl gf (w.drewN n) e w') : Fault gl gf w e w' := by
  obtain ⟨pe, pp, m, cs, k, h1, h2, h3, h4, h5, h6, h7⟩ := h
  exact ⟨pe, pp, m, cs, k, h1, h2, h3, h4, h5, h6, h7.drewN n⟩
theorem TokPost.drewN {s : ByteArray} {gl gf : Nat} {t : St} {w w' : World} {e : Ending} {n : Nat} (h : TokPost s gl gf t (w.drewN n) e w') : TokPost s gl gf t w e w' := by
  rcases h with ⟨h1, h2, h3⟩ | ⟨x, h1, h2, h3, h4, h5⟩ | ⟨h1, h2, h3, h4⟩
  · exact Or.inl ⟨h1, h2, h3.drewN⟩
  · exact Or.inr (Or.inl ⟨x, h1, h2, h3, h4, ⟨h5.os, h5.tape, h5.output, h5.size, h5.block⟩⟩)
  · exact Or.inr (Or.inr ⟨h1, h2, h3, ⟨h4.os, h4.tape, h4.output, h4.size, h4.block⟩⟩)

/-- What one token's call ends in: it returns, or it is a fault's panic. -/
theorem TokPost.cases {s : ByteArray} {gl gf : Nat} {t : St} {w w' : World} {e : Ending} (h : TokPost s gl gf t w e w') : (e = .returned (.tuple #[])) ∨ (∃ v, e = .panicked v ∧ Fault gl gf w e w') := by
  rcases h with ⟨h1, h2, pe, pp, m, cs, k, rfl, h3⟩ | ⟨x, h1, h2, rfl, h4, h5⟩ | ⟨h1, rfl, h3, h4⟩
  · exact Or.inr ⟨_, rfl, pe, pp, m, cs, k, rfl, h3⟩
  · exact Or.inl rfl
  · exact Or.inl rfl

set_option maxRecDepth 100000 in
set_option maxHeartbeats 4000000 in
theorem field30_tok (s : ByteArray) (gl gf : Nat) (t : St) (w : World) (hP : Hid (PL s)) (hL : LX w gl gf s t) (hp : t.pos ≤ s.size) (hcl : Hid (Clr t)) (hn : Hid (parB (bt s t.pos) = false)) :
    Calls Tryz.prog 30 #[.pointer (some ⟨gl, 0, none⟩), .bool false] w (FieldPost s gl gf t w) := by
  have hs : s.size ≤ 2147483647 := Nat.le_trans hP.out.size (by decide)
  by_cases hlt : t.pos < s.size
  · have HLT := Lib.hid hlt
    go_enter Tryz.func30, Tryz.ntmps30
    go_wp2_with fail
    refine (ok45c s gl gf t 0 true _ hL hs hp rfl (by decide) (decide_eq_true HLT.out)).mono ?_; rintro e w' ⟨rfl, n0, rfl⟩
    go_wp2_with fail
    refine (peek0 s gl gf t (bt s t.pos) _ (hL.drewN _) hs HLT.out rfl rfl).mono ?_; rintro e w' ⟨rfl, n1, rfl⟩
    go_wp2_with fail
    refine (part46c _ false _ hn.out).mono ?_; rintro e w' ⟨rfl, rfl⟩
    go_wp2_with fail
    refine (tok31 s gl gf t _ hP (hL.drewN _) hcl).mono ?_
    intro e w2 hq
    rcases hq.cases with rfl | ⟨v, rfl, _⟩
    · go_wp2_with fail
      refine bodyPost_ret (results_none rfl _ _ _) rfl (Or.inr ⟨hn.out, hq.drewN⟩)
    · go_wp2_with fail
      exact ⟨rfl, Or.inr ⟨hn.out, hq.drewN⟩⟩
  · go_enter Tryz.func30, Tryz.ntmps30
    go_wp2_with fail
    refine (ok45c s gl gf t 0 false _ hL hs hp rfl (by decide) (decide_eq_false (by omega))).mono ?_; rintro e w' ⟨rfl, n0, rfl⟩
    go_wp2_with fail
    refine (tok31 s gl gf t _ hP (hL.drewN _) hcl).mono ?_
    intro e w2 hq
    rcases hq.cases with rfl | ⟨v, rfl, _⟩
    · go_wp2_with fail
      refine bodyPost_ret (results_none rfl _ _ _) rfl (Or.inr ⟨hn.out, hq.drewN⟩)
    · go_wp2_with fail
      exact ⟨rfl, Or.inr ⟨hn.out, hq.drewN⟩⟩

set_option maxRecDepth 100000 in
set_option maxHeartbeats 4000000 in
theorem field30_id (s : ByteArray) (gl gf : Nat) (t : St) (w : World) (hP : Hid (PL s)) (hL : LX w gl gf s t) (hp : t.pos ≤ s.size) (hn : Hid (parB (bt s t.pos) = true)) :
    Calls Tryz.prog 30 #[.pointer (some ⟨gl, 0, none⟩), .bool false] w (FieldPost s gl gf t w) := by
  have hs : s.size ≤ 2147483647 := Nat.le_trans hP.out.size (by decide)
  have hlt : Hid (t.pos < s.size) := lt_of_bt (by intro h; have := hn.out; rw [h] at this; exact absurd this (by decide))
  go_enter Tryz.func30, Tryz.ntmps30
  go_wp2_with fail
  refine (ok45c s gl gf t 0 true _ hL hs hp rfl (by decide) (decide_eq_true hlt.out)).mono ?_; rintro e w' ⟨rfl, n0, rfl⟩
  go_wp2_with fail
  refine (peek0 s gl gf t (bt s t.pos) _ (hL.drewN _) hs hlt.out rfl rfl).mono ?_; rintro e w' ⟨rfl, n1, rfl⟩
  go_wp2_with fail
  refine (part46c _ true _ hn.out).mono ?_; rintro e w' ⟨rfl, rfl⟩
  go_wp2_with fail
  go_loopw [4] (fun v4 wr => ∃ i : Nat, v4 = .int .i64 i ∧ t.pos + i ≤ s.size ∧ LX wr gl gf s t ∧ w.grownBy wr (some gl) ∧ Hid (run s parB t.pos = run s parB (t.pos + i))) (fun v4 _ => s.size - (intOf v4).toNat)
  case atStart => exact ⟨0, rfl, hp, hL.drewN _, fr_drewN (fr_refl w (some gl)) _, rfl⟩
  case round =>
    obtain ⟨i, rfl, hi2, hX, hg, hrn⟩ := hrel
    by_cases hlt2 : t.pos + i < s.size
    · rcases Bool.eq_false_or_eq_true (parB (bt s (t.pos + i))) with hb | hb
      · have HB := Lib.hid hb
        have HLT := Lib.hid hlt2
        clear hb
        go_wp2_with fail
        refine (ok45c s gl gf t i true _ hX hs (by omega) rfl (by omega) (decide_eq_true hlt2)).mono ?_; rintro e w' ⟨rfl, a1, rfl⟩
        go_wp2_with fail
        refine (peek47n s gl gf t i _ (hX.drewN _) hs rfl hlt2).mono ?_; rintro e w' ⟨rfl, a2, rfl⟩
        go_wp2_with fail
        refine (part46c _ true _ HB.out).mono ?_; rintro e w' ⟨rfl, rfl⟩
        go_wp2_with fail
        go_roundw
        case rel => exact ⟨i + 1, by go_num, by omega, hX.drewN _, fr_drewN hg _, by have h := hrn.out; rw [run_yes HLT.out HB.out] at h; exact h⟩
        case measure => simp [intOf]; omega
      · have HB := Lib.hid hb
        have HRUN : Hid (run s parB t.pos = t.pos + i) := by show run s parB t.pos = t.pos + i; rw [hrn.out, run_no HB.out]
        clear hb
        go_wp2_with fail
        refine (ok45c s gl gf t i true _ hX hs (by omega) rfl (by omega) (decide_eq_true hlt2)).mono ?_; rintro e w' ⟨rfl, a1, rfl⟩
        go_wp2_with fail
        refine (peek47n s gl gf t i _ (hX.drewN _) hs rfl hlt2).mono ?_; rintro e w' ⟨rfl, a2, rfl⟩
        go_wp2_with fail
        refine (part46c _ false _ HB.out).mono ?_; rintro e w' ⟨rfl, rfl⟩
        have k1 := hX.c1
        have f1 := hX.fr 1
        have e2 : IntKind.i64.wrap ((t.pos : Int) + (i : Int)) = (t.pos : Int) + (i : Int) := IntWalk.i64_in _ (by omega)
        have e4 : ((t.pos : Int) + (i : Int)).toNat = t.pos + i := by omega
        have e5 : (0 : Int) ≤ (t.pos : Int) := by omega
        have e6 : (t.pos : Int) ≤ (t.pos : Int) + (i : Int) := by omega
        have e7 : (t.pos : Int) + (i : Int) ≤ (s.size : Int) := by omega
        go_wp2_with fail
        refine still_tail (fun W4 => LX W4 gl gf s { t with kind := kIdent } ∧ w.grownBy W4 (some gl)) ⟨((hX.drewN _).kind kIdent).drew, fr_drew (fr_set (fr_drewN hg _) 1 _)⟩ 22 (by kernel_rfl) (by kernel_rfl) ?_
        rintro W4 ⟨hX4, hg4⟩
        have c0s := hX4.c0
        have c9s := hX4.c9
        have cfs := hX4.fb
        simp only [List.take_succ_cons, List.take_zero, List.drop_succ_cons, List.drop_zero]
        repeat still_step
        refine wpStill_nil ?_
        have k5 := hX4.c5
        have f5 := hX4.fr 5
        go_wp2_with fail
        refine (skip2 s gl gf _ i _ (hX4.txt (s.extract t.pos (t.pos + i))) hs rfl (show t.pos + i ≤ s.size by omega)).mono ?_; rintro e w5 ⟨rfl, hX5, hg5⟩
        go_wp2_with fail
        refine bodyPost_ret (results_none rfl _ _ _) rfl (Or.inl ⟨hn.out, rfl, ?_, fr_trans (fr_set hg4 5 _) hg5⟩)
        rw [HRUN.out]; exact hX5
    · have HRUN : Hid (run s parB t.pos = t.pos + i) := by show run s parB t.pos = t.pos + i; rw [hrn.out, run_end (by omega)]
      go_wp2_with fail
      refine (ok45c s gl gf t i false _ hX hs (by omega) rfl (by omega) (decide_eq_false hlt2)).mono ?_; rintro e w' ⟨rfl, a1, rfl⟩
      have k1 := hX.c1
      have f1 := hX.fr 1
      have e2 : IntKind.i64.wrap ((t.pos : Int) + (i : Int)) = (t.pos : Int) + (i : Int) := IntWalk.i64_in _ (by omega)
      have e4 : ((t.pos : Int) + (i : Int)).toNat = t.pos + i := by omega
      have e5 : (0 : Int) ≤ (t.pos : Int) := by omega
      have e6 : (t.pos : Int) ≤ (t.pos : Int) + (i : Int) := by omega
      have e7 : (t.pos : Int) + (i : Int) ≤ (s.size : Int) := by omega
      go_wp2_with fail
      refine still_tail (fun W4 => LX W4 gl gf s { t with kind := kIdent } ∧ w.grownBy W4 (some gl)) ⟨((hX.drewN _).kind kIdent).drew, fr_drew (fr_set (fr_drewN hg _) 1 _)⟩ 22 (by kernel_rfl) (by kernel_rfl) ?_
      rintro W4 ⟨hX4, hg4⟩
      have c0s := hX4.c0
      have c9s := hX4.c9
      have cfs := hX4.fb
      simp only [List.take_succ_cons, List.take_zero, List.drop_succ_cons, List.drop_zero]
      repeat still_step
      refine wpStill_nil ?_
      have k5 := hX4.c5
      have f5 := hX4.fr 5
      go_wp2_with fail
      refine (skip2 s gl gf _ i _ (hX4.txt (s.extract t.pos (t.pos + i))) hs rfl (show t.pos + i ≤ s.size by omega)).mono ?_; rintro e w5 ⟨rfl, hX5, hg5⟩
      go_wp2_with fail
      refine bodyPost_ret (results_none rfl _ _ _) rfl (Or.inl ⟨hn.out, rfl, ?_, fr_trans (fr_set hg4 5 _) hg5⟩)
      rw [HRUN.out]; exact hX5

theorem field30 (s : ByteArray) (gl gf : Nat) (t : St) (w : World) (hP : Hid (PL s)) (hL : LX w gl gf s t) (hp : t.pos ≤ s.size) (hcl : Hid (Clr t)) :
    Calls Tryz.prog 30 #[.pointer (some ⟨gl, 0, none⟩), .bool false] w (FieldPost s gl gf t w) := by
  rcases Bool.eq_false_or_eq_true (parB (bt s t.pos)) with h | h
  · exact field30_id s gl gf t w hP hL hp h
  · exact field30_tok s gl gf t w hP hL hp hcl h
end Go.Proofs.YtahcbeofaeflgaaGreatDoor
namespace Go.Proofs.YtahcbeofaeflgaaGreatDoor
open Go.RowKit

theorem pre_mark (s : ByteArray) (k : Nat) (h : markB (bt s k) = true) : (preP s k).2.2 = true := by
  have h0 : inP (bt s k) = false := by
    unfold markB at h
    rcases of_decide_eq_true h with h | h <;> rw [h] <;> rfl
  have hn : preN s k = 0 := by unfold preN; rw [if_neg (by rw [h0]; decide)]
  unfold preP
  rw [hn, Nat.add_zero, if_pos h]
  rfl

theorem one10 (s : ByteArray) (k : Nat) (A : Option Addr) (n c : Nat) (k1 k2 : ByteArray) (w : World) (hs : s.size ≤ 2000) (hk : k < s.size) (hn : n ≤ 100000) (hv : Hid (Prev w A n c k1 k2)) :
    Calls Tryz.prog 10 #[.string s, .int .i64 (k : Int), .slice A n c] w fun e w' => OnePost s k k1 k2 w e w' := by
  rcases Bool.eq_false_or_eq_true (dotB s k k1 k2) with Z1 | Z1
  · exact one10_dot s k A n c k1 k2 w hs hk hn hv Z1
  rcases Bool.eq_false_or_eq_true (parP s k) with Z2 | Z2
  · exact one10_par s k A n c k1 k2 w hs hk hn hv Z1 Z2
  rcases Bool.eq_false_or_eq_true (nmB s k k1) with Z3 | Z3
  · refine one10_num s k A n c k1 k2 w hs hk hn hv ?_ Z1 Z2 Z3
    show bt s k ≠ 64
    intro h
    simp [nmB, h, digB] at Z3
  have hdg : digB (bt s k) = false := by
    rcases Bool.eq_false_or_eq_true (digB (bt s k)) with h | h
    · simp [nmB, h] at Z3
    · exact h
  rcases Bool.eq_false_or_eq_true (markB (bt s k) || letB (bt s k)) with Z4 | Z4
  · have h64 : bt s k ≠ 64 := by
      intro h
      rw [h] at Z4
      exact absurd Z4 (by decide)
    have h46 : bt s k ≠ 46 := by
      intro h
      rw [h] at Z4
      exact absurd Z4 (by decide)
    rcases Bool.eq_false_or_eq_true (preP s k).2.2 with HQ | HQ
    · rcases Bool.eq_false_or_eq_true (preP s k).2.1 with HPB | HPB
      · exact one10_litb s k A n c k1 k2 w hs hk hn hv h64 h46 hdg HQ HPB Z1 Z2 Z3 Z4
      · exact one10_lits s k A n c k1 k2 w hs hk hn hv h64 h46 hdg HQ HPB Z1 Z2 Z3 Z4
    · have hl : letB (bt s k) = true := by
        rcases Bool.eq_false_or_eq_true (markB (bt s k)) with h | h
        · exact absurd (pre_mark s k h) (by rw [HQ]; decide)
        · rw [h] at Z4; exact Z4
      exact one10_wor s k A n c k1 k2 w hs hk hn hv h64 h46 hdg HQ hl Z1 Z2 Z3 Z4
  · by_cases h46 : bt s k = 46
    · have h64 : bt s k ≠ 64 := by omega
      rcases Bool.eq_false_or_eq_true (digB (bt s (k + 1))) with hd | hd
      · have hnd : ndB k1 = true := by
          rcases Bool.eq_false_or_eq_true (ndB k1) with h | h
          · exact h
          · simp [nmB, h46, hd, h] at Z3
        exact one10_sig46b s k A n c k1 k2 w hs hk hn hv h64 h46 hd hnd Z1 Z2 Z3 Z4
      · exact one10_sig46a s k A n c k1 k2 w hs hk hn hv h64 h46 hd Z1 Z2 Z3 Z4
    · exact one10_sig s k A n c k1 k2 w hs hk hn hv h46 hdg Z1 Z2 Z3 Z4
end Go.Proofs.YtahcbeofaeflgaaGreatDoor
namespace Go.Proofs.YtahcbeofaeflgaaGreatDoor
open Go.RowKit

theorem oneP_bd {s : ByteArray} {k : Nat} {k1 k2 : ByteArray} {x : Tk} (hk : k < s.size) (h : oneP s k k1 k2 = some x) : k < x.te ∧ x.te ≤ s.size := by
  unfold oneP at h
  split at h
  next hd =>
    injection h with h; subst h
    have hp : parB (bt s k) = true := by simp [dotB] at hd; exact hd.2
    exact ⟨run_gt hk hp, run_le s parB k (by omega)⟩
  next =>
    split at h
    next =>
      injection h with h; subst h
      have := run_ge s parB (k + 1)
      exact ⟨by simp only; omega, run_le s parB (k + 1) (by omega)⟩
    next =>
      split at h
      next hn =>
        split at h
        next => cases h
        next =>
          injection h with h; subst h
          have := numP_bd s k hk (by
            simp only [nmB, Bool.or_eq_true, Bool.and_eq_true, decide_eq_true_eq] at hn
            rcases hn with h | h
            · exact Or.inl h
            · exact Or.inr h.1.1)
          exact ⟨this.1, this.2.1⟩
      next =>
        split at h
        next hm =>
          split at h
          next hq =>
            unfold litP at h
            obtain ⟨⟨e, v⟩, h1, h2⟩ := Option.map_eq_some_iff.1 h
            subst h2
            have := quoP_bd s _ e v (lit_mark s k hq) h1
            exact ⟨by simp only; omega, this.2⟩
          next hq =>
            injection h with h; subst h
            have hl : letB (bt s k) = true := by
              rcases Bool.eq_false_or_eq_true (markB (bt s k)) with h2 | h2
              · exact absurd (pre_mark s k h2) hq
              · rw [h2] at hm; exact hm
            have h3 := run_gt hk (par_let hl)
            have h4 := run_le s parB k (by omega)
            unfold wordP
            split
            · exact ⟨h3, h4⟩
            · exact ⟨h3, h4⟩
        next =>
          split at h
          next => cases h
          next hz =>
            injection h with h; subst h
            have := sign_bd s k hk
            exact ⟨by simp only; omega, this⟩

theorem blank_run (s : ByteArray) (k : Nat) : blankP s (run s spB k) = blankP s k := by
  fun_induction run s spB k with
  | case1 k h hp ih =>
    rw [ih, blank_space h (by unfold spB at hp; exact of_decide_eq_true hp)]
  | case2 => rfl
  | case3 => rfl
theorem run_sp_stop (s : ByteArray) (k : Nat) (_hk : k ≤ s.size) : spB (bt s (run s spB k)) = false := by
  rcases Nat.lt_or_ge (run s spB k) s.size with h | h
  · exact run_stop s spB k h
  · rw [bt_ge h]; rfl

/-- The state that a call of 'nextToken' sets out from. -/
def St.clr (t : St) : St := { kind := ⟨#[]⟩, com := .slice none 0 0, sp := ⟨#[]⟩, raw := ⟨#[]⟩, txt := ⟨#[]⟩, base := 0, tp := 0, te := 0, pos := t.pos, last := t.kind, dot := t.dot }
theorem own_keep {wr w' : World} {B : Nat} {e : TypeId} {sz : Nat} {v : Value} {n : Nat} {xs : List Value} {gl : Nat} (h : wr.ownsRow B e sz v n xs) (hg : wr.grownBy w' (some gl)) (hlt : gl < B) : w'.ownsRow B e sz v n xs := by
  refine h.kept hg ?_
  rcases hv : v.ownBlock with _ | k
  · exact Or.inl rfl
  · refine Or.inr ?_
    have := (World.ownsRow.lt h k hv).1
    intro hk; injection hk with hk; omega

/-- What a token's reading leaves. -/
def Fin (s : ByteArray) (t : St) (k2 : ByteArray) (q : Nat) (t3 : St) : Prop :=
  (s.size ≤ q ∧ t3.kind = kEof ∧ t3.txt = ⟨#[]⟩ ∧ t3.base = 0 ∧ t3.pos = q) ∨
  (∃ x : Tk, q < s.size ∧ oneP s q t.kind k2 = some x ∧ t3.kind = x.kind ∧ t3.txt = x.txt ∧ t3.base = x.base ∧ t3.pos = x.te ∧ t3.dot = ((x.kind.toList == [46]) && ndB t.kind))
theorem Fin.bd {s : ByteArray} {t : St} {k2 : ByteArray} {q : Nat} {t3 : St} (h : Fin s t k2 q t3) (hq : q ≤ s.size) : q ≤ t3.pos ∧ t3.pos ≤ s.size := by
  rcases h with ⟨_, _, _, _, h⟩ | ⟨x, h1, h2, _, _, _, h, _⟩
  · omega
  · have := oneP_bd h1 h2; omega
/-- A slice, of whatever place. -/
def Com (v : Value) : Prop := ∃ A n c, v = .slice A n c
theorem own_com {w : World} {B : Nat} {e : TypeId} {sz : Nat} {v : Value} {n : Nat} {xs : List Value} (h : w.ownsRow B e sz v n xs) : Com v := by
  rcases h.2 with ⟨h1, _⟩ | ⟨g, cap, cur, h1, _⟩ <;> exact ⟨_, _, _, h1⟩
/-- What 'nextToken' comes to. -/
def NextPost (s : ByteArray) (gl gf : Nat) (t : St) (k2 : ByteArray) (w : World) (e : Ending) (w' : World) : Prop :=
  (((blankP s t.pos).2 = false ∨ (blankP s t.pos).2 = true ∧ (blankP s t.pos).1 < s.size ∧ oneP s (blankP s t.pos).1 t.kind k2 = none) ∧ Fault gl gf w e w') ∨
  ((blankP s t.pos).2 = true ∧ e = .returned (.tuple #[]) ∧ ∃ t3, Fin s t k2 (blankP s t.pos).1 t3 ∧ t3.raw = s.extract (blankP s t.pos).1 t3.pos ∧ t3.tp = (blankP s t.pos).1 ∧ t3.te = t3.pos ∧ Com t3.com ∧ LX w' gl gf s t3 ∧ w.grownBy w' (some gl))

/-- Behind the token's own call. -/
theorem tok_fin {s : ByteArray} {gl gf : Nat} {t T : St} {k2 : ByteArray} {w w' : World} {e : Ending} (hT : Clr T) (hl : T.last = t.kind) (hd : T.dot = ((t.kind.toList == [46]) && ndB k2)) (hno : dotB s T.pos t.kind k2 = false) (hq : TokPost s gl gf T w e w') :
    (T.pos < s.size ∧ oneP s T.pos t.kind k2 = none ∧ Fault gl gf w e w') ∨
    (e = .returned (.tuple #[]) ∧ ∃ t3, LX w' gl gf s t3 ∧ w.grownBy w' (some gl) ∧ (t3.tp = T.tp ∧ t3.com = T.com) ∧ Fin s t k2 T.pos { t3 with dot := if T.dot = true then false else t3.dot }) := by
  have hone : oneP s T.pos t.kind k2 = oneQ s T.pos T.last := by rw [oneP_q, if_neg (by rw [hno]; decide), hl]
  rcases hq with ⟨h1, h2, h3⟩ | ⟨x, h1, h2, h3, h4, h5⟩ | ⟨h1, h2, h3, h4⟩
  · exact Or.inl ⟨h1, hone.trans h2, h3⟩
  · refine Or.inr ⟨h3, T.tok x, h4, h5, ⟨rfl, rfl⟩, Or.inr ⟨x, h1, hone.trans h2, rfl, rfl, rfl, rfl, ?_⟩⟩
    show (if T.dot = true then false else (if x.kind.toList = [46] then ndB T.last else T.dot)) = _
    rcases Bool.eq_false_or_eq_true T.dot with h | h
    · rw [if_pos h]
      rw [h] at hd
      have h6 : t.kind.toList = [46] := by
        rcases Bool.eq_false_or_eq_true (t.kind.toList == [46]) with h7 | h7
        · simpa using h7
        · rw [h7] at hd; cases hd
      have h8 : ndB t.kind = false := by simp [ndB, h6, kIdent, kParam]
      rw [h8]; simp
    · rw [if_neg (by rw [h]; decide), hl, h]
      by_cases h9 : x.kind.toList = [46]
      · rw [if_pos h9]; simp [h9]
      · rw [if_neg h9]
        have : (x.kind.toList == [46]) = false := by simpa using h9
        rw [this]; rfl
  · refine Or.inr ⟨h2, _, h3, h4, ⟨rfl, rfl⟩, Or.inl ⟨h1, rfl, hT.txt, hT.base, rfl⟩⟩
end Go.Proofs.YtahcbeofaeflgaaGreatDoor
namespace Go.Proofs.YtahcbeofaeflgaaGreatDoor
open Go.RowKit

theorem sign_le (s : ByteArray) (k : Nat) : (signP s k).size ≤ 2 := by
  unfold signP
  split
  next p hp =>
    have h1 := List.mem_of_find?_eq_some hp
    have h2 : (twoL.all fun p => decide (p.size ≤ 2)) = true := by kernel_rfl
    exact of_decide_eq_true (List.all_eq_true.1 h2 p h1)
  next =>
    split
    · rw [ByteArray.size_extract]; omega
    · exact Nat.zero_le _
theorem kw_eof : kwB kEof = false := by
  unfold kwB
  rw [ByteArray.toList_eq]
  kernel_rfl
theorem kind_ne {a b : ByteArray} (h : decide (a.data = b.data) = false) : a ≠ b := by
  intro e
  subst e
  simp at h
theorem ne_ident : kIdent ≠ kEof := kind_ne (by decide)
theorem ne_param : kParam ≠ kEof := kind_ne (by decide)
theorem ne_int : kInt ≠ kEof := kind_ne (by decide)
theorem ne_float : kFloat ≠ kEof := kind_ne (by decide)
/-- No token is of the end's kind. -/
theorem oneP_kind {s : ByteArray} {k : Nat} {k1 k2 : ByteArray} {x : Tk} (h : oneP s k k1 k2 = some x) : x.kind ≠ kEof := by
  unfold oneP at h
  split at h
  next => injection h with h; subst h; exact ne_ident
  next =>
    split at h
    next => injection h with h; subst h; exact ne_param
    next =>
      split at h
      next =>
        split at h
        next => cases h
        next =>
          injection h with h; subst h
          show (numP s k).2.1 ≠ kEof
          unfold numP
          split
          · exact ne_int
          · split
            · exact ne_int
            · exact ne_float
      next =>
        split at h
        next =>
          split at h
          next =>
            unfold litP at h
            obtain ⟨⟨e, v⟩, _, h2⟩ := Option.map_eq_some_iff.1 h
            subst h2
            simp only
            split
            · exact kind_ne (by decide)
            · exact kind_ne (by decide)
          next =>
            injection h with h; subst h
            unfold wordP
            split
            next hkw =>
              intro he
              have he' : upB (s.extract k (run s parB k)) = kEof := he
              rw [he', kw_eof] at hkw
              cases hkw
            next => exact ne_ident
        next =>
          split at h
          next => cases h
          next =>
            injection h with h; subst h
            intro he
            have h1 := sign_le s k
            have he' : signP s k = kEof := he
            rw [he'] at h1
            exact absurd h1 (by decide)
end Go.Proofs.YtahcbeofaeflgaaGreatDoor
