/- Lemmas towards the statement FnLexCardSaid, conditions: as each theorem says. -/
import Derived.Test.YtahcbeofaeflgaaGreatDoorA6
namespace Go.Proofs.YtahcbeofaeflgaaGreatDoor
open Go.RowKit

def kInt : ByteArray := ⟨#[60, 105, 110, 116, 62]⟩
def kFloat : ByteArray := ⟨#[60, 102, 108, 111, 97, 116, 62]⟩

/-- Behind digits that end at e: an exponent, if one stands there. -/
def expoP (s : ByteArray) (e : Nat) (int : Bool) : Nat × Bool :=
  if bt s e = 101 ∨ bt s e = 69 then
    (if bt s (e + 1) = 43 ∨ bt s (e + 1) = 45 then (if digB (bt s (e + 2)) = true then (run s digB (e + 2), false) else (e, int))
     else (if digB (bt s (e + 1)) = true then (run s digB (e + 1), false) else (e, int)))
  else (e, int)
def fracP (s : ByteArray) (i : Nat) : Nat × Bool := expoP s (run s digB i) false
def intP (s : ByteArray) (i : Nat) : Nat × Bool := if bt s (run s digB i) = 46 then fracP s (run s digB i + 1) else expoP s (run s digB i) true
def isHex (s : ByteArray) (k : Nat) : Prop := bt s k = 48 ∧ (bt s (k + 1) = 120 ∨ bt s (k + 1) = 88)
instance (s : ByteArray) (k : Nat) : Decidable (isHex s k) := by unfold isHex; infer_instance
/-- Where a number ends, its kind and its base. -/
def numP (s : ByteArray) (k : Nat) : Nat × ByteArray × Int :=
  if isHex s k then (run s hexB (k + 2), kInt, 16)
  else if (intP s k).2 = true then ((intP s k).1, kInt, 10) else ((intP s k).1, kFloat, 0)

theorem ret_num {s : ByteArray} {k e : Nat} {b : ByteArray} {c : Int} (h : numP s k = (e, b, c)) :
    Ending.returned (.tuple #[.int .i64 (e : Int), .string b, .int .i64 c]) = .returned (.tuple #[.int .i64 ((numP s k).1 : Int), .string (numP s k).2.1, .int .i64 (numP s k).2.2]) := by rw [h]

theorem lt_of_bt {s : ByteArray} {k : Nat} (h : bt s k ≠ 256) : k < s.size := by
  rcases Nat.lt_or_ge k s.size with hl | hl
  · exact hl
  · exact absurd (bt_ge hl) h

theorem nb {a : Nat} {c : Nat} (h : a ≠ c) : ((a : Int) == (c : Int)) = false := by rw [beq_eq_false_iff_ne]; omega
theorem yb {a : Nat} {c : Nat} (h : a = c) : ((a : Int) == (c : Int)) = true := by rw [beq_iff_eq]; omega

set_option maxHeartbeats 4000000 in
theorem number21_dot (s : ByteArray) (k : Nat) (w : World) (hs : s.size ≤ 2147483000) (hk : k ≤ s.size) (h0 : ¬ isHex s k) (hdot : bt s (run s digB k) = 46) :
    Calls Tryz.prog 21 #[.string s, .int .i64 (k : Int)] w fun e w' => e = .returned (.tuple #[.int .i64 ((numP s k).1 : Int), .string (numP s k).2.1, .int .i64 (numP s k).2.2]) ∧ w = w' := by
  have HB : ∀ (q : Nat) (h : q < s.size), s[q].toNat = bt s q := fun q h => (bt_lt h).symm
  have hx1 : stB s k ⟨#[48, 120]⟩ = false := by
    rw [stB_two, ← Bool.not_eq_true, Bool.and_eq_true, beq_iff_eq, beq_iff_eq]; unfold isHex at h0; intro h; exact h0 ⟨h.1, Or.inl h.2⟩
  have hx2 : stB s k ⟨#[48, 88]⟩ = false := by
    rw [stB_two, ← Bool.not_eq_true, Bool.and_eq_true, beq_iff_eq, beq_iff_eq]; unfold isHex at h0; intro h; exact h0 ⟨h.1, Or.inr h.2⟩
  have he1 := run_le s digB k hk
  generalize hr : run s digB k = e1 at he1 hdot
  have Hr := Lib.hid hr
  clear hr
  have hl1 : e1 < s.size := lt_of_bt (by omega)
  have d1 : ((bt s e1 : Int) == 46) = true := yb (c := 46) hdot
  have he2 := run_le s digB (e1 + 1) (by omega)
  generalize hr2 : run s digB (e1 + 1) = e2 at he2
  have Hr2 := Lib.hid hr2
  clear hr2
  have HN0 : Hid (intP s k = expoP s e2 false) := by
    show intP s k = expoP s e2 false
    unfold intP fracP; rw [Hr.out, if_pos hdot, Hr2.out]
  clear hdot
  by_cases hex : bt s e2 = 101 ∨ bt s e2 = 69
  · have hl2 : e2 < s.size := lt_of_bt (by omega)
    rcases (show (bt s (e2 + 1) = 43 ∨ bt s (e2 + 1) = 45) ∨ ¬ (bt s (e2 + 1) = 43 ∨ bt s (e2 + 1) = 45) from by omega) with hsg | hsg
    · have hl3 : e2 + 1 < s.size := lt_of_bt (by omega)
      by_cases hdg : digB (bt s (e2 + 2)) = true
      · have hl4 : e2 + 2 < s.size := lt_of_bt (by intro h; rw [h] at hdg; exact absurd hdg (by decide))
        have hnum : numP s k = (run s digB (e2 + 2), kFloat, 0) := by
          have hx := HN0.out
          have he : intP s k = (run s digB (e2 + 2), false) := by rw [hx]; unfold expoP; rw [if_pos hex, if_pos hsg, if_pos hdg]
          simp [numP, h0, he]
        have Hhex := Lib.hid hex
        have Hsg := Lib.hid hsg
        clear hex hsg
        rcases Hhex.out with he | he
        · have x1 : ((bt s e2 : Int) == 101) = true := yb (c := 101) he
          clear he
          rcases Hsg.out with hg | hg
          · have y1 : ((bt s (e2 + 1) : Int) == 43) = true := yb (c := 43) hg
            clear hg
            have HN := Lib.hid hnum
            clear hnum h0 HN0
            go_enter Tryz.func21, Tryz.ntmps21
            go_wp2_with (go_at_call 14; refine (starts14 s k _ _ (by omega) (by decide) (by omega)).mono ?_; rintro e w' ⟨rfl, rfl⟩)
            refine (while15_20 s k _ (by omega) hk).mono ?_; rw [Hr.out]; rintro e w' ⟨rfl, rfl⟩
            go_wp2_with fail
            refine (while15_20 s (e1 + 1) _ (by omega) (by omega)).mono ?_; rw [Hr2.out]; rintro e w' ⟨rfl, rfl⟩
            go_wp2_with fail
            refine (digit20 _ _).mono ?_; rintro e w' ⟨rfl, rfl⟩
            go_wp2_with fail
            refine (while15_20 s (e2 + 2) _ (by omega) (by omega)).mono ?_; rintro e w' ⟨rfl, rfl⟩
            go_wp2_with fail
            go_ret3
            exact ⟨ret_num HN.out, rfl⟩
          · have y1 : ((bt s (e2 + 1) : Int) == 43) = false := nb (c := 43) (by omega)
            have y2 : ((bt s (e2 + 1) : Int) == 45) = true := yb (c := 45) hg
            clear hg
            have HN := Lib.hid hnum
            clear hnum h0 HN0
            go_enter Tryz.func21, Tryz.ntmps21
            go_wp2_with (go_at_call 14; refine (starts14 s k _ _ (by omega) (by decide) (by omega)).mono ?_; rintro e w' ⟨rfl, rfl⟩)
            refine (while15_20 s k _ (by omega) hk).mono ?_; rw [Hr.out]; rintro e w' ⟨rfl, rfl⟩
            go_wp2_with fail
            refine (while15_20 s (e1 + 1) _ (by omega) (by omega)).mono ?_; rw [Hr2.out]; rintro e w' ⟨rfl, rfl⟩
            go_wp2_with fail
            refine (digit20 _ _).mono ?_; rintro e w' ⟨rfl, rfl⟩
            go_wp2_with fail
            refine (while15_20 s (e2 + 2) _ (by omega) (by omega)).mono ?_; rintro e w' ⟨rfl, rfl⟩
            go_wp2_with fail
            go_ret3
            exact ⟨ret_num HN.out, rfl⟩
        · have x1 : ((bt s e2 : Int) == 101) = false := nb (c := 101) (by omega)
          have x2 : ((bt s e2 : Int) == 69) = true := yb (c := 69) he
          clear he
          rcases Hsg.out with hg | hg
          · have y1 : ((bt s (e2 + 1) : Int) == 43) = true := yb (c := 43) hg
            clear hg
            have HN := Lib.hid hnum
            clear hnum h0 HN0
            go_enter Tryz.func21, Tryz.ntmps21
            go_wp2_with (go_at_call 14; refine (starts14 s k _ _ (by omega) (by decide) (by omega)).mono ?_; rintro e w' ⟨rfl, rfl⟩)
            refine (while15_20 s k _ (by omega) hk).mono ?_; rw [Hr.out]; rintro e w' ⟨rfl, rfl⟩
            go_wp2_with fail
            refine (while15_20 s (e1 + 1) _ (by omega) (by omega)).mono ?_; rw [Hr2.out]; rintro e w' ⟨rfl, rfl⟩
            go_wp2_with fail
            refine (digit20 _ _).mono ?_; rintro e w' ⟨rfl, rfl⟩
            go_wp2_with fail
            refine (while15_20 s (e2 + 2) _ (by omega) (by omega)).mono ?_; rintro e w' ⟨rfl, rfl⟩
            go_wp2_with fail
            go_ret3
            exact ⟨ret_num HN.out, rfl⟩
          · have y1 : ((bt s (e2 + 1) : Int) == 43) = false := nb (c := 43) (by omega)
            have y2 : ((bt s (e2 + 1) : Int) == 45) = true := yb (c := 45) hg
            clear hg
            have HN := Lib.hid hnum
            clear hnum h0 HN0
            go_enter Tryz.func21, Tryz.ntmps21
            go_wp2_with (go_at_call 14; refine (starts14 s k _ _ (by omega) (by decide) (by omega)).mono ?_; rintro e w' ⟨rfl, rfl⟩)
            refine (while15_20 s k _ (by omega) hk).mono ?_; rw [Hr.out]; rintro e w' ⟨rfl, rfl⟩
            go_wp2_with fail
            refine (while15_20 s (e1 + 1) _ (by omega) (by omega)).mono ?_; rw [Hr2.out]; rintro e w' ⟨rfl, rfl⟩
            go_wp2_with fail
            refine (digit20 _ _).mono ?_; rintro e w' ⟨rfl, rfl⟩
            go_wp2_with fail
            refine (while15_20 s (e2 + 2) _ (by omega) (by omega)).mono ?_; rintro e w' ⟨rfl, rfl⟩
            go_wp2_with fail
            go_ret3
            exact ⟨ret_num HN.out, rfl⟩
      · have hdg2 : digB (bt s (e2 + 2)) = false := by simpa using hdg
        have hnum : numP s k = (e2, kFloat, 0) := by
          have hx := HN0.out
          have he : intP s k = (e2, false) := by rw [hx]; unfold expoP; rw [if_pos hex, if_pos hsg, if_neg hdg]
          simp [numP, h0, he]
        clear hdg
        have Hhex := Lib.hid hex
        have Hsg := Lib.hid hsg
        clear hex hsg
        by_cases hl4 : e2 + 2 < s.size
        · skip
          rcases Hhex.out with he | he
          · have x1 : ((bt s e2 : Int) == 101) = true := yb (c := 101) he
            clear he
            rcases Hsg.out with hg | hg
            · have y1 : ((bt s (e2 + 1) : Int) == 43) = true := yb (c := 43) hg
              clear hg
              have HN := Lib.hid hnum
              clear hnum h0 HN0
              go_enter Tryz.func21, Tryz.ntmps21
              go_wp2_with (go_at_call 14; refine (starts14 s k _ _ (by omega) (by decide) (by omega)).mono ?_; rintro e w' ⟨rfl, rfl⟩)
              refine (while15_20 s k _ (by omega) hk).mono ?_; rw [Hr.out]; rintro e w' ⟨rfl, rfl⟩
              go_wp2_with fail
              refine (while15_20 s (e1 + 1) _ (by omega) (by omega)).mono ?_; rw [Hr2.out]; rintro e w' ⟨rfl, rfl⟩
              go_wp2_with fail
              refine (digit20 _ _).mono ?_; rintro e w' ⟨rfl, rfl⟩
              go_wp2_with fail
              go_ret3
              exact ⟨ret_num HN.out, rfl⟩
            · have y1 : ((bt s (e2 + 1) : Int) == 43) = false := nb (c := 43) (by omega)
              have y2 : ((bt s (e2 + 1) : Int) == 45) = true := yb (c := 45) hg
              clear hg
              have HN := Lib.hid hnum
              clear hnum h0 HN0
              go_enter Tryz.func21, Tryz.ntmps21
              go_wp2_with (go_at_call 14; refine (starts14 s k _ _ (by omega) (by decide) (by omega)).mono ?_; rintro e w' ⟨rfl, rfl⟩)
              refine (while15_20 s k _ (by omega) hk).mono ?_; rw [Hr.out]; rintro e w' ⟨rfl, rfl⟩
              go_wp2_with fail
              refine (while15_20 s (e1 + 1) _ (by omega) (by omega)).mono ?_; rw [Hr2.out]; rintro e w' ⟨rfl, rfl⟩
              go_wp2_with fail
              refine (digit20 _ _).mono ?_; rintro e w' ⟨rfl, rfl⟩
              go_wp2_with fail
              go_ret3
              exact ⟨ret_num HN.out, rfl⟩
          · have x1 : ((bt s e2 : Int) == 101) = false := nb (c := 101) (by omega)
            have x2 : ((bt s e2 : Int) == 69) = true := yb (c := 69) he
            clear he
            rcases Hsg.out with hg | hg
            · have y1 : ((bt s (e2 + 1) : Int) == 43) = true := yb (c := 43) hg
              clear hg
              have HN := Lib.hid hnum
              clear hnum h0 HN0
              go_enter Tryz.func21, Tryz.ntmps21
              go_wp2_with (go_at_call 14; refine (starts14 s k _ _ (by omega) (by decide) (by omega)).mono ?_; rintro e w' ⟨rfl, rfl⟩)
              refine (while15_20 s k _ (by omega) hk).mono ?_; rw [Hr.out]; rintro e w' ⟨rfl, rfl⟩
              go_wp2_with fail
              refine (while15_20 s (e1 + 1) _ (by omega) (by omega)).mono ?_; rw [Hr2.out]; rintro e w' ⟨rfl, rfl⟩
              go_wp2_with fail
              refine (digit20 _ _).mono ?_; rintro e w' ⟨rfl, rfl⟩
              go_wp2_with fail
              go_ret3
              exact ⟨ret_num HN.out, rfl⟩
            · have y1 : ((bt s (e2 + 1) : Int) == 43) = false := nb (c := 43) (by omega)
              have y2 : ((bt s (e2 + 1) : Int) == 45) = true := yb (c := 45) hg
              clear hg
              have HN := Lib.hid hnum
              clear hnum h0 HN0
              go_enter Tryz.func21, Tryz.ntmps21
              go_wp2_with (go_at_call 14; refine (starts14 s k _ _ (by omega) (by decide) (by omega)).mono ?_; rintro e w' ⟨rfl, rfl⟩)
              refine (while15_20 s k _ (by omega) hk).mono ?_; rw [Hr.out]; rintro e w' ⟨rfl, rfl⟩
              go_wp2_with fail
              refine (while15_20 s (e1 + 1) _ (by omega) (by omega)).mono ?_; rw [Hr2.out]; rintro e w' ⟨rfl, rfl⟩
              go_wp2_with fail
              refine (digit20 _ _).mono ?_; rintro e w' ⟨rfl, rfl⟩
              go_wp2_with fail
              go_ret3
              exact ⟨ret_num HN.out, rfl⟩
        · skip
          rcases Hhex.out with he | he
          · have x1 : ((bt s e2 : Int) == 101) = true := yb (c := 101) he
            clear he
            rcases Hsg.out with hg | hg
            · have y1 : ((bt s (e2 + 1) : Int) == 43) = true := yb (c := 43) hg
              clear hg
              have HN := Lib.hid hnum
              clear hnum h0 HN0
              go_enter Tryz.func21, Tryz.ntmps21
              go_wp2_with (go_at_call 14; refine (starts14 s k _ _ (by omega) (by decide) (by omega)).mono ?_; rintro e w' ⟨rfl, rfl⟩)
              refine (while15_20 s k _ (by omega) hk).mono ?_; rw [Hr.out]; rintro e w' ⟨rfl, rfl⟩
              go_wp2_with fail
              refine (while15_20 s (e1 + 1) _ (by omega) (by omega)).mono ?_; rw [Hr2.out]; rintro e w' ⟨rfl, rfl⟩
              go_wp2_with fail
              go_ret3
              exact ⟨ret_num HN.out, rfl⟩
            · have y1 : ((bt s (e2 + 1) : Int) == 43) = false := nb (c := 43) (by omega)
              have y2 : ((bt s (e2 + 1) : Int) == 45) = true := yb (c := 45) hg
              clear hg
              have HN := Lib.hid hnum
              clear hnum h0 HN0
              go_enter Tryz.func21, Tryz.ntmps21
              go_wp2_with (go_at_call 14; refine (starts14 s k _ _ (by omega) (by decide) (by omega)).mono ?_; rintro e w' ⟨rfl, rfl⟩)
              refine (while15_20 s k _ (by omega) hk).mono ?_; rw [Hr.out]; rintro e w' ⟨rfl, rfl⟩
              go_wp2_with fail
              refine (while15_20 s (e1 + 1) _ (by omega) (by omega)).mono ?_; rw [Hr2.out]; rintro e w' ⟨rfl, rfl⟩
              go_wp2_with fail
              go_ret3
              exact ⟨ret_num HN.out, rfl⟩
          · have x1 : ((bt s e2 : Int) == 101) = false := nb (c := 101) (by omega)
            have x2 : ((bt s e2 : Int) == 69) = true := yb (c := 69) he
            clear he
            rcases Hsg.out with hg | hg
            · have y1 : ((bt s (e2 + 1) : Int) == 43) = true := yb (c := 43) hg
              clear hg
              have HN := Lib.hid hnum
              clear hnum h0 HN0
              go_enter Tryz.func21, Tryz.ntmps21
              go_wp2_with (go_at_call 14; refine (starts14 s k _ _ (by omega) (by decide) (by omega)).mono ?_; rintro e w' ⟨rfl, rfl⟩)
              refine (while15_20 s k _ (by omega) hk).mono ?_; rw [Hr.out]; rintro e w' ⟨rfl, rfl⟩
              go_wp2_with fail
              refine (while15_20 s (e1 + 1) _ (by omega) (by omega)).mono ?_; rw [Hr2.out]; rintro e w' ⟨rfl, rfl⟩
              go_wp2_with fail
              go_ret3
              exact ⟨ret_num HN.out, rfl⟩
            · have y1 : ((bt s (e2 + 1) : Int) == 43) = false := nb (c := 43) (by omega)
              have y2 : ((bt s (e2 + 1) : Int) == 45) = true := yb (c := 45) hg
              clear hg
              have HN := Lib.hid hnum
              clear hnum h0 HN0
              go_enter Tryz.func21, Tryz.ntmps21
              go_wp2_with (go_at_call 14; refine (starts14 s k _ _ (by omega) (by decide) (by omega)).mono ?_; rintro e w' ⟨rfl, rfl⟩)
              refine (while15_20 s k _ (by omega) hk).mono ?_; rw [Hr.out]; rintro e w' ⟨rfl, rfl⟩
              go_wp2_with fail
              refine (while15_20 s (e1 + 1) _ (by omega) (by omega)).mono ?_; rw [Hr2.out]; rintro e w' ⟨rfl, rfl⟩
              go_wp2_with fail
              go_ret3
              exact ⟨ret_num HN.out, rfl⟩
    · skip
      by_cases hdg : digB (bt s (e2 + 1)) = true
      · have hl4 : e2 + 1 < s.size := lt_of_bt (by intro h; rw [h] at hdg; exact absurd hdg (by decide))
        have hnum : numP s k = (run s digB (e2 + 1), kFloat, 0) := by
          have hx := HN0.out
          have he : intP s k = (run s digB (e2 + 1), false) := by rw [hx]; unfold expoP; rw [if_pos hex, if_neg hsg, if_pos hdg]
          simp [numP, h0, he]
        have Hhex := Lib.hid hex
        have Hsg := Lib.hid hsg
        clear hex hsg
        rcases Hhex.out with he | he
        · have x1 : ((bt s e2 : Int) == 101) = true := yb (c := 101) he
          clear he
          have y1 : ((bt s (e2 + 1) : Int) == 43) = false := nb (c := 43) (fun h => Hsg.out (Or.inl h))
          have y2 : ((bt s (e2 + 1) : Int) == 45) = false := nb (c := 45) (fun h => Hsg.out (Or.inr h))
          have HN := Lib.hid hnum
          clear hnum h0 HN0
          go_enter Tryz.func21, Tryz.ntmps21
          go_wp2_with (go_at_call 14; refine (starts14 s k _ _ (by omega) (by decide) (by omega)).mono ?_; rintro e w' ⟨rfl, rfl⟩)
          refine (while15_20 s k _ (by omega) hk).mono ?_; rw [Hr.out]; rintro e w' ⟨rfl, rfl⟩
          go_wp2_with fail
          refine (while15_20 s (e1 + 1) _ (by omega) (by omega)).mono ?_; rw [Hr2.out]; rintro e w' ⟨rfl, rfl⟩
          go_wp2_with fail
          refine (digit20 _ _).mono ?_; rintro e w' ⟨rfl, rfl⟩
          go_wp2_with fail
          refine (while15_20 s (e2 + 1) _ (by omega) (by omega)).mono ?_; rintro e w' ⟨rfl, rfl⟩
          go_wp2_with fail
          go_ret3
          exact ⟨ret_num HN.out, rfl⟩
        · have x1 : ((bt s e2 : Int) == 101) = false := nb (c := 101) (by omega)
          have x2 : ((bt s e2 : Int) == 69) = true := yb (c := 69) he
          clear he
          have y1 : ((bt s (e2 + 1) : Int) == 43) = false := nb (c := 43) (fun h => Hsg.out (Or.inl h))
          have y2 : ((bt s (e2 + 1) : Int) == 45) = false := nb (c := 45) (fun h => Hsg.out (Or.inr h))
          have HN := Lib.hid hnum
          clear hnum h0 HN0
          go_enter Tryz.func21, Tryz.ntmps21
          go_wp2_with (go_at_call 14; refine (starts14 s k _ _ (by omega) (by decide) (by omega)).mono ?_; rintro e w' ⟨rfl, rfl⟩)
          refine (while15_20 s k _ (by omega) hk).mono ?_; rw [Hr.out]; rintro e w' ⟨rfl, rfl⟩
          go_wp2_with fail
          refine (while15_20 s (e1 + 1) _ (by omega) (by omega)).mono ?_; rw [Hr2.out]; rintro e w' ⟨rfl, rfl⟩
          go_wp2_with fail
          refine (digit20 _ _).mono ?_; rintro e w' ⟨rfl, rfl⟩
          go_wp2_with fail
          refine (while15_20 s (e2 + 1) _ (by omega) (by omega)).mono ?_; rintro e w' ⟨rfl, rfl⟩
          go_wp2_with fail
          go_ret3
          exact ⟨ret_num HN.out, rfl⟩
      · have hdg2 : digB (bt s (e2 + 1)) = false := by simpa using hdg
        have hnum : numP s k = (e2, kFloat, 0) := by
          have hx := HN0.out
          have he : intP s k = (e2, false) := by rw [hx]; unfold expoP; rw [if_pos hex, if_neg hsg, if_neg hdg]
          simp [numP, h0, he]
        clear hdg
        have Hhex := Lib.hid hex
        have Hsg := Lib.hid hsg
        clear hex hsg
        by_cases hl4 : e2 + 1 < s.size
        · skip
          rcases Hhex.out with he | he
          · have x1 : ((bt s e2 : Int) == 101) = true := yb (c := 101) he
            clear he
            have y1 : ((bt s (e2 + 1) : Int) == 43) = false := nb (c := 43) (fun h => Hsg.out (Or.inl h))
            have y2 : ((bt s (e2 + 1) : Int) == 45) = false := nb (c := 45) (fun h => Hsg.out (Or.inr h))
            have HN := Lib.hid hnum
            clear hnum h0 HN0
            go_enter Tryz.func21, Tryz.ntmps21
            go_wp2_with (go_at_call 14; refine (starts14 s k _ _ (by omega) (by decide) (by omega)).mono ?_; rintro e w' ⟨rfl, rfl⟩)
            refine (while15_20 s k _ (by omega) hk).mono ?_; rw [Hr.out]; rintro e w' ⟨rfl, rfl⟩
            go_wp2_with fail
            refine (while15_20 s (e1 + 1) _ (by omega) (by omega)).mono ?_; rw [Hr2.out]; rintro e w' ⟨rfl, rfl⟩
            go_wp2_with fail
            refine (digit20 _ _).mono ?_; rintro e w' ⟨rfl, rfl⟩
            go_wp2_with fail
            go_ret3
            exact ⟨ret_num HN.out, rfl⟩
          · have x1 : ((bt s e2 : Int) == 101) = false := nb (c := 101) (by omega)
            have x2 : ((bt s e2 : Int) == 69) = true := yb (c := 69) he
            clear he
            have y1 : ((bt s (e2 + 1) : Int) == 43) = false := nb (c := 43) (fun h => Hsg.out (Or.inl h))
            have y2 : ((bt s (e2 + 1) : Int) == 45) = false := nb (c := 45) (fun h => Hsg.out (Or.inr h))
            have HN := Lib.hid hnum
            clear hnum h0 HN0
            go_enter Tryz.func21, Tryz.ntmps21
            go_wp2_with (go_at_call 14; refine (starts14 s k _ _ (by omega) (by decide) (by omega)).mono ?_; rintro e w' ⟨rfl, rfl⟩)
            refine (while15_20 s k _ (by omega) hk).mono ?_; rw [Hr.out]; rintro e w' ⟨rfl, rfl⟩
            go_wp2_with fail
            refine (while15_20 s (e1 + 1) _ (by omega) (by omega)).mono ?_; rw [Hr2.out]; rintro e w' ⟨rfl, rfl⟩
            go_wp2_with fail
            refine (digit20 _ _).mono ?_; rintro e w' ⟨rfl, rfl⟩
            go_wp2_with fail
            go_ret3
            exact ⟨ret_num HN.out, rfl⟩
        · skip
          rcases Hhex.out with he | he
          · have x1 : ((bt s e2 : Int) == 101) = true := yb (c := 101) he
            clear he
            have HN := Lib.hid hnum
            clear hnum h0 HN0
            go_enter Tryz.func21, Tryz.ntmps21
            go_wp2_with (go_at_call 14; refine (starts14 s k _ _ (by omega) (by decide) (by omega)).mono ?_; rintro e w' ⟨rfl, rfl⟩)
            refine (while15_20 s k _ (by omega) hk).mono ?_; rw [Hr.out]; rintro e w' ⟨rfl, rfl⟩
            go_wp2_with fail
            refine (while15_20 s (e1 + 1) _ (by omega) (by omega)).mono ?_; rw [Hr2.out]; rintro e w' ⟨rfl, rfl⟩
            go_wp2_with fail
            go_ret3
            exact ⟨ret_num HN.out, rfl⟩
          · have x1 : ((bt s e2 : Int) == 101) = false := nb (c := 101) (by omega)
            have x2 : ((bt s e2 : Int) == 69) = true := yb (c := 69) he
            clear he
            have HN := Lib.hid hnum
            clear hnum h0 HN0
            go_enter Tryz.func21, Tryz.ntmps21
            go_wp2_with (go_at_call 14; refine (starts14 s k _ _ (by omega) (by decide) (by omega)).mono ?_; rintro e w' ⟨rfl, rfl⟩)
            refine (while15_20 s k _ (by omega) hk).mono ?_; rw [Hr.out]; rintro e w' ⟨rfl, rfl⟩
            go_wp2_with fail
            refine (while15_20 s (e1 + 1) _ (by omega) (by omega)).mono ?_; rw [Hr2.out]; rintro e w' ⟨rfl, rfl⟩
            go_wp2_with fail
            go_ret3
            exact ⟨ret_num HN.out, rfl⟩
  · have x1 : ((bt s e2 : Int) == 101) = false := nb (c := 101) (fun h => hex (Or.inl h))
    have x2 : ((bt s e2 : Int) == 69) = false := nb (c := 69) (fun h => hex (Or.inr h))
    have hnum : numP s k = (e2, kFloat, 0) := by
      have hx := HN0.out
      have he : intP s k = (e2, false) := by rw [hx]; unfold expoP; rw [if_neg hex]
      simp [numP, h0, he]
    clear hex
    by_cases hl2 : e2 < s.size
    · skip
      have HN := Lib.hid hnum
      clear hnum h0 HN0
      go_enter Tryz.func21, Tryz.ntmps21
      go_wp2_with (go_at_call 14; refine (starts14 s k _ _ (by omega) (by decide) (by omega)).mono ?_; rintro e w' ⟨rfl, rfl⟩)
      refine (while15_20 s k _ (by omega) hk).mono ?_; rw [Hr.out]; rintro e w' ⟨rfl, rfl⟩
      go_wp2_with fail
      refine (while15_20 s (e1 + 1) _ (by omega) (by omega)).mono ?_; rw [Hr2.out]; rintro e w' ⟨rfl, rfl⟩
      go_wp2_with fail
      go_ret3
      exact ⟨ret_num HN.out, rfl⟩
    · skip
      have HN := Lib.hid hnum
      clear hnum h0 HN0
      go_enter Tryz.func21, Tryz.ntmps21
      go_wp2_with (go_at_call 14; refine (starts14 s k _ _ (by omega) (by decide) (by omega)).mono ?_; rintro e w' ⟨rfl, rfl⟩)
      refine (while15_20 s k _ (by omega) hk).mono ?_; rw [Hr.out]; rintro e w' ⟨rfl, rfl⟩
      go_wp2_with fail
      refine (while15_20 s (e1 + 1) _ (by omega) (by omega)).mono ?_; rw [Hr2.out]; rintro e w' ⟨rfl, rfl⟩
      go_wp2_with fail
      go_ret3
      exact ⟨ret_num HN.out, rfl⟩

set_option maxHeartbeats 4000000 in
theorem number21_nodot (s : ByteArray) (k : Nat) (w : World) (hs : s.size ≤ 2147483000) (hk : k ≤ s.size) (h0 : ¬ isHex s k) (hdot : ¬ bt s (run s digB k) = 46) :
    Calls Tryz.prog 21 #[.string s, .int .i64 (k : Int)] w fun e w' => e = .returned (.tuple #[.int .i64 ((numP s k).1 : Int), .string (numP s k).2.1, .int .i64 (numP s k).2.2]) ∧ w = w' := by
  have HB : ∀ (q : Nat) (h : q < s.size), s[q].toNat = bt s q := fun q h => (bt_lt h).symm
  have hx1 : stB s k ⟨#[48, 120]⟩ = false := by
    rw [stB_two, ← Bool.not_eq_true, Bool.and_eq_true, beq_iff_eq, beq_iff_eq]; unfold isHex at h0; intro h; exact h0 ⟨h.1, Or.inl h.2⟩
  have hx2 : stB s k ⟨#[48, 88]⟩ = false := by
    rw [stB_two, ← Bool.not_eq_true, Bool.and_eq_true, beq_iff_eq, beq_iff_eq]; unfold isHex at h0; intro h; exact h0 ⟨h.1, Or.inr h.2⟩
  have he1 := run_le s digB k hk
  generalize hr : run s digB k = e1 at he1 hdot
  have Hr := Lib.hid hr
  clear hr
  have d1 : ((bt s e1 : Int) == 46) = false := nb (c := 46) hdot
  have HN0 : Hid (intP s k = expoP s e1 true) := by
    show intP s k = expoP s e1 true
    unfold intP; rw [Hr.out, if_neg hdot]
  clear hdot
  by_cases hex : bt s e1 = 101 ∨ bt s e1 = 69
  · have hl2 : e1 < s.size := lt_of_bt (by omega)
    rcases (show (bt s (e1 + 1) = 43 ∨ bt s (e1 + 1) = 45) ∨ ¬ (bt s (e1 + 1) = 43 ∨ bt s (e1 + 1) = 45) from by omega) with hsg | hsg
    · have hl3 : e1 + 1 < s.size := lt_of_bt (by omega)
      by_cases hdg : digB (bt s (e1 + 2)) = true
      · have hl4 : e1 + 2 < s.size := lt_of_bt (by intro h; rw [h] at hdg; exact absurd hdg (by decide))
        have hnum : numP s k = (run s digB (e1 + 2), kFloat, 0) := by
          have hx := HN0.out
          have he : intP s k = (run s digB (e1 + 2), false) := by rw [hx]; unfold expoP; rw [if_pos hex, if_pos hsg, if_pos hdg]
          simp [numP, h0, he]
        have Hhex := Lib.hid hex
        have Hsg := Lib.hid hsg
        clear hex hsg
        rcases Hhex.out with he | he
        · have x1 : ((bt s e1 : Int) == 101) = true := yb (c := 101) he
          clear he
          rcases Hsg.out with hg | hg
          · have y1 : ((bt s (e1 + 1) : Int) == 43) = true := yb (c := 43) hg
            clear hg
            have HN := Lib.hid hnum
            clear hnum h0 HN0
            go_enter Tryz.func21, Tryz.ntmps21
            go_wp2_with (go_at_call 14; refine (starts14 s k _ _ (by omega) (by decide) (by omega)).mono ?_; rintro e w' ⟨rfl, rfl⟩)
            refine (while15_20 s k _ (by omega) hk).mono ?_; rw [Hr.out]; rintro e w' ⟨rfl, rfl⟩
            go_wp2_with fail
            refine (digit20 _ _).mono ?_; rintro e w' ⟨rfl, rfl⟩
            go_wp2_with fail
            refine (while15_20 s (e1 + 2) _ (by omega) (by omega)).mono ?_; rintro e w' ⟨rfl, rfl⟩
            go_wp2_with fail
            go_ret3
            exact ⟨ret_num HN.out, rfl⟩
          · have y1 : ((bt s (e1 + 1) : Int) == 43) = false := nb (c := 43) (by omega)
            have y2 : ((bt s (e1 + 1) : Int) == 45) = true := yb (c := 45) hg
            clear hg
            have HN := Lib.hid hnum
            clear hnum h0 HN0
            go_enter Tryz.func21, Tryz.ntmps21
            go_wp2_with (go_at_call 14; refine (starts14 s k _ _ (by omega) (by decide) (by omega)).mono ?_; rintro e w' ⟨rfl, rfl⟩)
            refine (while15_20 s k _ (by omega) hk).mono ?_; rw [Hr.out]; rintro e w' ⟨rfl, rfl⟩
            go_wp2_with fail
            refine (digit20 _ _).mono ?_; rintro e w' ⟨rfl, rfl⟩
            go_wp2_with fail
            refine (while15_20 s (e1 + 2) _ (by omega) (by omega)).mono ?_; rintro e w' ⟨rfl, rfl⟩
            go_wp2_with fail
            go_ret3
            exact ⟨ret_num HN.out, rfl⟩
        · have x1 : ((bt s e1 : Int) == 101) = false := nb (c := 101) (by omega)
          have x2 : ((bt s e1 : Int) == 69) = true := yb (c := 69) he
          clear he
          rcases Hsg.out with hg | hg
          · have y1 : ((bt s (e1 + 1) : Int) == 43) = true := yb (c := 43) hg
            clear hg
            have HN := Lib.hid hnum
            clear hnum h0 HN0
            go_enter Tryz.func21, Tryz.ntmps21
            go_wp2_with (go_at_call 14; refine (starts14 s k _ _ (by omega) (by decide) (by omega)).mono ?_; rintro e w' ⟨rfl, rfl⟩)
            refine (while15_20 s k _ (by omega) hk).mono ?_; rw [Hr.out]; rintro e w' ⟨rfl, rfl⟩
            go_wp2_with fail
            refine (digit20 _ _).mono ?_; rintro e w' ⟨rfl, rfl⟩
            go_wp2_with fail
            refine (while15_20 s (e1 + 2) _ (by omega) (by omega)).mono ?_; rintro e w' ⟨rfl, rfl⟩
            go_wp2_with fail
            go_ret3
            exact ⟨ret_num HN.out, rfl⟩
          · have y1 : ((bt s (e1 + 1) : Int) == 43) = false := nb (c := 43) (by omega)
            have y2 : ((bt s (e1 + 1) : Int) == 45) = true := yb (c := 45) hg
            clear hg
            have HN := Lib.hid hnum
            clear hnum h0 HN0
            go_enter Tryz.func21, Tryz.ntmps21
            go_wp2_with (go_at_call 14; refine (starts14 s k _ _ (by omega) (by decide) (by omega)).mono ?_; rintro e w' ⟨rfl, rfl⟩)
            refine (while15_20 s k _ (by omega) hk).mono ?_; rw [Hr.out]; rintro e w' ⟨rfl, rfl⟩
            go_wp2_with fail
            refine (digit20 _ _).mono ?_; rintro e w' ⟨rfl, rfl⟩
            go_wp2_with fail
            refine (while15_20 s (e1 + 2) _ (by omega) (by omega)).mono ?_; rintro e w' ⟨rfl, rfl⟩
            go_wp2_with fail
            go_ret3
            exact ⟨ret_num HN.out, rfl⟩
      · have hdg2 : digB (bt s (e1 + 2)) = false := by simpa using hdg
        have hnum : numP s k = (e1, kInt, 10) := by
          have hx := HN0.out
          have he : intP s k = (e1, true) := by rw [hx]; unfold expoP; rw [if_pos hex, if_pos hsg, if_neg hdg]
          simp [numP, h0, he]
        clear hdg
        have Hhex := Lib.hid hex
        have Hsg := Lib.hid hsg
        clear hex hsg
        by_cases hl4 : e1 + 2 < s.size
        · skip
          rcases Hhex.out with he | he
          · have x1 : ((bt s e1 : Int) == 101) = true := yb (c := 101) he
            clear he
            rcases Hsg.out with hg | hg
            · have y1 : ((bt s (e1 + 1) : Int) == 43) = true := yb (c := 43) hg
              clear hg
              have HN := Lib.hid hnum
              clear hnum h0 HN0
              go_enter Tryz.func21, Tryz.ntmps21
              go_wp2_with (go_at_call 14; refine (starts14 s k _ _ (by omega) (by decide) (by omega)).mono ?_; rintro e w' ⟨rfl, rfl⟩)
              refine (while15_20 s k _ (by omega) hk).mono ?_; rw [Hr.out]; rintro e w' ⟨rfl, rfl⟩
              go_wp2_with fail
              refine (digit20 _ _).mono ?_; rintro e w' ⟨rfl, rfl⟩
              go_wp2_with fail
              go_ret3
              exact ⟨ret_num HN.out, rfl⟩
            · have y1 : ((bt s (e1 + 1) : Int) == 43) = false := nb (c := 43) (by omega)
              have y2 : ((bt s (e1 + 1) : Int) == 45) = true := yb (c := 45) hg
              clear hg
              have HN := Lib.hid hnum
              clear hnum h0 HN0
              go_enter Tryz.func21, Tryz.ntmps21
              go_wp2_with (go_at_call 14; refine (starts14 s k _ _ (by omega) (by decide) (by omega)).mono ?_; rintro e w' ⟨rfl, rfl⟩)
              refine (while15_20 s k _ (by omega) hk).mono ?_; rw [Hr.out]; rintro e w' ⟨rfl, rfl⟩
              go_wp2_with fail
              refine (digit20 _ _).mono ?_; rintro e w' ⟨rfl, rfl⟩
              go_wp2_with fail
              go_ret3
              exact ⟨ret_num HN.out, rfl⟩
          · have x1 : ((bt s e1 : Int) == 101) = false := nb (c := 101) (by omega)
            have x2 : ((bt s e1 : Int) == 69) = true := yb (c := 69) he
            clear he
            rcases Hsg.out with hg | hg
            · have y1 : ((bt s (e1 + 1) : Int) == 43) = true := yb (c := 43) hg
              clear hg
              have HN := Lib.hid hnum
              clear hnum h0 HN0
              go_enter Tryz.func21, Tryz.ntmps21
              go_wp2_with (go_at_call 14; refine (starts14 s k _ _ (by omega) (by decide) (by omega)).mono ?_; rintro e w' ⟨rfl, rfl⟩)
              refine (while15_20 s k _ (by omega) hk).mono ?_; rw [Hr.out]; rintro e w' ⟨rfl, rfl⟩
              go_wp2_with fail
              refine (digit20 _ _).mono ?_; rintro e w' ⟨rfl, rfl⟩
              go_wp2_with fail
              go_ret3
              exact ⟨ret_num HN.out, rfl⟩
            · have y1 : ((bt s (e1 + 1) : Int) == 43) = false := nb (c := 43) (by omega)
              have y2 : ((bt s (e1 + 1) : Int) == 45) = true := yb (c := 45) hg
              clear hg
              have HN := Lib.hid hnum
              clear hnum h0 HN0
              go_enter Tryz.func21, Tryz.ntmps21
              go_wp2_with (go_at_call 14; refine (starts14 s k _ _ (by omega) (by decide) (by omega)).mono ?_; rintro e w' ⟨rfl, rfl⟩)
              refine (while15_20 s k _ (by omega) hk).mono ?_; rw [Hr.out]; rintro e w' ⟨rfl, rfl⟩
              go_wp2_with fail
              refine (digit20 _ _).mono ?_; rintro e w' ⟨rfl, rfl⟩
              go_wp2_with fail
              go_ret3
              exact ⟨ret_num HN.out, rfl⟩
        · skip
          rcases Hhex.out with he | he
          · have x1 : ((bt s e1 : Int) == 101) = true := yb (c := 101) he
            clear he
            rcases Hsg.out with hg | hg
            · have y1 : ((bt s (e1 + 1) : Int) == 43) = true := yb (c := 43) hg
              clear hg
              have HN := Lib.hid hnum
              clear hnum h0 HN0
              go_enter Tryz.func21, Tryz.ntmps21
              go_wp2_with (go_at_call 14; refine (starts14 s k _ _ (by omega) (by decide) (by omega)).mono ?_; rintro e w' ⟨rfl, rfl⟩)
              refine (while15_20 s k _ (by omega) hk).mono ?_; rw [Hr.out]; rintro e w' ⟨rfl, rfl⟩
              go_wp2_with fail
              go_ret3
              exact ⟨ret_num HN.out, rfl⟩
            · have y1 : ((bt s (e1 + 1) : Int) == 43) = false := nb (c := 43) (by omega)
              have y2 : ((bt s (e1 + 1) : Int) == 45) = true := yb (c := 45) hg
              clear hg
              have HN := Lib.hid hnum
              clear hnum h0 HN0
              go_enter Tryz.func21, Tryz.ntmps21
              go_wp2_with (go_at_call 14; refine (starts14 s k _ _ (by omega) (by decide) (by omega)).mono ?_; rintro e w' ⟨rfl, rfl⟩)
              refine (while15_20 s k _ (by omega) hk).mono ?_; rw [Hr.out]; rintro e w' ⟨rfl, rfl⟩
              go_wp2_with fail
              go_ret3
              exact ⟨ret_num HN.out, rfl⟩
          · have x1 : ((bt s e1 : Int) == 101) = false := nb (c := 101) (by omega)
            have x2 : ((bt s e1 : Int) == 69) = true := yb (c := 69) he
            clear he
            rcases Hsg.out with hg | hg
            · have y1 : ((bt s (e1 + 1) : Int) == 43) = true := yb (c := 43) hg
              clear hg
              have HN := Lib.hid hnum
              clear hnum h0 HN0
              go_enter Tryz.func21, Tryz.ntmps21
              go_wp2_with (go_at_call 14; refine (starts14 s k _ _ (by omega) (by decide) (by omega)).mono ?_; rintro e w' ⟨rfl, rfl⟩)
              refine (while15_20 s k _ (by omega) hk).mono ?_; rw [Hr.out]; rintro e w' ⟨rfl, rfl⟩
              go_wp2_with fail
              go_ret3
              exact ⟨ret_num HN.out, rfl⟩
            · have y1 : ((bt s (e1 + 1) : Int) == 43) = false := nb (c := 43) (by omega)
              have y2 : ((bt s (e1 + 1) : Int) == 45) = true := yb (c := 45) hg
              clear hg
              have HN := Lib.hid hnum
              clear hnum h0 HN0
              go_enter Tryz.func21, Tryz.ntmps21
              go_wp2_with (go_at_call 14; refine (starts14 s k _ _ (by omega) (by decide) (by omega)).mono ?_; rintro e w' ⟨rfl, rfl⟩)
              refine (while15_20 s k _ (by omega) hk).mono ?_; rw [Hr.out]; rintro e w' ⟨rfl, rfl⟩
              go_wp2_with fail
              go_ret3
              exact ⟨ret_num HN.out, rfl⟩
    · skip
      by_cases hdg : digB (bt s (e1 + 1)) = true
      · have hl4 : e1 + 1 < s.size := lt_of_bt (by intro h; rw [h] at hdg; exact absurd hdg (by decide))
        have hnum : numP s k = (run s digB (e1 + 1), kFloat, 0) := by
          have hx := HN0.out
          have he : intP s k = (run s digB (e1 + 1), false) := by rw [hx]; unfold expoP; rw [if_pos hex, if_neg hsg, if_pos hdg]
          simp [numP, h0, he]
        have Hhex := Lib.hid hex
        have Hsg := Lib.hid hsg
        clear hex hsg
        rcases Hhex.out with he | he
        · have x1 : ((bt s e1 : Int) == 101) = true := yb (c := 101) he
          clear he
          have y1 : ((bt s (e1 + 1) : Int) == 43) = false := nb (c := 43) (fun h => Hsg.out (Or.inl h))
          have y2 : ((bt s (e1 + 1) : Int) == 45) = false := nb (c := 45) (fun h => Hsg.out (Or.inr h))
          have HN := Lib.hid hnum
          clear hnum h0 HN0
          go_enter Tryz.func21, Tryz.ntmps21
          go_wp2_with (go_at_call 14; refine (starts14 s k _ _ (by omega) (by decide) (by omega)).mono ?_; rintro e w' ⟨rfl, rfl⟩)
          refine (while15_20 s k _ (by omega) hk).mono ?_; rw [Hr.out]; rintro e w' ⟨rfl, rfl⟩
          go_wp2_with fail
          refine (digit20 _ _).mono ?_; rintro e w' ⟨rfl, rfl⟩
          go_wp2_with fail
          refine (while15_20 s (e1 + 1) _ (by omega) (by omega)).mono ?_; rintro e w' ⟨rfl, rfl⟩
          go_wp2_with fail
          go_ret3
          exact ⟨ret_num HN.out, rfl⟩
        · have x1 : ((bt s e1 : Int) == 101) = false := nb (c := 101) (by omega)
          have x2 : ((bt s e1 : Int) == 69) = true := yb (c := 69) he
          clear he
          have y1 : ((bt s (e1 + 1) : Int) == 43) = false := nb (c := 43) (fun h => Hsg.out (Or.inl h))
          have y2 : ((bt s (e1 + 1) : Int) == 45) = false := nb (c := 45) (fun h => Hsg.out (Or.inr h))
          have HN := Lib.hid hnum
          clear hnum h0 HN0
          go_enter Tryz.func21, Tryz.ntmps21
          go_wp2_with (go_at_call 14; refine (starts14 s k _ _ (by omega) (by decide) (by omega)).mono ?_; rintro e w' ⟨rfl, rfl⟩)
          refine (while15_20 s k _ (by omega) hk).mono ?_; rw [Hr.out]; rintro e w' ⟨rfl, rfl⟩
          go_wp2_with fail
          refine (digit20 _ _).mono ?_; rintro e w' ⟨rfl, rfl⟩
          go_wp2_with fail
          refine (while15_20 s (e1 + 1) _ (by omega) (by omega)).mono ?_; rintro e w' ⟨rfl, rfl⟩
          go_wp2_with fail
          go_ret3
          exact ⟨ret_num HN.out, rfl⟩
      · have hdg2 : digB (bt s (e1 + 1)) = false := by simpa using hdg
        have hnum : numP s k = (e1, kInt, 10) := by
          have hx := HN0.out
          have he : intP s k = (e1, true) := by rw [hx]; unfold expoP; rw [if_pos hex, if_neg hsg, if_neg hdg]
          simp [numP, h0, he]
        clear hdg
        have Hhex := Lib.hid hex
        have Hsg := Lib.hid hsg
        clear hex hsg
        by_cases hl4 : e1 + 1 < s.size
        · skip
          rcases Hhex.out with he | he
          · have x1 : ((bt s e1 : Int) == 101) = true := yb (c := 101) he
            clear he
            have y1 : ((bt s (e1 + 1) : Int) == 43) = false := nb (c := 43) (fun h => Hsg.out (Or.inl h))
            have y2 : ((bt s (e1 + 1) : Int) == 45) = false := nb (c := 45) (fun h => Hsg.out (Or.inr h))
            have HN := Lib.hid hnum
            clear hnum h0 HN0
            go_enter Tryz.func21, Tryz.ntmps21
            go_wp2_with (go_at_call 14; refine (starts14 s k _ _ (by omega) (by decide) (by omega)).mono ?_; rintro e w' ⟨rfl, rfl⟩)
            refine (while15_20 s k _ (by omega) hk).mono ?_; rw [Hr.out]; rintro e w' ⟨rfl, rfl⟩
            go_wp2_with fail
            refine (digit20 _ _).mono ?_; rintro e w' ⟨rfl, rfl⟩
            go_wp2_with fail
            go_ret3
            exact ⟨ret_num HN.out, rfl⟩
          · have x1 : ((bt s e1 : Int) == 101) = false := nb (c := 101) (by omega)
            have x2 : ((bt s e1 : Int) == 69) = true := yb (c := 69) he
            clear he
            have y1 : ((bt s (e1 + 1) : Int) == 43) = false := nb (c := 43) (fun h => Hsg.out (Or.inl h))
            have y2 : ((bt s (e1 + 1) : Int) == 45) = false := nb (c := 45) (fun h => Hsg.out (Or.inr h))
            have HN := Lib.hid hnum
            clear hnum h0 HN0
            go_enter Tryz.func21, Tryz.ntmps21
            go_wp2_with (go_at_call 14; refine (starts14 s k _ _ (by omega) (by decide) (by omega)).mono ?_; rintro e w' ⟨rfl, rfl⟩)
            refine (while15_20 s k _ (by omega) hk).mono ?_; rw [Hr.out]; rintro e w' ⟨rfl, rfl⟩
            go_wp2_with fail
            refine (digit20 _ _).mono ?_; rintro e w' ⟨rfl, rfl⟩
            go_wp2_with fail
            go_ret3
            exact ⟨ret_num HN.out, rfl⟩
        · skip
          rcases Hhex.out with he | he
          · have x1 : ((bt s e1 : Int) == 101) = true := yb (c := 101) he
            clear he
            have HN := Lib.hid hnum
            clear hnum h0 HN0
            go_enter Tryz.func21, Tryz.ntmps21
            go_wp2_with (go_at_call 14; refine (starts14 s k _ _ (by omega) (by decide) (by omega)).mono ?_; rintro e w' ⟨rfl, rfl⟩)
            refine (while15_20 s k _ (by omega) hk).mono ?_; rw [Hr.out]; rintro e w' ⟨rfl, rfl⟩
            go_wp2_with fail
            go_ret3
            exact ⟨ret_num HN.out, rfl⟩
          · have x1 : ((bt s e1 : Int) == 101) = false := nb (c := 101) (by omega)
            have x2 : ((bt s e1 : Int) == 69) = true := yb (c := 69) he
            clear he
            have HN := Lib.hid hnum
            clear hnum h0 HN0
            go_enter Tryz.func21, Tryz.ntmps21
            go_wp2_with (go_at_call 14; refine (starts14 s k _ _ (by omega) (by decide) (by omega)).mono ?_; rintro e w' ⟨rfl, rfl⟩)
            refine (while15_20 s k _ (by omega) hk).mono ?_; rw [Hr.out]; rintro e w' ⟨rfl, rfl⟩
            go_wp2_with fail
            go_ret3
            exact ⟨ret_num HN.out, rfl⟩
  · have x1 : ((bt s e1 : Int) == 101) = false := nb (c := 101) (fun h => hex (Or.inl h))
    have x2 : ((bt s e1 : Int) == 69) = false := nb (c := 69) (fun h => hex (Or.inr h))
    have hnum : numP s k = (e1, kInt, 10) := by
      have hx := HN0.out
      have he : intP s k = (e1, true) := by rw [hx]; unfold expoP; rw [if_neg hex]
      simp [numP, h0, he]
    clear hex
    by_cases hl2 : e1 < s.size
    · skip
      have HN := Lib.hid hnum
      clear hnum h0 HN0
      go_enter Tryz.func21, Tryz.ntmps21
      go_wp2_with (go_at_call 14; refine (starts14 s k _ _ (by omega) (by decide) (by omega)).mono ?_; rintro e w' ⟨rfl, rfl⟩)
      refine (while15_20 s k _ (by omega) hk).mono ?_; rw [Hr.out]; rintro e w' ⟨rfl, rfl⟩
      go_wp2_with fail
      go_ret3
      exact ⟨ret_num HN.out, rfl⟩
    · skip
      have HN := Lib.hid hnum
      clear hnum h0 HN0
      go_enter Tryz.func21, Tryz.ntmps21
      go_wp2_with (go_at_call 14; refine (starts14 s k _ _ (by omega) (by decide) (by omega)).mono ?_; rintro e w' ⟨rfl, rfl⟩)
      refine (while15_20 s k _ (by omega) hk).mono ?_; rw [Hr.out]; rintro e w' ⟨rfl, rfl⟩
      go_wp2_with fail
      go_ret3
      exact ⟨ret_num HN.out, rfl⟩

set_option maxHeartbeats 1000000 in
theorem number21_hex (s : ByteArray) (k : Nat) (w : World) (hs : s.size ≤ 2147483000) (_hk : k ≤ s.size) (h0 : isHex s k) :
    Calls Tryz.prog 21 #[.string s, .int .i64 (k : Int)] w fun e w' => e = .returned (.tuple #[.int .i64 ((numP s k).1 : Int), .string (numP s k).2.1, .int .i64 (numP s k).2.2]) ∧ w = w' := by
  have hnum : numP s k = (run s hexB (k + 2), kInt, 16) := by simp [numP, h0]
  have HN := Lib.hid hnum
  clear hnum
  have hk2 : k + 2 ≤ s.size := by
    have := lt_of_bt (s := s) (k := k + 1) (by have := h0.2; omega)
    omega
  rcases h0 with ⟨h1, h2 | h2⟩
  · have hx1 : stB s k ⟨#[48, 120]⟩ = true := by
      rw [stB_two, Bool.and_eq_true, beq_iff_eq, beq_iff_eq]; exact ⟨h1, h2⟩
    clear h1 h2
    go_enter Tryz.func21, Tryz.ntmps21
    go_wp2_with (first | (go_at_call 14; refine (starts14 s k _ _ (by omega) (by decide) (by omega)).mono ?_; rintro e w' ⟨rfl, rfl⟩) | (go_at_call 15; refine (while15_36 s (k + 2) _ (by omega) hk2).mono ?_; rintro e w' ⟨rfl, rfl⟩))
    go_ret3
    exact ⟨ret_num HN.out, rfl⟩
  · have hx1 : stB s k ⟨#[48, 88]⟩ = true := by
      rw [stB_two, Bool.and_eq_true, beq_iff_eq, beq_iff_eq]; exact ⟨h1, h2⟩
    have hx2 : stB s k ⟨#[48, 120]⟩ = false := by
      rw [stB_two, ← Bool.not_eq_true, Bool.and_eq_true, beq_iff_eq, beq_iff_eq, h2]; intro h; exact absurd h.2 (by decide)
    clear h1 h2
    go_enter Tryz.func21, Tryz.ntmps21
    go_wp2_with (first | (go_at_call 14; refine (starts14 s k _ _ (by omega) (by decide) (by omega)).mono ?_; rintro e w' ⟨rfl, rfl⟩) | (go_at_call 15; refine (while15_36 s (k + 2) _ (by omega) hk2).mono ?_; rintro e w' ⟨rfl, rfl⟩))
    go_ret3
    exact ⟨ret_num HN.out, rfl⟩

theorem number21 (s : ByteArray) (k : Nat) (w : World) (hs : s.size ≤ 2147483000) (hk : k ≤ s.size) :
    Calls Tryz.prog 21 #[.string s, .int .i64 (k : Int)] w fun e w' => e = .returned (.tuple #[.int .i64 ((numP s k).1 : Int), .string (numP s k).2.1, .int .i64 (numP s k).2.2]) ∧ w = w' := by
  by_cases h0 : isHex s k
  · exact number21_hex s k w hs hk h0
  · by_cases hdot : bt s (run s digB k) = 46
    · exact number21_dot s k w hs hk h0 hdot
    · exact number21_nodot s k w hs hk h0 hdot
end Go.Proofs.YtahcbeofaeflgaaGreatDoor
