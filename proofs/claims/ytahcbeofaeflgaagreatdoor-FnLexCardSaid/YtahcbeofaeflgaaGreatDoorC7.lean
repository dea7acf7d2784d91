/- Lemmas towards the statement FnLexCardSaid, conditions: as each theorem says. -/
import Derived.Test.YtahcbeofaeflgaaGreatDoorC8
import Derived.Test.YtahcbeofaeflgaaGreatDoorA9
namespace Go.Proofs.YtahcbeofaeflgaaGreatDoor
open Go.RowKit

/-! ### A text of one byte in a constant. -/
theorem has_one (S : List UInt8) (c : UInt8) : hasF ⟨S.toArray⟩ ⟨#[c]⟩ 0 = S.contains c := by
  rw [Bool.eq_iff_iff, hasF_infix, show (ByteArray.toList ⟨#[c]⟩) = [c] from ByteArray.toList_mk [c], ByteArray.toList_mk, List.contains_iff_mem]
  constructor
  · rintro ⟨a, b, h⟩; rw [← h]; simp
  · intro h
    obtain ⟨a, b, h⟩ := List.append_of_mem h
    exact ⟨a, b, by rw [h]; simp⟩
theorem exists_u8 {s : ByteArray} {k : Nat} (h : k < s.size) : ∃ c : UInt8, bt s k = c.toNat := ⟨s[k], bt_lt h⟩

def isBB (c : Nat) : Bool := decide (c = 98 ∨ c = 66)
def isRR (c : Nat) : Bool := decide (c = 114 ∨ c = 82)
def inP (c : Nat) : Bool := isBB c || isRR c
theorem has_pre {s : ByteArray} {k : Nat} (h : k < s.size) : hasF ⟨#[98, 66, 114, 82]⟩ (s.extract k (k + 1)) 0 = inP (bt s k) := by
  obtain ⟨c, hc⟩ := exists_u8 h
  rw [one_ext hc, has_one [98, 66, 114, 82] c, hc]
  rw [Bool.eq_iff_iff]
  simp only [List.contains_iff_mem, List.mem_cons, List.mem_nil_iff, or_false, inP, isBB, isRR, Bool.or_eq_true, decide_eq_true_eq, ← UInt8.toNat_inj]
  show c.toNat = 98 ∨ c.toNat = 66 ∨ c.toNat = 114 ∨ c.toNat = 82 ↔ _
  omega

/-- How many letters stand ahead of a literal's marks; whether it is one of bytes; whether it is one. -/
def preN (s : ByteArray) (k : Nat) : Nat := if inP (bt s k) = true then (if inP (bt s (k + 1)) = true then 2 else 1) else 0
def preP (s : ByteArray) (k : Nat) : Nat × Bool × Bool :=
  if markB (bt s (k + preN s k)) = true then
    (preN s k, (decide (1 ≤ preN s k) && isBB (bt s k)) || (decide (2 ≤ preN s k) && isBB (bt s (k + 1))), !(decide (preN s k = 2) && (isBB (bt s k) == isBB (bt s (k + 1)))))
  else (0, false, false)
theorem ret_pre {s : ByteArray} {k n : Nat} {b c : Bool} (h : preP s k = (n, b, c)) :
    Ending.returned (.tuple #[.int .i64 (n : Int), .bool b, .bool c]) = .returned (.tuple #[.int .i64 ((preP s k).1 : Int), .bool (preP s k).2.1, .bool (preP s k).2.2]) := by rw [h]

theorem up_one {s : ByteArray} {k : Nat} {c : UInt8} (hc : bt s k = c.toNat) : upB (s.extract k (k + 1)) = ⟨#[upU c]⟩ := by
  rw [one_ext hc]; simp [upB]
theorem two_ext {s : ByteArray} {k : Nat} {c d : UInt8} (h : bt s k = c.toNat) (h2 : bt s (k + 1) = d.toNat) : s.extract k (k + 2) = ⟨#[c, d]⟩ := by
  have hl : k < s.size := lt_of_bt (by have := c.toNat_lt; omega)
  have hl2 : k + 1 < s.size := lt_of_bt (by have := d.toNat_lt; omega)
  apply bt_inj
  intro i
  rcases Nat.lt_or_ge i 2 with hi | hi
  · rw [bt_ext (by omega) (by omega)]
    rcases (show i = 0 ∨ i = 1 from by omega) with rfl | rfl
    · exact h
    · exact h2
  · rw [bt_ge (by rw [ByteArray.size_extract]; omega), bt_ge (show ByteArray.size ⟨#[c, d]⟩ ≤ i from hi)]
theorem inP_cases {c : UInt8} (h : inP c.toNat = true) : c = 98 ∨ c = 66 ∨ c = 114 ∨ c = 82 := by
  simp only [inP, isBB, isRR, Bool.or_eq_true, decide_eq_true_eq] at h
  simp only [← UInt8.toNat_inj]
  show c.toNat = 98 ∨ c.toNat = 66 ∨ c.toNat = 114 ∨ c.toNat = 82
  omega

theorem pre_one {s : ByteArray} {k : Nat} (h : inP (bt s k) = true) (hk : k < s.size) :
    hasF (upB (s.extract k (k + 1))) ⟨#[66]⟩ 0 = isBB (bt s k) ∧ ((upB (s.extract k (k + 1))).toList == [66, 66]) = false ∧ ((upB (s.extract k (k + 1))).toList == [82, 82]) = false := by
  obtain ⟨c, hc⟩ := exists_u8 hk
  rw [hc] at h
  rw [up_one hc, hc, show (ByteArray.toList ⟨#[upU c]⟩) = [upU c] from ByteArray.toList_mk [upU c], has_one [upU c] 66]
  rcases inP_cases h with rfl | rfl | rfl | rfl <;> decide
theorem pre_two {s : ByteArray} {k : Nat} (h : inP (bt s k) = true) (h2 : inP (bt s (k + 1)) = true) (hk : k + 1 < s.size) :
    hasF (upB (s.extract k (k + 2))) ⟨#[66]⟩ 0 = (isBB (bt s k) || isBB (bt s (k + 1))) ∧ ((upB (s.extract k (k + 2))).toList == [66, 66]) = (isBB (bt s k) && isBB (bt s (k + 1))) ∧ ((upB (s.extract k (k + 2))).toList == [82, 82]) = (!isBB (bt s k) && !isBB (bt s (k + 1))) := by
  obtain ⟨c, hc⟩ := exists_u8 (show k < s.size by omega)
  obtain ⟨d, hd⟩ := exists_u8 hk
  rw [hc] at h
  rw [hd] at h2
  rw [two_ext hc hd, hc, hd, show upB ⟨#[c, d]⟩ = ⟨#[upU c, upU d]⟩ from by simp [upB], show (ByteArray.toList ⟨#[upU c, upU d]⟩) = [upU c, upU d] from ByteArray.toList_mk [upU c, upU d], has_one [upU c, upU d] 66]
  rcases inP_cases h with rfl | rfl | rfl | rfl <;> rcases inP_cases h2 with rfl | rfl | rfl | rfl <;> decide
set_option maxRecDepth 100000 in
set_option maxHeartbeats 4000000 in
theorem prefix23_0 (s : ByteArray) (k : Nat) (w : World) (hs : s.size ≤ 2000) (hk : k < s.size) (h0 : inP (bt s k) = false) :
    Calls Tryz.prog 23 #[.string s, .int .i64 (k : Int)] w fun e w' => e = .returned (.tuple #[.int .i64 ((preP s k).1 : Int), .bool (preP s k).2.1, .bool (preP s k).2.2]) ∧ Below w.heap.size w w' := by
  have HB : ∀ (q : Nat) (h : q < s.size), s[q].toNat = bt s q := fun q h => (bt_lt h).symm
  have hn : preN s k = 0 := by unfold preN; rw [h0]; rfl
  have HP : Hid (preP s k = if markB (bt s (k)) = true then (0, false, true) else (0, false, false)) := by
    show preP s k = _
    unfold preP; rw [hn]; simp
  have hp0 := has_pre hk
  rw [h0] at hp0
  have u2 : upB ByteArray.empty = ByteArray.empty := by simp [upB]; rfl
  have p1 : hasF (upB ByteArray.empty) ⟨#[66]⟩ 0 = false := by rw [u2]; exact hasF_end (show ByteArray.empty.size < 0 + ByteArray.size ⟨#[66]⟩ by decide)
  have hee : ByteArray.empty.toList = [] := ByteArray.toList_mk []
  have p2 : ((upB ByteArray.empty).toList == [66, 66]) = false := by rw [u2, hee]; rfl
  have p3 : ((upB ByteArray.empty).toList == [82, 82]) = false := by rw [u2, hee]; rfl
  clear u2 hee
  clear h0 hn
  by_cases hm : markB (bt s (k)) = true
  · have HN : Hid (preP s k = (0, false, true)) := by
      show preP s k = _
      rw [HP.out, if_pos hm]
    go_enter Tryz.func23, Tryz.ntmps23
    go_wp2_with fail
    refine wp_loop_rounds 3 ?_
    rw [rounds_succ]
    go_wp2_with fail
    refine (has37 _ _ w (by decide) (by rw [ByteArray.size_extract]; omega)).mono ?_; rintro e w' ⟨he, rfl⟩; obtain rfl : e = .returned (.bool false) := he.trans (congrArg (fun b => Ending.returned (.bool b)) hp0)
    go_wp2_with fail
    refine (mark22 _ _).mono ?_; rintro e w' ⟨he, rfl⟩; obtain rfl : e = .returned (.bool true) := he.trans (congrArg (fun b => Ending.returned (.bool b)) hm)
    go_wp2_with fail
    refine (upper26 _ _ (by decide)).mono ?_; rintro e w1 ⟨rfl, hb⟩
    go_wp2_with fail
    refine (has37 _ _ w1 (by rw [upB_size]; decide) (by decide)).mono ?_; rintro e w' ⟨he, rfl⟩; obtain rfl : e = .returned (.bool false) := he.trans (congrArg (fun b => Ending.returned (.bool b)) p1)
    go_wp2_with fail
    go_ret3
    exact ⟨ret_pre HN.out, hb⟩
  · have hm2 : markB (bt s (k)) = false := by simpa using hm
    have HN : Hid (preP s k = (0, false, false)) := by
      show preP s k = _
      rw [HP.out, if_neg hm]
    go_enter Tryz.func23, Tryz.ntmps23
    go_wp2_with fail
    refine wp_loop_rounds 3 ?_
    rw [rounds_succ]
    go_wp2_with fail
    refine (has37 _ _ w (by decide) (by rw [ByteArray.size_extract]; omega)).mono ?_; rintro e w' ⟨he, rfl⟩; obtain rfl : e = .returned (.bool false) := he.trans (congrArg (fun b => Ending.returned (.bool b)) hp0)
    go_wp2_with fail
    refine (mark22 _ _).mono ?_; rintro e w' ⟨he, rfl⟩; obtain rfl : e = .returned (.bool false) := he.trans (congrArg (fun b => Ending.returned (.bool b)) hm2)
    go_wp2_with fail
    go_ret3
    exact ⟨ret_pre HN.out, Below.refl _ _⟩

set_option maxRecDepth 100000 in
set_option maxHeartbeats 4000000 in
theorem prefix23_1 (s : ByteArray) (k : Nat) (w : World) (hs : s.size ≤ 2000) (hk : k < s.size) (h0 : inP (bt s k) = true) (h1 : inP (bt s (k + 1)) = false) :
    Calls Tryz.prog 23 #[.string s, .int .i64 (k : Int)] w fun e w' => e = .returned (.tuple #[.int .i64 ((preP s k).1 : Int), .bool (preP s k).2.1, .bool (preP s k).2.2]) ∧ Below w.heap.size w w' := by
  have HB : ∀ (q : Nat) (h : q < s.size), s[q].toNat = bt s q := fun q h => (bt_lt h).symm
  have hn : preN s k = 1 := by unfold preN; rw [h0, h1]; rfl
  have HP : Hid (preP s k = if markB (bt s (k + 1)) = true then (1, isBB (bt s k), true) else (0, false, false)) := by
    show preP s k = _
    unfold preP; rw [hn]; simp
  have hp0 := has_pre hk
  rw [h0] at hp0
  obtain ⟨p1, p2, p3⟩ := pre_one h0 hk
  obtain ⟨b1, hb1⟩ : ∃ b1, isBB (bt s k) = b1 := ⟨_, rfl⟩
  rw [hb1] at p1
  have HB1 := Lib.hid hb1
  clear hb1
  clear h0 hn
  have H1 := Lib.hid h1
  clear h1
  by_cases hl : k + 1 < s.size
  · skip
    have hp1 := has_pre hl
    rw [H1.out] at hp1
    by_cases hm : markB (bt s (k + 1)) = true
    · have HN : Hid (preP s k = (1, isBB (bt s k), true)) := by
        show preP s k = _
        rw [HP.out, if_pos hm]
      rw [HB1.out] at HN
      cases b1
      all_goals
        go_enter Tryz.func23, Tryz.ntmps23
        go_wp2_with fail
        refine wp_loop_rounds 3 ?_
        rw [rounds_succ]
        go_wp2_with fail
        refine (has37 _ _ w (by decide) (by rw [ByteArray.size_extract]; omega)).mono ?_; rintro e w' ⟨he, rfl⟩; obtain rfl : e = .returned (.bool true) := he.trans (congrArg (fun b => Ending.returned (.bool b)) hp0)
        go_wp2_with fail
        rw [rounds_succ]
        go_wp2_with fail
        refine (has37 _ _ w (by decide) (by rw [ByteArray.size_extract]; omega)).mono ?_; rintro e w' ⟨he, rfl⟩; obtain rfl : e = .returned (.bool false) := he.trans (congrArg (fun b => Ending.returned (.bool b)) hp1)
        go_wp2_with fail
        refine (mark22 _ _).mono ?_; rintro e w' ⟨he, rfl⟩; obtain rfl : e = .returned (.bool true) := he.trans (congrArg (fun b => Ending.returned (.bool b)) hm)
        go_wp2_with fail
        refine (upper26 _ _ (by rw [ByteArray.size_extract]; omega)).mono ?_; rintro e w1 ⟨rfl, hb⟩
        go_wp2_with fail
        refine (has37 _ _ w1 (by rw [upB_size, ByteArray.size_extract]; omega) (by decide)).mono ?_; rintro e w' ⟨he, rfl⟩; obtain rfl : e = .returned (.bool _) := he.trans (congrArg (fun b => Ending.returned (.bool b)) p1)
        go_wp2_with fail
        go_ret3
        exact ⟨ret_pre HN.out, hb⟩
    · have hm2 : markB (bt s (k + 1)) = false := by simpa using hm
      have HN : Hid (preP s k = (0, false, false)) := by
        show preP s k = _
        rw [HP.out, if_neg hm]
      go_enter Tryz.func23, Tryz.ntmps23
      go_wp2_with fail
      refine wp_loop_rounds 3 ?_
      rw [rounds_succ]
      go_wp2_with fail
      refine (has37 _ _ w (by decide) (by rw [ByteArray.size_extract]; omega)).mono ?_; rintro e w' ⟨he, rfl⟩; obtain rfl : e = .returned (.bool true) := he.trans (congrArg (fun b => Ending.returned (.bool b)) hp0)
      go_wp2_with fail
      rw [rounds_succ]
      go_wp2_with fail
      refine (has37 _ _ w (by decide) (by rw [ByteArray.size_extract]; omega)).mono ?_; rintro e w' ⟨he, rfl⟩; obtain rfl : e = .returned (.bool false) := he.trans (congrArg (fun b => Ending.returned (.bool b)) hp1)
      go_wp2_with fail
      refine (mark22 _ _).mono ?_; rintro e w' ⟨he, rfl⟩; obtain rfl : e = .returned (.bool false) := he.trans (congrArg (fun b => Ending.returned (.bool b)) hm2)
      go_wp2_with fail
      go_ret3
      exact ⟨ret_pre HN.out, Below.refl _ _⟩
  · skip
    have HN : Hid (preP s k = (0, false, false)) := by
      show preP s k = _
      rw [HP.out, bt_ge (show s.size ≤ k + 1 by omega)]; rfl
    go_enter Tryz.func23, Tryz.ntmps23
    go_wp2_with fail
    refine wp_loop_rounds 3 ?_
    rw [rounds_succ]
    go_wp2_with fail
    refine (has37 _ _ w (by decide) (by rw [ByteArray.size_extract]; omega)).mono ?_; rintro e w' ⟨he, rfl⟩; obtain rfl : e = .returned (.bool true) := he.trans (congrArg (fun b => Ending.returned (.bool b)) hp0)
    go_wp2_with fail
    rw [rounds_succ]
    go_wp2_with fail
    go_ret3
    exact ⟨ret_pre HN.out, Below.refl _ _⟩

set_option maxRecDepth 100000 in
set_option maxHeartbeats 4000000 in
theorem prefix23_2 (s : ByteArray) (k : Nat) (w : World) (hs : s.size ≤ 2000) (hk : k < s.size) (h0 : inP (bt s k) = true) (h1 : inP (bt s (k + 1)) = true) :
    Calls Tryz.prog 23 #[.string s, .int .i64 (k : Int)] w fun e w' => e = .returned (.tuple #[.int .i64 ((preP s k).1 : Int), .bool (preP s k).2.1, .bool (preP s k).2.2]) ∧ Below w.heap.size w w' := by
  have HB : ∀ (q : Nat) (h : q < s.size), s[q].toNat = bt s q := fun q h => (bt_lt h).symm
  have hn : preN s k = 2 := by unfold preN; rw [h0, h1]; rfl
  have hk1 : k + 1 < s.size := lt_of_bt (by intro h; rw [h] at h1; exact absurd h1 (by decide))
  have HP : Hid (preP s k = if markB (bt s (k + 2)) = true then (2, isBB (bt s k) || isBB (bt s (k + 1)), !(isBB (bt s k) == isBB (bt s (k + 1)))) else (0, false, false)) := by
    show preP s k = _
    unfold preP; rw [hn]; simp
  have hp0 := has_pre hk
  rw [h0] at hp0
  have hp1 := has_pre hk1
  rw [h1] at hp1
  obtain ⟨p1, p2, p3⟩ := pre_two h0 h1 hk1
  have hbc1 : ∃ b1, isBB (bt s k) = b1 := ⟨_, rfl⟩
  have hbc2 : ∃ b2, isBB (bt s (k + 1)) = b2 := ⟨_, rfl⟩
  obtain ⟨b1, hb1⟩ := hbc1
  obtain ⟨b2, hb2⟩ := hbc2
  rw [hb1, hb2] at p1 p2 p3
  have HB1 := Lib.hid hb1
  have HB2 := Lib.hid hb2
  clear hb1 hb2
  clear h0 hn
  have H1 := Lib.hid h1
  clear h1
  by_cases hl : k + 2 < s.size
  · skip
    by_cases hm : markB (bt s (k + 2)) = true
    · have HN : Hid (preP s k = (2, isBB (bt s k) || isBB (bt s (k + 1)), !(isBB (bt s k) == isBB (bt s (k + 1))))) := by
        show preP s k = _
        rw [HP.out, if_pos hm]
      rw [HB1.out, HB2.out] at HN
      cases b1 <;> cases b2
      all_goals
        go_enter Tryz.func23, Tryz.ntmps23
        go_wp2_with fail
        refine wp_loop_rounds 3 ?_
        rw [rounds_succ]
        go_wp2_with fail
        refine (has37 _ _ w (by decide) (by rw [ByteArray.size_extract]; omega)).mono ?_; rintro e w' ⟨he, rfl⟩; obtain rfl : e = .returned (.bool true) := he.trans (congrArg (fun b => Ending.returned (.bool b)) hp0)
        go_wp2_with fail
        rw [rounds_succ]
        go_wp2_with fail
        refine (has37 _ _ w (by decide) (by rw [ByteArray.size_extract]; omega)).mono ?_; rintro e w' ⟨he, rfl⟩; obtain rfl : e = .returned (.bool true) := he.trans (congrArg (fun b => Ending.returned (.bool b)) hp1)
        go_wp2_with fail
        rw [rounds_succ]
        go_wp2_with fail
        refine (mark22 _ _).mono ?_; rintro e w' ⟨he, rfl⟩; obtain rfl : e = .returned (.bool true) := he.trans (congrArg (fun b => Ending.returned (.bool b)) hm)
        go_wp2_with fail
        refine (upper26 _ _ (by rw [ByteArray.size_extract]; omega)).mono ?_; rintro e w1 ⟨rfl, hb⟩
        go_wp2_with fail
        refine (has37 _ _ w1 (by rw [upB_size, ByteArray.size_extract]; omega) (by decide)).mono ?_; rintro e w' ⟨he, rfl⟩; obtain rfl : e = .returned (.bool _) := he.trans (congrArg (fun b => Ending.returned (.bool b)) p1)
        go_wp2_with fail
        go_ret3
        exact ⟨ret_pre HN.out, hb⟩
    · have hm2 : markB (bt s (k + 2)) = false := by simpa using hm
      have HN : Hid (preP s k = (0, false, false)) := by
        show preP s k = _
        rw [HP.out, if_neg hm]
      go_enter Tryz.func23, Tryz.ntmps23
      go_wp2_with fail
      refine wp_loop_rounds 3 ?_
      rw [rounds_succ]
      go_wp2_with fail
      refine (has37 _ _ w (by decide) (by rw [ByteArray.size_extract]; omega)).mono ?_; rintro e w' ⟨he, rfl⟩; obtain rfl : e = .returned (.bool true) := he.trans (congrArg (fun b => Ending.returned (.bool b)) hp0)
      go_wp2_with fail
      rw [rounds_succ]
      go_wp2_with fail
      refine (has37 _ _ w (by decide) (by rw [ByteArray.size_extract]; omega)).mono ?_; rintro e w' ⟨he, rfl⟩; obtain rfl : e = .returned (.bool true) := he.trans (congrArg (fun b => Ending.returned (.bool b)) hp1)
      go_wp2_with fail
      rw [rounds_succ]
      go_wp2_with fail
      refine (mark22 _ _).mono ?_; rintro e w' ⟨he, rfl⟩; obtain rfl : e = .returned (.bool false) := he.trans (congrArg (fun b => Ending.returned (.bool b)) hm2)
      go_wp2_with fail
      go_ret3
      exact ⟨ret_pre HN.out, Below.refl _ _⟩
  · skip
    have HN : Hid (preP s k = (0, false, false)) := by
      show preP s k = _
      rw [HP.out, bt_ge (show s.size ≤ k + 2 by omega)]; rfl
    go_enter Tryz.func23, Tryz.ntmps23
    go_wp2_with fail
    refine wp_loop_rounds 3 ?_
    rw [rounds_succ]
    go_wp2_with fail
    refine (has37 _ _ w (by decide) (by rw [ByteArray.size_extract]; omega)).mono ?_; rintro e w' ⟨he, rfl⟩; obtain rfl : e = .returned (.bool true) := he.trans (congrArg (fun b => Ending.returned (.bool b)) hp0)
    go_wp2_with fail
    rw [rounds_succ]
    go_wp2_with fail
    refine (has37 _ _ w (by decide) (by rw [ByteArray.size_extract]; omega)).mono ?_; rintro e w' ⟨he, rfl⟩; obtain rfl : e = .returned (.bool true) := he.trans (congrArg (fun b => Ending.returned (.bool b)) hp1)
    go_wp2_with fail
    rw [rounds_succ]
    go_wp2_with fail
    go_ret3
    exact ⟨ret_pre HN.out, Below.refl _ _⟩

theorem prefix23 (s : ByteArray) (k : Nat) (w : World) (hs : s.size ≤ 2000) (hk : k < s.size) :
    Calls Tryz.prog 23 #[.string s, .int .i64 (k : Int)] w fun e w' => e = .returned (.tuple #[.int .i64 ((preP s k).1 : Int), .bool (preP s k).2.1, .bool (preP s k).2.2]) ∧ Below w.heap.size w w' := by
  by_cases h0 : inP (bt s k) = true
  · by_cases h1 : inP (bt s (k + 1)) = true
    · exact prefix23_2 s k w hs hk h0 h1
    · exact prefix23_1 s k w hs hk h0 (by simpa using h1)
  · exact prefix23_0 s k w hs hk (by simpa using h0)
end Go.Proofs.YtahcbeofaeflgaaGreatDoor
