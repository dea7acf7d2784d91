/- Lemmas towards the statement FnLexCardSaid, conditions: as each theorem says. -/
import Derived.Test.YtahcbeofaeflgaaGreatDoorA7
namespace Go.Proofs.YtahcbeofaeflgaaGreatDoor
open Go.RowKit

/-- A literal's marks at a place: one, or three. -/
def mkB (s : ByteArray) (c m i : Nat) : Bool := if m = 3 then (bt s i == c && bt s (i + 1) == c && bt s (i + 2) == c) else bt s i == c
/-- The place of the closing marks, from a place on. -/
def quoF (s : ByteArray) (c m i : Nat) : Option Nat :=
  if i < s.size then (if mkB s c m i = true then some i else if bt s i = 10 ∧ m = 1 then none else quoF s c m (i + 1)) else none
  termination_by s.size - i
def quoM (s : ByteArray) (k : Nat) : Nat := if bt s (k + 1) = bt s k ∧ bt s (k + 2) = bt s k then 3 else 1
/-- Where a literal ends, and what stands between its marks. -/
def quoP (s : ByteArray) (k : Nat) : Option (Nat × ByteArray) :=
  (quoF s (bt s k) (quoM s k) (k + quoM s k)).map fun j => (j + quoM s k, s.extract (k + quoM s k) j)
def quoR (s : ByteArray) (k : Nat) : Nat × ByteArray × Bool := match quoP s k with
  | some (e, v) => (e, v, true)
  | none => (k, ⟨#[]⟩, false)
theorem quoF_yes {s : ByteArray} {c m i : Nat} (h : i < s.size) (hb : mkB s c m i = true) : quoF s c m i = some i := by
  unfold quoF; rw [if_pos h, if_pos hb]
theorem quoF_nl {s : ByteArray} {c i : Nat} (h : i < s.size) (hb : mkB s c 1 i = false) (hn : bt s i = 10) : quoF s c 1 i = none := by
  unfold quoF; rw [if_pos h, if_neg (by simp [hb]), if_pos ⟨hn, rfl⟩]
theorem quoF_next {s : ByteArray} {c m i : Nat} (h : i < s.size) (hb : mkB s c m i = false) (hn : ¬ (bt s i = 10 ∧ m = 1)) : quoF s c m i = quoF s c m (i + 1) := by
  conv => lhs; unfold quoF
  rw [if_pos h, if_neg (by simp [hb]), if_neg hn]
theorem quoF_end {s : ByteArray} {c m i : Nat} (h : s.size ≤ i) : quoF s c m i = none := by
  unfold quoF; rw [if_neg (by omega)]
theorem mkB_lt {s : ByteArray} {c m i : Nat} (hc : c < 256) (hm : m = 1 ∨ m = 3) (hb : mkB s c m i = true) : i + m ≤ s.size := by
  unfold mkB at hb
  rcases hm with rfl | rfl
  · simp at hb
    have := lt_of_bt (s := s) (k := i) (by omega)
    omega
  · simp at hb
    have := lt_of_bt (s := s) (k := i + 2) (by omega)
    omega

theorem one_ext {s : ByteArray} {k : Nat} {c : UInt8} (h : bt s k = c.toNat) : s.extract k (k + 1) = ⟨#[c]⟩ := by
  have hl : k < s.size := lt_of_bt (by have := c.toNat_lt; omega)
  apply bt_inj
  intro i
  rcases Nat.lt_or_ge i 1 with hi | hi
  · have : i = 0 := by omega
    subst this
    rw [bt_ext (by omega) (by omega)]; exact h
  · rw [bt_ge (by rw [ByteArray.size_extract]; omega), bt_ge (show ByteArray.size ⟨#[c]⟩ ≤ i from hi)]
theorem stB_three (s : ByteArray) (k : Nat) (a : UInt8) : stB s k ⟨#[a, a, a]⟩ = mkB s a.toNat 3 k := by
  rw [Bool.eq_iff_iff, stB_iff _ _ ⟨#[a, a, a]⟩ (Nat.zero_lt_succ 2)]
  simp only [mkB, if_true, Bool.and_eq_true, beq_iff_eq]
  constructor
  · intro h
    exact ⟨⟨h 0 (by decide : 0 < 3), h 1 (by decide : 1 < 3)⟩, h 2 (by decide : 2 < 3)⟩
  · rintro ⟨⟨h1, h2⟩, h3⟩ i hi
    have hi' : i < 3 := hi
    match i, hi' with
    | 0, _ => exact h1
    | 1, _ => exact h2
    | 2, _ => exact h3
theorem stB_mk1 (s : ByteArray) (k : Nat) (a : UInt8) : stB s k ⟨#[a]⟩ = mkB s a.toNat 1 k := by
  rw [stB_one]; rfl

theorem ret_quo {s : ByteArray} {k e : Nat} {b : ByteArray} {c : Bool} (h : quoR s k = (e, b, c)) :
    Ending.returned (.tuple #[.int .i64 (e : Int), .string b, .bool c]) = .returned (.tuple #[.int .i64 ((quoR s k).1 : Int), .string (quoR s k).2.1, .bool (quoR s k).2.2]) := by rw [h]

set_option maxHeartbeats 2000000 in
theorem quoted24_d3 (s : ByteArray) (k : Nat) (w : World) (hs : s.size ≤ 2147483000) (hc : bt s k = 34) (hm : quoM s k = 3) :
    Calls Tryz.prog 24 #[.string s, .int .i64 (k : Int)] w fun e w' => e = .returned (.tuple #[.int .i64 ((quoR s k).1 : Int), .string (quoR s k).2.1, .bool (quoR s k).2.2]) ∧ ∃ n, w' = w.drewN n := by
  have hk : k < s.size := lt_of_bt (by omega)
  have HB : ∀ (q : Nat) (h : q < s.size), s[q].toNat = bt s q := fun q h => (bt_lt h).symm
  have hx : s.extract k (k + 1) = ⟨#[34]⟩ := one_ext hc
  have HQ : Hid (quoR s k = match (quoF s 34 3 (k + 3)).map fun j => (j + 3, s.extract (k + 3) j) with | some (e, v) => (e, v, true) | none => (k, ⟨#[]⟩, false)) := by
    show quoR s k = _
    unfold quoR quoP; rw [hc, hm]
  have h3 : stB s k ⟨#[34, 34, 34]⟩ = true := by
    rw [stB_three]; unfold quoM at hm; rw [hc] at hm; simp only [mkB, if_true, hc]; split at hm <;> simp_all
  have hl3 : k + 3 ≤ s.size := mkB_lt (c := 34) (m := 3) (by omega) (Or.inr rfl) (by have h4 := h3; rw [stB_three] at h4; exact h4)
  have hcat : (⟨#[34]⟩ : ByteArray) ++ ⟨#[34]⟩ ++ ⟨#[34]⟩ = ⟨#[34, 34, 34]⟩ := rfl
  clear hc hm
  go_enter Tryz.func24, Tryz.ntmps24
  go_wp2_with (go_at_call 14; refine (starts14 s k _ _ (by omega) (by decide) (by omega)).mono ?_; rintro e w' ⟨rfl, rfl⟩)
  go_loop [9] (fun v => ∃ j : Nat, k + 3 ≤ j ∧ j ≤ s.size ∧ v = .int .i64 j ∧ Hid (quoF s 34 3 (k + 3) = quoF s 34 3 j)) (fun v => s.size - (intOf v).toNat)
  case atStart => exact ⟨k + 3, by omega, by omega, by go_num, rfl⟩
  case round =>
    obtain ⟨j, hkj, hj, rfl, hrn⟩ := hrel
    by_cases hlt : j < s.size
    · by_cases hmk : mkB s 34 3 j = true
      · have hmk2 : stB s j ⟨#[34, 34, 34]⟩ = true := by rw [stB_three]; exact hmk
        have hend := mkB_lt (by omega) (by omega) hmk
        have HN : Hid (quoR s k = (j + 3, s.extract (k + 3) j, true)) := by
          show quoR s k = _
          rw [HQ.out, hrn.out, quoF_yes hlt hmk]; rfl
        clear hmk
        go_wp2_with (go_at_call 14; refine (starts14 s j _ _ (by omega) (by decide) (by omega)).mono ?_; rintro e w' ⟨rfl, rfl⟩)
        have e1 : IntKind.i64.wrap ((j : Int) + 3) = (j : Int) + 3 := IntWalk.i64_in _ (by omega)
        have e2 : (k : Int) + 3 ≤ (j : Int) := by omega
        have e3 : 0 ≤ (k : Int) + 3 := by omega
        have e4 : (j : Int) ≤ (s.size : Int) := by omega
        have e5 : ((k : Int) + 3).toNat = k + 3 := by omega
        go_quiet (fail)
        go_wp2
        go_ret3
        exact ⟨ret_quo HN.out, _, rfl⟩
      · have hmk3 : mkB s 34 3 j = false := by simpa using hmk
        have hmk2 : stB s j ⟨#[34, 34, 34]⟩ = false := by rw [stB_three]; exact hmk3
        clear hmk
        by_cases hnl : bt s j = 10
        · have n1 : ((bt s j : Int) == 10) = true := yb (c := 10) hnl
          have HN := Lib.hid (quoF_next (c := 34) (m := 3) hlt hmk3 (fun h => absurd h.2 (by decide)))
          clear hnl hmk3
          go_wp2_with (go_at_call 14; refine (starts14 s j _ _ (by omega) (by decide) (by omega)).mono ?_; rintro e w' ⟨rfl, rfl⟩)
          go_round
          case rel => exact ⟨j + 1, by omega, by omega, by go_num, by have h := hrn.out; rw [HN.out] at h; exact h⟩
          case measure => simp [intOf]; omega
        · have n1 : ((bt s j : Int) == 10) = false := nb (c := 10) hnl
          have HN := Lib.hid (quoF_next (c := 34) (m := 3) hlt hmk3 (fun h => hnl h.1))
          clear hnl hmk3
          go_wp2_with (go_at_call 14; refine (starts14 s j _ _ (by omega) (by decide) (by omega)).mono ?_; rintro e w' ⟨rfl, rfl⟩)
          go_round
          case rel => exact ⟨j + 1, by omega, by omega, by go_num, by have h := hrn.out; rw [HN.out] at h; exact h⟩
          case measure => simp [intOf]; omega
    · have HN : Hid (quoR s k = (k, ⟨#[]⟩, false)) := by
        show quoR s k = _
        rw [HQ.out, hrn.out, quoF_end (by omega)]; rfl
      go_wp2_with fail
      go_ret3
      exact ⟨ret_quo HN.out, 0, rfl⟩

set_option maxHeartbeats 2000000 in
theorem quoted24_d1 (s : ByteArray) (k : Nat) (w : World) (hs : s.size ≤ 2147483000) (hc : bt s k = 34) (hm : quoM s k = 1) :
    Calls Tryz.prog 24 #[.string s, .int .i64 (k : Int)] w fun e w' => e = .returned (.tuple #[.int .i64 ((quoR s k).1 : Int), .string (quoR s k).2.1, .bool (quoR s k).2.2]) ∧ ∃ n, w' = w.drewN n := by
  have hk : k < s.size := lt_of_bt (by omega)
  have HB : ∀ (q : Nat) (h : q < s.size), s[q].toNat = bt s q := fun q h => (bt_lt h).symm
  have hx : s.extract k (k + 1) = ⟨#[34]⟩ := one_ext hc
  have HQ : Hid (quoR s k = match (quoF s 34 1 (k + 1)).map fun j => (j + 1, s.extract (k + 1) j) with | some (e, v) => (e, v, true) | none => (k, ⟨#[]⟩, false)) := by
    show quoR s k = _
    unfold quoR quoP; rw [hc, hm]
  have h3 : stB s k ⟨#[34, 34, 34]⟩ = false := by
    rw [stB_three]; unfold quoM at hm; rw [hc] at hm; simp only [mkB, if_true, hc]; split at hm <;> simp_all
  have hcat : (⟨#[34]⟩ : ByteArray) ++ ⟨#[34]⟩ ++ ⟨#[34]⟩ = ⟨#[34, 34, 34]⟩ := rfl
  clear hc hm
  go_enter Tryz.func24, Tryz.ntmps24
  go_wp2_with (go_at_call 14; refine (starts14 s k _ _ (by omega) (by decide) (by omega)).mono ?_; rintro e w' ⟨rfl, rfl⟩)
  go_loop [9] (fun v => ∃ j : Nat, k + 1 ≤ j ∧ j ≤ s.size ∧ v = .int .i64 j ∧ Hid (quoF s 34 1 (k + 1) = quoF s 34 1 j)) (fun v => s.size - (intOf v).toNat)
  case atStart => exact ⟨k + 1, by omega, by omega, by go_num, rfl⟩
  case round =>
    obtain ⟨j, hkj, hj, rfl, hrn⟩ := hrel
    by_cases hlt : j < s.size
    · by_cases hmk : mkB s 34 1 j = true
      · have hmk2 : stB s j ⟨#[34]⟩ = true := by rw [stB_mk1]; exact hmk
        have hend := mkB_lt (by omega) (by omega) hmk
        have HN : Hid (quoR s k = (j + 1, s.extract (k + 1) j, true)) := by
          show quoR s k = _
          rw [HQ.out, hrn.out, quoF_yes hlt hmk]; rfl
        clear hmk
        go_wp2_with (go_at_call 14; refine (starts14 s j _ _ (by omega) (by decide) (by omega)).mono ?_; rintro e w' ⟨rfl, rfl⟩)
        have e1 : IntKind.i64.wrap ((j : Int) + 1) = (j : Int) + 1 := IntWalk.i64_in _ (by omega)
        have e2 : (k : Int) + 1 ≤ (j : Int) := by omega
        have e3 : 0 ≤ (k : Int) + 1 := by omega
        have e4 : (j : Int) ≤ (s.size : Int) := by omega
        have e5 : ((k : Int) + 1).toNat = k + 1 := by omega
        go_quiet (fail)
        go_wp2
        go_ret3
        exact ⟨ret_quo HN.out, _, rfl⟩
      · have hmk3 : mkB s 34 1 j = false := by simpa using hmk
        have hmk2 : stB s j ⟨#[34]⟩ = false := by rw [stB_mk1]; exact hmk3
        clear hmk
        by_cases hnl : bt s j = 10
        · have n1 : ((bt s j : Int) == 10) = true := yb (c := 10) hnl
          have HN : Hid (quoR s k = (k, ⟨#[]⟩, false)) := by
            show quoR s k = _
            rw [HQ.out, hrn.out, quoF_nl hlt hmk3 hnl]; rfl
          clear hnl hmk3
          go_wp2_with (go_at_call 14; refine (starts14 s j _ _ (by omega) (by decide) (by omega)).mono ?_; rintro e w' ⟨rfl, rfl⟩)
          go_ret3
          exact ⟨ret_quo HN.out, 0, rfl⟩
        · have n1 : ((bt s j : Int) == 10) = false := nb (c := 10) hnl
          have HN := Lib.hid (quoF_next (c := 34) (m := 1) hlt hmk3 (fun h => hnl h.1))
          clear hnl hmk3
          go_wp2_with (go_at_call 14; refine (starts14 s j _ _ (by omega) (by decide) (by omega)).mono ?_; rintro e w' ⟨rfl, rfl⟩)
          go_round
          case rel => exact ⟨j + 1, by omega, by omega, by go_num, by have h := hrn.out; rw [HN.out] at h; exact h⟩
          case measure => simp [intOf]; omega
    · have HN : Hid (quoR s k = (k, ⟨#[]⟩, false)) := by
        show quoR s k = _
        rw [HQ.out, hrn.out, quoF_end (by omega)]; rfl
      go_wp2_with fail
      go_ret3
      exact ⟨ret_quo HN.out, 0, rfl⟩

set_option maxHeartbeats 2000000 in
theorem quoted24_s3 (s : ByteArray) (k : Nat) (w : World) (hs : s.size ≤ 2147483000) (hc : bt s k = 39) (hm : quoM s k = 3) :
    Calls Tryz.prog 24 #[.string s, .int .i64 (k : Int)] w fun e w' => e = .returned (.tuple #[.int .i64 ((quoR s k).1 : Int), .string (quoR s k).2.1, .bool (quoR s k).2.2]) ∧ ∃ n, w' = w.drewN n := by
  have hk : k < s.size := lt_of_bt (by omega)
  have HB : ∀ (q : Nat) (h : q < s.size), s[q].toNat = bt s q := fun q h => (bt_lt h).symm
  have hx : s.extract k (k + 1) = ⟨#[39]⟩ := one_ext hc
  have HQ : Hid (quoR s k = match (quoF s 39 3 (k + 3)).map fun j => (j + 3, s.extract (k + 3) j) with | some (e, v) => (e, v, true) | none => (k, ⟨#[]⟩, false)) := by
    show quoR s k = _
    unfold quoR quoP; rw [hc, hm]
  have h3 : stB s k ⟨#[39, 39, 39]⟩ = true := by
    rw [stB_three]; unfold quoM at hm; rw [hc] at hm; simp only [mkB, if_true, hc]; split at hm <;> simp_all
  have hl3 : k + 3 ≤ s.size := mkB_lt (c := 39) (m := 3) (by omega) (Or.inr rfl) (by have h4 := h3; rw [stB_three] at h4; exact h4)
  have hcat : (⟨#[39]⟩ : ByteArray) ++ ⟨#[39]⟩ ++ ⟨#[39]⟩ = ⟨#[39, 39, 39]⟩ := rfl
  clear hc hm
  go_enter Tryz.func24, Tryz.ntmps24
  go_wp2_with (go_at_call 14; refine (starts14 s k _ _ (by omega) (by decide) (by omega)).mono ?_; rintro e w' ⟨rfl, rfl⟩)
  go_loop [9] (fun v => ∃ j : Nat, k + 3 ≤ j ∧ j ≤ s.size ∧ v = .int .i64 j ∧ Hid (quoF s 39 3 (k + 3) = quoF s 39 3 j)) (fun v => s.size - (intOf v).toNat)
  case atStart => exact ⟨k + 3, by omega, by omega, by go_num, rfl⟩
  case round =>
    obtain ⟨j, hkj, hj, rfl, hrn⟩ := hrel
    by_cases hlt : j < s.size
    · by_cases hmk : mkB s 39 3 j = true
      · have hmk2 : stB s j ⟨#[39, 39, 39]⟩ = true := by rw [stB_three]; exact hmk
        have hend := mkB_lt (by omega) (by omega) hmk
        have HN : Hid (quoR s k = (j + 3, s.extract (k + 3) j, true)) := by
          show quoR s k = _
          rw [HQ.out, hrn.out, quoF_yes hlt hmk]; rfl
        clear hmk
        go_wp2_with (go_at_call 14; refine (starts14 s j _ _ (by omega) (by decide) (by omega)).mono ?_; rintro e w' ⟨rfl, rfl⟩)
        have e1 : IntKind.i64.wrap ((j : Int) + 3) = (j : Int) + 3 := IntWalk.i64_in _ (by omega)
        have e2 : (k : Int) + 3 ≤ (j : Int) := by omega
        have e3 : 0 ≤ (k : Int) + 3 := by omega
        have e4 : (j : Int) ≤ (s.size : Int) := by omega
        have e5 : ((k : Int) + 3).toNat = k + 3 := by omega
        go_quiet (fail)
        go_wp2
        go_ret3
        exact ⟨ret_quo HN.out, _, rfl⟩
      · have hmk3 : mkB s 39 3 j = false := by simpa using hmk
        have hmk2 : stB s j ⟨#[39, 39, 39]⟩ = false := by rw [stB_three]; exact hmk3
        clear hmk
        by_cases hnl : bt s j = 10
        · have n1 : ((bt s j : Int) == 10) = true := yb (c := 10) hnl
          have HN := Lib.hid (quoF_next (c := 39) (m := 3) hlt hmk3 (fun h => absurd h.2 (by decide)))
          clear hnl hmk3
          go_wp2_with (go_at_call 14; refine (starts14 s j _ _ (by omega) (by decide) (by omega)).mono ?_; rintro e w' ⟨rfl, rfl⟩)
          go_round
          case rel => exact ⟨j + 1, by omega, by omega, by go_num, by have h := hrn.out; rw [HN.out] at h; exact h⟩
          case measure => simp [intOf]; omega
        · have n1 : ((bt s j : Int) == 10) = false := nb (c := 10) hnl
          have HN := Lib.hid (quoF_next (c := 39) (m := 3) hlt hmk3 (fun h => hnl h.1))
          clear hnl hmk3
          go_wp2_with (go_at_call 14; refine (starts14 s j _ _ (by omega) (by decide) (by omega)).mono ?_; rintro e w' ⟨rfl, rfl⟩)
          go_round
          case rel => exact ⟨j + 1, by omega, by omega, by go_num, by have h := hrn.out; rw [HN.out] at h; exact h⟩
          case measure => simp [intOf]; omega
    · have HN : Hid (quoR s k = (k, ⟨#[]⟩, false)) := by
        show quoR s k = _
        rw [HQ.out, hrn.out, quoF_end (by omega)]; rfl
      go_wp2_with fail
      go_ret3
      exact ⟨ret_quo HN.out, 0, rfl⟩

set_option maxHeartbeats 2000000 in
theorem quoted24_s1 (s : ByteArray) (k : Nat) (w : World) (hs : s.size ≤ 2147483000) (hc : bt s k = 39) (hm : quoM s k = 1) :
    Calls Tryz.prog 24 #[.string s, .int .i64 (k : Int)] w fun e w' => e = .returned (.tuple #[.int .i64 ((quoR s k).1 : Int), .string (quoR s k).2.1, .bool (quoR s k).2.2]) ∧ ∃ n, w' = w.drewN n := by
  have hk : k < s.size := lt_of_bt (by omega)
  have HB : ∀ (q : Nat) (h : q < s.size), s[q].toNat = bt s q := fun q h => (bt_lt h).symm
  have hx : s.extract k (k + 1) = ⟨#[39]⟩ := one_ext hc
  have HQ : Hid (quoR s k = match (quoF s 39 1 (k + 1)).map fun j => (j + 1, s.extract (k + 1) j) with | some (e, v) => (e, v, true) | none => (k, ⟨#[]⟩, false)) := by
    show quoR s k = _
    unfold quoR quoP; rw [hc, hm]
  have h3 : stB s k ⟨#[39, 39, 39]⟩ = false := by
    rw [stB_three]; unfold quoM at hm; rw [hc] at hm; simp only [mkB, if_true, hc]; split at hm <;> simp_all
  have hcat : (⟨#[39]⟩ : ByteArray) ++ ⟨#[39]⟩ ++ ⟨#[39]⟩ = ⟨#[39, 39, 39]⟩ := rfl
  clear hc hm
  go_enter Tryz.func24, Tryz.ntmps24
  go_wp2_with (go_at_call 14; refine (starts14 s k _ _ (by omega) (by decide) (by omega)).mono ?_; rintro e w' ⟨rfl, rfl⟩)
  go_loop [9] (fun v => ∃ j : Nat, k + 1 ≤ j ∧ j ≤ s.size ∧ v = .int .i64 j ∧ Hid (quoF s 39 1 (k + 1) = quoF s 39 1 j)) (fun v => s.size - (intOf v).toNat)
  case atStart => exact ⟨k + 1, by omega, by omega, by go_num, rfl⟩
  case round =>
    obtain ⟨j, hkj, hj, rfl, hrn⟩ := hrel
    by_cases hlt : j < s.size
    · by_cases hmk : mkB s 39 1 j = true
      · have hmk2 : stB s j ⟨#[39]⟩ = true := by rw [stB_mk1]; exact hmk
        have hend := mkB_lt (by omega) (by omega) hmk
        have HN : Hid (quoR s k = (j + 1, s.extract (k + 1) j, true)) := by
          show quoR s k = _
          rw [HQ.out, hrn.out, quoF_yes hlt hmk]; rfl
        clear hmk
        go_wp2_with (go_at_call 14; refine (starts14 s j _ _ (by omega) (by decide) (by omega)).mono ?_; rintro e w' ⟨rfl, rfl⟩)
        have e1 : IntKind.i64.wrap ((j : Int) + 1) = (j : Int) + 1 := IntWalk.i64_in _ (by omega)
        have e2 : (k : Int) + 1 ≤ (j : Int) := by omega
        have e3 : 0 ≤ (k : Int) + 1 := by omega
        have e4 : (j : Int) ≤ (s.size : Int) := by omega
        have e5 : ((k : Int) + 1).toNat = k + 1 := by omega
        go_quiet (fail)
        go_wp2
        go_ret3
        exact ⟨ret_quo HN.out, _, rfl⟩
      · have hmk3 : mkB s 39 1 j = false := by simpa using hmk
        have hmk2 : stB s j ⟨#[39]⟩ = false := by rw [stB_mk1]; exact hmk3
        clear hmk
        by_cases hnl : bt s j = 10
        · have n1 : ((bt s j : Int) == 10) = true := yb (c := 10) hnl
          have HN : Hid (quoR s k = (k, ⟨#[]⟩, false)) := by
            show quoR s k = _
            rw [HQ.out, hrn.out, quoF_nl hlt hmk3 hnl]; rfl
          clear hnl hmk3
          go_wp2_with (go_at_call 14; refine (starts14 s j _ _ (by omega) (by decide) (by omega)).mono ?_; rintro e w' ⟨rfl, rfl⟩)
          go_ret3
          exact ⟨ret_quo HN.out, 0, rfl⟩
        · have n1 : ((bt s j : Int) == 10) = false := nb (c := 10) hnl
          have HN := Lib.hid (quoF_next (c := 39) (m := 1) hlt hmk3 (fun h => hnl h.1))
          clear hnl hmk3
          go_wp2_with (go_at_call 14; refine (starts14 s j _ _ (by omega) (by decide) (by omega)).mono ?_; rintro e w' ⟨rfl, rfl⟩)
          go_round
          case rel => exact ⟨j + 1, by omega, by omega, by go_num, by have h := hrn.out; rw [HN.out] at h; exact h⟩
          case measure => simp [intOf]; omega
    · have HN : Hid (quoR s k = (k, ⟨#[]⟩, false)) := by
        show quoR s k = _
        rw [HQ.out, hrn.out, quoF_end (by omega)]; rfl
      go_wp2_with fail
      go_ret3
      exact ⟨ret_quo HN.out, 0, rfl⟩

theorem quoM_or (s : ByteArray) (k : Nat) : quoM s k = 1 ∨ quoM s k = 3 := by unfold quoM; split <;> simp
theorem quoted24 (s : ByteArray) (k : Nat) (w : World) (hs : s.size ≤ 2147483000) (hc : markB (bt s k) = true) :
    Calls Tryz.prog 24 #[.string s, .int .i64 (k : Int)] w fun e w' => e = .returned (.tuple #[.int .i64 ((quoR s k).1 : Int), .string (quoR s k).2.1, .bool (quoR s k).2.2]) ∧ ∃ n, w' = w.drewN n := by
  unfold markB at hc
  rcases of_decide_eq_true hc with h | h <;> rcases quoM_or s k with hm | hm
  · exact quoted24_s1 s k w hs h hm
  · exact quoted24_s3 s k w hs h hm
  · exact quoted24_d1 s k w hs h hm
  · exact quoted24_d3 s k w hs h hm
end Go.Proofs.YtahcbeofaeflgaaGreatDoor
