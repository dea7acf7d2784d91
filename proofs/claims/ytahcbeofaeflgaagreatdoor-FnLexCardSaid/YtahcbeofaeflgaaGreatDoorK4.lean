/- Lemmas towards the statement FnLexCardSaid, conditions: as each theorem says. -/
import Derived.Test.YtahcbeofaeflgaaGreatDoorA5
namespace Go.Proofs.YtahcbeofaeflgaaGreatDoor
open Go.RowKit

theorem lt_of_bt' {s : ByteArray} {k : Nat} (h : bt s k ≠ 256) : k < s.size := by
  rcases Nat.lt_or_ge k s.size with h1 | h1
  · exact h1
  · exact absurd (bt_ge h1) h
/-- What 'plainText' asks of the byte at k. -/
def okAt (s : ByteArray) (k : Nat) : Prop :=
  ((32 ≤ bt s k ∧ bt s k ≤ 126 ∨ bt s k = 9 ∨ bt s k = 10) ∧ bt s k ≠ 92 ∧ bt s k ≠ 96) ∧ (bt s k = 33 → bt s (k + 1) = 61) ∧
  (0 < k → bt s k = 61 → bt s (k - 1) ≠ 43 ∧ bt s (k - 1) ≠ 45) ∧ (1 < k → ¬ (bt s (k - 2) = 47 ∧ bt s (k - 1) = 42 ∧ bt s k = 47))
theorem pl_of {s : ByteArray} (h : ∀ k, k < s.size → okAt s k) (hs : s.size ≤ 2000) : PL s where
  size := hs
  byte k hk := (h k hk).1
  bang k hk := (h k hk).2.1
  sgn k hk := by
    have h1 := lt_of_bt' (s := s) (k := k + 1) (by omega)
    have := (h (k + 1) h1).2.2.1 (by omega) hk
    simpa using this
  com k hc := by
    have h1 := lt_of_bt' (s := s) (k := k + 2) (by omega)
    have := (h (k + 2) h1).2.2.2 (by omega)
    exact this ⟨by simpa using hc.1, by simpa using hc.2.1, hc.2.2⟩

theorem com_of {s : ByteArray} {k : Nat} (h1 : 1 < k) (_hk : k < s.size) (h : ((s.extract (k - 2) (k + 1)).toList == [47, 42, 47]) = false) : ¬ (bt s (k - 2) = 47 ∧ bt s (k - 1) = 42 ∧ bt s k = 47) := by
  rintro ⟨ha, hb, hc⟩
  have h2 : stB s (k - 2) ⟨#[47, 42, 47]⟩ = true := (stB_iff _ _ ⟨#[47, 42, 47]⟩ (Nat.zero_lt_succ 2)).2 (fun i hi => by
    have hi' : i < 3 := hi
    match i, hi' with
    | 0, _ => exact ha
    | 1, _ => rw [show k - 2 + 1 = k - 1 by omega]; exact hb
    | 2, _ => rw [show k - 2 + 2 = k by omega]; exact hc)
  unfold stB at h2
  rw [Bool.and_eq_true] at h2
  have h3 := h2.2
  rw [show k - 2 + (⟨#[47, 42, 47]⟩ : ByteArray).size = k + 1 by show k - 2 + 3 = k + 1; omega] at h3
  rw [ByteArray.toList_eq ⟨#[47, 42, 47]⟩] at h3
  rw [h] at h3
  cases h3
/-- What 'plainText' hands back. -/
def P4 (s : ByteArray) (w : World) (e : Ending) (w' : World) : Prop := ∃ b : Bool, e = .returned (.bool b) ∧ w = w' ∧ (b = true → PL s)
set_option maxRecDepth 100000 in
set_option maxHeartbeats 4000000 in
theorem plainText4 (s : ByteArray) (w : World) (hs : s.size ≤ 2147483647) :
    Calls Tryz.prog 4 #[.string s] w (P4 s w) := by
  go_enter Tryz.func4, Tryz.ntmps4
  go_wp2
  go_loop [3] (fun i => ∃ j : Nat, j ≤ s.size ∧ i = .int .i64 j ∧ Hid (∀ k, k < j → okAt s k)) (fun i => s.size - (intOf i).toNat)
  case atStart => exact ⟨0, Nat.zero_le _, rfl, fun k hk => absurd hk (Nat.not_lt_zero _)⟩
  case round =>
    obtain ⟨j, hj, rfl, hrn⟩ := hrel
    by_cases hlt : j < s.size
    · have HB := Lib.hid (bt_lt hlt)
      go_wp2_with fail
      all_goals (first
        | (go_ret; exact ⟨_, rfl, rfl, fun h => by cases h⟩)
        | (go_round
           case measure => simp [intOf]; omega
           case rel =>
             refine ⟨j + 1, by omega, by go_num, fun k hk => ?_⟩
             rcases Nat.lt_or_ge k j with h1 | h1
             · exact hrn.out k h1
             · obtain rfl : k = j := by omega
               clear hrn hs
               have hb := HB.out
               have hb1 : ∀ h : k + 1 < s.size, bt s (k + 1) = (s[k + 1]'h).toNat := fun h => bt_lt h
               have hb0 : ∀ h : k - 1 < s.size, bt s (k - 1) = (s[k - 1]'h).toNat := fun h => bt_lt h
               unfold okAt
               rw [hb]
               refine ⟨⟨by omega, by omega, by omega⟩, fun h => ?_, fun hk0 h => ?_, fun hk1 h => ?_⟩
               · first
                 | omega
                 | (rw [hb1 (by omega)]; have h9 : ((k : Int) + 1 == (s.size : Int)) = false ∧ ((((s[k + 1]'(by omega)).toNat : Nat) : Int) != 61) = false := by assumption
                    have h8 := h9.2
                    simp at h8
                    omega)
               · first
                 | omega
                 | (rw [hb0 (by omega)]; omega)
               · first
                 | omega
                 | exact com_of hk1 hlt ‹_› (by rw [hb]; exact h)))
    · go_wp2_with fail
      go_ret
      refine ⟨_, rfl, rfl, fun h => pl_of (fun k hk => hrn.out k (by omega)) ?_⟩
      simp at h
      omega
end Go.Proofs.YtahcbeofaeflgaaGreatDoor
