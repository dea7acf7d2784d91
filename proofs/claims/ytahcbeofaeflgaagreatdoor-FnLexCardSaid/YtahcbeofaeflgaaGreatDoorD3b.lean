/- Lemmas towards the statement FnLexCardSaid, conditions: as each theorem says. -/
import Derived.Test.YtahcbeofaeflgaaGreatDoorG0
namespace Go.Proofs.YtahcbeofaeflgaaGreatDoor
open Go.RowKit

set_option maxRecDepth 100000 in
set_option maxHeartbeats 8000000 in
theorem one10_par (s : ByteArray) (k : Nat) (A : Option Addr) (n c : Nat) (k1 k2 : ByteArray) (w : World) (hs : s.size ≤ 2000) (hk : k < s.size) (hn : n ≤ 100000) (hv : Hid (Prev w A n c k1 k2)) (Z1 : Hid (dotB s k k1 k2 = false)) (Z2 : Hid (parP s k = true)) :
    Calls Tryz.prog 10 #[.string s, .int .i64 (k : Int), .slice A n c] w fun e w' => OnePost s k k1 k2 w e w' := by
  obtain ⟨b1, GD⟩ : ∃ b, b = dotB s k k1 k2 := ⟨_, rfl⟩
  have HV1 : Hid (b1 = false) := GD.trans Z1.out
  have GDh := Lib.hid GD.symm
  clear GD
  obtain ⟨b2, GP⟩ : ∃ b, b = parP s k := ⟨_, rfl⟩
  have HV2 : Hid (b2 = true) := GP.trans Z2.out
  have GPh := Lib.hid GP.symm
  clear GP
  have HB : ∀ q (h : q < s.size), s[q].toNat = bt s q := fun q h => (bt_lt h).symm
  go_enter Tryz.func10, Tryz.ntmps10
  go_upto_region 3 with (fail)
  go_cut [6, 8, 9, 10] (fun v6 v8 v9 v10 wx => v6 = .pointer (some ⟨w.heap.size, 0, none⟩) ∧ v8 = .pointer (some ⟨w.heap.size + 1, 0, none⟩) ∧ v9 = .int .u8 (bt s k : Int) ∧ v10 = .int .i64 (n : Int) ∧ TW w wx #[.string ⟨#[]⟩, .string ⟨#[]⟩, .string ⟨#[]⟩, .int .i64 0, .int .i64 0, .int .i64 0] #[.string ⟨#[]⟩, .string ⟨#[]⟩, .string ⟨#[]⟩, .int .i64 0, .int .i64 (k : Int), .int .i64 (k : Int)])
  case first =>
    go_wp2_with fail
    go_meet
    case rel => exact ⟨rfl, rfl, rfl, rfl, TW.new _ _ _⟩
  case rest =>
    obtain ⟨rfl, rfl, rfl, rfl, hT⟩ := hcut
    go_upto_region 6 with (fail)
    go_cut [32] (fun v32 wy => v32 = .bool b1 ∧ wc = wy)
    case first =>
      have hD := GDh.out
      have hP := hT.below
      by_cases hn1 : 1 < n
      · obtain ⟨g, rfl, e1, e2⟩ := hv.out.eqs hP hn1
        have hgt : (1 : Int) < (n : Int) := by omega
        have hcp := hv.out.cap
        have hcap : 1 ≤ (n : Int) ∧ (n : Int) - 1 ≤ (c : Int) := by omega
        rcases Bool.eq_false_or_eq_true (k1.toList == [46]) with hb1 | hb1
        · rcases Bool.eq_false_or_eq_true (ndB k2) with hb2 | hb2
          · obtain rfl : b1 = parB (bt s k) := by rw [← hD]; simp [dotB, hb1, hb2]
            clear hD
            go_wp2_with (first | (go_at_call 17; refine (after17 g (n - 1) c k2 wc (by omega) (by omega) e2).mono ?_; rintro e w' ⟨he, rfl⟩; obtain rfl : e = .returned (.bool true) := he.trans (congrArg (fun b => Ending.returned (.bool b)) hb2)) | (go_at_call 18; refine (part18 (bt s k) wc).mono ?_; rintro e w' ⟨rfl, rfl⟩))
            go_meet
            case rel => exact ⟨rfl, rfl⟩
          · obtain rfl : b1 = false := by rw [← hD]; simp [dotB, hb1, hb2]
            clear hD
            go_wp2_with (first | (go_at_call 17; refine (after17 g (n - 1) c k2 wc (by omega) (by omega) e2).mono ?_; rintro e w' ⟨he, rfl⟩; obtain rfl : e = .returned (.bool false) := he.trans (congrArg (fun b => Ending.returned (.bool b)) hb2)))
            go_meet
            case rel => exact ⟨rfl, rfl⟩
        · obtain rfl : b1 = false := by rw [← hD]; simp [dotB, hb1]
          clear hD
          go_wp2_with fail
          go_meet
          case rel => exact ⟨rfl, rfl⟩
      · obtain rfl : k2 = ⟨#[]⟩ := hv.out.one_ (by omega)
        obtain rfl : b1 = false := by rw [← hD]; simp [dotB, ndB, kIdent, kParam]
        clear hD
        have hgt : ¬ (1 : Int) < (n : Int) := by omega
        go_wp2_with fail
        go_meet
        case rel => exact ⟨rfl, rfl⟩
    case rest =>
      obtain ⟨rfl, rfl⟩ := hcut
      obtain rfl := HV1.out
      go_upto_region 9 with (fail)
      go_cut [66] (fun v wy => v = .bool b2 ∧ wc = wy)
      case first =>
        have hPa := GPh.out
        by_cases h64 : bt s k = 64
        · have hq : ((bt s k : Int) == 64) = true := by rw [h64]; rfl
          have HQ := Lib.hid h64
          by_cases hl : k + 1 < s.size
          · obtain rfl : b2 = letB (bt s (k + 1)) := by rw [← hPa]; simp [parP, h64]
            clear hPa h64
            have hl2 : (k : Int) + 1 < (s.size : Int) := by omega
            go_wp2_with (first | (go_at_call 19; refine (letter19 (bt s (k + 1)) wc).mono ?_; rintro e w' ⟨rfl, rfl⟩))
            go_meet
            case rel => exact ⟨rfl, rfl⟩
          · exact absurd (show b2 = false from by rw [← hPa]; simp [parP, bt_ge (show s.size ≤ k + 1 by omega), letB]) (by rw [HV2.out]; decide)
        · have hq : ((bt s k : Int) == 64) = false := by rw [beq_eq_false_iff_ne]; omega
          exact absurd (show b2 = false from by rw [← hPa]; simp [parP, h64]) (by rw [HV2.out]; decide)
      case rest =>
        obtain ⟨rfl, rfl⟩ := hcut
        obtain rfl := HV2.out
        have hT1 := hT
        have c0 := hT1.ct 0
        have c1 := hT1.ct 1
        have c2 := hT1.ct 2
        have c3 := hT1.ct 3
        have c4 := hT1.ct 4
        have c5 := hT1.ct 5
        have fr := hT1.ft
        have d0 := hT1.cr 0
        have d1 := hT1.cr 1
        have d2 := hT1.cr 2
        have d3 := hT1.cr 3
        have d4 := hT1.cr 4
        have d5 := hT1.cr 5
        have er := hT1.fr
        simp at c0 c1 c2 c3 c4 c5 d0 d1 d2 d3 d4 d5
        have hpp : parP s k = true := Z2.out
        have hpp2 : bt s k = 64 ∧ letB (bt s (k + 1)) = true := by simpa [parP] using hpp
        have hk1 : k + 1 < s.size := by
          apply lt_of_bt
          intro h; rw [h] at hpp2; simp [letB] at hpp2
        have hrl := run_le s parB (k + 1) (by omega)
        have hrg := run_ge s parB (k + 1)
        have hq : ((k + 1 : Nat) : Int) = (k : Int) + 1 := by omega
        go_wp2_with (first | (go_at_call 15; refine (while15_18 s (k + 1) wc (by omega) (by omega)).mono ?_; rintro e w' ⟨rfl, rfl⟩))
        go_region
        go_wp2_with fail
        refine ret10 ((((((((((hT1.set 0 _).set 5 _).set 2 _).set 1 _).setr 0 _).setr 1 _).setr 2 _).setr 3 _).setr 4 _).setr 5 _).drew rfl true rfl rfl (fun hbl => ?_)
        exact ⟨hbl, Or.inl ⟨⟨kParam, s.extract (k + 1) (run s parB (k + 1)), 0, run s parB (k + 1)⟩, by rw [oneP, if_neg (by rw [Z1.out]; decide), if_pos hpp], rfl, by simp only; omega, hrl⟩⟩

end Go.Proofs.YtahcbeofaeflgaaGreatDoor
