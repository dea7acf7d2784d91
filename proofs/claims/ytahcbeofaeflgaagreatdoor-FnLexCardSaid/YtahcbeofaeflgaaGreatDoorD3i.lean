/- Lemmas towards the statement FnLexCardSaid, conditions: as each theorem says. -/
import Derived.Test.YtahcbeofaeflgaaGreatDoorG0
namespace Go.Proofs.YtahcbeofaeflgaaGreatDoor
open Go.RowKit

set_option maxRecDepth 100000 in
set_option maxHeartbeats 8000000 in
theorem one10_lits (s : ByteArray) (k : Nat) (A : Option Addr) (n c : Nat) (k1 k2 : ByteArray) (w : World) (hs : s.size ≤ 2000) (hk : k < s.size) (hn : n ≤ 100000) (hv : Hid (Prev w A n c k1 k2)) (H64 : Hid (bt s k ≠ 64)) (H46 : Hid (bt s k ≠ 46)) (HDG : Hid (digB (bt s k) = false)) (HQ : Hid ((preP s k).2.2 = true)) (HPB : Hid ((preP s k).2.1 = false)) (Z1 : Hid (dotB s k k1 k2 = false)) (Z2 : Hid (parP s k = false)) (Z3 : Hid (nmB s k k1 = false)) (Z4 : Hid ((markB (bt s k) || letB (bt s k)) = true)) :
    Calls Tryz.prog 10 #[.string s, .int .i64 (k : Int), .slice A n c] w fun e w' => OnePost s k k1 k2 w e w' := by
  obtain ⟨b1, GD⟩ : ∃ b, b = dotB s k k1 k2 := ⟨_, rfl⟩
  have HV1 : Hid (b1 = false) := GD.trans Z1.out
  have GDh := Lib.hid GD.symm
  clear GD
  obtain ⟨b2, GP⟩ : ∃ b, b = parP s k := ⟨_, rfl⟩
  have HV2 : Hid (b2 = false) := GP.trans Z2.out
  have GPh := Lib.hid GP.symm
  clear GP
  obtain ⟨b3, GN⟩ : ∃ b, b = nmB s k k1 := ⟨_, rfl⟩
  have HV3 : Hid (b3 = false) := GN.trans Z3.out
  have GNh := Lib.hid GN.symm
  clear GN
  obtain ⟨b4, GM⟩ : ∃ b, b = (markB (bt s k) || letB (bt s k)) := ⟨_, rfl⟩
  have HV4 : Hid (b4 = true) := GM.trans Z4.out
  have GMh := Lib.hid GM.symm
  clear GM
  have HB : ∀ q (h : q < s.size), s[q].toNat = bt s q := fun q h => (bt_lt h).symm
  go_enter Tryz.func10, Tryz.ntmps10
  go_upto_region 3 with (fail)
  go_cut [6, 8, 9, 10] (fun v6 v8 v9 v10 wx => v6 = .pointer (some ⟨w.heap.size, 0, none⟩) ∧ v8 = .pointer (some ⟨w.heap.size + 1, 0, none⟩) ∧ v9 = .int .u8 (bt s k : Int) ∧ v10 = .int .i64 (n : Int) ∧ TW w wx #[.string ⟨#[]⟩, .string ⟨#[]⟩, .string ⟨#[]⟩, .int .i64 0, .int .i64 0, .int .i64 0] #[.string ⟨#[]⟩, .string ⟨#[]⟩, .string ⟨#[]⟩, .int .i64 0, .int .i64 (k : Int), .int .i64 (k : Int)])
  case first =>
    go_wp2_with fail
    go_meet
    case rel => exact ⟨rfl, rfl, rfl, rfl, TW.new _ _ _⟩
  case rest =>
    obtain ⟨rfl, rfl, rfl, rfl, hT⟩ := hcut
    go_upto_region 6 with (fail)
    go_cut [32] (fun v32 wy => v32 = .bool b1 ∧ wc = wy)
    case first =>
      have hD := GDh.out
      have hP := hT.below
      by_cases hn1 : 1 < n
      · obtain ⟨g, rfl, e1, e2⟩ := hv.out.eqs hP hn1
        have hgt : (1 : Int) < (n : Int) := by omega
        have hcp := hv.out.cap
        have hcap : 1 ≤ (n : Int) ∧ (n : Int) - 1 ≤ (c : Int) := by omega
        rcases Bool.eq_false_or_eq_true (k1.toList == [46]) with hb1 | hb1
        · rcases Bool.eq_false_or_eq_true (ndB k2) with hb2 | hb2
          · obtain rfl : b1 = parB (bt s k) := by rw [← hD]; simp [dotB, hb1, hb2]
            clear hD
            go_wp2_with (first | (go_at_call 17; refine (after17 g (n - 1) c k2 wc (by omega) (by omega) e2).mono ?_; rintro e w' ⟨he, rfl⟩; obtain rfl : e = .returned (.bool true) := he.trans (congrArg (fun b => Ending.returned (.bool b)) hb2)) | (go_at_call 18; refine (part18 (bt s k) wc).mono ?_; rintro e w' ⟨rfl, rfl⟩))
            go_meet
            case rel => exact ⟨rfl, rfl⟩
          · obtain rfl : b1 = false := by rw [← hD]; simp [dotB, hb1, hb2]
            clear hD
            go_wp2_with (first | (go_at_call 17; refine (after17 g (n - 1) c k2 wc (by omega) (by omega) e2).mono ?_; rintro e w' ⟨he, rfl⟩; obtain rfl : e = .returned (.bool false) := he.trans (congrArg (fun b => Ending.returned (.bool b)) hb2)))
            go_meet
            case rel => exact ⟨rfl, rfl⟩
        · obtain rfl : b1 = false := by rw [← hD]; simp [dotB, hb1]
          clear hD
          go_wp2_with fail
          go_meet
          case rel => exact ⟨rfl, rfl⟩
      · obtain rfl : k2 = ⟨#[]⟩ := hv.out.one_ (by omega)
        obtain rfl : b1 = false := by rw [← hD]; simp [dotB, ndB, kIdent, kParam]
        clear hD
        have hgt : ¬ (1 : Int) < (n : Int) := by omega
        go_wp2_with fail
        go_meet
        case rel => exact ⟨rfl, rfl⟩
    case rest =>
      obtain ⟨rfl, rfl⟩ := hcut
      obtain rfl := HV1.out
      go_upto_region 9 with (fail)
      go_cut [66] (fun v wy => v = .bool b2 ∧ wc = wy)
      case first =>
        have hPa := GPh.out
        have h64 := H64.out
        have hq : ((bt s k : Int) == 64) = false := by rw [beq_eq_false_iff_ne]; omega
        obtain rfl : b2 = false := by rw [← hPa]; simp [parP, h64]
        clear hPa h64
        go_wp2_with fail
        go_meet
        case rel => exact ⟨rfl, rfl⟩
      case rest =>
        obtain ⟨rfl, rfl⟩ := hcut
        obtain rfl := HV2.out
        go_upto_region 12 with (fail)
        go_cut [96] (fun v wy => v = .bool b3 ∧ wc = wy)
        case first =>
          have hN := GNh.out
          have h46 := H46.out
          have hd := HDG.out
          obtain rfl : b3 = false := by rw [← hN]; rw [nmB, hd]; simp [h46]
          have hq : ((bt s k : Int) == 46) = false := by rw [beq_eq_false_iff_ne]; omega
          clear hN h46
          go_wp2_with (first | (go_at_call 20; refine (digit20 (bt s k) wc).mono ?_; rintro e w' ⟨he, rfl⟩; obtain rfl : e = .returned (.bool false) := he.trans (congrArg (fun b => Ending.returned (.bool b)) hd)))
          go_meet
          case rel => exact ⟨rfl, rfl⟩
        case rest =>
          obtain ⟨rfl, rfl⟩ := hcut
          obtain rfl := HV3.out
          go_upto_region 16 with (fail)
          go_cut [145] (fun v wy => v = .bool b4 ∧ wc = wy)
          case first =>
            have hM := GMh.out
            rcases Bool.eq_false_or_eq_true (markB (bt s k)) with hd | hd
            · obtain rfl : b4 = true := by rw [← hM]; simp [hd]
              clear hM
              go_wp2_with (first | (go_at_call 22; refine (mark22 (bt s k) wc).mono ?_; rintro e w' ⟨he, rfl⟩; obtain rfl : e = .returned (.bool true) := he.trans (congrArg (fun b => Ending.returned (.bool b)) hd)))
              go_meet
              case rel => exact ⟨rfl, rfl⟩
            · obtain rfl : b4 = letB (bt s k) := by rw [← hM]; simp [hd]
              clear hM
              go_wp2_with (first | (go_at_call 22; refine (mark22 (bt s k) wc).mono ?_; rintro e w' ⟨he, rfl⟩; obtain rfl : e = .returned (.bool false) := he.trans (congrArg (fun b => Ending.returned (.bool b)) hd)) | (go_at_call 19; refine (letter19 (bt s k) wc).mono ?_; rintro e w' ⟨rfl, rfl⟩))
              go_meet
              case rel => exact ⟨rfl, rfl⟩
          case rest =>
            obtain ⟨rfl, rfl⟩ := hcut
            obtain rfl := HV4.out
            have hml : markB (bt s (k + (preP s k).1)) = true ∧ (preP s k).1 ≤ 2 := ⟨lit_mark s k HQ.out, run_pre s k⟩
            have hone : oneP s k k1 k2 = litP s k := by
              rw [oneP, if_neg (by rw [Z1.out]; decide), if_neg (by rw [Z2.out]; decide), if_neg (by rw [Z3.out]; decide), if_pos Z4.out, if_pos HQ.out]
            rw [litP, HPB.out] at hone
            have hqq := HQ.out
            have hpb := HPB.out
            obtain ⟨⟨pn, pb, pq⟩, hpp⟩ : ∃ x, preP s k = x := ⟨_, rfl⟩
            rw [hpp] at hml hone hqq hpb
            obtain rfl : pq = true := hqq
            obtain rfl : pb = false := hpb
            have HONE := Lib.hid hone
            have HPP := Lib.hid hpp
            clear hone hpp
            have hm1 : markB (bt s (k + pn)) = true := hml.1
            have hm2 : pn ≤ 2 := hml.2
            clear hml
            have HM1 := Lib.hid hm1
            clear hm1
            go_wp2_with fail
            refine (prefix23 s k wc hs hk).mono ?_; rintro e w1 ⟨he, hb⟩
            obtain rfl : e = .returned (.tuple #[.int .i64 (pn : Int), .bool false, .bool true]) := by rw [he, HPP.out]
            clear he
            have hT1 := hT.on hb
            have c0 := hT1.ct 0
            have c1 := hT1.ct 1
            have c2 := hT1.ct 2
            have c3 := hT1.ct 3
            have c4 := hT1.ct 4
            have c5 := hT1.ct 5
            have fr := hT1.ft
            have d0 := hT1.cr 0
            have d1 := hT1.cr 1
            have d2 := hT1.cr 2
            have d3 := hT1.cr 3
            have d4 := hT1.cr 4
            have d5 := hT1.cr 5
            have er := hT1.fr
            simp at c0 c1 c2 c3 c4 c5 d0 d1 d2 d3 d4 d5
            have hq : ((k + pn : Nat) : Int) = (k : Int) + (pn : Int) := by omega
            go_wp2_with fail
            refine (quoted24 s (k + pn) _ (by omega) HM1.out).mono ?_; rintro e w' ⟨he, nq, rfl⟩
            rcases hx : quoP s (k + pn) with _ | ⟨qe, qv⟩
            · obtain rfl : e = .returned (.tuple #[.int .i64 ((k + pn : Nat) : Int), .string ⟨#[]⟩, .bool false]) := by rw [he, quoR, hx]
              have hx := Lib.hid hx
              clear he
              go_wp2_with fail
              refine ret10 ((((((((((hT1.set 0 _).drewN nq).set 5 _).set 2 _).setr 0 _).setr 1 _).setr 2 _).setr 3 _).setr 4 _).setr 5 _) rfl false rfl rfl (fun hbl => ?_)
              exact ⟨hbl, Or.inr ⟨_, _, _, _, _, _, by rw [HONE.out, hx.out]; rfl, rfl⟩⟩
            · obtain rfl : e = .returned (.tuple #[.int .i64 (qe : Int), .string qv, .bool true]) := by rw [he, quoR, hx]
              have hbq := quoP_bd s (k + pn) qe qv HM1.out hx
              have hx := Lib.hid hx
              clear he
              go_wp2_with fail
              go_region
              go_wp2_with fail
              refine ret10 (((((((((((hT1.set 0 _).drewN nq).set 5 _).set 2 _).set 1 _).setr 0 _).setr 1 _).setr 2 _).setr 3 _).setr 4 _).setr 5 _).drew rfl true rfl rfl (fun hbl => ?_)
              refine ⟨hbl, Or.inl ⟨⟨⟨#[60, 115, 116, 114, 105, 110, 103, 62]⟩, qv, 0, qe⟩, by rw [HONE.out, hx.out]; rfl, rfl, ?_, hbq.2⟩⟩
              simp only
              omega

end Go.Proofs.YtahcbeofaeflgaaGreatDoor
