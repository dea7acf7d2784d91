/- Lemmas towards the statement FnLexCardSaid, conditions: as each theorem says. -/
import Derived.Test.YtahcbeofaeflgaaGreatDoorG3
import Derived.Test.YtahcbeofaeflgaaGreatDoorC8
namespace Go.Proofs.YtahcbeofaeflgaaGreatDoor
open Go.RowKit

theorem word_q {s : ByteArray} {k : Nat} {k1 : ByteArray} (h1 : letB (bt s k) = true) (h5 : (preP s k).2.2 = false) : oneQ s k k1 = some (wordP s k) := by
  have h2 : bt s k ≠ 64 := by intro h; rw [h] at h1; exact absurd h1 (by decide)
  have h3 : bt s k ≠ 46 := by intro h; rw [h] at h1; exact absurd h1 (by decide)
  have h4 : digB (bt s k) = false := by
    unfold letB at h1
    have := of_decide_eq_true h1
    exact decide_eq_false (by omega)
  unfold oneQ
  rw [if_neg (by simp [parP, h2]), if_neg (by simp [nmB, h3, h4]), if_pos (by rw [h1]; simp), if_neg (by rw [h5]; decide)]
theorem slice58z (s : ByteArray) (gl gf : Nat) (t : St) (j : Nat) {jj : Int} (w : World) (hL : LX w gl gf s t) (hs : s.size ≤ 2147483647) (hjj : jj = (j : Int)) (hi : t.pos ≤ s.size) (hjm : j ≤ 2147483647) :
    Calls Tryz.prog 58 #[.pointer (some ⟨gl, 0, none⟩), .int .i64 0, .int .i64 jj] w fun e w' => e = .returned (.string (s.extract t.pos (t.pos + j))) ∧ ∃ n, w' = w.drewN n :=
  slice58n s gl gf t 0 j w hL hs rfl hjj (Nat.zero_le _) hi hjm
theorem keyword60c (k : ByteArray) (b : Bool) (w : World) (h : kwB k = b) : Calls Tryz.prog 60 #[.string k] w fun e w' => e = .returned (.bool b) ∧ w = w' := by subst h; exact keyword60 k w
theorem kw_nodot {k : ByteArray} (h : kwB k = true) : k.toList ≠ [46] := by
  intro h2
  unfold kwB at h
  rw [h2] at h
  exact absurd h (by decide)
theorem tok_kw {s : ByteArray} {gl gf : Nat} {t : St} {w w' : World} {p : Nat} (hcl : Clr t) (hp : t.pos < s.size) (hq : oneQ s t.pos t.last = some (wordP s t.pos)) (hr : run s parB t.pos = p) (hk : kwB (upB (s.extract t.pos p)) = true)
    (hX : LX w' gl gf s { t with kind := upB (s.extract t.pos p), pos := p }) (hg : w.grownBy w' (some gl)) : TokPost s gl gf t w (.returned (.tuple #[])) w' := by
  subst hr
  exact tok_sign hcl hp hX hg (kw_nodot hk) (by rw [hq, wordP, if_pos hk])
theorem tok_id {s : ByteArray} {gl gf : Nat} {t : St} {w w' : World} {p : Nat} (hcl : Clr t) (hp : t.pos < s.size) (hq : oneQ s t.pos t.last = some (wordP s t.pos)) (hr : run s parB t.pos = p) (hk : kwB (upB (s.extract t.pos p)) = false)
    (hX : LX w' gl gf s { t with kind := kIdent, txt := s.extract t.pos p, pos := p }) (hg : w.grownBy w' (some gl)) : TokPost s gl gf t w (.returned (.tuple #[])) w' := by
  subst hr
  exact tok_txt hcl hp hX hg (by simp [kIdent]) (by rw [hq, wordP, if_neg (by rw [hk]; decide)])

set_option maxRecDepth 100000 in
set_option maxHeartbeats 4000000 in
theorem tok31_let (s : ByteArray) (gl gf : Nat) (t : St) (w : World) (hP : Hid (PL s)) (hL : LX w gl gf s t) (hp : t.pos < s.size) (hcl : Hid (Clr t)) (hl : Hid (letB (bt s t.pos) = true)) (hne : Hid (bt s t.pos ≠ 66 ∧ bt s t.pos ≠ 98 ∧ bt s t.pos ≠ 82 ∧ bt s t.pos ≠ 114)) :
    Calls Tryz.prog 31 #[.pointer (some ⟨gl, 0, none⟩), .bool false] w (TokPost s gl gf t w) := by
  have hs : s.size ≤ 2147483647 := Nat.le_trans hP.out.size (by decide)
  have hqw : Hid (oneQ s t.pos t.last = some (wordP s t.pos)) := by
    have h1 := hl.out
    have h2 := hne.out
    refine word_q h1 ?_
    have h3 : inP (bt s t.pos) = false := by simp [inP, isBB, isRR]; omega
    have h4 : markB (bt s t.pos) = false := by
      unfold letB at h1
      have := of_decide_eq_true h1
      exact decide_eq_false (by omega)
    unfold preP
    rw [show preN s t.pos = 0 by unfold preN; rw [if_neg (by rw [h3]; decide)], Nat.add_zero, if_neg (by rw [h4]; decide)]
  obtain ⟨c, hc0⟩ : ∃ c, bt s t.pos = c := ⟨_, rfl⟩
  have hc := Lib.hid hc0
  have hlet : Hid (letB c = true) := by show letB c = true; rw [← hc0]; exact hl.out
  have hcs : 97 ≤ c ∧ c ≤ 122 ∨ 65 ≤ c ∧ c ≤ 90 ∨ c = 95 := of_decide_eq_true hlet.out
  have hcn := hne.out
  rw [hc0] at hcn
  have q40 : ((c : Int) == 40) = false := nb (c := 40) (by omega)
  have q41 : ((c : Int) == 41) = false := nb (c := 41) (by omega)
  have q123 : ((c : Int) == 123) = false := nb (c := 123) (by omega)
  have q125 : ((c : Int) == 125) = false := nb (c := 125) (by omega)
  have q59 : ((c : Int) == 59) = false := nb (c := 59) (by omega)
  have q44 : ((c : Int) == 44) = false := nb (c := 44) (by omega)
  have q91 : ((c : Int) == 91) = false := nb (c := 91) (by omega)
  have q93 : ((c : Int) == 93) = false := nb (c := 93) (by omega)
  have q126 : ((c : Int) == 126) = false := nb (c := 126) (by omega)
  have q42 : ((c : Int) == 42) = false := nb (c := 42) (by omega)
  have q47 : ((c : Int) == 47) = false := nb (c := 47) (by omega)
  have q38 : ((c : Int) == 38) = false := nb (c := 38) (by omega)
  have q94 : ((c : Int) == 94) = false := nb (c := 94) (by omega)
  have q37 : ((c : Int) == 37) = false := nb (c := 37) (by omega)
  have q58 : ((c : Int) == 58) = false := nb (c := 58) (by omega)
  have q63 : ((c : Int) == 63) = false := nb (c := 63) (by omega)
  have q92 : ((c : Int) == 92) = false := nb (c := 92) (by omega)
  have q36 : ((c : Int) == 36) = false := nb (c := 36) (by omega)
  have q46 : ((c : Int) == 46) = false := nb (c := 46) (by omega)
  have q60 : ((c : Int) == 60) = false := nb (c := 60) (by omega)
  have q62 : ((c : Int) == 62) = false := nb (c := 62) (by omega)
  have q43 : ((c : Int) == 43) = false := nb (c := 43) (by omega)
  have q45 : ((c : Int) == 45) = false := nb (c := 45) (by omega)
  have q61 : ((c : Int) == 61) = false := nb (c := 61) (by omega)
  have q124 : ((c : Int) == 124) = false := nb (c := 124) (by omega)
  have q33 : ((c : Int) == 33) = false := nb (c := 33) (by omega)
  have q64 : ((c : Int) == 64) = false := nb (c := 64) (by omega)
  have q96 : ((c : Int) == 96) = false := nb (c := 96) (by omega)
  have q48 : ((c : Int) == 48) = false := nb (c := 48) (by omega)
  have q49 : ((c : Int) == 49) = false := nb (c := 49) (by omega)
  have q50 : ((c : Int) == 50) = false := nb (c := 50) (by omega)
  have q51 : ((c : Int) == 51) = false := nb (c := 51) (by omega)
  have q52 : ((c : Int) == 52) = false := nb (c := 52) (by omega)
  have q53 : ((c : Int) == 53) = false := nb (c := 53) (by omega)
  have q54 : ((c : Int) == 54) = false := nb (c := 54) (by omega)
  have q55 : ((c : Int) == 55) = false := nb (c := 55) (by omega)
  have q56 : ((c : Int) == 56) = false := nb (c := 56) (by omega)
  have q57 : ((c : Int) == 57) = false := nb (c := 57) (by omega)
  have q66 : ((c : Int) == 66) = false := nb (c := 66) (by omega)
  have q98 : ((c : Int) == 98) = false := nb (c := 98) (by omega)
  have q82 : ((c : Int) == 82) = false := nb (c := 82) (by omega)
  have q114 : ((c : Int) == 114) = false := nb (c := 114) (by omega)
  have q34 : ((c : Int) == 34) = false := nb (c := 34) (by omega)
  have q39 : ((c : Int) == 39) = false := nb (c := 39) (by omega)
  clear hcs hcn hc0
  have hd : decide (s.size ≤ t.pos) = false := decide_eq_false (by omega)
  go_enter Tryz.func31, Tryz.ntmps31
  go_wp2_with fail
  refine (eof39 s gl gf t w hL hs).mono ?_; rintro e w' ⟨rfl, n0, rfl⟩
  go_wp2_with fail
  refine (peek0 s gl gf t c _ (hL.drewN _) hs hp hc.out rfl).mono ?_; rintro e w' ⟨rfl, n1, rfl⟩
  go_wp2_with fail
  clear q40 q41 q123 q125 q59 q44 q91 q93 q126 q42 q47 q38 q94 q37 q58 q63 q92 q36 q46 q60 q62 q43 q45 q61 q124 q33 q64 q96 q48 q49 q50 q51 q52 q53 q54 q55 q56 q57 q66 q98 q82 q114 q34 q39
  refine (peek0 s gl gf t c _ (hL.drewN _) hs hp hc.out rfl).mono ?_; rintro e w' ⟨rfl, n2, rfl⟩
  go_wp2_with fail
  refine (start52c c true _ hlet.out).mono ?_; rintro e w' ⟨rfl, rfl⟩
  go_wp2_with fail
  go_loopw [10] (fun v10 wr => ∃ i : Nat, v10 = .int .i64 i ∧ t.pos + i ≤ s.size ∧ LX wr gl gf s t ∧ w.grownBy wr (some gl) ∧ Hid (run s parB t.pos = run s parB (t.pos + i))) (fun v10 _ => s.size - (intOf v10).toNat)
  case atStart => exact ⟨0, rfl, Nat.le_of_lt hp, hL.drewN _, fr_drewN (fr_refl w (some gl)) _, rfl⟩
  case round =>
    obtain ⟨i, rfl, hi2, hX, hg, hrn⟩ := hrel
    by_cases hlt : t.pos + i < s.size
    · rcases Bool.eq_false_or_eq_true (parB (bt s (t.pos + i))) with hb | hb
      · have HB := Lib.hid hb
        have HLT := Lib.hid hlt
        clear hb
        go_wp2_with fail
        refine (ok45c s gl gf t i true _ hX hs (by omega) rfl (by omega) (decide_eq_true hlt)).mono ?_; rintro e w' ⟨rfl, a1, rfl⟩
        go_wp2_with fail
        refine (peek47n s gl gf t i _ (hX.drewN _) hs rfl hlt).mono ?_; rintro e w' ⟨rfl, a2, rfl⟩
        go_wp2_with fail
        refine (part46c _ true _ HB.out).mono ?_; rintro e w' ⟨rfl, rfl⟩
        go_wp2_with fail
        go_roundw
        case rel => exact ⟨i + 1, by go_num, by omega, hX.drewN _, fr_drewN hg _, by have h := hrn.out; rw [run_yes HLT.out HB.out] at h; exact h⟩
        case measure => simp [intOf]; omega
      · have HB := Lib.hid hb
        have HRUN : Hid (run s parB t.pos = t.pos + i) := by show run s parB t.pos = t.pos + i; rw [hrn.out, run_no HB.out]
        clear hb
        go_wp2_with fail
        refine (ok45c s gl gf t i true _ hX hs (by omega) rfl (by omega) (decide_eq_true hlt)).mono ?_; rintro e w' ⟨rfl, a1, rfl⟩
        go_wp2_with fail
        refine (peek47n s gl gf t i _ (hX.drewN _) hs rfl hlt).mono ?_; rintro e w' ⟨rfl, a2, rfl⟩
        go_wp2_with fail
        refine (part46c _ false _ HB.out).mono ?_; rintro e w' ⟨rfl, rfl⟩
        go_wp2_with fail
        refine (slice58z s gl gf t i _ (hX.drewN _) hs rfl (by omega) (by omega)).mono ?_; rintro e w' ⟨rfl, a3, rfl⟩
        go_wp2_with fail
        refine (skip2 s gl gf t i _ (hX.drewN _) hs rfl hi2).mono ?_; rintro e w1 ⟨rfl, hX1, hg1⟩
        go_wp2_with fail
        refine (toUpper59 (s.extract t.pos (t.pos + i)) w1 (by rw [ByteArray.size_extract]; have := hP.out.size; omega)).mono ?_; rintro e w2 ⟨rfl, hb2⟩
        have hX2 := hX1.grown (fr_below hb2 none) (fun k hk => by cases hk) (by simp)
        have hfr := fr_trans (fr_trans (fr_drewN hg _) hg1) (fr_below hb2 (some gl))
        have k1 := hX2.c1
        have f1 := hX2.fr 1
        rcases Bool.eq_false_or_eq_true (kwB (upB (s.extract t.pos (t.pos + i)))) with hk | hk
        · have HK := Lib.hid hk
          clear hk
          go_wp2_with fail
          refine (keyword60c _ true w2 HK.out).mono ?_; rintro e w' ⟨rfl, rfl⟩
          go_wp2_with fail
          refine bodyPost_ret (results_none rfl _ _ _) rfl (tok_kw hcl.out hp hqw.out HRUN.out HK.out (hX2.kind _) (fr_set hfr 1 _))
        · have HK := Lib.hid hk
          clear hk
          have k5 := hX2.c5
          have f5 := hX2.fr 5
          go_wp2_with fail
          refine (keyword60c _ false w2 HK.out).mono ?_; rintro e w' ⟨rfl, rfl⟩
          go_wp2_with fail
          refine bodyPost_ret (results_none rfl _ _ _) rfl (tok_id hcl.out hp hqw.out HRUN.out HK.out ((hX2.kind kIdent).txt _) (fr_set (fr_set hfr 1 _) 5 _))
    · have HRUN : Hid (run s parB t.pos = t.pos + i) := by show run s parB t.pos = t.pos + i; rw [hrn.out, run_end (by omega)]
      go_wp2_with fail
      refine (ok45c s gl gf t i false _ hX hs (by omega) rfl (by omega) (decide_eq_false hlt)).mono ?_; rintro e w' ⟨rfl, a1, rfl⟩
      go_wp2_with fail
      refine (slice58z s gl gf t i _ (hX.drewN _) hs rfl (by omega) (by omega)).mono ?_; rintro e w' ⟨rfl, a3, rfl⟩
      go_wp2_with fail
      refine (skip2 s gl gf t i _ (hX.drewN _) hs rfl hi2).mono ?_; rintro e w1 ⟨rfl, hX1, hg1⟩
      go_wp2_with fail
      refine (toUpper59 (s.extract t.pos (t.pos + i)) w1 (by rw [ByteArray.size_extract]; have := hP.out.size; omega)).mono ?_; rintro e w2 ⟨rfl, hb2⟩
      have hX2 := hX1.grown (fr_below hb2 none) (fun k hk => by cases hk) (by simp)
      have hfr := fr_trans (fr_trans (fr_drewN hg _) hg1) (fr_below hb2 (some gl))
      have k1 := hX2.c1
      have f1 := hX2.fr 1
      rcases Bool.eq_false_or_eq_true (kwB (upB (s.extract t.pos (t.pos + i)))) with hk | hk
      · have HK := Lib.hid hk
        clear hk
        go_wp2_with fail
        refine (keyword60c _ true w2 HK.out).mono ?_; rintro e w' ⟨rfl, rfl⟩
        go_wp2_with fail
        refine bodyPost_ret (results_none rfl _ _ _) rfl (tok_kw hcl.out hp hqw.out HRUN.out HK.out (hX2.kind _) (fr_set hfr 1 _))
      · have HK := Lib.hid hk
        clear hk
        have k5 := hX2.c5
        have f5 := hX2.fr 5
        go_wp2_with fail
        refine (keyword60c _ false w2 HK.out).mono ?_; rintro e w' ⟨rfl, rfl⟩
        go_wp2_with fail
        refine bodyPost_ret (results_none rfl _ _ _) rfl (tok_id hcl.out hp hqw.out HRUN.out HK.out ((hX2.kind kIdent).txt _) (fr_set (fr_set hfr 1 _) 5 _))

end Go.Proofs.YtahcbeofaeflgaaGreatDoor
