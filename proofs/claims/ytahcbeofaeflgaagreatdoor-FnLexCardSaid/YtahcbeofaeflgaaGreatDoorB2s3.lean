/- Lemmas towards the statement FnLexCardSaid, conditions: as each theorem says. -/
import Derived.Test.YtahcbeofaeflgaaGreatDoorB2
namespace Go.Proofs.YtahcbeofaeflgaaGreatDoor
open Go.RowKit

set_option maxRecDepth 100000 in
set_option maxHeartbeats 4000000 in
theorem cont53_s3 (s : ByteArray) (gl gf : Nat) (t : St) (raw uni : Bool) (nm : ByteArray) (w : World) (hP : Hid (PL s)) (hL : LX w gl gf s t) (hc : bt s t.pos = 39) (hm : quoM s t.pos = 3) (_hnm : (nm.toList == [105, 100, 101, 110, 116, 105, 102, 105, 101, 114]) = false) (hnz : nm.size ≤ 100) :
    Calls Tryz.prog 53 #[.pointer (some ⟨gl, 0, none⟩), .string ⟨#[39, 39, 39]⟩, .bool raw, .bool uni, .string nm, .bool false] w (QPost s gl gf t w) := by
  have hs2 : s.size ≤ 2000 := hP.out.size
  have hs : s.size ≤ 2147483647 := Nat.le_trans hs2 (by decide)
  have hp : t.pos < s.size := lt_of_bt (by omega)
  obtain ⟨i0, hi, hz0, hz1, hz2⟩ := info_parts Tryz.info5
  have HQ : Hid (quoP s t.pos = (quoF s 39 3 (t.pos + 3)).map fun j => (j + 3, s.extract (t.pos + 3) j)) := by
    show quoP s t.pos = _
    unfold quoP; rw [hc, hm]
  have hl3 : t.pos + 3 ≤ s.size := quoM_lt (by omega) hm
  clear hc hm
  have hnm3 := trip_ne nm
  have c9 := hL.c9
  have hlw := lt_of_heap hL.l
  go_enter Tryz.func53, Tryz.ntmps53
  go_wp2_with fail
  conv in (Code.seq (Code.region 18 _ _) _) => change esc53
  go_loopw [14, 15, 16] (fun v14 v15 v16 wr => ∃ i : Nat, 3 ≤ i ∧ t.pos + i ≤ s.size ∧ v14 = .int .i64 i ∧ v16 = .bool false ∧ Cont s w wr (t.pos + 3) (i - 3) v15 ∧ LX wr gl gf s t ∧ w.grownBy wr (some gl) ∧ Hid (quoF s 39 3 (t.pos + 3) = quoF s 39 3 (t.pos + i))) (fun v14 _ _ _ => s.size - (intOf v14).toNat)
  case atStart => exact ⟨3, by omega, by omega, rfl, rfl, ⟨World.ownsRow_nil _ _ _ _, fun _ => rfl⟩, hL, fr_refl _ _, rfl⟩
  case round =>
    obtain ⟨i, hmi, hi2, rfl, rfl, hct, hX, hg, hrn⟩ := hrel
    have HC := Lib.hid hct
    clear hct
    have c9r := hX.c9
    by_cases hlt : t.pos + i < s.size
    · have hd0 : decide (t.pos + i < s.size) = true := decide_eq_true hlt
      have HE : Hid (((s.extract (t.pos + i) (t.pos + (i + 3))).toList == [39, 39, 39]) = mkB s 39 3 (t.pos + i)) := by
        have h1 := exB_eq s (t.pos + i) ⟨#[39, 39, 39]⟩ (Nat.zero_lt_succ _)
        rw [stB_three, show (ByteArray.toList ⟨#[39, 39, 39]⟩) = [39, 39, 39] from ByteArray.toList_mk [39, 39, 39]] at h1
        exact h1
      have hpl := (hP.out.byte _ hlt).2
      have hb256 := bt_256 hlt
      by_cases hmk : mkB s 39 3 (t.pos + i) = true
      · have hq : ((s.extract (t.pos + i) (t.pos + (i + 3))).toList == [39, 39, 39]) = true := by rw [HE.out]; exact hmk
        have hend := mkB_lt (by omega) (by omega) hmk
        have HN : Hid (quoP s t.pos = some (t.pos + (i + 3), s.extract (t.pos + 3) (t.pos + i))) := by
          show quoP s t.pos = _
          rw [HQ.out, hrn.out, quoF_yes hlt hmk]; rfl
        clear hmk
        go_wp2_with fail
        refine (ok45n s gl gf t i _ hX hs (by omega) rfl (by omega)).mono ?_; rintro e w' ⟨rfl, nn0, rfl⟩
        go_wp2_with fail
        refine (slice58n s gl gf t i (i + 3) _ (hX.drewN _) hs rfl rfl (by omega) (by omega) (by omega)).mono ?_; rintro e w' ⟨rfl, nn1, rfl⟩
        by_cases hn0 : i = 3
        · have hct := HC.out
          have hown : wr.ownsRow w.heap.size 5 1 u15 (i - 3) (bcells s (t.pos + 3) (i - 3)) := hct.1
          have hv := hct.2
          clear hct
          have hv2 := hv (by omega)
          subst hv2
          have hcv := run_convert_bytes_nil91
          have HN0 := Lib.hid hn0
          clear hv hn0
          go_wp2_with fail
          refine (skipN42n s gl gf t (i + 3) _ (hX.drewN _) hs rfl (by omega)).mono ?_; rintro e w' ⟨rfl, hX2, hg2⟩
          go_wp2_with fail
          go_ret2
          refine Or.inr ⟨_, _, HN.out, ?_, hX2, fr_trans (fr_drewN hg _) hg2, hend⟩
          rw [HN0.out]
          refine ret_sb ?_ rfl
          apply bt_inj
          intro q
          rw [bt_ge (show ByteArray.size ⟨#[]⟩ ≤ q from Nat.zero_le _), bt_ge (by rw [ByteArray.size_extract]; omega)]
        · have hct := HC.out
          have hown : wr.ownsRow w.heap.size 5 1 u15 (i - 3) (bcells s (t.pos + 3) (i - 3)) := hct.1
          have hv := hct.2
          clear hct
          have hpos : 0 < i - 3 := by omega
          obtain ⟨g, cap, hvf, hgw, hgl⟩ := World.ownsRow.form hown hpos
          subst hvf
          have hln2 : (((i - 3 : Nat) : Int) == 0) = false := by rw [beq_eq_false_iff_ne]; omega
          have hln3 : (i - 3 == 0) = false := by rw [beq_eq_false_iff_ne]; omega
          clear hv hn0
          have HO := Lib.hid hown
          clear hown
          go_wp2_with fail
          refine (skipN42n s gl gf t (i + 3) _ (hX.drewN _) hs rfl (by omega)).mono ?_; rintro e w' ⟨rfl, hX2, hg2⟩
          have hown2 := World.ownsRow.kept (w := wr.drewN (nn0 + nn1)) HO.out hg2 (Or.inr (by simp [Value.ownBlock]; omega))
          have hcv := run_convert_bytes_row91 w' g cap (s.extract (t.pos + 3) (t.pos + i)) (i - 3) (by rw [ByteArray.size_extract]; omega) (fun j hj => by
            have h1 := hown2.cells (g := g) rfl j _ (bcells_at s (t.pos + 3) (i - 3) j (by rw [ByteArray.size_extract] at hj; omega))
            rw [bt_ext (by omega) (by rw [ByteArray.size_extract] at hj; omega)]
            exact h1)
          clear hown2
          go_wp2_with fail
          go_ret2
          exact Or.inr ⟨_, _, HN.out, rfl, hX2, fr_trans (fr_drewN hg _) hg2, hend⟩
      · have hmk3 : mkB s 39 3 (t.pos + i) = false := by simpa using hmk
        have hq : ((s.extract (t.pos + i) (t.pos + (i + 3))).toList == [39, 39, 39]) = false := by rw [HE.out]; exact hmk3
        have h92 : ((bt s (t.pos + i) : Int) == 92) = false := nb (c := 92) hpl.1
        clear hmk hpl
        have HO : Hid (wr.ownsRow w.heap.size 5 1 u15 (i - 3) (bcells s (t.pos + 3) (i - 3))) := HC.out.1
        by_cases hnl : bt s (t.pos + i) = 10
        · have n1 : ((bt s (t.pos + i) : Int) == 10) = true := yb (c := 10) hnl
          have HN : Hid (quoF s 39 3 (t.pos + i) = quoF s 39 3 (t.pos + i + 1)) := quoF_next hlt hmk3 (fun h => absurd h.2 (by decide))
          clear hnl hmk3
          go_wp2_with fail
          refine (ok45n s gl gf t i _ hX hs (by omega) rfl (by omega)).mono ?_; rintro e w' ⟨rfl, nn0, rfl⟩
          go_wp2_with fail
          refine (slice58n s gl gf t i (i + 3) _ (hX.drewN _) hs rfl rfl (by omega) (by omega) (by omega)).mono ?_; rintro e w' ⟨rfl, nn1, rfl⟩
          go_wp2_with fail
          refine (peek47n s gl gf t i _ (hX.drewN _) hs rfl hlt).mono ?_; rintro e w' ⟨rfl, nn2, rfl⟩
          go_wp2_with (at_builtin; refine wpList_append_own _ rfl _ _ 91 rfl w.heap.size 5 i0 (.int .u8 0) 1 1 Tryz.underlying91 hi hz0 hz1 hz2 rfl (by decide) _ _ _ rfl (World.ownsRow.alloc (w := wr.drewN _) HO.out _) ⟨wr.heap.size, 0, none⟩ 1 1 [.int .u8 (bt s (t.pos + i) : Int)] rfl rfl ?c1 ?c2 ?c3 ?c4 ?c5 ?_)
          case c1 =>
            intro j u hj
            match j, hj with
            | 0, hj =>
              simp at hj; subst hj
              exact cell_of (heap_alloc_new (wr.drewN _) _) 0
          case c2 => intro u hu; simp at hu; subst hu; rfl
          case c3 => unfold maxLen; omega
          case c4 => omega
          case c5 => have := hg.size; simp; omega
          intro v' w2 hown' hgrow' hnil
          have hlo := HO.out
          have hX2 : LX w2 gl gf s t := ((hX.drewN (nn0 + nn1 + nn2)).alloc _).grown hgrow' (fun k hk => by have := (World.ownsRow.lt hlo k hk).1; omega) (fun hk => by have := (World.ownsRow.lt hlo gf hk.symm).1; have := lt_of_heap hL.f; omega)
          have hg2 : w.grownBy w2 (some gl) := by
            exact fr_own (fr_alloc (fr_drewN hg (nn0 + nn1 + nn2)) _) hgrow' (fun k hk => (World.ownsRow.lt hlo k hk).1)
          go_wp2_with fail
          go_roundw
          case rel =>
            refine ⟨i + 1, by omega, by omega, by go_num, rfl, ⟨?_, fun h => absurd h (by omega)⟩, hX2, hg2, by have h := hrn.out; rw [HN.out] at h; exact h⟩
            rw [show i + 1 - 3 = (i - 3) + 1 from by omega, bcells_succ, show t.pos + 3 + (i - 3) = t.pos + i from by omega]
            first
              | exact hown'
              | (rw [show i - 3 + 1 = i from by omega]; exact hown')
          case measure => simp [intOf]; omega
        · have n1 : ((bt s (t.pos + i) : Int) == 10) = false := nb (c := 10) hnl
          have HN : Hid (quoF s 39 3 (t.pos + i) = quoF s 39 3 (t.pos + i + 1)) := quoF_next hlt hmk3 (fun h => hnl h.1)
          clear hnl hmk3
          go_wp2_with fail
          refine (ok45n s gl gf t i _ hX hs (by omega) rfl (by omega)).mono ?_; rintro e w' ⟨rfl, nn0, rfl⟩
          go_wp2_with fail
          refine (slice58n s gl gf t i (i + 3) _ (hX.drewN _) hs rfl rfl (by omega) (by omega) (by omega)).mono ?_; rintro e w' ⟨rfl, nn1, rfl⟩
          go_wp2_with fail
          refine (peek47n s gl gf t i _ (hX.drewN _) hs rfl hlt).mono ?_; rintro e w' ⟨rfl, nn2, rfl⟩
          go_wp2_with (at_builtin; refine wpList_append_own _ rfl _ _ 91 rfl w.heap.size 5 i0 (.int .u8 0) 1 1 Tryz.underlying91 hi hz0 hz1 hz2 rfl (by decide) _ _ _ rfl (World.ownsRow.alloc (w := wr.drewN _) HO.out _) ⟨wr.heap.size, 0, none⟩ 1 1 [.int .u8 (bt s (t.pos + i) : Int)] rfl rfl ?c1 ?c2 ?c3 ?c4 ?c5 ?_)
          case c1 =>
            intro j u hj
            match j, hj with
            | 0, hj =>
              simp at hj; subst hj
              exact cell_of (heap_alloc_new (wr.drewN _) _) 0
          case c2 => intro u hu; simp at hu; subst hu; rfl
          case c3 => unfold maxLen; omega
          case c4 => omega
          case c5 => have := hg.size; simp; omega
          intro v' w2 hown' hgrow' hnil
          have hlo := HO.out
          have hX2 : LX w2 gl gf s t := ((hX.drewN (nn0 + nn1 + nn2)).alloc _).grown hgrow' (fun k hk => by have := (World.ownsRow.lt hlo k hk).1; omega) (fun hk => by have := (World.ownsRow.lt hlo gf hk.symm).1; have := lt_of_heap hL.f; omega)
          have hg2 : w.grownBy w2 (some gl) := by
            exact fr_own (fr_alloc (fr_drewN hg (nn0 + nn1 + nn2)) _) hgrow' (fun k hk => (World.ownsRow.lt hlo k hk).1)
          go_wp2_with fail
          go_roundw
          case rel =>
            refine ⟨i + 1, by omega, by omega, by go_num, rfl, ⟨?_, fun h => absurd h (by omega)⟩, hX2, hg2, by have h := hrn.out; rw [HN.out] at h; exact h⟩
            rw [show i + 1 - 3 = (i - 3) + 1 from by omega, bcells_succ, show t.pos + 3 + (i - 3) = t.pos + i from by omega]
            first
              | exact hown'
              | (rw [show i - 3 + 1 = i from by omega]; exact hown')
          case measure => simp [intOf]; omega
    · have hd0 : decide (t.pos + i < s.size) = false := decide_eq_false hlt
      have HN : Hid (quoP s t.pos = none) := by
        show quoP s t.pos = none
        rw [HQ.out, hrn.out, quoF_end (by omega)]; rfl
      go_wp2_with fail
      refine (ok45n s gl gf t i _ hX hs (by omega) rfl (by omega)).mono ?_; rintro e w' ⟨rfl, nn, rfl⟩
      have e1 : IntKind.i64.wrap ((t.pos : Int) + (i : Int)) = (t.pos : Int) + (i : Int) := IntWalk.i64_in _ (by omega)
      go_wp2_with fail
      refine still_tail (fun W4 => LX W4 gl gf s t ∧ w.grownBy W4 (some gl)) ⟨(hX.drewN _).drew, fr_drew (fr_drewN hg _)⟩ 11 (by kernel_rfl) (by kernel_rfl) ?_
      rintro W4 ⟨hX4, hg4⟩
      have c9s := hX4.c9
      simp only [List.take_succ_cons, List.take_zero, List.drop_succ_cons, List.drop_zero]
      repeat still_step
      refine wpStill_nil ?_
      go_wp2_with fail
      refine (error73n s gl gf t t.pos (t.pos + i) _ _ hP hX4 rfl (by omega) (by omega) (by omega)).mono ?_; rintro e w' ⟨pe, pp, cs, n4, rfl, q⟩
      go_wp2_with fail
      exact ⟨rfl, Or.inl ⟨HN.out, Fault.after ⟨pe, pp, _, cs, n4, rfl, q⟩ (Fr2.of hg4)⟩⟩

end Go.Proofs.YtahcbeofaeflgaaGreatDoor
