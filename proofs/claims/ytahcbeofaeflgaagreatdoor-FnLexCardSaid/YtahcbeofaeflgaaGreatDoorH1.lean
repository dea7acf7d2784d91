/- Lemmas towards the statement FnLexCardSaid, conditions: as each theorem says. -/
import Derived.Test.YtahcbeofaeflgaaGreatDoorK2
import Derived.Test.YtahcbeofaeflgaaGreatDoorE3
import Derived.Test.YtahcbeofaeflgaaGreatDoorR1
import Derived.Deep.AppendLies
import Derived.Deep.CutBlock
import Derived.Deep.RegionHeld3
import Derived.Deep.DeepCutAuto
namespace Go.Proofs.YtahcbeofaeflgaaGreatDoor
open Go.RowKit

set_option maxRecDepth 100000 in
set_option maxHeartbeats 8000000 in
theorem next12 (s : ByteArray) (gl gf : Nat) (t : St) (k2 : ByteArray) (w : World) (hP : Hid (PL s)) (hL : LX w gl gf s t) (hp : t.pos ≤ s.size) (hdt : Hid (t.dot = ((t.kind.toList == [46]) && ndB k2))) :
    Calls Tryz.prog 12 #[.pointer (some ⟨gl, 0, none⟩), .bool false] w (NextPost s gl gf t k2 w) := by
  have hs : s.size ≤ 2147483647 := Nat.le_trans hP.out.size (by decide)
  have hs2 := hP.out.size
  obtain ⟨i0, hi0, hz0, hz1, hz2⟩ := info_parts Tryz.info75'
  have hgl := lt_of_heap hL.l
  have hgf := lt_of_heap hL.f
  have c1 := hL.c1
  have c2 := hL.c2
  have c3 := hL.c3
  have c4 := hL.c4
  have c5 := hL.c5
  have c6 := hL.c6
  have c7 := hL.c7
  have c8 := hL.c8
  have c10 := hL.c10
  have fr := hL.fr
  go_enter Tryz.func12, Tryz.ntmps12
  go_upto_block 0 with fail
  have hA := (((((((((hL.set 10 (.string t.kind) { t with last := t.kind } rfl).kind ⟨#[]⟩).set 2 (.slice none 0 0) { t with last := t.kind, kind := ⟨#[]⟩, com := .slice none 0 0 } rfl).set 3 (.string ⟨#[]⟩) { t with last := t.kind, kind := ⟨#[]⟩, com := .slice none 0 0, sp := ⟨#[]⟩ } rfl).set 4 (.string ⟨#[]⟩) { t with last := t.kind, kind := ⟨#[]⟩, com := .slice none 0 0, sp := ⟨#[]⟩, raw := ⟨#[]⟩ } rfl).txt ⟨#[]⟩).base 0).set 7 (.int .i64 0) { t with last := t.kind, kind := ⟨#[]⟩, com := .slice none 0 0, sp := ⟨#[]⟩, raw := ⟨#[]⟩, txt := ⟨#[]⟩, base := 0, tp := 0 } rfl).set 8 (.int .i64 0) t.clr rfl)
  have hfr := fr_set (fr_set (fr_set (fr_set (fr_set (fr_set (fr_set (fr_set (fr_set (fr_refl w (some gl)) 10 (.string t.kind)) 1 (.string ⟨#[]⟩)) 2 (.slice none 0 0)) 3 (.string ⟨#[]⟩)) 4 (.string ⟨#[]⟩)) 5 (.string ⟨#[]⟩)) 6 (.int .i64 0)) 7 (.int .i64 0)) 8 (.int .i64 0)
  clear c1 c2 c3 c4 c5 c6 c7 c8 c10 fr
  go_cut [4] (fun v4 wx => ∃ (b : ByteArray) (cm : Value), v4 = .string b ∧ LX wx gl gf s { t.clr with pos := (blankP s t.pos).1, com := cm } ∧ w.grownBy wx (some gl) ∧ (blankP s t.pos).2 = true ∧ (blankP s t.pos).1 ≤ s.size ∧ Com cm)
  case first =>
    go_wp2_with fail
    go_loopw [4] (fun v4 wr => ∃ (j : Nat) (cm : Value) (nc : Nat) (xs : List Value) (b : ByteArray), v4 = .string b ∧ LX wr gl gf s { t.clr with pos := j, com := cm } ∧ Hid (wr.ownsRow w.heap.size 75 4 cm nc xs) ∧ nc ≤ j ∧ j ≤ s.size ∧ w.grownBy wr (some gl) ∧ Hid (blankP s j = blankP s t.pos)) (fun _ wr => s.size - posIn gl wr)
    case atStart => exact ⟨t.pos, .slice none 0 0, 0, [], ⟨#[]⟩, rfl, hA, World.ownsRow_nil _ _ _ _, Nat.zero_le _, hp, hfr, rfl⟩
    case round =>
      obtain ⟨j, cm, nc, xs, b, rfl, hX, hown, hnc, hj, hg, hbl⟩ := hrel
      have c9 := hX.c9
      go_wp2_with fail
      refine (skipSpaces28 s gl gf _ wr hP hX hj).mono ?_; rintro e w1 ⟨rfl, hX1, hg1⟩
      have hj1a := run_ge s spB j
      have hj1b := run_le s spB j hj
      have hsp := run_sp_stop s j hj
      have hbr := blank_run s j
      simp only at hX1
      obtain ⟨j1, hj1⟩ : ∃ j1, run s spB j = j1 := ⟨_, rfl⟩
      rw [hj1] at hX1 hj1a hj1b hsp hbr
      have HBR : Hid (blankP s j1 = blankP s t.pos) := hbr.trans hbl.out
      clear hj1 hbr
      have c0 := hX1.c0
      have c9a := hX1.c9
      have cf := hX1.fb
      have e1 : (j : Int) ≤ (j1 : Int) := by omega
      have e2 : (j1 : Int) ≤ (s.size : Int) := by omega
      have e3 : (0 : Int) ≤ (j : Int) := by omega
      go_wp2_with fail
      go_quiet (fail)
      go_wp2_with fail
      refine (skipComment29 s gl gf { t.clr with pos := j, com := cm } j1 _ hP (hX1.drewN _) hj1b hsp).mono ?_
      intro e w2 hq
      rcases hq with ⟨hb2, pe, pp, m, cs, nn, rfl, hF⟩ | ⟨p, rfl, hX2, hg2, hp2, hbl2, hst, hjp⟩
      · have hfin : NextPost s gl gf t k2 w (.panicked [{ v := .iface 48 (.pointer (some ⟨pe, 0, none⟩)), recovered := false }]) w2 :=
          Or.inl ⟨Or.inl (by rw [← HBR.out]; exact hb2), Fault.after ⟨pe, pp, m, cs, nn, rfl, hF⟩ (Fr2.of (fr_drewN (fr_trans hg hg1) _))⟩
        go_wp2_with fail
        exact ⟨rfl, hfin⟩
      · have hg02 := fr_trans (fr_drewN (fr_trans hg hg1) _) hg2
        have c9b := hX2.c9
        by_cases hpj : p = j1
        · subst hpj
          have hst2 := hst rfl
          have hq1 : ((p : Int) == (p : Int)) = true := by rw [beq_iff_eq]
          go_wp2_with fail
          go_meet
          case rel =>
            have hb3 : blankP s t.pos = (p, true) := by rw [← HBR.out, hst2]
            rw [hb3]
            exact ⟨_, cm, rfl, hX2, hg02, rfl, hp2, own_com hown.out⟩
        · have hq1 : ((p : Int) == (j1 : Int)) = false := by rw [beq_eq_false_iff_ne]; omega
          have hown1 := own_keep hown.out hg1 hgl
          have hown2 : w2.ownsRow w.heap.size 75 4 cm nc xs := own_keep (wr := w1.drewN _) hown1 hg2 hgl
          have c0b := hX2.c0
          have c2b := hX2.c2
          have cfb := hX2.fb
          have f2b := hX2.fr 2
          have ag : cm.ownBlock ≠ some gl := fun h => by have := (World.ownsRow.lt hown2 gl h).1; omega
          have ak : cm.ownBlock ≠ some gf := fun h => by have := (World.ownsRow.lt hown2 gf h).1; omega
          have hgne := hX2.ne
          have lg := lt_of_heap hX2.l
          have lf := lt_of_heap hX2.f
          have hBw : w.heap.size ≤ w2.heap.size := hg02.size
          have d1 : (0 : Int) ≤ (j1 : Int) := by omega
          have d2 : (j1 : Int) ≤ (p : Int) := by omega
          have d3 : (p : Int) ≤ (s.size : Int) := by omega
          have hm1 : nc + 1 ≤ maxLen := by unfold maxLen; omega
          have hm2 : (nc + 1) * 48 ≤ 140737488355328 := by omega
          go_upto_region 9 with fail
          refine wp_region_noPanic (AnyL.region (S := fun W => LX W gl gf s { t.clr with pos := p, com := cm }) (L := 31) (by kernel_rfl) ?_)
          have hS2 : LX w2.drew gl gf s { t.clr with pos := p, com := cm } := hX2.drew
          have hownW := World.ownsRow.drew hown2
          have hgW := fr_drew hg02
          generalize w2.drew = W2 at hS2 hownW hgW ⊢
          refine AnyL.takeK (i := 0) (v := ?_) (a' := ?_) rfl (by kernel_rfl) (fun _ _ _ h => h) rfl ?hy hS2 ?ha ?_
          case hy =>
            intro W hW K hK
            have c0s := hW.c0
            have c2s := hW.c2
            have c9s := hW.c9
            have cfs := hW.fb
            go_simp
            refine ⟨rfl, ?_⟩
            exact hK
          case ha =>
            intro K hK
            go_simp
            exact hK
          refine AnyL.takeK (i := 1) (v := ?_) (a' := ?_) rfl (by kernel_rfl) (fun _ _ _ h => h) rfl ?hy hS2 ?ha ?_
          case hy =>
            intro W hW K hK
            have c0s := hW.c0
            have c2s := hW.c2
            have c9s := hW.c9
            have cfs := hW.fb
            go_simp
            refine ⟨rfl, ?_⟩
            exact hK
          case ha =>
            intro K hK
            go_simp
            exact hK
          refine AnyL.takeK (i := 2) (v := ?_) (a' := ?_) rfl (by kernel_rfl) (fun _ _ _ h => h) rfl ?hy hS2 ?ha ?_
          case hy =>
            intro W hW K hK
            have c0s := hW.c0
            have c2s := hW.c2
            have c9s := hW.c9
            have cfs := hW.fb
            go_simp
            refine ⟨rfl, ?_⟩
            exact hK
          case ha =>
            intro K hK
            go_simp
            exact hK
          refine AnyL.takeK (i := 3) (v := ?_) (a' := ?_) rfl (by kernel_rfl) (fun _ _ _ h => h) rfl ?hy hS2 ?ha ?_
          case hy =>
            intro W hW K hK
            have c0s := hW.c0
            have c2s := hW.c2
            have c9s := hW.c9
            have cfs := hW.fb
            go_simp
            refine ⟨rfl, ?_⟩
            exact hK
          case ha =>
            intro K hK
            go_simp
            exact hK
          refine AnyL.takeK (i := 4) (v := ?_) (a' := ?_) rfl (by kernel_rfl) (fun _ _ _ h => h) rfl ?hy hS2 ?ha ?_
          case hy =>
            intro W hW K hK
            have c0s := hW.c0
            have c2s := hW.c2
            have c9s := hW.c9
            have cfs := hW.fb
            go_simp
            refine ⟨rfl, ?_⟩
            exact hK
          case ha =>
            intro K hK
            go_simp
            exact hK
          refine AnyL.takeK (i := 5) (v := ?_) (a' := ?_) rfl (by kernel_rfl) (fun _ _ _ h => h) rfl ?hy hS2 ?ha ?_
          case hy =>
            intro W hW K hK
            have c0s := hW.c0
            have c2s := hW.c2
            have c9s := hW.c9
            have cfs := hW.fb
            go_simp
            refine ⟨rfl, ?_⟩
            exact hK
          case ha =>
            intro K hK
            go_simp
            exact hK
          refine AnyL.takeK (i := 6) (v := ?_) (a' := ?_) rfl (by kernel_rfl) (fun _ _ _ h => h) rfl ?hy hS2 ?ha ?_
          case hy =>
            intro W hW K hK
            have c0s := hW.c0
            have c2s := hW.c2
            have c9s := hW.c9
            have cfs := hW.fb
            go_simp
            refine ⟨rfl, ?_⟩
            exact hK
          case ha =>
            intro K hK
            go_simp
            exact hK
          refine AnyL.takeK (i := 7) (v := ?_) (a' := ?_) rfl (by kernel_rfl) (fun _ _ _ h => h) rfl ?hy hS2 ?ha ?_
          case hy =>
            intro W hW K hK
            have c0s := hW.c0
            have c2s := hW.c2
            have c9s := hW.c9
            have cfs := hW.fb
            go_simp
            refine ⟨rfl, ?_⟩
            exact hK
          case ha =>
            intro K hK
            go_simp
            exact hK
          refine AnyL.takeK (i := 8) (v := ?_) (a' := ?_) rfl (by kernel_rfl) (fun _ _ _ h => h) rfl ?hy hS2 ?ha ?_
          case hy =>
            intro W hW K hK
            have c0s := hW.c0
            have c2s := hW.c2
            have c9s := hW.c9
            have cfs := hW.fb
            go_simp
            refine ⟨rfl, ?_⟩
            exact hK
          case ha =>
            intro K hK
            go_simp
            exact hK
          refine AnyL.takeK (i := 9) (v := ?_) (a' := ?_) rfl (by kernel_rfl) (fun _ _ _ h => h) rfl ?hy hS2 ?ha ?_
          case hy =>
            intro W hW K hK
            have c0s := hW.c0
            have c2s := hW.c2
            have c9s := hW.c9
            have cfs := hW.fb
            go_simp
            refine ⟨rfl, ?_⟩
            exact hK
          case ha =>
            intro K hK
            go_simp
            exact hK
          refine AnyL.takeK (i := 10) (v := ?_) (a' := ?_) rfl (by kernel_rfl) (fun _ _ _ h => h) rfl ?hy hS2 ?ha ?_
          case hy =>
            intro W hW K hK
            have c0s := hW.c0
            have c2s := hW.c2
            have c9s := hW.c9
            have cfs := hW.fb
            go_simp
            refine ⟨rfl, ?_⟩
            exact hK
          case ha =>
            intro K hK
            go_simp
            exact hK
          refine AnyL.takeK (i := 11) (v := ?_) (a' := ?_) rfl (by kernel_rfl) (fun _ _ _ h => h) rfl ?hy hS2 ?ha ?_
          case hy =>
            intro W hW K hK
            have c0s := hW.c0
            have c2s := hW.c2
            have c9s := hW.c9
            have cfs := hW.fb
            go_simp
            refine ⟨rfl, ?_⟩
            exact hK
          case ha =>
            intro K hK
            go_simp
            exact hK
          refine AnyL.takeK (i := 12) (v := ?_) (a' := ?_) rfl (by kernel_rfl) (fun _ _ _ h => h) rfl ?hy hS2 ?ha ?_
          case hy =>
            intro W hW K hK
            have c0s := hW.c0
            have c2s := hW.c2
            have c9s := hW.c9
            have cfs := hW.fb
            go_simp
            refine ⟨rfl, ?_⟩
            exact hK
          case ha =>
            intro K hK
            go_simp
            exact hK
          refine AnyL.takeK (i := 13) (v := ?_) (a' := ?_) rfl (by kernel_rfl) (fun _ _ _ h => h) rfl ?hy hS2 ?ha ?_
          case hy =>
            intro W hW K hK
            have c0s := hW.c0
            have c2s := hW.c2
            have c9s := hW.c9
            have cfs := hW.fb
            go_simp
            refine ⟨rfl, ?_⟩
            exact hK
          case ha =>
            intro K hK
            go_simp
            exact hK
          refine AnyL.takeK (i := 14) (v := ?_) (a' := ?_) rfl (by kernel_rfl) (fun _ _ _ h => h) rfl ?hy hS2 ?ha ?_
          case hy =>
            intro W hW K hK
            have c0s := hW.c0
            have c2s := hW.c2
            have c9s := hW.c9
            have cfs := hW.fb
            go_simp
            refine ⟨rfl, ?_⟩
            exact hK
          case ha =>
            intro K hK
            go_simp
            exact hK
          refine AnyL.takeK (i := 15) (v := ?_) (a' := ?_) rfl (by kernel_rfl) (fun _ _ _ h => h) rfl ?hy hS2 ?ha ?_
          case hy =>
            intro W hW K hK
            have c0s := hW.c0
            have c2s := hW.c2
            have c9s := hW.c9
            have cfs := hW.fb
            go_simp
            refine ⟨rfl, ?_⟩
            exact hK
          case ha =>
            intro K hK
            go_simp
            exact hK
          refine AnyL.takeK (i := 16) (v := ?_) (a' := ?_) rfl (by kernel_rfl) (fun _ _ _ h => h) rfl ?hy hS2 ?ha ?_
          case hy =>
            intro W hW K hK
            have c0s := hW.c0
            have c2s := hW.c2
            have c9s := hW.c9
            have cfs := hW.fb
            go_simp
            refine ⟨rfl, ?_⟩
            exact hK
          case ha =>
            intro K hK
            go_simp
            exact hK
          refine AnyL.takeK (i := 17) (v := ?_) (a' := ?_) rfl (by kernel_rfl) (fun _ _ _ h => h) rfl ?hy hS2 ?ha ?_
          case hy =>
            intro W hW K hK
            have c0s := hW.c0
            have c2s := hW.c2
            have c9s := hW.c9
            have cfs := hW.fb
            go_simp
            refine ⟨rfl, ?_⟩
            exact hK
          case ha =>
            intro K hK
            go_simp
            exact hK
          refine AnyL.takeK (i := 18) (v := ?_) (a' := ?_) rfl (by kernel_rfl) (fun _ _ _ h => h) rfl ?hy hS2 ?ha ?_
          case hy =>
            intro W hW K hK
            have c0s := hW.c0
            have c2s := hW.c2
            have c9s := hW.c9
            have cfs := hW.fb
            go_simp
            refine ⟨rfl, ?_⟩
            exact hK
          case ha =>
            intro K hK
            go_simp
            exact hK
          refine AnyL.takeK (i := 19) (v := ?_) (a' := ?_) rfl (by kernel_rfl) (fun _ _ _ h => h) rfl ?hy hS2 ?ha ?_
          case hy =>
            intro W hW K hK
            have c0s := hW.c0
            have c2s := hW.c2
            have c9s := hW.c9
            have cfs := hW.fb
            go_simp
            refine ⟨rfl, ?_⟩
            exact hK
          case ha =>
            intro K hK
            go_simp
            exact hK
          refine AnyL.takeK (i := 20) (v := ?_) (a' := ?_) rfl (by kernel_rfl) (fun _ _ _ h => h) rfl ?hy hS2 ?ha ?_
          case hy =>
            intro W hW K hK
            have c0s := hW.c0
            have c2s := hW.c2
            have c9s := hW.c9
            have cfs := hW.fb
            go_simp
            refine ⟨rfl, ?_⟩
            exact hK
          case ha =>
            intro K hK
            go_simp
            exact hK
          refine AnyL.takeK (i := 21) (v := ?_) (a' := ?_) rfl (by kernel_rfl) (fun _ _ _ h => h) rfl ?hy hS2 ?ha ?_
          case hy =>
            intro W hW K hK
            have c0s := hW.c0
            have c2s := hW.c2
            have c9s := hW.c9
            have cfs := hW.fb
            go_simp
            refine ⟨rfl, ?_⟩
            exact hK
          case ha =>
            intro K hK
            go_simp
            exact hK
          refine AnyL.takeK (i := 22) (v := ?_) (a' := ?_) rfl (by kernel_rfl) (fun _ _ _ h => h) rfl ?hy hS2 ?ha ?_
          case hy =>
            intro W hW K hK
            have c0s := hW.c0
            have c2s := hW.c2
            have c9s := hW.c9
            have cfs := hW.fb
            go_simp
            refine ⟨rfl, ?_⟩
            exact hK
          case ha =>
            intro K hK
            go_simp
            exact hK
          refine AnyL.takeK (i := 23) (v := ?_) (a' := ?_) rfl (by kernel_rfl) (fun _ _ _ h => h) rfl ?hy hS2 ?ha ?_
          case hy =>
            intro W hW K hK
            have c0s := hW.c0
            have c2s := hW.c2
            have c9s := hW.c9
            have cfs := hW.fb
            go_simp
            refine ⟨rfl, ?_⟩
            exact hK
          case ha =>
            intro K hK
            go_simp
            exact hK
          refine AnyL.takeK (i := 24) (v := ?_) (a' := ?_) rfl (by kernel_rfl) (fun _ _ _ h => h) rfl ?hy hS2 ?ha ?_
          case hy =>
            intro W hW K hK
            have c0s := hW.c0
            have c2s := hW.c2
            have c9s := hW.c9
            have cfs := hW.fb
            go_simp
            refine ⟨rfl, ?_⟩
            exact hK
          case ha =>
            intro K hK
            go_simp
            exact hK
          refine AnyL.takeK (i := 25) (v := ?_) (a' := ?_) rfl (by kernel_rfl) (fun _ _ _ h => h) rfl ?hy hS2 ?ha ?_
          case hy =>
            intro W hW K hK
            have c0s := hW.c0
            have c2s := hW.c2
            have c9s := hW.c9
            have cfs := hW.fb
            go_simp
            refine ⟨rfl, ?_⟩
            exact hK
          case ha =>
            intro K hK
            go_simp
            exact hK
          refine AnyL.oneK (i := 26) rfl (by kernel_rfl) rfl fun K hK => ?_
          go_simp
          refine hK _ _ (fun _ => hS2.alloc _) ?_
          clear hK K
          refine AnyL.oneK (i := 27) rfl (by kernel_rfl) rfl fun K hK => ?_
          refine wp_append_own _ _ _ 34 rfl w.heap.size 75 i0 _ 4 48 Tryz.underlying34 hi0 hz0 hz1 hz2 rfl (by decide) _ _ _ rfl (World.ownsRow.alloc hownW _) ⟨W2.heap.size, 0, none⟩ 1 1 [.string (s.extract j j1), .string (s.extract j1 p), .int .i64 (j1 : Int), .int .i64 (p : Int)] rfl rfl ?c1 ?c2 ?c3 ?c4 ?c5 ?_
          case c2 => simp [Value.oneCell']
          case c5 => have := hgW.size; simp; omega
          case c3 => exact hm1
          case c4 => exact hm2
          case c1 => exact World.news_of_block (cs := #[.string (s.extract j j1), .string (s.extract j1 p), .int .i64 (j1 : Int), .int .i64 (p : Int)]) (t := 75) (fr := (0, 0)) (heap_alloc_new W2 _)
          intro v' w3 hown3 hgrow hnil
          obtain ⟨gg, cap, hvf, _, _⟩ := World.ownsRow.form hown3 (Nat.succ_pos nc)
          subst hvf
          have hX3 : LX w3 gl gf s { t.clr with pos := p, com := cm } := (hS2.alloc _).grown hgrow (fun k hk => by have := (World.ownsRow.lt hownW k hk).1; omega) (fun hk => ak hk.symm)
          have hg3 : w.grownBy w3 (some gl) := fr_own (fr_alloc hgW _) hgrow (fun k hk => (World.ownsRow.lt hownW k hk).1)
          have hc3 := hX3.c2
          have hf3 := hX3.fr 2
          have hX6 := hX3.set 2 (.slice (some ⟨gg, 0, none⟩) (nc + 1) cap) { t.clr with pos := p, com := (.slice (some ⟨gg, 0, none⟩) (nc + 1) cap) } rfl
          have hown6 : (w3.setCell ⟨gl, 2, none⟩ (.slice (some ⟨gg, 0, none⟩) (nc + 1) cap)).ownsRow w.heap.size 75 4 (.slice (some ⟨gg, 0, none⟩) (nc + 1) cap) (nc + 1) (xs ++ [.string (s.extract j j1), .string (s.extract j1 p), .int .i64 (j1 : Int), .int .i64 (p : Int)]) := own_keep hown3 (fr_set (fr_refl w3 (some gl)) 2 (.slice (some ⟨gg, 0, none⟩) (nc + 1) cap)) hgl
          have hg6 := fr_set hg3 2 (.slice (some ⟨gg, 0, none⟩) (nc + 1) cap)
          refine hK _ _ (fun _ => hX3) ?_
          clear hK K
          refine AnyL.oneK (i := 28) rfl (by kernel_rfl) rfl fun K hK => ?_
          go_simp
          refine hK _ _ (fun _ => hX3) ?_
          clear hK K
          refine AnyL.oneK (i := 29) rfl (by kernel_rfl) rfl fun K hK => ?_
          go_simp
          refine hK _ _ (fun _ => hX3) ?_
          clear hK K
          refine AnyL.oneK (i := 30) rfl (by kernel_rfl) rfl fun K hK => ?_
          go_simp
          refine hK _ _ (fun _ => hX3) ?_
          clear hK K
          refine AnyL.oneK (i := 31) rfl (by kernel_rfl) rfl fun K hK => ?_
          go_simp
          refine hK _ _ (fun h => absurd rfl h) ?_
          clear hK K
          refine AnyL.done (by kernel_rfl) (NoPanic.normal ?_) _
          go_wp2_with fail
          go_roundw
          case rel => exact ⟨p, _, nc + 1, _, _, rfl, hX6, hown6, by omega, hp2, hg6, by show blankP s p = blankP s t.pos; rw [hbl2, HBR.out]⟩
          case measure =>
            have h1 := posIn_of hX6
            have h2 := posIn_of hX
            simp only at h1 h2
            rw [h1, h2]; omega
  case rest =>
    obtain ⟨b, cm, rfl, hX, hg, hbT, hq, hcm⟩ := hcut
    obtain ⟨q, hqe⟩ : ∃ q, (blankP s t.pos).1 = q := ⟨_, rfl⟩
    rw [hqe] at hX hq
    have HQE := Lib.hid hqe
    clear hqe
    have c3 := hX.c3
    have c7 := hX.c7
    have c9 := hX.c9
    obtain ⟨d, hdd⟩ : ∃ d, d = t.dot := ⟨_, rfl⟩
    have c11 : wc.cell? ⟨gl, 11, none⟩ = some (.bool d) := by rw [hdd]; exact hX.c11
    have HDD := Lib.hid hdd
    clear hdd
    have fr := hX.fr
    have hX3 := (hX.set 3 (.string b) { t.clr with pos := q, com := cm, sp := b } rfl).set 7 (.int .i64 (q : Int)) { t.clr with pos := q, com := cm, sp := b, tp := q } rfl
    have hg3 := fr_set (fr_set hg 3 (.string b)) 7 (.int .i64 (q : Int))
    have hcl : Hid (Clr { t.clr with pos := q, com := cm, sp := b, tp := q }) := ⟨rfl, rfl, rfl⟩
    go_upto_if 124 with fail
    clear c3 c7 c9 c11 fr
    go_cut [] (fun wx => ∃ t3, LX wx gl gf s t3 ∧ w.grownBy wx (some gl) ∧ (t3.tp = q ∧ t3.com = cm) ∧ Fin s t k2 q t3)
    case first =>
      rcases Bool.eq_false_or_eq_true d with hd1 | hd1
      · have hdot : t.dot = true := by rw [← HDD.out]; exact hd1
        subst hd1
        have hkk : (t.kind.toList == [46] && ndB k2) = true := by rw [← hdt.out]; exact hdot
        have HKK := Lib.hid hkk
        have HDOT := Lib.hid hdot
        clear hdot hkk
        go_wp2_with fail
        refine (field30 s gl gf { t.clr with pos := q, com := cm, sp := b, tp := q } _ hP hX3 hq hcl).mono ?_
        intro e w3 hf
        rcases hf with ⟨hpar, rfl, hX4, hg4⟩ | ⟨hpar, hqq⟩
        · have k11 := hX4.c11
          have f11 := hX4.fr 11
          have hfin : Fin s t k2 q { { t.clr with pos := q, com := cm, sp := b, tp := q } with kind := kIdent, txt := s.extract q (run s parB q), pos := run s parB q, dot := false } := by
            refine Or.inr ⟨⟨kIdent, s.extract q (run s parB q), 0, run s parB q⟩, lt_of_bt (fun h => ?_), ?_, rfl, rfl, rfl, rfl, ?_⟩
            · have h2 : parB (bt s q) = true := hpar
              rw [h] at h2; exact absurd h2 (by decide)
            · have h2 : parB (bt s q) = true := hpar
              rw [oneP_q, if_pos (by rw [dotB, HKK.out, h2]; rfl)]
            · have : (kIdent.toList == [46]) = false := by simp [kIdent]
              rw [this]; rfl
          go_wp2_with fail
          go_meet
          case rel => exact ⟨_, hX4.dot false, fr_set (fr_trans hg3 hg4) 11 _, ⟨rfl, rfl⟩, hfin⟩
        · have hno : dotB s q t.kind k2 = false := by rw [dotB, show parB (bt s q) = false from hpar]; simp
          rcases tok_fin hcl.out rfl hdt.out hno hqq with ⟨h1, h2, pe, pp, m, cs, nn, rfl, hF⟩ | ⟨rfl, t3, hX5, hg5, ht, hfin⟩
          · have hnp : NextPost s gl gf t k2 w (.panicked [{ v := .iface 48 (.pointer (some ⟨pe, 0, none⟩)), recovered := false }]) w3 :=
              Or.inl ⟨Or.inr ⟨hbT, by rw [HQE.out]; exact h1, by rw [HQE.out]; exact h2⟩, Fault.after ⟨pe, pp, m, cs, nn, rfl, hF⟩ (Fr2.of hg3)⟩
            go_wp2_with fail
            exact ⟨rfl, hnp⟩
          · have k11 := hX5.c11
            have f11 := hX5.fr 11
            have hfin2 : Fin s t k2 q { t3 with dot := false } := by
              have h3 := hfin
              rw [if_pos (show t.clr.dot = true from HDOT.out)] at h3
              exact h3
            go_wp2_with fail
            go_meet
            case rel => exact ⟨_, hX5.dot false, fr_set (fr_trans hg3 hg5) 11 _, ht, hfin2⟩
      · have hdot : t.dot = false := by rw [← HDD.out]; exact hd1
        subst hd1
        have hkk : (t.kind.toList == [46] && ndB k2) = false := by rw [← hdt.out]; exact hdot
        have HKK := Lib.hid hkk
        have HDOT := Lib.hid hdot
        clear hdot hkk
        go_wp2_with fail
        refine (tok31 s gl gf { t.clr with pos := q, com := cm, sp := b, tp := q } _ hP hX3 hcl).mono ?_
        intro e w3 hqq
        have hno : dotB s q t.kind k2 = false := by rw [dotB, HKK.out]; rfl
        rcases tok_fin hcl.out rfl hdt.out hno hqq with ⟨h1, h2, pe, pp, m, cs, nn, rfl, hF⟩ | ⟨rfl, t3, hX5, hg5, ht, hfin⟩
        · have hnp : NextPost s gl gf t k2 w (.panicked [{ v := .iface 48 (.pointer (some ⟨pe, 0, none⟩)), recovered := false }]) w3 :=
            Or.inl ⟨Or.inr ⟨hbT, by rw [HQE.out]; exact h1, by rw [HQE.out]; exact h2⟩, Fault.after ⟨pe, pp, m, cs, nn, rfl, hF⟩ (Fr2.of hg3)⟩
          go_wp2_with fail
          exact ⟨rfl, hnp⟩
        · have hfin2 : Fin s t k2 q t3 := by
            have h3 := hfin
            rw [if_neg (by rw [show t.clr.dot = false from HDOT.out]; decide)] at h3
            exact h3
          go_wp2_with fail
          go_meet
          case rel => exact ⟨_, hX5, fr_trans hg3 hg5, ht, hfin2⟩
    case rest =>
      obtain ⟨t3, hX4, hg4, htp, hfin⟩ := hcut
      have hbd := hfin.bd hq
      have e1 : (0 : Int) ≤ (q : Int) := by omega
      have e2 : (q : Int) ≤ (t3.pos : Int) := by omega
      have e3 : (t3.pos : Int) ≤ (s.size : Int) := by omega
      go_wp2_with fail
      refine still_tail (fun W4 => LX W4 gl gf s t3 ∧ w.grownBy W4 (some gl)) ⟨hX4.drew, fr_drew hg4⟩ 17 (by kernel_rfl) (by kernel_rfl) ?_
      rintro W4 ⟨hX5, hg5⟩
      have c0s := hX5.c0
      have c9s := hX5.c9
      have cfs := hX5.fb
      simp only [List.take_succ_cons, List.take_zero, List.drop_succ_cons, List.drop_zero]
      repeat still_step
      refine wpStill_nil ?_
      have k4 := hX5.c4
      have k8 := hX5.c8
      have frs := hX5.fr
      have hX6 := (hX5.set 4 (.string (s.extract q t3.pos)) { t3 with raw := s.extract q t3.pos } rfl).set 8 (.int .i64 (t3.pos : Int)) { t3 with raw := s.extract q t3.pos, te := t3.pos } rfl
      have hnp : NextPost s gl gf t k2 w (.returned (.tuple #[])) ((W4.setCell ⟨gl, 4, none⟩ (.string (s.extract q t3.pos))).setCell ⟨gl, 8, none⟩ (.int .i64 (t3.pos : Int))) := by
        refine Or.inr ⟨hbT, rfl, _, ?_, ?_, ?_, rfl, ?_, hX6, fr_set (fr_set hg5 4 _) 8 _⟩
        · rw [HQE.out]; exact hfin
        · rw [HQE.out]
        · rw [HQE.out]; exact htp.1
        · show Com t3.com; rw [htp.2]; exact hcm
      go_wp2_with fail
      first
        | (go_end0; exact hnp)
        | exact bodyPost_ret (results_none rfl _ _ _) rfl hnp
end Go.Proofs.YtahcbeofaeflgaaGreatDoor
