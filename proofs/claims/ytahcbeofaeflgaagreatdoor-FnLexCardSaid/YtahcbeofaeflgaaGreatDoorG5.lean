/- Lemmas towards the statement FnLexCardSaid, conditions: as each theorem says. -/
import Derived.Test.YtahcbeofaeflgaaGreatDoorB2d1
import Derived.Test.YtahcbeofaeflgaaGreatDoorB2d3
import Derived.Test.YtahcbeofaeflgaaGreatDoorB2s1
import Derived.Test.YtahcbeofaeflgaaGreatDoorB2s3
import Derived.Test.YtahcbeofaeflgaaGreatDoorG3
namespace Go.Proofs.YtahcbeofaeflgaaGreatDoor
open Go.RowKit

theorem cont53 (s : ByteArray) (gl gf : Nat) (t : St) (raw uni : Bool) (nm : ByteArray) (w : World) (hP : Hid (PL s)) (hL : LX w gl gf s t) (hc : markB (bt s t.pos) = true) (hnm : (nm.toList == [105, 100, 101, 110, 116, 105, 102, 105, 101, 114]) = false) (hnz : nm.size ≤ 100) :
    Calls Tryz.prog 53 #[.pointer (some ⟨gl, 0, none⟩), .string (quoS s t.pos), .bool raw, .bool uni, .string nm, .bool false] w (QPost s gl gf t w) := by
  unfold markB at hc
  rcases of_decide_eq_true hc with h | h <;> rcases quoM_or s t.pos with hm | hm
  · have e : quoS s t.pos = ⟨#[39]⟩ := by simp [quoS, h, hm]
    rw [e]; exact cont53_s1 s gl gf t raw uni nm w hP hL h hm hnm hnz
  · have e : quoS s t.pos = ⟨#[39, 39, 39]⟩ := by simp [quoS, h, hm]
    rw [e]; exact cont53_s3 s gl gf t raw uni nm w hP hL h hm hnm hnz
  · have e : quoS s t.pos = ⟨#[34]⟩ := by simp [quoS, h, hm]
    rw [e]; exact cont53_d1 s gl gf t raw uni nm w hP hL h hm hnm hnz
  · have e : quoS s t.pos = ⟨#[34, 34, 34]⟩ := by simp [quoS, h, hm]
    rw [e]; exact cont53_d3 s gl gf t raw uni nm w hP hL h hm hnm hnz

def kBytes : ByteArray := ⟨#[60, 98, 121, 116, 101, 115, 62]⟩
def kString : ByteArray := ⟨#[60, 115, 116, 114, 105, 110, 103, 62]⟩

/-- What a literal comes to. -/
def LitPost (s : ByteArray) (gl gf : Nat) (t : St) (k : ByteArray) (w : World) (e : Ending) (w' : World) : Prop :=
  (quoP s t.pos = none ∧ Fault gl gf w e w') ∨
  (∃ d v, quoP s t.pos = some (d, v) ∧ e = .returned (.tuple #[]) ∧ LX w' gl gf s { t with kind := k, txt := v, pos := d } ∧ w.grownBy w' (some gl) ∧ d ≤ s.size)

set_option maxRecDepth 100000 in
set_option maxHeartbeats 1000000 in
theorem lit54 (s : ByteArray) (gl gf : Nat) (t : St) (w : World) (hP : Hid (PL s)) (hL : LX w gl gf s t) (hc : Hid (markB (bt s t.pos) = true)) :
    Calls Tryz.prog 54 #[.pointer (some ⟨gl, 0, none⟩), .bool false] w (LitPost s gl gf t kBytes w) := by
  have k1 := hL.c1
  have f1 := hL.fr 1
  have hX := hL.kind kBytes
  have hfr := fr_set (fr_refl w (some gl)) 1 (.string kBytes)
  have hnm : (((⟨#[114, 97, 119, 32, 98, 121, 116, 101, 115, 32, 108, 105, 116, 101, 114, 97, 108]⟩ : ByteArray)).toList == [105, 100, 101, 110, 116, 105, 102, 105, 101, 114]) = false := by rw [ByteArray.toList_mk [114, 97, 119, 32, 98, 121, 116, 101, 115, 32, 108, 105, 116, 101, 114, 97, 108]]; decide
  have HNM := Lib.hid hnm
  clear hnm
  go_enter Tryz.func54, Tryz.ntmps54
  go_wp2_with fail
  refine (delim74 s gl gf _ _ hP hX hc.out).mono ?_; rintro e w1 ⟨rfl, hX1, hg1⟩
  go_wp2_with fail
  refine (cont53 s gl gf _ true false ⟨#[114, 97, 119, 32, 98, 121, 116, 101, 115, 32, 108, 105, 116, 101, 114, 97, 108]⟩ w1 hP hX1 hc.out HNM.out (by decide)).mono ?_
  intro e w2 hq
  rcases hq with ⟨h1, ⟨pe, pp, m, cs, n4, rfl, q⟩⟩ | ⟨d, v, h1, rfl, hX2, hg2, hd⟩
  · go_wp2_with fail
    exact ⟨rfl, Or.inl ⟨h1, Fault.after ⟨pe, pp, m, cs, n4, rfl, q⟩ (Fr2.of (fr_trans hfr hg1))⟩⟩
  · have k5 := hX2.c5
    have f5 := hX2.fr 5
    go_wp2_with fail
    refine bodyPost_ret (results_none rfl _ _ _) rfl (Or.inr ⟨d, v, h1, rfl, hX2.txt v, fr_set (fr_trans hfr (fr_trans hg1 hg2)) _ _, hd⟩)

set_option maxRecDepth 100000 in
set_option maxHeartbeats 1000000 in
theorem lit55 (s : ByteArray) (gl gf : Nat) (t : St) (w : World) (hP : Hid (PL s)) (hL : LX w gl gf s t) (hc : Hid (markB (bt s t.pos) = true)) :
    Calls Tryz.prog 55 #[.pointer (some ⟨gl, 0, none⟩), .bool false] w (LitPost s gl gf t kBytes w) := by
  have k1 := hL.c1
  have f1 := hL.fr 1
  have hX := hL.kind kBytes
  have hfr := fr_set (fr_refl w (some gl)) 1 (.string kBytes)
  have hnm : (((⟨#[98, 121, 116, 101, 115, 32, 108, 105, 116, 101, 114, 97, 108]⟩ : ByteArray)).toList == [105, 100, 101, 110, 116, 105, 102, 105, 101, 114]) = false := by rw [ByteArray.toList_mk [98, 121, 116, 101, 115, 32, 108, 105, 116, 101, 114, 97, 108]]; decide
  have HNM := Lib.hid hnm
  clear hnm
  go_enter Tryz.func55, Tryz.ntmps55
  go_wp2_with fail
  refine (delim74 s gl gf _ _ hP hX hc.out).mono ?_; rintro e w1 ⟨rfl, hX1, hg1⟩
  go_wp2_with fail
  refine (cont53 s gl gf _ false false ⟨#[98, 121, 116, 101, 115, 32, 108, 105, 116, 101, 114, 97, 108]⟩ w1 hP hX1 hc.out HNM.out (by decide)).mono ?_
  intro e w2 hq
  rcases hq with ⟨h1, ⟨pe, pp, m, cs, n4, rfl, q⟩⟩ | ⟨d, v, h1, rfl, hX2, hg2, hd⟩
  · go_wp2_with fail
    exact ⟨rfl, Or.inl ⟨h1, Fault.after ⟨pe, pp, m, cs, n4, rfl, q⟩ (Fr2.of (fr_trans hfr hg1))⟩⟩
  · have k5 := hX2.c5
    have f5 := hX2.fr 5
    go_wp2_with fail
    refine bodyPost_ret (results_none rfl _ _ _) rfl (Or.inr ⟨d, v, h1, rfl, hX2.txt v, fr_set (fr_trans hfr (fr_trans hg1 hg2)) _ _, hd⟩)

set_option maxRecDepth 100000 in
set_option maxHeartbeats 1000000 in
theorem lit56 (s : ByteArray) (gl gf : Nat) (t : St) (w : World) (hP : Hid (PL s)) (hL : LX w gl gf s t) (hc : Hid (markB (bt s t.pos) = true)) :
    Calls Tryz.prog 56 #[.pointer (some ⟨gl, 0, none⟩), .bool false] w (LitPost s gl gf t kString w) := by
  have k1 := hL.c1
  have f1 := hL.fr 1
  have hX := hL.kind kString
  have hfr := fr_set (fr_refl w (some gl)) 1 (.string kString)
  have hnm : (((⟨#[114, 97, 119, 32, 115, 116, 114, 105, 110, 103, 32, 108, 105, 116, 101, 114, 97, 108]⟩ : ByteArray)).toList == [105, 100, 101, 110, 116, 105, 102, 105, 101, 114]) = false := by rw [ByteArray.toList_mk [114, 97, 119, 32, 115, 116, 114, 105, 110, 103, 32, 108, 105, 116, 101, 114, 97, 108]]; decide
  have HNM := Lib.hid hnm
  clear hnm
  go_enter Tryz.func56, Tryz.ntmps56
  go_wp2_with fail
  refine (delim74 s gl gf _ _ hP hX hc.out).mono ?_; rintro e w1 ⟨rfl, hX1, hg1⟩
  go_wp2_with fail
  refine (cont53 s gl gf _ true true ⟨#[114, 97, 119, 32, 115, 116, 114, 105, 110, 103, 32, 108, 105, 116, 101, 114, 97, 108]⟩ w1 hP hX1 hc.out HNM.out (by decide)).mono ?_
  intro e w2 hq
  rcases hq with ⟨h1, ⟨pe, pp, m, cs, n4, rfl, q⟩⟩ | ⟨d, v, h1, rfl, hX2, hg2, hd⟩
  · go_wp2_with fail
    exact ⟨rfl, Or.inl ⟨h1, Fault.after ⟨pe, pp, m, cs, n4, rfl, q⟩ (Fr2.of (fr_trans hfr hg1))⟩⟩
  · have k5 := hX2.c5
    have f5 := hX2.fr 5
    go_wp2_with fail
    refine bodyPost_ret (results_none rfl _ _ _) rfl (Or.inr ⟨d, v, h1, rfl, hX2.txt v, fr_set (fr_trans hfr (fr_trans hg1 hg2)) _ _, hd⟩)

set_option maxRecDepth 100000 in
set_option maxHeartbeats 1000000 in
theorem lit57 (s : ByteArray) (gl gf : Nat) (t : St) (w : World) (hP : Hid (PL s)) (hL : LX w gl gf s t) (hc : Hid (markB (bt s t.pos) = true)) :
    Calls Tryz.prog 57 #[.pointer (some ⟨gl, 0, none⟩), .bool false] w (LitPost s gl gf t kString w) := by
  have k1 := hL.c1
  have f1 := hL.fr 1
  have hX := hL.kind kString
  have hfr := fr_set (fr_refl w (some gl)) 1 (.string kString)
  have hnm : (((⟨#[115, 116, 114, 105, 110, 103, 32, 108, 105, 116, 101, 114, 97, 108]⟩ : ByteArray)).toList == [105, 100, 101, 110, 116, 105, 102, 105, 101, 114]) = false := by rw [ByteArray.toList_mk [115, 116, 114, 105, 110, 103, 32, 108, 105, 116, 101, 114, 97, 108]]; decide
  have HNM := Lib.hid hnm
  clear hnm
  go_enter Tryz.func57, Tryz.ntmps57
  go_wp2_with fail
  refine (delim74 s gl gf _ _ hP hX hc.out).mono ?_; rintro e w1 ⟨rfl, hX1, hg1⟩
  go_wp2_with fail
  refine (cont53 s gl gf _ false true ⟨#[115, 116, 114, 105, 110, 103, 32, 108, 105, 116, 101, 114, 97, 108]⟩ w1 hP hX1 hc.out HNM.out (by decide)).mono ?_
  intro e w2 hq
  rcases hq with ⟨h1, ⟨pe, pp, m, cs, n4, rfl, q⟩⟩ | ⟨d, v, h1, rfl, hX2, hg2, hd⟩
  · go_wp2_with fail
    exact ⟨rfl, Or.inl ⟨h1, Fault.after ⟨pe, pp, m, cs, n4, rfl, q⟩ (Fr2.of (fr_trans hfr hg1))⟩⟩
  · have k5 := hX2.c5
    have f5 := hX2.fr 5
    go_wp2_with fail
    refine bodyPost_ret (results_none rfl _ _ _) rfl (Or.inr ⟨d, v, h1, rfl, hX2.txt v, fr_set (fr_trans hfr (fr_trans hg1 hg2)) _ _, hd⟩)

end Go.Proofs.YtahcbeofaeflgaaGreatDoor
namespace Go.Proofs.YtahcbeofaeflgaaGreatDoor
open Go.RowKit

theorem lit_q {s : ByteArray} {k : Nat} {k1 : ByteArray} (h1 : bt s k ≠ 64) (h2 : digB (bt s k) = false) (h3 : bt s k ≠ 46) (h4 : (markB (bt s k) || letB (bt s k)) = true) (h5 : (preP s k).2.2 = true) : oneQ s k k1 = litP s k := by
  unfold oneQ
  rw [if_neg (by simp [parP, h1]), if_neg (by simp [nmB, h2, h3]), if_pos h4, if_pos h5]
theorem tok_lit {s : ByteArray} {gl gf : Nat} {t : St} {n : Nat} {b : Bool} {w w' : World} {v : ByteArray} {d : Nat} (hcl : Clr t) (hp : t.pos < s.size) (hq : oneQ s t.pos t.last = litP s t.pos) (hpre : preP s t.pos = (n, b, true)) (hv : quoP s (t.pos + n) = some (d, v))
    (hX : LX w' gl gf s { t with pos := d, kind := if b = true then kBytes else kString, txt := v }) (hg : w.grownBy w' (some gl)) : TokPost s gl gf t w (.returned (.tuple #[])) w' := by
  refine Or.inr (Or.inl ⟨⟨if b = true then kBytes else kString, v, 0, d⟩, hp, ?_, rfl, ?_, hg⟩)
  · rw [hq]; unfold litP; rw [hpre]; simp only []; rw [hv]; rfl
  · have e : t.tok ⟨if b = true then kBytes else kString, v, 0, d⟩ = { t with pos := d, kind := if b = true then kBytes else kString, txt := v } := by
      have hk : (if b = true then kBytes else kString).toList ≠ [46] := by
        cases b <;> simp [kBytes, kString]
      obtain ⟨h1, h2, h3⟩ := hcl
      unfold St.tok
      rw [if_neg hk, ← h3]
    rw [e]; exact hX
theorem tok_litF {s : ByteArray} {gl gf : Nat} {t : St} {n : Nat} {b : Bool} {w w' : World} {e : Ending} (hp : t.pos < s.size) (hq : oneQ s t.pos t.last = litP s t.pos) (hpre : preP s t.pos = (n, b, true)) (hv : quoP s (t.pos + n) = none) (hf : Fault gl gf w e w') : TokPost s gl gf t w e w' := by
  refine Or.inl ⟨hp, ?_, hf⟩
  rw [hq]; unfold litP; rw [hpre]; simp only []; rw [hv]; rfl

end Go.Proofs.YtahcbeofaeflgaaGreatDoor
