/- Lemmas towards the statement FnLexCardSaid, conditions: as each theorem says. -/
import Derived.Test.YtahcbeofaeflgaaGreatDoorK2
import Derived.Defers
import Derived.Recover
namespace Go.Proofs.YtahcbeofaeflgaaGreatDoor
open Go.RowKit

theorem Tryz.assert48 (v : Value) (w : World) : (Instr.typeAssert (.iface 48 v) 20 48 true).run Tryz.prog w = .ok (.tuple #[v, .bool true]) w := by kernel_rfl

set_option maxRecDepth 100000 in
set_option maxHeartbeats 1000000 in
theorem catch11_idle (p : Addr) (w : World) :
    CallsD Tryz.prog 11 #[.pointer (some p)] .returning w fun e u' w' => e = .returned (.tuple #[]) ∧ u' = .returning ∧ w' = w := by
  refine callsD_of_wpS Tryz.func11 rfl fun c₀ cs hu => ?_
  apply wpS_seq
  apply wpS_region
  simp [wpOpsS, go_sem, recoverD, hu, Tryz.ntmps11, Exit.thenS]
  apply wpS_seq
  apply wpS_region
  simp [wpOpsS, go_sem, Exit.thenS]
  refine wpS_cond (t := false) (by simp [Act.eval, Array.replicate]) ?_
  simp only [Bool.false_eq_true, if_false]
  refine wpS_of_wp (wp_skip ?_)
  cases c₀
  simp_all [bodyPostS, results, Tryz.results11]

set_option maxRecDepth 100000 in
set_option maxHeartbeats 1000000 in
theorem catch11_panicking (p : Addr) (pe : Nat) (x : Value) (w : World) (hc : w.cell? p = some x) (hz : w.frozen? p = false) :
    CallsD Tryz.prog 11 #[.pointer (some p)] (.panicking [{ v := .iface 48 (.pointer (some ⟨pe, 0, none⟩)), recovered := false }]) w fun e u' w' =>
      e = .returned (.tuple #[]) ∧ u' = .panicking [{ v := .iface 48 (.pointer (some ⟨pe, 0, none⟩)), recovered := true }] ∧ w' = w.setCell p (.iface 48 (.pointer (some ⟨pe, 0, none⟩))) := by
  refine callsD_of_wpS Tryz.func11 rfl fun c₀ cs hu => ?_
  apply wpS_seq
  apply wpS_region
  simp [wpOpsS, go_sem, recoverD, hu, Tryz.ntmps11, Exit.thenS]
  apply wpS_seq
  apply wpS_region
  simp [wpOpsS, go_sem, Exit.thenS]
  refine wpS_cond (t := true) (by simp [Act.eval, Array.replicate]) ?_
  simp only [if_true]
  refine wpS_of_wp ?_
  have ha := Tryz.assert48
  show Code.wp _ _ _ { tmps := #[.pointer (some p), .iface 48 (.pointer (some ⟨pe, 0, none⟩)), undef, undef, .iface 48 (.pointer (some ⟨pe, 0, none⟩)), .iface 48 (.pointer (some ⟨pe, 0, none⟩)), .bool true, undef, undef, undef, undef, undef, undef, undef, undef, undef], defers := [] } w
  go_wp2
  exact ⟨rfl, .panicking [{ v := .iface 48 (.pointer (some ⟨pe, 0, none⟩)), recovered := true }], rfl, .tuple #[], by simp [results, Tryz.results11], rfl, rfl, rfl⟩
end Go.Proofs.YtahcbeofaeflgaaGreatDoor
