/- Lemmas towards the statement FnLexCardSaid, conditions: as each theorem says. -/
import Derived.Test.YtahcbeofaeflgaaGreatDoorH1
import Derived.Test.YtahcbeofaeflgaaGreatDoorH2
namespace Go.Proofs.YtahcbeofaeflgaaGreatDoor
open Go.RowKit

/-- What 'NextToken' hands back. -/
def N7 (s : ByteArray) (gl gf : Nat) (t : St) (k2 : ByteArray) (w : World) (e : Ending) (w' : World) : Prop :=
  (((blankP s t.pos).2 = false ∨ (blankP s t.pos).2 = true ∧ (blankP s t.pos).1 < s.size ∧ oneP s (blankP s t.pos).1 t.kind k2 = none) ∧
    ∃ (pe pp : Nat) (m : ByteArray) (cs : Array Value) (n : Int), e = .returned (.iface 48 (.pointer (some ⟨pe, 0, none⟩))) ∧ w'.heap[pe]? = some (.cells #[.string m, .pointer (some ⟨pp, 0, none⟩)] 57 (0, 0)) ∧ w'.heap[pp]? = some (.cells cs 59 (0, 0)) ∧ cs[1]? = some (.int .i64 n) ∧ Fr2 gl gf w w') ∨
  ((blankP s t.pos).2 = true ∧ e = .returned .nilIface ∧ ∃ t3, Fin s t k2 (blankP s t.pos).1 t3 ∧ t3.raw = s.extract (blankP s t.pos).1 t3.pos ∧ t3.tp = (blankP s t.pos).1 ∧ t3.te = t3.pos ∧ Com t3.com ∧ LX w' gl gf s t3 ∧ w.grownBy w' (some gl))

set_option maxRecDepth 100000 in
set_option maxHeartbeats 4000000 in
theorem next7 (s : ByteArray) (gl gf : Nat) (t : St) (k2 : ByteArray) (w : World) (hP : Hid (PL s)) (hL : LX w gl gf s t) (hp : t.pos ≤ s.size) (hdt : Hid (t.dot = ((t.kind.toList == [46]) && ndB k2))) :
    Calls Tryz.prog 7 #[.pointer (some ⟨gl, 0, none⟩)] w (N7 s gl gf t k2 w) := by
  have hmf : ∀ (fn : Fn) (first cap : Array Value) (w : World), (Instr.makeFunc fn first cap).run Tryz.prog w = .ok (.func fn first cap) w := fun _ _ _ _ => rfl
  have hgl := lt_of_heap hL.l
  have hgf := lt_of_heap hL.f
  have hA := hL.alloc (.cells #[.nilIface] 41)
  have hz0 := heap_alloc_new w (.cells #[.nilIface] 41)
  go_enter_defers Tryz.func7, Tryz.ntmps7
  go_wp2_with fail
  refine (next12 s gl gf t k2 _ hP hA hp hdt).mono ?_
  intro e w1 hq
  rcases hq with ⟨hq1, pe, pp, m, cs, nn, rfl, h1, h2, h3, h4, h5, h6⟩ | ⟨hq1, rfl, t3, hfin, hraw, htp, hte, hcom, hX, hg⟩
  · have hblk : w1.heap[w.heap.size]? = some (.cells #[.nilIface] 41 (0, 0)) := (h6.block w.heap.size (by simp) (by omega) (by omega)).trans hz0
    have hc := cell_of hblk 0
    have hf := frozen_of hblk 0
    have hsz : w.heap.size + 1 ≤ w1.heap.size := by have := h6.size; simpa using this
    have hX2 : N7 s gl gf t k2 w (.returned (.iface 48 (.pointer (some ⟨pe, 0, none⟩)))) (w1.setCell ⟨w.heap.size, 0, none⟩ (.iface 48 (.pointer (some ⟨pe, 0, none⟩)))) := by
      have h4' : w.heap.size + 1 ≤ pe := by simpa using h4
      have h5' : w.heap.size + 1 ≤ pp := by simpa using h5
      refine Or.inl ⟨hq1, pe, pp, m, cs, nn, rfl, (Below.heap_setCell w1 ⟨w.heap.size, 0, none⟩ _ pe (by simp; omega)).trans h1, (Below.heap_setCell w1 ⟨w.heap.size, 0, none⟩ _ pp (by simp; omega)).trans h2, h3, ?_⟩
      exact ⟨h6.os, h6.tape, h6.output, by simp [World.setCell]; omega, fun i hi ha hb => (Below.heap_setCell w1 ⟨w.heap.size, 0, none⟩ _ i (by simp; omega)).trans ((h6.block i (by simp; omega) ha hb).trans (Below.heap_alloc w _ i hi))⟩
    go_wp2_with fail
    refine leaves_cons (f := 11) (args := #[.pointer (some ⟨w.heap.size, 0, none⟩)]) (by simp) (by simp [go_sem]) ?_
    refine (catch11_panicking ⟨w.heap.size, 0, none⟩ pe .nilIface w1 (by simpa using hc) hf).mono ?_
    rintro e u' w'' ⟨rfl, rfl, rfl⟩
    have hc2 : (w1.setCell ⟨w.heap.size, 0, none⟩ (.iface 48 (.pointer (some ⟨pe, 0, none⟩)))).cell? ⟨w.heap.size, 0, none⟩ = some (.iface 48 (.pointer (some ⟨pe, 0, none⟩))) := by
      simp [World.cell?, World.setCell, Array.getElem?_modify, hblk]
    simp [Leaves, settle, results, Tryz.results7, go_sem]
    exact ⟨_, by rw [hc2], hX2⟩
  · have hblk : w1.heap[w.heap.size]? = some (.cells #[.nilIface] 41 (0, 0)) := (hg.block w.heap.size (by simp) (by intro h; injection h with h; omega)).trans hz0
    have hc2 : w1.cell? ⟨w.heap.size, 0, none⟩ = some .nilIface := by simpa using cell_of hblk 0
    have hX2 : N7 s gl gf t k2 w (.returned .nilIface) w1 :=
      Or.inr ⟨hq1, rfl, t3, hfin, hraw, htp, hte, hcom, hX, fr_trans (fr_alloc (fr_refl w (some gl)) _) hg⟩
    go_wp2_with fail
    refine leaves_cons (f := 11) (args := #[.pointer (some ⟨w.heap.size, 0, none⟩)]) (by simp) (by simp [go_sem]) ?_
    refine (catch11_idle ⟨w.heap.size, 0, none⟩ w1).mono ?_
    rintro e u' w'' ⟨rfl, rfl, rfl⟩
    simp [Leaves, settle, results, Tryz.results7, go_sem]
    exact ⟨_, by rw [hc2], hX2⟩
end Go.Proofs.YtahcbeofaeflgaaGreatDoor
