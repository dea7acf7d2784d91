/- Lemmas towards the statement FnLexCardSaid, conditions: as each theorem says. -/
import Derived.Test.YtahcbeofaeflgaaGreatDoorA8
import Derived.Test.YtahcbeofaeflgaaGreatDoorA9
import Derived.Laws.IdiomStrings
namespace Go.Proofs.YtahcbeofaeflgaaGreatDoor
open Go.RowKit

/-- A text of one byte, out of a new slice. -/
theorem conv1 (dst : Nat) (hd : Tryz.prog.underlying dst = some .string) (w : World) (c : UInt8) {ci : Int} (hc : ci = (c.toNat : Int)) (n : Nat) :
    (convert 91 dst (.slice (some ⟨w.heap.size, 0, none⟩) 1 1)).run Tryz.prog ((w.drewN n).alloc (.cells #[.int .u8 ci] 5)) = .ok (.string ⟨#[c]⟩) ((w.drewN n).alloc (.cells #[.int .u8 ci] 5)) := by
  subst hc
  exact run_convert_bytes_back (P := Tryz.prog) _ 91 dst 5 ⟨w.heap.size, 0, none⟩ 1 [c] Tryz.underlying91 Tryz.underlying5 hd (fun j hj => by
    have : j = 0 := by simpa using hj
    subst this
    exact cell_of (heap_alloc_new (w.drewN n) (.cells #[.int .u8 (c.toNat : Int)] 5)) 0)

set_option maxRecDepth 100000 in
set_option maxHeartbeats 2000000 in
theorem delim74_d3 (s : ByteArray) (gl gf : Nat) (t : St) (w : World) (hP : Hid (PL s)) (hL : LX w gl gf s t) (hc : bt s t.pos = 34) (h1 : bt s (t.pos + 1) = 34) (h2 : bt s (t.pos + 2) = 34) :
    Calls Tryz.prog 74 #[.pointer (some ⟨gl, 0, none⟩)] w fun e w' => e = .returned (.string ⟨#[34, 34, 34]⟩) ∧ LX w' gl gf s t ∧ w.grownBy w' (some gl) := by
  have hs : s.size ≤ 2147483647 := Nat.le_trans hP.out.size (by decide)
  have hp : t.pos < s.size := lt_of_bt (by omega)
  have HC := Lib.hid hc
  have y1 : (bt s (t.pos + 1) == 34) = true := by rw [beq_iff_eq]; exact h1
  have y2 : (bt s (t.pos + 2) == 34) = true := by rw [beq_iff_eq]; exact h2
  clear hc h1 h2
  go_enter Tryz.func74, Tryz.ntmps74
  go_wp2_with fail
  refine (peek47n s gl gf t 0 _ hL hs rfl hp).mono ?_; rw [show bt s (t.pos + 0) = 34 from HC.out]; rintro e w' ⟨rfl, nn, rfl⟩
  go_wp2_with fail
  refine wp_loop_rounds 3 ?_
  rw [rounds_succ]
  go_wp2_with fail
  refine (is43n s gl gf t 1 34 _ (hL.drewN _) hs (by omega) rfl rfl (by omega) (by omega)).mono ?_; rintro e w' ⟨rfl, nn, rfl⟩
  go_wp2_with fail
  rw [rounds_succ]
  go_wp2_with fail
  refine (is43n s gl gf t 2 34 _ (hL.drewN _) hs (by omega) rfl rfl (by omega) (by omega)).mono ?_; rintro e w' ⟨rfl, nn, rfl⟩
  go_wp2_with fail
  rw [rounds_succ]
  go_wp2_with fail
  go_ret
  exact ⟨rfl, hL.drewN _, fr_drewN (fr_refl _ _) _⟩

set_option maxRecDepth 100000 in
set_option maxHeartbeats 2000000 in
theorem delim74_d1a (s : ByteArray) (gl gf : Nat) (t : St) (w : World) (hP : Hid (PL s)) (hL : LX w gl gf s t) (hc : bt s t.pos = 34) (h1 : bt s (t.pos + 1) ≠ 34) :
    Calls Tryz.prog 74 #[.pointer (some ⟨gl, 0, none⟩)] w fun e w' => e = .returned (.string ⟨#[34]⟩) ∧ LX w' gl gf s t ∧ w.grownBy w' (some gl) := by
  have hs : s.size ≤ 2147483647 := Nat.le_trans hP.out.size (by decide)
  have hp : t.pos < s.size := lt_of_bt (by omega)
  have HC := Lib.hid hc
  have y1 : (bt s (t.pos + 1) == 34) = false := by rw [beq_eq_false_iff_ne]; exact h1
  clear hc h1
  have hcv := conv1 9 Tryz.underlying9 w 34 (ci := 34) rfl
  go_enter Tryz.func74, Tryz.ntmps74
  go_wp2_with fail
  refine (peek47n s gl gf t 0 _ hL hs rfl hp).mono ?_; rw [show bt s (t.pos + 0) = 34 from HC.out]; rintro e w' ⟨rfl, nn, rfl⟩
  go_wp2_with fail
  refine wp_loop_rounds 3 ?_
  rw [rounds_succ]
  go_wp2_with fail
  refine (is43n s gl gf t 1 34 _ (hL.drewN _) hs (by omega) rfl rfl (by omega) (by omega)).mono ?_; rintro e w' ⟨rfl, nn, rfl⟩
  go_wp2_with fail
  go_ret
  exact ⟨rfl, (hL.drewN _).alloc _, fr_alloc (fr_drewN (fr_refl _ _) _) _⟩

set_option maxRecDepth 100000 in
set_option maxHeartbeats 2000000 in
theorem delim74_d1b (s : ByteArray) (gl gf : Nat) (t : St) (w : World) (hP : Hid (PL s)) (hL : LX w gl gf s t) (hc : bt s t.pos = 34) (h1 : bt s (t.pos + 1) = 34) (h2 : bt s (t.pos + 2) ≠ 34) :
    Calls Tryz.prog 74 #[.pointer (some ⟨gl, 0, none⟩)] w fun e w' => e = .returned (.string ⟨#[34]⟩) ∧ LX w' gl gf s t ∧ w.grownBy w' (some gl) := by
  have hs : s.size ≤ 2147483647 := Nat.le_trans hP.out.size (by decide)
  have hp : t.pos < s.size := lt_of_bt (by omega)
  have HC := Lib.hid hc
  have y1 : (bt s (t.pos + 1) == 34) = true := by rw [beq_iff_eq]; exact h1
  have y2 : (bt s (t.pos + 2) == 34) = false := by rw [beq_eq_false_iff_ne]; exact h2
  clear hc h1 h2
  have hcv := conv1 9 Tryz.underlying9 w 34 (ci := 34) rfl
  go_enter Tryz.func74, Tryz.ntmps74
  go_wp2_with fail
  refine (peek47n s gl gf t 0 _ hL hs rfl hp).mono ?_; rw [show bt s (t.pos + 0) = 34 from HC.out]; rintro e w' ⟨rfl, nn, rfl⟩
  go_wp2_with fail
  refine wp_loop_rounds 3 ?_
  rw [rounds_succ]
  go_wp2_with fail
  refine (is43n s gl gf t 1 34 _ (hL.drewN _) hs (by omega) rfl rfl (by omega) (by omega)).mono ?_; rintro e w' ⟨rfl, nn, rfl⟩
  go_wp2_with fail
  rw [rounds_succ]
  go_wp2_with fail
  refine (is43n s gl gf t 2 34 _ (hL.drewN _) hs (by omega) rfl rfl (by omega) (by omega)).mono ?_; rintro e w' ⟨rfl, nn, rfl⟩
  go_wp2_with fail
  go_ret
  exact ⟨rfl, (hL.drewN _).alloc _, fr_alloc (fr_drewN (fr_refl _ _) _) _⟩

set_option maxRecDepth 100000 in
set_option maxHeartbeats 2000000 in
theorem delim74_s3 (s : ByteArray) (gl gf : Nat) (t : St) (w : World) (hP : Hid (PL s)) (hL : LX w gl gf s t) (hc : bt s t.pos = 39) (h1 : bt s (t.pos + 1) = 39) (h2 : bt s (t.pos + 2) = 39) :
    Calls Tryz.prog 74 #[.pointer (some ⟨gl, 0, none⟩)] w fun e w' => e = .returned (.string ⟨#[39, 39, 39]⟩) ∧ LX w' gl gf s t ∧ w.grownBy w' (some gl) := by
  have hs : s.size ≤ 2147483647 := Nat.le_trans hP.out.size (by decide)
  have hp : t.pos < s.size := lt_of_bt (by omega)
  have HC := Lib.hid hc
  have y1 : (bt s (t.pos + 1) == 39) = true := by rw [beq_iff_eq]; exact h1
  have y2 : (bt s (t.pos + 2) == 39) = true := by rw [beq_iff_eq]; exact h2
  clear hc h1 h2
  go_enter Tryz.func74, Tryz.ntmps74
  go_wp2_with fail
  refine (peek47n s gl gf t 0 _ hL hs rfl hp).mono ?_; rw [show bt s (t.pos + 0) = 39 from HC.out]; rintro e w' ⟨rfl, nn, rfl⟩
  go_wp2_with fail
  refine wp_loop_rounds 3 ?_
  rw [rounds_succ]
  go_wp2_with fail
  refine (is43n s gl gf t 1 39 _ (hL.drewN _) hs (by omega) rfl rfl (by omega) (by omega)).mono ?_; rintro e w' ⟨rfl, nn, rfl⟩
  go_wp2_with fail
  rw [rounds_succ]
  go_wp2_with fail
  refine (is43n s gl gf t 2 39 _ (hL.drewN _) hs (by omega) rfl rfl (by omega) (by omega)).mono ?_; rintro e w' ⟨rfl, nn, rfl⟩
  go_wp2_with fail
  rw [rounds_succ]
  go_wp2_with fail
  go_ret
  exact ⟨rfl, hL.drewN _, fr_drewN (fr_refl _ _) _⟩

set_option maxRecDepth 100000 in
set_option maxHeartbeats 2000000 in
theorem delim74_s1a (s : ByteArray) (gl gf : Nat) (t : St) (w : World) (hP : Hid (PL s)) (hL : LX w gl gf s t) (hc : bt s t.pos = 39) (h1 : bt s (t.pos + 1) ≠ 39) :
    Calls Tryz.prog 74 #[.pointer (some ⟨gl, 0, none⟩)] w fun e w' => e = .returned (.string ⟨#[39]⟩) ∧ LX w' gl gf s t ∧ w.grownBy w' (some gl) := by
  have hs : s.size ≤ 2147483647 := Nat.le_trans hP.out.size (by decide)
  have hp : t.pos < s.size := lt_of_bt (by omega)
  have HC := Lib.hid hc
  have y1 : (bt s (t.pos + 1) == 39) = false := by rw [beq_eq_false_iff_ne]; exact h1
  clear hc h1
  have hcv := conv1 9 Tryz.underlying9 w 39 (ci := 39) rfl
  go_enter Tryz.func74, Tryz.ntmps74
  go_wp2_with fail
  refine (peek47n s gl gf t 0 _ hL hs rfl hp).mono ?_; rw [show bt s (t.pos + 0) = 39 from HC.out]; rintro e w' ⟨rfl, nn, rfl⟩
  go_wp2_with fail
  refine wp_loop_rounds 3 ?_
  rw [rounds_succ]
  go_wp2_with fail
  refine (is43n s gl gf t 1 39 _ (hL.drewN _) hs (by omega) rfl rfl (by omega) (by omega)).mono ?_; rintro e w' ⟨rfl, nn, rfl⟩
  go_wp2_with fail
  go_ret
  exact ⟨rfl, (hL.drewN _).alloc _, fr_alloc (fr_drewN (fr_refl _ _) _) _⟩

set_option maxRecDepth 100000 in
set_option maxHeartbeats 2000000 in
theorem delim74_s1b (s : ByteArray) (gl gf : Nat) (t : St) (w : World) (hP : Hid (PL s)) (hL : LX w gl gf s t) (hc : bt s t.pos = 39) (h1 : bt s (t.pos + 1) = 39) (h2 : bt s (t.pos + 2) ≠ 39) :
    Calls Tryz.prog 74 #[.pointer (some ⟨gl, 0, none⟩)] w fun e w' => e = .returned (.string ⟨#[39]⟩) ∧ LX w' gl gf s t ∧ w.grownBy w' (some gl) := by
  have hs : s.size ≤ 2147483647 := Nat.le_trans hP.out.size (by decide)
  have hp : t.pos < s.size := lt_of_bt (by omega)
  have HC := Lib.hid hc
  have y1 : (bt s (t.pos + 1) == 39) = true := by rw [beq_iff_eq]; exact h1
  have y2 : (bt s (t.pos + 2) == 39) = false := by rw [beq_eq_false_iff_ne]; exact h2
  clear hc h1 h2
  have hcv := conv1 9 Tryz.underlying9 w 39 (ci := 39) rfl
  go_enter Tryz.func74, Tryz.ntmps74
  go_wp2_with fail
  refine (peek47n s gl gf t 0 _ hL hs rfl hp).mono ?_; rw [show bt s (t.pos + 0) = 39 from HC.out]; rintro e w' ⟨rfl, nn, rfl⟩
  go_wp2_with fail
  refine wp_loop_rounds 3 ?_
  rw [rounds_succ]
  go_wp2_with fail
  refine (is43n s gl gf t 1 39 _ (hL.drewN _) hs (by omega) rfl rfl (by omega) (by omega)).mono ?_; rintro e w' ⟨rfl, nn, rfl⟩
  go_wp2_with fail
  rw [rounds_succ]
  go_wp2_with fail
  refine (is43n s gl gf t 2 39 _ (hL.drewN _) hs (by omega) rfl rfl (by omega) (by omega)).mono ?_; rintro e w' ⟨rfl, nn, rfl⟩
  go_wp2_with fail
  go_ret
  exact ⟨rfl, (hL.drewN _).alloc _, fr_alloc (fr_drewN (fr_refl _ _) _) _⟩

/-- The marks that stand at a place. -/
def quoS (s : ByteArray) (k : Nat) : ByteArray := if quoM s k = 3 then (if bt s k = 34 then ⟨#[34, 34, 34]⟩ else ⟨#[39, 39, 39]⟩) else (if bt s k = 34 then ⟨#[34]⟩ else ⟨#[39]⟩)
theorem delim74 (s : ByteArray) (gl gf : Nat) (t : St) (w : World) (hP : Hid (PL s)) (hL : LX w gl gf s t) (hc : markB (bt s t.pos) = true) :
    Calls Tryz.prog 74 #[.pointer (some ⟨gl, 0, none⟩)] w fun e w' => e = .returned (.string (quoS s t.pos)) ∧ LX w' gl gf s t ∧ w.grownBy w' (some gl) := by
  unfold markB at hc
  rcases of_decide_eq_true hc with h | h
  · by_cases h1 : bt s (t.pos + 1) = 39
    · by_cases h2 : bt s (t.pos + 2) = 39
      · have e : quoS s t.pos = ⟨#[39, 39, 39]⟩ := by simp [quoS, quoM, h, h1, h2]
        rw [e]; exact delim74_s3 s gl gf t w hP hL h h1 h2
      · have e : quoS s t.pos = ⟨#[39]⟩ := by simp [quoS, quoM, h, h1, h2]
        rw [e]; exact delim74_s1b s gl gf t w hP hL h h1 h2
    · have e : quoS s t.pos = ⟨#[39]⟩ := by simp [quoS, quoM, h, h1]
      rw [e]; exact delim74_s1a s gl gf t w hP hL h h1
  · by_cases h1 : bt s (t.pos + 1) = 34
    · by_cases h2 : bt s (t.pos + 2) = 34
      · have e : quoS s t.pos = ⟨#[34, 34, 34]⟩ := by simp [quoS, quoM, h, h1, h2]
        rw [e]; exact delim74_d3 s gl gf t w hP hL h h1 h2
      · have e : quoS s t.pos = ⟨#[34]⟩ := by simp [quoS, quoM, h, h1, h2]
        rw [e]; exact delim74_d1b s gl gf t w hP hL h h1 h2
    · have e : quoS s t.pos = ⟨#[34]⟩ := by simp [quoS, quoM, h, h1]
      rw [e]; exact delim74_d1a s gl gf t w hP hL h h1
end Go.Proofs.YtahcbeofaeflgaaGreatDoor
