/- Lemmas towards the statement FnLexCardSaid, conditions: as each theorem says. -/
import Derived.Test.YtahcbeofaeflgaaGreatDoorProg
import Derived.WalkKit
import Derived.WalkSpells
import Derived.WalkLawsBesides
import Derived.Deep.QuietTactic
import Derived.BigQuiet
import Derived.Deep.Draws
import Derived.Lib.Hide
import Derived.IntWalk
import Derived.Lib.LaidTab
namespace Go.Proofs.YtahcbeofaeflgaaGreatDoor
open Go.RowKit

/-- The byte at a place; 256 behind the end. -/
def bt (s : ByteArray) (k : Nat) : Nat := if h : k < s.size then s[k].toNat else 256
theorem bt_lt {s : ByteArray} {k : Nat} (h : k < s.size) : bt s k = s[k].toNat := by unfold bt; rw [dif_pos h]
theorem bt_ge {s : ByteArray} {k : Nat} (h : s.size ≤ k) : bt s k = 256 := by unfold bt; rw [dif_neg (by omega)]

/-- The state of the lexer: its token, its place, the last kind, whether a dot stands ahead. -/
structure St where
  kind : ByteArray
  com : Value
  sp : ByteArray
  raw : ByteArray
  txt : ByteArray
  base : Int
  tp : Nat
  te : Nat
  pos : Nat
  last : ByteArray
  dot : Bool

def St.cells (gf : Nat) (t : St) : Array Value :=
  #[.pointer (some ⟨gf, 0, none⟩), .string t.kind, t.com, .string t.sp, .string t.raw, .string t.txt, .int .i64 t.base, .int .i64 (t.tp : Int), .int .i64 (t.te : Int), .int .i64 (t.pos : Int), .string t.last, .bool t.dot]

def fileCells (s : ByteArray) : Array Value := #[.string ⟨#[]⟩, .string s, .slice none 0 0]

/-- The table of powers of ten reads as its initialiser lays it, whatever is done from block B on. -/
def pow10 : List Int := [1, 10, 100, 1000, 10000, 100000, 1000000, 10000000, 100000000, 1000000000, 10000000000, 100000000000, 1000000000000, 10000000000000, 100000000000000, 1000000000000000, 10000000000000000, 100000000000000000, 1000000000000000000, 10000000000000000000]
def TabB (B : Nat) (w : World) : Prop := ∀ w', Below B w w' → Lib.TabIs Tryz.prog w' "internal/strconv.uint64pow10" .u64 pow10
theorem TabB.on {B : Nat} {w w1 : World} (h : TabB B w) (hb : Below B w w1) : TabB B w1 := fun w' h' => h w' (hb.trans h')

structure LX (w : World) (gl gf : Nat) (s : ByteArray) (t : St) : Prop where
  gt : ∃ B, B ≤ gl ∧ B ≤ gf ∧ TabB B w
  l : w.heap[gl]? = some (.cells (t.cells gf) 39 (0, 0))
  f : w.heap[gf]? = some (.cells (fileCells s) 32 (0, 0))

section
variable {w : World} {gl gf : Nat} {s : ByteArray} {t : St}
theorem cell_of {w : World} {g : Nat} {cs : Array Value} {T : TypeId} (h : w.heap[g]? = some (.cells cs T (0, 0))) (i : Nat) : w.cell? ⟨g, i, none⟩ = cs[i]? := by simp [World.cell?, h]
theorem frozen_of {w : World} {g : Nat} {cs : Array Value} {T : TypeId} (h : w.heap[g]? = some (.cells cs T (0, 0))) (i : Nat) : w.frozen? ⟨g, i, none⟩ = false := by simp [World.frozen?, h]
theorem LX.ne (h : LX w gl gf s t) : gl ≠ gf := by
  rintro rfl
  have := h.l.symm.trans h.f
  simp [fileCells, St.cells] at this
theorem LX.c0 (h : LX w gl gf s t) : w.cell? ⟨gl, 0, none⟩ = some (.pointer (some ⟨gf, 0, none⟩)) := cell_of h.l 0
theorem LX.c9 (h : LX w gl gf s t) : w.cell? ⟨gl, 9, none⟩ = some (.int .i64 (t.pos : Int)) := cell_of h.l 9
theorem LX.fb (h : LX w gl gf s t) : w.cell? ⟨gf, 1, none⟩ = some (.string s) := cell_of h.f 1
theorem LX.fr (h : LX w gl gf s t) (i : Nat) : w.frozen? ⟨gl, i, none⟩ = false := frozen_of h.l i
end


theorem drewN0 (w : World) : w.drewN 0 = w := rfl

set_option maxHeartbeats 400000 in
theorem peek47 (s : ByteArray) (gl gf : Nat) (t : St) (i : Nat) (w : World) (hL : LX w gl gf s t) (hs : s.size ≤ 2147483647) (hi : t.pos + i < s.size) :
    Calls Tryz.prog 47 #[.pointer (some ⟨gl, 0, none⟩), .int .i64 (i : Int)] w fun e w' => e = .returned (.int .u8 (bt s (t.pos + i) : Int)) ∧ ∃ n, w' = w.drewN n := by
  have c0 := hL.c0
  have c9 := hL.c9
  have cf := hL.fb
  have HB := Lib.hid (bt_lt hi)
  have e2 : (t.pos : Int) + (i : Int) < (s.size : Int) := by omega
  have e3 : 0 ≤ (t.pos : Int) + (i : Int) := by omega
  have e4 : ((t.pos : Int) + (i : Int)).toNat = t.pos + i := by omega
  have e1 : IntKind.i64.wrap ((t.pos : Int) + (i : Int)) = (t.pos : Int) + (i : Int) := IntWalk.i64_in _ (by omega)
  go_enter Tryz.func47, Tryz.ntmps47
  go_wp2
  go_quiet (fail)
  go_wp2
  go_ret
  exact ⟨by rw [HB.out]; rfl, _, rfl⟩

set_option maxHeartbeats 400000 in
theorem eof39 (s : ByteArray) (gl gf : Nat) (t : St) (w : World) (hL : LX w gl gf s t) (_hs : s.size ≤ 2147483647) :
    Calls Tryz.prog 39 #[.pointer (some ⟨gl, 0, none⟩)] w fun e w' => e = .returned (.bool (decide (s.size ≤ t.pos))) ∧ ∃ n, w' = w.drewN n := by
  have c0 := hL.c0
  have c9 := hL.c9
  have cf := hL.fb
  go_enter Tryz.func39, Tryz.ntmps39
  go_wp2
  go_quiet (fail)
  go_wp2
  go_ret
  refine ⟨?_, _, rfl⟩
  simp

set_option maxHeartbeats 400000 in
theorem ok45 (s : ByteArray) (gl gf : Nat) (t : St) (i : Nat) (w : World) (hL : LX w gl gf s t) (hs : s.size ≤ 2147483647) (hp : t.pos ≤ s.size) (hi : i ≤ 2147483647) :
    Calls Tryz.prog 45 #[.pointer (some ⟨gl, 0, none⟩), .int .i64 (i : Int)] w fun e w' => e = .returned (.bool (decide (t.pos + i < s.size))) ∧ ∃ n, w' = w.drewN n := by
  have c0 := hL.c0
  have c9 := hL.c9
  have cf := hL.fb
  have e1 : IntKind.i64.wrap ((t.pos : Int) + (i : Int)) = (t.pos : Int) + (i : Int) := IntWalk.i64_in _ (by omega)
  go_enter Tryz.func45, Tryz.ntmps45
  go_wp2
  go_quiet (fail)
  go_wp2
  go_ret
  refine ⟨?_, _, rfl⟩
  show Ending.returned (.bool (decide ((t.pos : Int) + (i : Int) < (s.size : Int)))) = _
  congr 2
  rw [decide_eq_decide]; omega

set_option maxHeartbeats 400000 in
theorem is43_in (s : ByteArray) (gl gf : Nat) (t : St) (i : Nat) (c : Nat) (w : World) (hL : LX w gl gf s t) (hs : s.size ≤ 2147483647) (hi : t.pos + i < s.size) :
    Calls Tryz.prog 43 #[.pointer (some ⟨gl, 0, none⟩), .int .i64 (i : Int), .int .u8 (c : Int)] w fun e w' => e = .returned (.bool (bt s (t.pos + i) == c)) ∧ ∃ n, w' = w.drewN n := by
  have c0 := hL.c0
  have c9 := hL.c9
  have cf := hL.fb
  have HB := Lib.hid (bt_lt hi)
  have e2 : (t.pos : Int) + (i : Int) < (s.size : Int) := by omega
  have e3 : 0 ≤ (t.pos : Int) + (i : Int) := by omega
  have e4 : ((t.pos : Int) + (i : Int)).toNat = t.pos + i := by omega
  have e5 : decide ((t.pos : Int) + (i : Int) < (s.size : Int)) = true := decide_eq_true e2
  have e1 : IntKind.i64.wrap ((t.pos : Int) + (i : Int)) = (t.pos : Int) + (i : Int) := IntWalk.i64_in _ (by omega)
  go_enter Tryz.func43, Tryz.ntmps43
  go_wp2
  go_quiet (fail)
  go_wp2
  go_ret
  refine ⟨?_, _, rfl⟩
  rw [HB.out]
  show Ending.returned (.bool (((s[t.pos + i].toNat : Nat) : Int) == (c : Int))) = _
  congr 2
  rw [Bool.eq_iff_iff, beq_iff_eq, beq_iff_eq]; omega

set_option maxHeartbeats 400000 in
theorem is43_out (s : ByteArray) (gl gf : Nat) (t : St) (i : Nat) (c : Nat) (w : World) (hL : LX w gl gf s t) (hs : s.size ≤ 2147483647) (hp : t.pos ≤ s.size) (hi : i ≤ 2147483647) (ho : s.size ≤ t.pos + i) :
    Calls Tryz.prog 43 #[.pointer (some ⟨gl, 0, none⟩), .int .i64 (i : Int), .int .u8 (c : Int)] w fun e w' => e = .returned (.bool false) ∧ ∃ n, w' = w.drewN n := by
  have c0 := hL.c0
  have c9 := hL.c9
  have cf := hL.fb
  have e5 : decide ((t.pos : Int) + (i : Int) < (s.size : Int)) = false := decide_eq_false (by omega)
  have e1 : IntKind.i64.wrap ((t.pos : Int) + (i : Int)) = (t.pos : Int) + (i : Int) := IntWalk.i64_in _ (by omega)
  go_enter Tryz.func43, Tryz.ntmps43
  go_wp2
  go_quiet (fail)
  go_wp2
  go_ret
  exact ⟨rfl, _, rfl⟩

theorem is43 (s : ByteArray) (gl gf : Nat) (t : St) (i : Nat) (c : Nat) (w : World) (hL : LX w gl gf s t) (hs : s.size ≤ 2147483647) (hp : t.pos ≤ s.size) (hi : i ≤ 2147483647) (hc : c < 256) :
    Calls Tryz.prog 43 #[.pointer (some ⟨gl, 0, none⟩), .int .i64 (i : Int), .int .u8 (c : Int)] w fun e w' => e = .returned (.bool (bt s (t.pos + i) == c)) ∧ ∃ n, w' = w.drewN n := by
  by_cases h : t.pos + i < s.size
  · exact is43_in s gl gf t i c w hL hs h
  · refine (is43_out s gl gf t i c w hL hs hp hi (by omega)).mono fun e w' ⟨he, hw⟩ => ⟨?_, hw⟩
    rw [he, bt_ge (by omega)]
    congr 2
    rw [Bool.eq_iff_iff, beq_iff_eq]; simp; omega

/-- At numerals: the place and the byte as they stand at the call. -/
theorem is43n (s : ByteArray) (gl gf : Nat) (t : St) (i : Nat) (c : Nat) {ii cc : Int} (w : World) (hL : LX w gl gf s t) (hs : s.size ≤ 2147483647) (hp : t.pos ≤ s.size) (hii : ii = (i : Int)) (hcc : cc = (c : Int)) (hi : i ≤ 2147483647) (hc : c < 256) :
    Calls Tryz.prog 43 #[.pointer (some ⟨gl, 0, none⟩), .int .i64 ii, .int .u8 cc] w fun e w' => e = .returned (.bool (bt s (t.pos + i) == c)) ∧ ∃ n, w' = w.drewN n := by
  subst hii; subst hcc; exact is43 s gl gf t i c w hL hs hp hi hc

set_option maxHeartbeats 400000 in
theorem skipN42 (s : ByteArray) (gl gf : Nat) (t : St) (i : Nat) (w : World) (hL : LX w gl gf s t) (hs : s.size ≤ 2147483647) (hi : t.pos + i ≤ s.size) :
    Calls Tryz.prog 42 #[.pointer (some ⟨gl, 0, none⟩), .int .i64 (i : Int)] w fun e w' => e = .returned (.tuple #[]) ∧ w' = w.setCell ⟨gl, 9, none⟩ (.int .i64 ((t.pos + i : Nat) : Int)) := by
  have c9 := hL.c9
  have f9 := hL.fr 9
  have h1 : t.pos + i ≤ 2147483647 := by omega
  go_enter Tryz.func42, Tryz.ntmps42
  go_wp2
  go_end0
  exact ⟨rfl, rfl⟩

set_option maxHeartbeats 400000 in
theorem skip48 (s : ByteArray) (gl gf : Nat) (t : St) (w : World) (hL : LX w gl gf s t) (hs : s.size ≤ 2147483647) (hi : t.pos < s.size) :
    Calls Tryz.prog 48 #[.pointer (some ⟨gl, 0, none⟩)] w fun e w' => e = .returned (.int .u8 (bt s t.pos : Int)) ∧ ∃ n, w' = (w.setCell ⟨gl, 9, none⟩ (.int .i64 ((t.pos + 1 : Nat) : Int))).drewN n := by
  have c0 := hL.c0
  have c9 := hL.c9
  have cf := hL.fb
  have f9 := hL.fr 9
  have HB := Lib.hid (bt_lt hi)
  have e2 : (t.pos : Int) < (s.size : Int) := by omega
  have e3 : 0 ≤ (t.pos : Int) := by omega
  go_enter Tryz.func48, Tryz.ntmps48
  go_wp2
  go_quiet (fail)
  go_wp2
  go_ret
  exact ⟨by rw [HB.out]; rfl, _, rfl⟩

theorem extract_cap (s : ByteArray) (a b : Nat) (h : s.size ≤ b) : s.extract a b = s.extract a s.size := by
  have hs : s.size = s.data.size := rfl
  apply ByteArray.ext
  simp only [ByteArray.data_extract]
  apply Array.ext'
  simp only [Array.toList_extract, List.extract_eq_take_drop]
  rw [List.take_of_length_le (by simp <;> omega), List.take_of_length_le (by simp <;> omega)]

set_option maxHeartbeats 400000 in
theorem slice58_in (s : ByteArray) (gl gf : Nat) (t : St) (i j : Nat) (w : World) (hL : LX w gl gf s t) (hs : s.size ≤ 2147483647) (hij : i ≤ j) (hj : t.pos + j ≤ s.size) :
    Calls Tryz.prog 58 #[.pointer (some ⟨gl, 0, none⟩), .int .i64 (i : Int), .int .i64 (j : Int)] w fun e w' => e = .returned (.string (s.extract (t.pos + i) (t.pos + j))) ∧ ∃ n, w' = w.drewN n := by
  have c0 := hL.c0
  have c9 := hL.c9
  have cf := hL.fb
  have e2 : ¬ ((s.size : Int) < (t.pos : Int) + (j : Int)) := by omega
  have e2' : decide ((s.size : Int) < (t.pos : Int) + (j : Int)) = false := decide_eq_false e2
  have e3 : 0 ≤ (t.pos : Int) + (i : Int) := by omega
  have e4 : ((t.pos : Int) + (i : Int)).toNat = t.pos + i := by omega
  have e5 : ((t.pos : Int) + (j : Int)).toNat = t.pos + j := by omega
  have e6 : (t.pos : Int) + (i : Int) ≤ (t.pos : Int) + (j : Int) := by omega
  have e7 : (t.pos : Int) + (j : Int) ≤ (s.size : Int) := by omega
  have e1 : IntKind.i64.wrap ((t.pos : Int) + (i : Int)) = (t.pos : Int) + (i : Int) := IntWalk.i64_in _ (by omega)
  have e1' : IntKind.i64.wrap ((t.pos : Int) + (j : Int)) = (t.pos : Int) + (j : Int) := IntWalk.i64_in _ (by omega)
  go_enter Tryz.func58, Tryz.ntmps58
  go_wp2
  go_quiet (fail)
  go_wp2
  go_quiet (fail)
  go_wp2
  go_ret
  exact ⟨rfl, _, by simp only [World.drewN_drewN]; rfl⟩

set_option maxHeartbeats 400000 in
theorem slice58_out (s : ByteArray) (gl gf : Nat) (t : St) (i j : Nat) (w : World) (hL : LX w gl gf s t) (hs : s.size ≤ 2147483647) (hi : t.pos + i ≤ s.size) (hj : s.size < t.pos + j) (hjm : j ≤ 2147483647) :
    Calls Tryz.prog 58 #[.pointer (some ⟨gl, 0, none⟩), .int .i64 (i : Int), .int .i64 (j : Int)] w fun e w' => e = .returned (.string (s.extract (t.pos + i) (t.pos + j))) ∧ ∃ n, w' = w.drewN n := by
  have c0 := hL.c0
  have c9 := hL.c9
  have cf := hL.fb
  have HE := Lib.hid (extract_cap s (t.pos + i) (t.pos + j) (by omega))
  have e2 : ((s.size : Int) < (t.pos : Int) + (j : Int)) := by omega
  have e2' : decide ((s.size : Int) < (t.pos : Int) + (j : Int)) = true := decide_eq_true e2
  have e3 : 0 ≤ (t.pos : Int) + (i : Int) := by omega
  have e4 : ((t.pos : Int) + (i : Int)).toNat = t.pos + i := by omega
  have e8 : (t.pos : Int) + ((s.size : Int) - (t.pos : Int)) = (s.size : Int) := by omega
  have e6 : (t.pos : Int) + (i : Int) ≤ (s.size : Int) := by omega
  have e1 : IntKind.i64.wrap ((t.pos : Int) + (i : Int)) = (t.pos : Int) + (i : Int) := IntWalk.i64_in _ (by omega)
  have e1' : IntKind.i64.wrap ((t.pos : Int) + (j : Int)) = (t.pos : Int) + (j : Int) := IntWalk.i64_in _ (by omega)
  have e9 : IntKind.i64.wrap ((s.size : Int) - (t.pos : Int)) = (s.size : Int) - (t.pos : Int) := IntWalk.i64_in _ (by omega)
  have e10 : IntKind.i64.wrap (s.size : Int) = (s.size : Int) := IntWalk.i64_in _ (by omega)
  go_enter Tryz.func58, Tryz.ntmps58
  go_wp2
  go_quiet (fail)
  go_wp2
  go_quiet (fail)
  go_wp2
  go_quiet (fail)
  go_wp2
  go_ret
  exact ⟨by rw [HE.out]; rfl, _, by simp only [World.drewN_drewN]; rfl⟩

theorem slice58 (s : ByteArray) (gl gf : Nat) (t : St) (i j : Nat) (w : World) (hL : LX w gl gf s t) (hs : s.size ≤ 2147483647) (hij : i ≤ j) (hi : t.pos + i ≤ s.size) (hjm : j ≤ 2147483647) :
    Calls Tryz.prog 58 #[.pointer (some ⟨gl, 0, none⟩), .int .i64 (i : Int), .int .i64 (j : Int)] w fun e w' => e = .returned (.string (s.extract (t.pos + i) (t.pos + j))) ∧ ∃ n, w' = w.drewN n := by
  by_cases h : t.pos + j ≤ s.size
  · exact slice58_in s gl gf t i j w hL hs hij h
  · exact slice58_out s gl gf t i j w hL hs hi (by omega) hjm
end Go.Proofs.YtahcbeofaeflgaaGreatDoor
namespace Go.Proofs.YtahcbeofaeflgaaGreatDoor
open Go.RowKit

theorem ret_bool {a b : Bool} (h : a = b) : Ending.returned (.bool a) = .returned (.bool b) := by rw [h]
theorem ret_int {k : IntKind} {a b : Int} (h : a = b) : Ending.returned (.int k a) = .returned (.int k b) := by rw [h]
theorem ret_str {a b : ByteArray} (h : a = b) : Ending.returned (.string a) = .returned (.string b) := by rw [h]

def digB (c : Nat) : Bool := decide (48 ≤ c ∧ c ≤ 57)
def letB (c : Nat) : Bool := decide (97 ≤ c ∧ c ≤ 122 ∨ 65 ≤ c ∧ c ≤ 90 ∨ c = 95)
def parB (c : Nat) : Bool := decide (97 ≤ c ∧ c ≤ 122 ∨ 65 ≤ c ∧ c ≤ 90 ∨ c = 95 ∨ 48 ≤ c ∧ c ≤ 57)
def hexB (c : Nat) : Bool := decide (48 ≤ c ∧ c ≤ 57 ∨ 97 ≤ c ∧ c ≤ 102 ∨ 65 ≤ c ∧ c ≤ 70)
def markB (c : Nat) : Bool := decide (c = 39 ∨ c = 34)
def nlB (c : Nat) : Bool := decide (c ≠ 10 ∧ c < 256)

set_option maxHeartbeats 400000 in
theorem digit20 (c : Nat) (w : World) : Calls Tryz.prog 20 #[.int .u8 (c : Int)] w fun e w' => e = .returned (.bool (digB c)) ∧ w = w' := by
  go_enter Tryz.func20, Tryz.ntmps20
  go_wp2
  all_goals (go_ret; refine ⟨ret_bool ?_, rfl⟩; simp only [digB]; rw [Bool.eq_iff_iff]; simp; try omega)
set_option maxHeartbeats 400000 in
theorem isdigit50 (c : Nat) (w : World) : Calls Tryz.prog 50 #[.int .u8 (c : Int)] w fun e w' => e = .returned (.bool (digB c)) ∧ w = w' := by
  go_enter Tryz.func50, Tryz.ntmps50
  go_wp2
  all_goals (go_ret; refine ⟨ret_bool ?_, rfl⟩; simp only [digB]; rw [Bool.eq_iff_iff]; simp; try omega)
set_option maxHeartbeats 400000 in
theorem letter19 (c : Nat) (w : World) : Calls Tryz.prog 19 #[.int .u8 (c : Int)] w fun e w' => e = .returned (.bool (letB c)) ∧ w = w' := by
  go_enter Tryz.func19, Tryz.ntmps19
  go_wp2
  all_goals (go_ret; refine ⟨ret_bool ?_, rfl⟩; simp only [letB]; rw [Bool.eq_iff_iff]; simp; try omega)
set_option maxHeartbeats 400000 in
theorem start52 (c : Nat) (w : World) : Calls Tryz.prog 52 #[.int .u8 (c : Int)] w fun e w' => e = .returned (.bool (letB c)) ∧ w = w' := by
  go_enter Tryz.func52, Tryz.ntmps52
  go_wp2
  all_goals (go_ret; refine ⟨ret_bool ?_, rfl⟩; simp only [letB]; rw [Bool.eq_iff_iff]; simp; try omega)
set_option maxHeartbeats 400000 in
theorem part46 (c : Nat) (w : World) : Calls Tryz.prog 46 #[.int .u8 (c : Int)] w fun e w' => e = .returned (.bool (parB c)) ∧ w = w' := by
  go_enter Tryz.func46, Tryz.ntmps46
  go_wp2
  all_goals (go_ret; refine ⟨ret_bool ?_, rfl⟩; simp only [parB]; rw [Bool.eq_iff_iff]; simp; try omega)
set_option maxHeartbeats 400000 in
theorem hex68 (c : Nat) (w : World) : Calls Tryz.prog 68 #[.int .u8 (c : Int)] w fun e w' => e = .returned (.bool (hexB c)) ∧ w = w' := by
  go_enter Tryz.func68, Tryz.ntmps68
  go_wp2
  all_goals (go_ret; refine ⟨ret_bool ?_, rfl⟩; simp only [hexB]; rw [Bool.eq_iff_iff]; simp; try omega)
set_option maxHeartbeats 400000 in
theorem mark22 (c : Nat) (w : World) : Calls Tryz.prog 22 #[.int .u8 (c : Int)] w fun e w' => e = .returned (.bool (markB c)) ∧ w = w' := by
  go_enter Tryz.func22, Tryz.ntmps22
  go_wp2
  all_goals (go_ret; refine ⟨ret_bool ?_, rfl⟩; simp only [markB]; rw [Bool.eq_iff_iff]; simp; try omega)
set_option maxHeartbeats 400000 in
theorem nl16 (c : Nat) (w : World) (h : c < 256) : Calls Tryz.prog 16 #[.int .u8 (c : Int)] w fun e w' => e = .returned (.bool (nlB c)) ∧ w = w' := by
  go_enter Tryz.func16, Tryz.ntmps16
  go_wp2
  all_goals (go_ret; refine ⟨ret_bool ?_, rfl⟩; simp only [nlB]; rw [Bool.eq_iff_iff]; simp; try omega)
theorem par_of (c : Nat) : parB c = (letB c || digB c) := by
  rw [Bool.eq_iff_iff]; simp [parB, letB, digB]; omega
set_option maxHeartbeats 400000 in
theorem part18 (c : Nat) (w : World) : Calls Tryz.prog 18 #[.int .u8 (c : Int)] w fun e w' => e = .returned (.bool (parB c)) ∧ w = w' := by
  have HP := Lib.hid (par_of c)
  go_enter Tryz.func18, Tryz.ntmps18
  go_wp2_with (first | (go_at_call 19; refine (letter19 _ _).mono ?_; rintro e w' ⟨rfl, rfl⟩) | (go_at_call 20; refine (digit20 _ _).mono ?_; rintro e w' ⟨rfl, rfl⟩))
  all_goals (go_ret; refine ⟨ret_bool ?_, rfl⟩; rw [HP.out]; simp_all)
set_option maxHeartbeats 400000 in
theorem hex36 (c : Nat) (w : World) : Calls Tryz.prog 36 #[.int .u8 (c : Int)] w fun e w' => e = .returned (.bool (hexB c)) ∧ w = w' := by
  go_enter Tryz.func36, Tryz.ntmps36
  go_wp2_with (go_at_call 20; refine (digit20 _ _).mono ?_; rintro e w' ⟨rfl, rfl⟩)
  all_goals (have hd : digB c = decide (48 ≤ c ∧ c ≤ 57) := rfl; go_ret; refine ⟨ret_bool ?_, rfl⟩; simp only [hexB]; rw [Bool.eq_iff_iff]; simp [hd] at *; try omega)

/-- The first place from k on where p does not hold. -/
def run (s : ByteArray) (p : Nat → Bool) (k : Nat) : Nat := if k < s.size then (if p (bt s k) = true then run s p (k + 1) else k) else k
  termination_by s.size - k
theorem run_yes {s : ByteArray} {p : Nat → Bool} {k : Nat} (h : k < s.size) (hp : p (bt s k) = true) : run s p k = run s p (k + 1) := by
  conv => lhs; unfold run
  rw [if_pos h, if_pos hp]
theorem run_no {s : ByteArray} {p : Nat → Bool} {k : Nat} (hp : p (bt s k) = false) : run s p k = k := by
  unfold run
  split
  · rw [if_neg (by simp [hp])]
  · rfl
theorem run_end {s : ByteArray} {p : Nat → Bool} {k : Nat} (h : s.size ≤ k) : run s p k = k := by
  unfold run; rw [if_neg (by omega)]

theorem bt_256 {s : ByteArray} {k : Nat} (h : k < s.size) : bt s k < 256 := by rw [bt_lt h]; exact (s[k]).toNat_lt

set_option maxHeartbeats 400000 in
theorem while15_20 (s : ByteArray) (k : Nat) (w : World) (hs : s.size ≤ 2147483647) (hk : k ≤ s.size) :
    Calls Tryz.prog 15 #[.string s, .int .i64 (k : Int), .func (.func 20) #[] #[]] w fun e w' => e = .returned (.int .i64 (run s digB k : Int)) ∧ w = w' := by
  go_enter Tryz.func15, Tryz.ntmps15
  go_wp2
  go_loop [1] (fun i => ∃ j : Nat, j ≤ s.size ∧ i = .int .i64 j ∧ Hid (run s digB j = run s digB k)) (fun i => s.size - (intOf i).toNat)
  case atStart => exact ⟨k, hk, rfl, rfl⟩
  case round =>
    obtain ⟨j, hj, rfl, hrn⟩ := hrel
    by_cases hlt : j < s.size
    · have HB := Lib.hid (bt_lt hlt)
      by_cases hp : digB (s[j].toNat) = true
      · go_wp2_with (go_at_call 20; refine (digit20 _ _).mono ?_; rintro e w' ⟨rfl, rfl⟩)
        go_round
        case rel =>
          exact ⟨j + 1, by omega, by go_num, by rw [← hrn.out, run_yes hlt (by rw [HB.out]; exact hp)]; exact rfl⟩
        case measure => simp [intOf]; omega
      · have hp' : digB (s[j].toNat) = false := by simpa using hp
        go_wp2_with (go_at_call 20; refine (digit20 _ _).mono ?_; rintro e w' ⟨rfl, rfl⟩)
        go_ret
        have := hrn.out
        rw [run_no (by rw [HB.out]; exact hp')] at this
        exact ⟨ret_int (by rw [← this]), rfl⟩
    · go_wp2_with fail
      go_ret
      have := hrn.out
      rw [run_end (by omega)] at this
      exact ⟨ret_int (by rw [← this]), rfl⟩

set_option maxHeartbeats 400000 in
theorem while15_18 (s : ByteArray) (k : Nat) (w : World) (hs : s.size ≤ 2147483647) (hk : k ≤ s.size) :
    Calls Tryz.prog 15 #[.string s, .int .i64 (k : Int), .func (.func 18) #[] #[]] w fun e w' => e = .returned (.int .i64 (run s parB k : Int)) ∧ w = w' := by
  go_enter Tryz.func15, Tryz.ntmps15
  go_wp2
  go_loop [1] (fun i => ∃ j : Nat, j ≤ s.size ∧ i = .int .i64 j ∧ Hid (run s parB j = run s parB k)) (fun i => s.size - (intOf i).toNat)
  case atStart => exact ⟨k, hk, rfl, rfl⟩
  case round =>
    obtain ⟨j, hj, rfl, hrn⟩ := hrel
    by_cases hlt : j < s.size
    · have HB := Lib.hid (bt_lt hlt)
      by_cases hp : parB (s[j].toNat) = true
      · go_wp2_with (go_at_call 18; refine (part18 _ _).mono ?_; rintro e w' ⟨rfl, rfl⟩)
        go_round
        case rel =>
          exact ⟨j + 1, by omega, by go_num, by rw [← hrn.out, run_yes hlt (by rw [HB.out]; exact hp)]; exact rfl⟩
        case measure => simp [intOf]; omega
      · have hp' : parB (s[j].toNat) = false := by simpa using hp
        go_wp2_with (go_at_call 18; refine (part18 _ _).mono ?_; rintro e w' ⟨rfl, rfl⟩)
        go_ret
        have := hrn.out
        rw [run_no (by rw [HB.out]; exact hp')] at this
        exact ⟨ret_int (by rw [← this]), rfl⟩
    · go_wp2_with fail
      go_ret
      have := hrn.out
      rw [run_end (by omega)] at this
      exact ⟨ret_int (by rw [← this]), rfl⟩

set_option maxHeartbeats 400000 in
theorem while15_36 (s : ByteArray) (k : Nat) (w : World) (hs : s.size ≤ 2147483647) (hk : k ≤ s.size) :
    Calls Tryz.prog 15 #[.string s, .int .i64 (k : Int), .func (.func 36) #[] #[]] w fun e w' => e = .returned (.int .i64 (run s hexB k : Int)) ∧ w = w' := by
  go_enter Tryz.func15, Tryz.ntmps15
  go_wp2
  go_loop [1] (fun i => ∃ j : Nat, j ≤ s.size ∧ i = .int .i64 j ∧ Hid (run s hexB j = run s hexB k)) (fun i => s.size - (intOf i).toNat)
  case atStart => exact ⟨k, hk, rfl, rfl⟩
  case round =>
    obtain ⟨j, hj, rfl, hrn⟩ := hrel
    by_cases hlt : j < s.size
    · have HB := Lib.hid (bt_lt hlt)
      by_cases hp : hexB (s[j].toNat) = true
      · go_wp2_with (go_at_call 36; refine (hex36 _ _).mono ?_; rintro e w' ⟨rfl, rfl⟩)
        go_round
        case rel =>
          exact ⟨j + 1, by omega, by go_num, by rw [← hrn.out, run_yes hlt (by rw [HB.out]; exact hp)]; exact rfl⟩
        case measure => simp [intOf]; omega
      · have hp' : hexB (s[j].toNat) = false := by simpa using hp
        go_wp2_with (go_at_call 36; refine (hex36 _ _).mono ?_; rintro e w' ⟨rfl, rfl⟩)
        go_ret
        have := hrn.out
        rw [run_no (by rw [HB.out]; exact hp')] at this
        exact ⟨ret_int (by rw [← this]), rfl⟩
    · go_wp2_with fail
      go_ret
      have := hrn.out
      rw [run_end (by omega)] at this
      exact ⟨ret_int (by rw [← this]), rfl⟩

set_option maxHeartbeats 400000 in
theorem while15_16 (s : ByteArray) (k : Nat) (w : World) (hs : s.size ≤ 2147483647) (hk : k ≤ s.size) :
    Calls Tryz.prog 15 #[.string s, .int .i64 (k : Int), .func (.func 16) #[] #[]] w fun e w' => e = .returned (.int .i64 (run s nlB k : Int)) ∧ w = w' := by
  go_enter Tryz.func15, Tryz.ntmps15
  go_wp2
  go_loop [1] (fun i => ∃ j : Nat, j ≤ s.size ∧ i = .int .i64 j ∧ Hid (run s nlB j = run s nlB k)) (fun i => s.size - (intOf i).toNat)
  case atStart => exact ⟨k, hk, rfl, rfl⟩
  case round =>
    obtain ⟨j, hj, rfl, hrn⟩ := hrel
    by_cases hlt : j < s.size
    · have HB := Lib.hid (bt_lt hlt)
      by_cases hp : nlB (s[j].toNat) = true
      · go_wp2_with (go_at_call 16; refine (nl16 _ _ (UInt8.toNat_lt _)).mono ?_; rintro e w' ⟨rfl, rfl⟩)
        go_round
        case rel =>
          exact ⟨j + 1, by omega, by go_num, by rw [← hrn.out, run_yes hlt (by rw [HB.out]; exact hp)]; exact rfl⟩
        case measure => simp [intOf]; omega
      · have hp' : nlB (s[j].toNat) = false := by simpa using hp
        go_wp2_with (go_at_call 16; refine (nl16 _ _ (UInt8.toNat_lt _)).mono ?_; rintro e w' ⟨rfl, rfl⟩)
        go_ret
        have := hrn.out
        rw [run_no (by rw [HB.out]; exact hp')] at this
        exact ⟨ret_int (by rw [← this]), rfl⟩
    · go_wp2_with fail
      go_ret
      have := hrn.out
      rw [run_end (by omega)] at this
      exact ⟨ret_int (by rw [← this]), rfl⟩

end Go.Proofs.YtahcbeofaeflgaaGreatDoor
namespace Go.Proofs.YtahcbeofaeflgaaGreatDoor
open Go.RowKit

/-- A text stands at a place. -/
def stB (s : ByteArray) (k : Nat) (p : ByteArray) : Bool := decide (k + p.size ≤ s.size) && ((s.extract k (k + p.size)).toList == p.toList)

set_option maxHeartbeats 400000 in
theorem starts14 (s : ByteArray) (k : Nat) (p : ByteArray) (w : World) (hs : s.size ≤ 2147483647) (hp : p.size ≤ 2147483647) (hk : k ≤ 2147483647) :
    Calls Tryz.prog 14 #[.string s, .int .i64 (k : Int), .string p] w fun e w' => e = .returned (.bool (stB s k p)) ∧ w = w' := by
  by_cases h : k + p.size ≤ s.size
  · go_enter Tryz.func14, Tryz.ntmps14
    go_wp2
    go_ret
    refine ⟨ret_bool ?_, rfl⟩
    simp [stB, h]
  · go_enter Tryz.func14, Tryz.ntmps14
    go_wp2
    go_ret
    refine ⟨ret_bool ?_, rfl⟩
    simp [stB, h]

def kIdent : ByteArray := ⟨#[60, 105, 100, 101, 110, 116, 62]⟩
def kParam : ByteArray := ⟨#[60, 112, 97, 114, 97, 109, 62]⟩
def kDot : ByteArray := ⟨#[46]⟩
def ndB (k : ByteArray) : Bool := k.toList == kIdent.toList || k.toList == kParam.toList || k.toList == [41] || k.toList == [93]

set_option maxHeartbeats 400000 in
theorem nextdot49 (k : ByteArray) (w : World) :
    Calls Tryz.prog 49 #[.string k] w fun e w' => e = .returned (.bool (ndB k)) ∧ w = w' := by
  go_enter Tryz.func49, Tryz.ntmps49
  go_wp2
  all_goals (go_ret; refine ⟨ret_bool ?_, rfl⟩; simp_all [ndB, kIdent, kParam])

set_option maxHeartbeats 400000 in
theorem isSpace41 (c : Nat) (w : World) (h : c < 128) :
    Calls Tryz.prog 41 #[.int .i32 (c : Int)] w fun e w' => e = .returned (.bool (decide (9 ≤ c ∧ c ≤ 13 ∨ c = 32))) ∧ w = w' := by
  go_enter Tryz.func41, Tryz.ntmps41
  go_wp2
  all_goals (go_ret; refine ⟨ret_bool ?_, rfl⟩; simp only [beq_iff_eq, beq_eq_false_iff_ne] at *; symm; simp only [decide_eq_true_eq, decide_eq_false_iff_not]; omega)
theorem nonempty_of {s : ByteArray} (h0 : 0 < s.size) : ¬ s.toList = [] := by
  intro h
  have h2 : s.data.toList.length = 0 := by rw [← ByteArray.toList_eq, h]; rfl
  have e : s.size = s.data.size := rfl
  rw [Array.length_toList] at h2
  omega
set_option maxRecDepth 100000 in
set_option maxHeartbeats 400000 in
theorem decode40 (s : ByteArray) (w : World) (h0 : 0 < s.size) (h : s[0].toNat < 128) :
    Calls Tryz.prog 40 #[.string s] w fun e w' => e = .returned (.tuple #[.int .i32 (s[0].toNat : Int), .int .i64 1]) ∧ w = w' := by
  have he := nonempty_of h0
  have he2 : s.toList.isEmpty = false := by simpa using he
  go_enter Tryz.func40, Tryz.ntmps40
  go_wp2
  go_ret2
  exact ⟨rfl, rfl⟩
set_option maxHeartbeats 400000 in
theorem decode40e (w : World)  :
    Calls Tryz.prog 40 #[.string ⟨#[]⟩] w fun e w' => e = .returned (.tuple #[.int .i32 65533, .int .i64 0]) ∧ w = w' := by
  go_enter Tryz.func40, Tryz.ntmps40
  go_wp2
  go_ret2
  exact ⟨rfl, rfl⟩
end Go.Proofs.YtahcbeofaeflgaaGreatDoor
namespace Go.Proofs.YtahcbeofaeflgaaGreatDoor
open Go.RowKit

theorem run_ge (s : ByteArray) (p : Nat → Bool) (k : Nat) : k ≤ run s p k := by
  fun_induction run s p k with
  | case1 k h hp ih => omega
  | case2 => omega
  | case3 => omega
theorem run_le (s : ByteArray) (p : Nat → Bool) (k : Nat) (hk : k ≤ s.size) : run s p k ≤ s.size := by
  fun_induction run s p k with
  | case1 k h hp ih => exact ih (by omega)
  | case2 => omega
  | case3 => omega
theorem run_gt {s : ByteArray} {p : Nat → Bool} {k : Nat} (h : k < s.size) (hp : p (bt s k) = true) : k + 1 ≤ run s p k := by
  rw [run_yes h hp]; exact run_ge _ _ _

/-- Where a comment's end mark stands, from a place on. -/
def clo (s : ByteArray) (k : Nat) : Nat := if k < s.size then (if bt s k = 42 ∧ bt s (k + 1) = 47 then k else clo s (k + 1)) else k
  termination_by s.size - k
theorem clo_ge (s : ByteArray) (k : Nat) : k ≤ clo s k := by
  fun_induction clo s k with
  | case1 => omega
  | case2 k h hp ih => omega
  | case3 => omega

/-- Where blanks and comments end; false: a comment is not closed. -/
def blankP (s : ByteArray) (k : Nat) : Nat × Bool :=
  if k < s.size then
    if bt s k = 32 ∨ bt s k = 9 ∨ bt s k = 10 then blankP s (k + 1)
    else if bt s k = 35 ∨ bt s k = 45 ∧ bt s (k + 1) = 45 then blankP s (max (k + 1) (run s nlB k))
    else if bt s k = 47 ∧ bt s (k + 1) = 42 then (if clo s (k + 2) < s.size then blankP s (clo s (k + 2) + 2) else (k, false))
    else (k, true)
  else (k, true)
  termination_by s.size - k
  decreasing_by all_goals (have := clo_ge s (k + 2); omega)

theorem blank_end {s : ByteArray} {k : Nat} (h : s.size ≤ k) : blankP s k = (k, true) := by
  unfold blankP; rw [if_neg (by omega)]
theorem blank_space {s : ByteArray} {k : Nat} (h : k < s.size) (hc : bt s k = 32 ∨ bt s k = 9 ∨ bt s k = 10) : blankP s k = blankP s (k + 1) := by
  conv => lhs; unfold blankP
  rw [if_pos h, if_pos hc]
theorem blank_line {s : ByteArray} {k : Nat} (h : k < s.size) (hc : bt s k = 35 ∨ bt s k = 45 ∧ bt s (k + 1) = 45) : blankP s k = blankP s (run s nlB k) := by
  have hg : k + 1 ≤ run s nlB k := run_gt h (by simp [nlB]; omega)
  conv => lhs; unfold blankP
  rw [if_pos h, if_neg (by omega), if_pos hc, Nat.max_eq_right hg]
theorem blank_com {s : ByteArray} {k : Nat} (h : k < s.size) (hc : bt s k = 47 ∧ bt s (k + 1) = 42) (he : clo s (k + 2) < s.size) : blankP s k = blankP s (clo s (k + 2) + 2) := by
  conv => lhs; unfold blankP
  rw [if_pos h, if_neg (by omega), if_neg (by omega), if_pos hc, if_pos he]
theorem blank_open {s : ByteArray} {k : Nat} (h : k < s.size) (hc : bt s k = 47 ∧ bt s (k + 1) = 42) (he : ¬ clo s (k + 2) < s.size) : blankP s k = (k, false) := by
  conv => lhs; unfold blankP
  rw [if_pos h, if_neg (by omega), if_neg (by omega), if_pos hc, if_neg he]
theorem blank_stop {s : ByteArray} {k : Nat} (h1 : ¬ (bt s k = 32 ∨ bt s k = 9 ∨ bt s k = 10)) (h2 : ¬ (bt s k = 35 ∨ bt s k = 45 ∧ bt s (k + 1) = 45)) (h3 : ¬ (bt s k = 47 ∧ bt s (k + 1) = 42)) : blankP s k = (k, true) := by
  unfold blankP
  rw [if_neg h1, if_neg h2, if_neg h3]; simp

theorem ext_getElem (s : ByteArray) (a b i : Nat) (h : i < (s.extract a b).size) : (s.extract a b)[i] = s[a + i]'(by rw [ByteArray.size_extract] at h; omega) := by
  exact ByteArray.getElem_extract h

theorem bt_ext {s : ByteArray} {a b i : Nat} (hb : b ≤ s.size) (h : a + i < b) : bt (s.extract a b) i = bt s (a + i) := by
  have h1 : i < (s.extract a b).size := by rw [ByteArray.size_extract]; omega
  rw [bt_lt h1, bt_lt (by omega : a + i < s.size), ByteArray.getElem_extract]

theorem bt_inj {a b : ByteArray} (h : ∀ i, bt a i = bt b i) : a = b := by
  have hs : a.size = b.size := by
    rcases Nat.lt_trichotomy a.size b.size with hl | hl | hl
    · have := h a.size; rw [bt_ge (Nat.le_refl _)] at this; have := bt_256 hl; omega
    · exact hl
    · have := h b.size; rw [bt_ge (Nat.le_refl _)] at this; have := bt_256 hl; omega
  apply ByteArray.ext
  apply Array.ext hs
  intro i h1 h2
  have := h i
  rw [bt_lt (show i < a.size from h1), bt_lt (show i < b.size from h2)] at this
  exact UInt8.toNat_inj.1 this

theorem toList_inj {a b : ByteArray} (h : a.toList = b.toList) : a = b := by
  rw [ByteArray.toList_eq, ByteArray.toList_eq] at h
  exact ByteArray.ext (Array.ext' h)

theorem stB_iff (s : ByteArray) (k : Nat) (p : ByteArray) (h0 : 0 < p.size) : stB s k p = true ↔ ∀ i, i < p.size → bt s (k + i) = bt p i := by
  unfold stB
  rw [Bool.and_eq_true, decide_eq_true_eq, beq_iff_eq]
  constructor
  · rintro ⟨h1, h2⟩ i hi
    have := toList_inj h2
    rw [← bt_ext (a := k) (b := k + p.size) h1 (by omega), this]
  · intro h
    have h1 : k + p.size ≤ s.size := by
      rcases Nat.lt_or_ge s.size (k + p.size) with hl | hl
      · have h2 := h (p.size - 1) (by omega)
        have h3 := bt_256 (s := p) (k := p.size - 1) (by omega)
        rw [bt_ge (by omega)] at h2
        omega
      · exact hl
    refine ⟨h1, ?_⟩
    congr 1
    apply bt_inj
    intro i
    by_cases hi : i < p.size
    · rw [bt_ext h1 (by omega)]; exact h i hi
    · rw [bt_ge (by rw [ByteArray.size_extract]; omega), bt_ge (by omega)]

theorem stB_two (s : ByteArray) (k : Nat) (a b : UInt8) : stB s k ⟨#[a, b]⟩ = (bt s k == a.toNat && bt s (k + 1) == b.toNat) := by
  rw [Bool.eq_iff_iff, stB_iff _ _ ⟨#[a, b]⟩ (Nat.zero_lt_succ 1)]
  rw [Bool.and_eq_true, beq_iff_eq, beq_iff_eq]
  constructor
  · intro h
    exact ⟨h 0 (by decide : 0 < 2), h 1 (by decide : 1 < 2)⟩
  · rintro ⟨h1, h2⟩ i hi
    have hi' : i < 2 := hi
    match i, hi' with
    | 0, _ => exact h1
    | 1, _ => exact h2
theorem stB_one (s : ByteArray) (k : Nat) (a : UInt8) : stB s k ⟨#[a]⟩ = (bt s k == a.toNat) := by
  rw [Bool.eq_iff_iff, stB_iff _ _ ⟨#[a]⟩ (Nat.zero_lt_succ 0)]
  rw [beq_iff_eq]
  constructor
  · intro h
    exact h 0 (by decide : 0 < 1)
  · intro h1 i hi
    have hi' : i < 1 := hi
    match i, hi' with
    | 0, _ => exact h1
theorem clo_yes {s : ByteArray} {k : Nat} (h : k < s.size) (hc : bt s k = 42 ∧ bt s (k + 1) = 47) : clo s k = k := by
  unfold clo; rw [if_pos h, if_pos hc]
theorem clo_no {s : ByteArray} {k : Nat} (h : k < s.size) (hc : ¬ (bt s k = 42 ∧ bt s (k + 1) = 47)) : clo s k = clo s (k + 1) := by
  conv => lhs; unfold clo
  rw [if_pos h, if_neg hc]
theorem clo_end {s : ByteArray} {k : Nat} (h : s.size ≤ k) : clo s k = k := by
  unfold clo; rw [if_neg (by omega)]
theorem clo_lt {s : ByteArray} {k : Nat} (h : clo s k < s.size) : clo s k + 2 ≤ s.size := by
  fun_induction clo s k with
  | case1 k h hc =>
    rcases Nat.lt_or_ge (k + 1) s.size with hl | hl
    · omega
    · have := bt_ge hl; omega
  | case2 k h hp ih => exact ih (by assumption)
  | case3 => omega
theorem clo_le {s : ByteArray} {k : Nat} (hk : k ≤ s.size) : clo s k ≤ s.size := by
  fun_induction clo s k with
  | case1 => omega
  | case2 k h hp ih => exact ih (by omega)
  | case3 => omega

theorem ret_ib {a b : Int} {x y : Bool} (h : a = b) (h2 : x = y) : Ending.returned (.tuple #[.int .i64 a, .bool x]) = .returned (.tuple #[.int .i64 b, .bool y]) := by rw [h, h2]
theorem two_yes {s : ByteArray} {k : Nat} {a b : UInt8} (h : stB s k ⟨#[a, b]⟩ = true) : bt s k = a.toNat ∧ bt s (k + 1) = b.toNat := by
  rw [stB_two] at h; simpa using h
theorem two_no {s : ByteArray} {k : Nat} {a b : UInt8} (h : ¬ stB s k ⟨#[a, b]⟩ = true) : ¬ (bt s k = a.toNat ∧ bt s (k + 1) = b.toNat) := by
  rw [stB_two] at h; simpa using h

set_option maxHeartbeats 1000000 in
theorem blank9 (s : ByteArray) (k : Nat) (w : World) (hs : s.size ≤ 2147483647) (hk : k ≤ s.size) :
    Calls Tryz.prog 9 #[.string s, .int .i64 (k : Int)] w fun e w' => e = .returned (.tuple #[.int .i64 ((blankP s k).1 : Int), .bool (blankP s k).2]) ∧ w = w' := by
  go_enter Tryz.func9, Tryz.ntmps9
  go_wp2
  go_loop [1] (fun i => ∃ j : Nat, j ≤ s.size ∧ i = .int .i64 j ∧ Hid (blankP s j = blankP s k)) (fun i => s.size - (intOf i).toNat)
  case atStart => exact ⟨k, hk, rfl, rfl⟩
  case round =>
    obtain ⟨j, hj, rfl, hrn⟩ := hrel
    by_cases hlt : j < s.size
    · have HB := Lib.hid (bt_lt hlt)
      by_cases hst2 : stB s j ⟨#[47, 42]⟩ = true
      · have hst : bt s j = 47 ∧ bt s (j + 1) = 42 := two_yes hst2
        have hj2 : j + 2 ≤ s.size := by
          rcases Nat.lt_or_ge (j + 1) s.size with hl | hl
          · omega
          · have := bt_ge hl; omega
        have hb := HB.out
        have e32 : ((s[j].toNat : Int) == 32) = false := by rw [beq_eq_false_iff_ne]; omega
        have e9 : ((s[j].toNat : Int) == 9) = false := by rw [beq_eq_false_iff_ne]; omega
        have e10 : ((s[j].toNat : Int) == 10) = false := by rw [beq_eq_false_iff_ne]; omega
        have e35 : ((s[j].toNat : Int) == 35) = false := by rw [beq_eq_false_iff_ne]; omega
        have e45 : stB s j ⟨#[45, 45]⟩ = false := by rw [stB_two, hst.1]; rfl
        have HST := Lib.hid hst
        clear hst hb
        go_wp2_with (first | (go_at_call 14; refine (starts14 _ _ _ _ hs (by decide) (by omega)).mono ?_; rintro e w' ⟨rfl, rfl⟩) | (go_at_call 15; refine (while15_16 _ _ _ hs hj).mono ?_; rintro e w' ⟨rfl, rfl⟩))
        go_loop [6] (fun i => ∃ e : Nat, e ≤ s.size ∧ j + 2 ≤ e ∧ i = .int .i64 e ∧ Hid (clo s e = clo s (j + 2))) (fun i => s.size - (intOf i).toNat)
        case atStart => exact ⟨j + 2, hj2, by omega, by go_num, rfl⟩
        case round =>
          obtain ⟨e, he, hje, rfl, hcl⟩ := hrel
          by_cases helt : e < s.size
          · by_cases hce2 : stB s e ⟨#[42, 47]⟩ = true
            · have hyes := Lib.hid (two_yes hce2)
              go_wp2_with (go_at_call 14; refine (starts14 _ _ _ _ hs (by decide) (by omega)).mono ?_; rintro e w' ⟨rfl, rfl⟩)
              have hce : clo s (j + 2) = e := by rw [← hcl.out, clo_yes helt hyes.out]
              have hle := clo_lt (s := s) (k := j + 2) (by omega)
              have := blank_com hlt HST.out (by omega)
              rw [hce] at this
              go_round
              case rel => exact ⟨e + 2, by omega, by go_num, by rw [← this]; exact hrn⟩
              case measure => simp [intOf]; omega
            · have hno := Lib.hid (two_no hce2)
              go_wp2_with (go_at_call 14; refine (starts14 _ _ _ _ hs (by decide) (by omega)).mono ?_; rintro e w' ⟨rfl, rfl⟩)
              go_round
              case rel => exact ⟨e + 1, by omega, by omega, by go_num, by rw [← clo_no helt hno.out]; exact hcl⟩
              case measure => simp [intOf]; omega
          · go_wp2_with fail
            have hce : clo s (j + 2) = e := by rw [← hcl.out, clo_end (by omega)]
            go_ret2
            have h1 := hrn.out
            rw [blank_open hlt HST.out (by omega)] at h1
            exact ⟨by rw [← h1]; rfl, rfl⟩
      · have hno := Lib.hid (two_no hst2)
        go_wp2_with (first | (go_at_call 14; refine (starts14 _ _ _ _ hs (by decide) (by omega)).mono ?_; rintro e w' ⟨rfl, rfl⟩) | (go_at_call 15; refine (while15_16 _ _ _ hs hj).mono ?_; rintro e w' ⟨rfl, rfl⟩))
        iterate 3
          · have hc : bt s j = 32 ∨ bt s j = 9 ∨ bt s j = 10 := by
              rw [HB.out]; simp only [beq_iff_eq] at *; omega
            refine ⟨⟨j + 1, by omega, by go_num, ?_⟩, by simp [intOf]; omega⟩
            rw [← blank_space hlt hc]; exact hrn
        iterate 2
          · have hc : bt s j = 35 ∨ bt s j = 45 ∧ bt s (j + 1) = 45 := by
              first
                | (left; rw [HB.out]; omega)
                | (rename_i hor
                   rcases hor with h | h
                   · left; rw [HB.out]; simp only [beq_iff_eq] at h; omega
                   · right; exact two_yes h)
            have hg : j + 1 ≤ run s nlB j := run_gt hlt (by simp [nlB]; omega)
            have hl := run_le s nlB j hj
            refine ⟨⟨run s nlB j, hl, rfl, ?_⟩, by simp [intOf]; omega⟩
            rw [← blank_line hlt hc]; exact hrn
        · have h1 := hrn.out
          have hA : ((↑s[j].toNat == (35 : Int)) = false ∧ stB s j ⟨#[45, 45]⟩ = false) := by assumption
          have hS : (((↑s[j].toNat == (32 : Int)) = false ∧ (↑s[j].toNat == (9 : Int)) = false) ∧ (↑s[j].toNat == (10 : Int)) = false) := by assumption
          have hB : ¬ (bt s j = 45 ∧ bt s (j + 1) = 45) := two_no (a := 45) (b := 45) (by rw [hA.2]; decide)
          simp only [beq_eq_false_iff_ne] at hA hS
          have hb := HB.out
          rw [blank_stop (by omega) (by omega) hno.out] at h1
          go_ret2
          exact ⟨by rw [← h1]; rfl, rfl⟩
    · go_wp2_with fail
      go_ret2
      have := hrn.out
      rw [blank_end (by omega)] at this
      exact ⟨by rw [← this]; rfl, rfl⟩
end Go.Proofs.YtahcbeofaeflgaaGreatDoor
namespace Go.Proofs.YtahcbeofaeflgaaGreatDoor
open Go.RowKit

/-! The frame: only the lexer's own block, and new ones. -/
theorem fr_refl (w : World) (g : Option Nat) : w.grownBy w g := ⟨rfl, rfl, rfl, Nat.le_refl _, fun _ _ _ => rfl⟩
theorem fr_trans {a b c : World} {g : Option Nat} (h : a.grownBy b g) (k : b.grownBy c g) : a.grownBy c g :=
  ⟨k.os.trans h.os, k.tape.trans h.tape, k.output.trans h.output, Nat.le_trans h.size k.size, fun i hi hne => (k.block i (Nat.lt_of_lt_of_le hi h.size) hne).trans (h.block i hi hne)⟩
theorem fr_drewN {a w : World} {g : Option Nat} (h : a.grownBy w g) (n : Nat) : a.grownBy (w.drewN n) g := ⟨h.os, h.tape, h.output, h.size, h.block⟩
theorem fr_drew {a w : World} {g : Option Nat} (h : a.grownBy w g) : a.grownBy w.drew g := ⟨h.os, h.tape, h.output, h.size, h.block⟩
theorem fr_alloc {a w : World} {g : Option Nat} (h : a.grownBy w g) (o : Obj) : a.grownBy (w.alloc o) g :=
  ⟨h.os, h.tape, h.output, Nat.le_trans h.size (by simp), fun i hi hne => (Below.heap_alloc w o i (Nat.lt_of_lt_of_le hi h.size)).trans (h.block i hi hne)⟩
theorem fr_set {a w : World} {g : Nat} (h : a.grownBy w (some g)) (i : Nat) (u : Value) : a.grownBy (w.setCell ⟨g, i, none⟩ u) (some g) :=
  ⟨h.os, h.tape, h.output, by simpa [World.setCell] using h.size, fun j hj hne => (Below.heap_setCell w ⟨g, i, none⟩ u j (by
    rintro rfl
    exact hne rfl)).trans (h.block j hj hne)⟩
theorem fr_setNew {a w : World} {g : Option Nat} (h : a.grownBy w g) {p : Addr} (hp : a.heap.size ≤ p.block) (u : Value) : a.grownBy (w.setCell p u) g :=
  ⟨h.os, h.tape, h.output, by simpa [World.setCell] using h.size, fun j hj hne => (Below.heap_setCell w p u j (by omega)).trans (h.block j hj hne)⟩
theorem fr_below {a w : World} (h : Below a.heap.size a w) (g : Option Nat) : a.grownBy w g := ⟨h.os, h.tape, h.output, h.size, fun i hi _ => h.block i hi⟩

section
variable {w w' : World} {gl gf : Nat} {s : ByteArray} {t : St}
theorem lt_of_heap {w : World} {g : Nat} {o : Obj} (h : w.heap[g]? = some o) : g < w.heap.size := by
  rcases Nat.lt_or_ge g w.heap.size with hl | hl
  · exact hl
  · rw [Array.getElem?_eq_none hl] at h; cases h
theorem LX.drewN (h : LX w gl gf s t) (n : Nat) : LX (w.drewN n) gl gf s t := by
  obtain ⟨⟨B, h1, h2, h3⟩, h4, h5⟩ := h
  exact ⟨⟨B, h1, h2, h3.on ⟨rfl, rfl, rfl, Nat.le_refl _, fun _ _ => rfl⟩⟩, h4, h5⟩
theorem LX.drew (h : LX w gl gf s t) : LX w.drew gl gf s t := h.drewN 1
theorem LX.alloc (h : LX w gl gf s t) (o : Obj) : LX (w.alloc o) gl gf s t := by
  obtain ⟨⟨B, h1, h2, h3⟩, h4, h5⟩ := h
  have hl := lt_of_heap h4
  exact ⟨⟨B, h1, h2, h3.on ((Below.refl _ _).alloc (by omega) _)⟩, (Below.heap_alloc w o gl hl).trans h4, (Below.heap_alloc w o gf (lt_of_heap h5)).trans h5⟩
theorem LX.far (h : LX w gl gf s t) {p : Addr} (h1 : gl < p.block) (h2 : p.block ≠ gf) (u : Value) : LX (w.setCell p u) gl gf s t := by
  obtain ⟨⟨B, k1, k2, k3⟩, h4, h5⟩ := h
  exact ⟨⟨B, k1, k2, k3.on ((Below.refl _ _).setCell (by omega) _)⟩, (Below.heap_setCell w p u gl (by omega)).trans h4, (Below.heap_setCell w p u gf (Ne.symm h2)).trans h5⟩
theorem LX.grown (h : LX w gl gf s t) {row : Option Nat} (hg : w.grownBy w' row) (h1 : ∀ k, row = some k → gl < k) (h2 : some gf ≠ row) : LX w' gl gf s t := by
  obtain ⟨⟨B, k1, k2, k3⟩, h4, h5⟩ := h
  have hl := lt_of_heap h4
  exact ⟨⟨B, k1, k2, k3.on ((Below.refl _ _).grown hg (by omega) (fun k hk => by have := h1 k hk; omega))⟩, (hg.block gl hl (fun e => by have := h1 gl e.symm; omega)).trans h4, (hg.block gf (lt_of_heap h5) h2).trans h5⟩
theorem LX.set (h : LX w gl gf s t) (i : Nat) (u : Value) (t' : St) (ht : (t.cells gf).setIfInBounds i u = t'.cells gf) : LX (w.setCell ⟨gl, i, none⟩ u) gl gf s t' := by
  have hne := h.ne
  obtain ⟨⟨B, k1, k2, k3⟩, h4, h5⟩ := h
  refine ⟨⟨B, k1, k2, k3.on ((Below.refl _ _).setCell (by simpa using k1) _)⟩, ?_, (Below.heap_setCell w ⟨gl, i, none⟩ u gf (Ne.symm hne)).trans h5⟩
  simp [World.setCell, Array.getElem?_modify, h4, ht]
theorem LX.pos (h : LX w gl gf s t) (p : Nat) : LX (w.setCell ⟨gl, 9, none⟩ (.int .i64 (p : Int))) gl gf s { t with pos := p } := h.set 9 _ _ rfl
theorem LX.kind (h : LX w gl gf s t) (k : ByteArray) : LX (w.setCell ⟨gl, 1, none⟩ (.string k)) gl gf s { t with kind := k } := h.set 1 _ _ rfl
theorem LX.txt (h : LX w gl gf s t) (k : ByteArray) : LX (w.setCell ⟨gl, 5, none⟩ (.string k)) gl gf s { t with txt := k } := h.set 5 _ _ rfl
theorem LX.base (h : LX w gl gf s t) (k : Int) : LX (w.setCell ⟨gl, 6, none⟩ (.int .i64 k)) gl gf s { t with base := k } := h.set 6 _ _ rfl
theorem LX.dot (h : LX w gl gf s t) (k : Bool) : LX (w.setCell ⟨gl, 11, none⟩ (.bool k)) gl gf s { t with dot := k } := h.set 11 _ _ rfl
end

section
variable {w : World} {gl gf : Nat} {s : ByteArray} {t : St}
theorem LX.c1 (h : LX w gl gf s t) : w.cell? ⟨gl, 1, none⟩ = some (.string t.kind) := cell_of h.l 1
theorem LX.c2 (h : LX w gl gf s t) : w.cell? ⟨gl, 2, none⟩ = some t.com := cell_of h.l 2
theorem LX.c3 (h : LX w gl gf s t) : w.cell? ⟨gl, 3, none⟩ = some (.string t.sp) := cell_of h.l 3
theorem LX.c4 (h : LX w gl gf s t) : w.cell? ⟨gl, 4, none⟩ = some (.string t.raw) := cell_of h.l 4
theorem LX.c5 (h : LX w gl gf s t) : w.cell? ⟨gl, 5, none⟩ = some (.string t.txt) := cell_of h.l 5
theorem LX.c6 (h : LX w gl gf s t) : w.cell? ⟨gl, 6, none⟩ = some (.int .i64 t.base) := cell_of h.l 6
theorem LX.c7 (h : LX w gl gf s t) : w.cell? ⟨gl, 7, none⟩ = some (.int .i64 (t.tp : Int)) := cell_of h.l 7
theorem LX.c8 (h : LX w gl gf s t) : w.cell? ⟨gl, 8, none⟩ = some (.int .i64 (t.te : Int)) := cell_of h.l 8
theorem LX.c10 (h : LX w gl gf s t) : w.cell? ⟨gl, 10, none⟩ = some (.string t.last) := cell_of h.l 10
theorem LX.c11 (h : LX w gl gf s t) : w.cell? ⟨gl, 11, none⟩ = some (.bool t.dot) := cell_of h.l 11
end

def posIn (gl : Nat) (w : World) : Nat := match w.cell? ⟨gl, 9, none⟩ with | some (.int _ n) => n.toNat | _ => 0
theorem posIn_of {w : World} {gl gf : Nat} {s : ByteArray} {t : St} (h : LX w gl gf s t) : posIn gl w = t.pos := by
  unfold posIn; rw [h.c9]; simp

/-- The bytes of which the statement speaks. -/
structure PL (s : ByteArray) : Prop where
  size : s.size ≤ 2000
  byte : ∀ k, k < s.size → (32 ≤ bt s k ∧ bt s k ≤ 126 ∨ bt s k = 9 ∨ bt s k = 10) ∧ bt s k ≠ 92 ∧ bt s k ≠ 96
  bang : ∀ k, k < s.size → bt s k = 33 → bt s (k + 1) = 61
  sgn : ∀ k, bt s (k + 1) = 61 → bt s k ≠ 43 ∧ bt s k ≠ 45
  com : ∀ k, ¬ (bt s k = 47 ∧ bt s (k + 1) = 42 ∧ bt s (k + 2) = 47)

def spB (c : Nat) : Bool := decide (c = 32 ∨ c = 9 ∨ c = 10)

theorem decode40x (s : ByteArray) (j : Nat) (w : World) (hj : j < s.size) (h : bt s j < 128) :
    Calls Tryz.prog 40 #[.string (s.extract j s.size)] w fun e w' => e = .returned (.tuple #[.int .i32 (bt s j : Int), .int .i64 1]) ∧ w = w' := by
  have h0 : 0 < (s.extract j s.size).size := by rw [ByteArray.size_extract]; omega
  have e : (s.extract j s.size)[0].toNat = bt s j := by
    rw [ByteArray.getElem_extract, bt_lt hj]; rfl
  have := decode40 (s.extract j s.size) w h0 (by rw [e]; exact h)
  rw [e] at this
  exact this
theorem extract_nil (s : ByteArray) : s.extract s.size s.size = ⟨#[]⟩ := by
  apply bt_inj
  intro i
  rw [bt_ge (by rw [ByteArray.size_extract]; omega), bt_ge (show ByteArray.size ⟨#[]⟩ ≤ i from Nat.zero_le _)]

/-! A second quiet region behind a first: the world is 'w.drewN a' already. -/
theorem quiet2 {P : Program} {f : FuncId} {args : Array Value} {w : World} {a n : Nat} {v : Value}
    (h : Calls P f args (w.drewN (a + n)) fun e w' => e = .returned v ∧ w.drewN (a + n) = w') :
    Calls P f args (w.drewN (a + n)) fun e w'' => e = .returned v ∧ ∃ m, w'' = w.drewN (a + m) :=
  h.mono fun _ _ ⟨he, hm⟩ => ⟨he, n, hm.symm⟩
theorem quiet1 {P : Program} {f : FuncId} {args : Array Value} {w : World} {n : Nat} {v : Value}
    (h : Calls P f args (w.drewN n) fun e w' => e = .returned v ∧ w.drewN n = w') : Calls P f args (w.drewN n) fun e w'' => e = .returned v ∧ ∃ m, w'' = w.drewN m :=
  h.mono fun _ _ ⟨he, hm⟩ => ⟨he, n, hm.symm⟩

theorem PL.lt {s : ByteArray} (h : PL s) {k : Nat} (hk : k < s.size) : bt s k < 128 := by have := (h.byte k hk).1; omega
theorem isSpace41x {s : ByteArray} (hP : PL s) (j : Nat) (w : World) (hj : j < s.size) :
    Calls Tryz.prog 41 #[.int .i32 (bt s j : Int)] w fun e w' => e = .returned (.bool (spB (bt s j))) ∧ w = w' := by
  have h := hP.byte j hj
  refine (isSpace41 (bt s j) w (hP.lt hj)).mono fun e w' ⟨he, hw⟩ => ⟨?_, hw⟩
  rw [he]
  apply ret_bool
  unfold spB
  rw [decide_eq_decide]; omega

set_option maxHeartbeats 1000000 in
theorem skipSpaces28 (s : ByteArray) (gl gf : Nat) (t : St) (w : World) (hP : Hid (PL s)) (hL : LX w gl gf s t) (hp : t.pos ≤ s.size) :
    Calls Tryz.prog 28 #[.pointer (some ⟨gl, 0, none⟩)] w fun e w' => e = .returned (.tuple #[]) ∧ LX w' gl gf s { t with pos := run s spB t.pos } ∧ w.grownBy w' (some gl) := by
  have hs : s.size ≤ 2147483647 := Nat.le_trans hP.out.size (by decide)
  go_enter Tryz.func28, Tryz.ntmps28
  go_wp2_with fail
  go_loopw [] (fun wr => ∃ j : Nat, j ≤ s.size ∧ LX wr gl gf s { t with pos := j } ∧ w.grownBy wr (some gl) ∧ Hid (run s spB j = run s spB t.pos)) (fun wr => s.size - posIn gl wr)
  case atStart => exact ⟨t.pos, hp, hL, fr_refl _ _, rfl⟩
  case round =>
    obtain ⟨j, hj, hX, hg, hrn⟩ := hrel
    by_cases hlt : j < s.size
    · have c0 := hX.c0
      have c9 := hX.c9
      have cf := hX.fb
      have hb := hP.out.lt hlt
      have e2 : (j : Int) ≤ (s.size : Int) := by omega
      have e3 : 0 ≤ (j : Int) := by omega
      have hd : decide (s.size ≤ j) = false := decide_eq_false (by omega)
      by_cases hsp : spB (bt s j) = true
      · go_wp2_with (go_at_call 39; refine (eof39 _ _ _ _ _ hX hs).mono ?_; rintro e w' ⟨rfl, n, rfl⟩)
        go_quiet ((go_at_call 40; exact quiet2 (decode40x _ _ _ hlt hb)))
        go_wp2_with (first | (go_at_call 41; refine (isSpace41x hP.out _ _ hlt).mono ?_; rintro e w' ⟨rfl, rfl⟩) | (go_at_call 42; refine (skipN42 s gl gf { t with pos := j } 1 _ (hX.drewN _) hs (by simp; omega)).mono ?_; rintro e w' ⟨rfl, rfl⟩))
        have hX2 := (hX.drewN (n + nq)).pos (j + 1)
        refine ⟨⟨j + 1, by omega, hX2, fr_set (fr_drewN hg _) _ _, by rw [← run_yes hlt hsp]; exact hrn⟩, ?_⟩
        have h1 := posIn_of hX2
        have h2 := posIn_of hX
        simp only at h1 h2
        rw [h2]
        show s.size - posIn gl ((wr.drewN (n + nq)).setCell ⟨gl, 9, none⟩ (.int .i64 ((j + 1 : Nat) : Int))) < _
        rw [h1]; omega
      · have hsp' : spB (bt s j) = false := by simpa using hsp
        clear hsp
        go_wp2_with (go_at_call 39; refine (eof39 _ _ _ _ _ hX hs).mono ?_; rintro e w' ⟨rfl, n, rfl⟩)
        go_quiet ((go_at_call 40; exact quiet2 (decode40x _ _ _ hlt hb)))
        go_wp2_with (first | (go_at_call 41; refine (isSpace41x hP.out _ _ hlt).mono ?_; rintro e w' ⟨rfl, rfl⟩) | (go_at_call 42; refine (skipN42 s gl gf { t with pos := j } 1 _ (hX.drewN _) hs (by simp; omega)).mono ?_; rintro e w' ⟨rfl, rfl⟩))
        have h1 := hrn.out
        rw [run_no hsp'] at h1
        refine bodyPost_ret (results_none rfl _ _ _) rfl ⟨rfl, ?_, fr_drewN hg _⟩
        rw [← h1]; exact hX.drewN _
    · have hd : decide (s.size ≤ j) = true := decide_eq_true (by omega)
      go_wp2_with (go_at_call 39; refine (eof39 _ _ _ _ _ hX hs).mono ?_; rintro e w' ⟨rfl, n, rfl⟩)
      have h1 := hrn.out
      rw [run_end (by omega)] at h1
      go_end0
      refine ⟨rfl, ?_, fr_drewN hg _⟩
      rw [← h1]; exact hX.drewN _

end Go.Proofs.YtahcbeofaeflgaaGreatDoor
