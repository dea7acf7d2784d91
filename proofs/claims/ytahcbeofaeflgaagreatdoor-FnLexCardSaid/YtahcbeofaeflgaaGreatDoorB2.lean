/- Lemmas towards the statement FnLexCardSaid, conditions: as each theorem says. -/
import Derived.Test.YtahcbeofaeflgaaGreatDoorB1
import Derived.Laws.BytesArg
import Derived.Deep.RegionWith
import Derived.Deep.AppendLies
import Derived.StillTailTactics
namespace Go.Proofs.YtahcbeofaeflgaaGreatDoor
open Go.RowKit

theorem slice58n (s : ByteArray) (gl gf : Nat) (t : St) (i j : Nat) {ii jj : Int} (w : World) (hL : LX w gl gf s t) (hs : s.size ≤ 2147483647) (hii : ii = (i : Int)) (hjj : jj = (j : Int)) (hij : i ≤ j) (hi : t.pos + i ≤ s.size) (hjm : j ≤ 2147483647) :
    Calls Tryz.prog 58 #[.pointer (some ⟨gl, 0, none⟩), .int .i64 ii, .int .i64 jj] w fun e w' => e = .returned (.string (s.extract (t.pos + i) (t.pos + j))) ∧ ∃ n, w' = w.drewN n := by
  subst hii; subst hjj; exact slice58 s gl gf t i j w hL hs hij hi hjm
theorem skipN42n (s : ByteArray) (gl gf : Nat) (t : St) (i : Nat) {ii : Int} (w : World) (hL : LX w gl gf s t) (hs : s.size ≤ 2147483647) (hii : ii = (i : Int)) (hi : t.pos + i ≤ s.size) :
    Calls Tryz.prog 42 #[.pointer (some ⟨gl, 0, none⟩), .int .i64 ii] w fun e w' => e = .returned (.tuple #[]) ∧ LX w' gl gf s { t with pos := t.pos + i } ∧ w.grownBy w' (some gl) := by
  subst hii
  refine (skipN42 s gl gf t i w hL hs hi).mono fun e w' ⟨he, hw⟩ => ?_
  subst hw
  exact ⟨he, hL.pos _, fr_set (fr_refl _ _) _ _⟩
theorem panic67n (s : ByteArray) (gl gf : Nat) (t : St) (a b : Nat) {aa bb : Int} (m : ByteArray) (w : World) (hP : Hid (PL s)) (hL : LX w gl gf s t) (haa : aa = (a : Int)) (hbb : bb = (b : Int)) (hab : a ≤ b) (hb : b ≤ s.size) :
    Calls Tryz.prog 67 #[.pointer (some ⟨gl, 0, none⟩), .int .i64 aa, .int .i64 bb, .string m] w (Fault gl gf w) := by
  subst haa; subst hbb; exact panic67 s gl gf t a b m w hP hL hab hb
theorem error73n (s : ByteArray) (gl gf : Nat) (t : St) (a b : Nat) {aa bb : Int} (m : ByteArray) (w : World) (hP : Hid (PL s)) (hL : LX w gl gf s t) (haa : aa = (a : Int)) (hbb : bb = (b : Int)) (hab : a ≤ b) (hb : b ≤ s.size) :
    Calls Tryz.prog 73 #[.pointer (some ⟨gl, 0, none⟩), .int .i64 aa, .int .i64 bb, .string m] w fun e w' => ∃ (pe pp : Nat) (cs : Array Value) (n : Int), e = .returned (.pointer (some ⟨pe, 0, none⟩)) ∧
      w'.heap[pe]? = some (.cells #[.string m, .pointer (some ⟨pp, 0, none⟩)] 57 (0, 0)) ∧ w'.heap[pp]? = some (.cells cs 59 (0, 0)) ∧ cs[1]? = some (.int .i64 n) ∧ w.heap.size ≤ pe ∧ w.heap.size ≤ pp ∧ Fr2 gl gf w w' := by
  subst haa; subst hbb; exact error73 s gl gf t a b m w hP hL hab hb

theorem Tryz.info5 : (Tryz.prog.info? 5).map (fun i => (i.zero, i.size, i.bytes)) = some (some (.int .u8 0), 1, 1) := by kernel_rfl

/-- The bytes between two places, as cells. -/
def bcells (s : ByteArray) (a n : Nat) : List Value := (List.range n).map fun j => .int .u8 (bt s (a + j) : Int)
theorem bcells_zero (s : ByteArray) (a : Nat) : bcells s a 0 = [] := rfl
theorem bcells_succ (s : ByteArray) (a n : Nat) : bcells s a (n + 1) = bcells s a n ++ [.int .u8 (bt s (a + n) : Int)] := by
  unfold bcells; rw [List.range_succ, List.map_append]; rfl
theorem bcells_len (s : ByteArray) (a n : Nat) : (bcells s a n).length = n := by simp [bcells]
theorem bcells_at (s : ByteArray) (a n j : Nat) (h : j < n) : (bcells s a n)[j]? = some (.int .u8 (bt s (a + j) : Int)) := by
  unfold bcells; rw [List.getElem?_map, List.getElem?_range h]; rfl

theorem run_convert_bytes_nil91 (w : World) : (convert 91 9 (.slice none 0 0)).run Tryz.prog w = .ok (.string ⟨#[]⟩) w := by
  rw [run_convert_bytes_string w 91 9 5 none 0 0 Tryz.underlying91 Tryz.underlying5 Tryz.underlying9]
  rfl
theorem run_convert_bytes_row91 (w : World) (g cap : Nat) (b : ByteArray) (n : Nat) (hn : b.size = n) (hc : ∀ j, j < b.size → w.cell? ((⟨g, 0, none⟩ : Addr).add j) = some (.int .u8 (bt b j : Int))) :
    (convert 91 9 (.slice (some ⟨g, 0, none⟩) n cap)).run Tryz.prog w = .ok (.string b) w := by
  subst hn
  have e : b.data.toList.length = b.size := by rw [Array.length_toList]; rfl
  have h := run_convert_bytes_back (P := Tryz.prog) w 91 9 5 ⟨g, 0, none⟩ cap b.data.toList Tryz.underlying91 Tryz.underlying5 Tryz.underlying9 (fun j hj => by
    have hj' : j < b.size := by rw [← e]; exact hj
    rw [Array.getElem_toList]
    have h1 := hc j hj'
    rw [bt_lt hj'] at h1
    exact h1)
  rw [e] at h
  rw [h]
theorem fr_own {w a b : World} {gl : Nat} {row : Option Nat} (h : w.grownBy a (some gl)) (hg : a.grownBy b row) (hr : ∀ k, row = some k → w.heap.size ≤ k) : w.grownBy b (some gl) :=
  ⟨hg.os.trans h.os, hg.tape.trans h.tape, hg.output.trans h.output, Nat.le_trans h.size hg.size, fun i hi hne => (hg.block i (Nat.lt_of_lt_of_le hi h.size) (fun e => by have := hr i e.symm; omega)).trans (h.block i hi hne)⟩
theorem still_tail {P : Program} {id : Nat} {Q : Exit → Act → World → Prop} {a : Act} {w : World} {l : List Oper} (R : World → Prop) (hR : R w.drew) (n : Nat) (hm : P.follows .mixedOrders = true) (hB : Region.lexTailB .any l.toArray n = true)
    (h : ∀ W, R W → wpStill P l.toArray W (fun a' => wpList P l.toArray Q (l.drop n) a' W) (l.take n) a) : (Code.region id l.toArray true).wp P Q a w :=
  wp_region_still_tail n hm hB (h _ hR)
theorem trip_ne (nm : ByteArray) : (((⟨#[116, 114, 105, 112, 108, 101, 45, 113, 117, 111, 116, 101, 100, 32]⟩ : ByteArray) ++ nm).toList == [105, 100, 101, 110, 116, 105, 102, 105, 101, 114]) = false := by
  rw [beq_eq_false_iff_ne]; intro h; rw [ByteArray.toList_eq, ByteArray.data_append] at h; simp at h
theorem quoM_lt {s : ByteArray} {k : Nat} (hc : bt s k ≠ 256) (hm : quoM s k = 3) : k + 3 ≤ s.size := by
  unfold quoM at hm
  split at hm
  · rename_i h
    have := lt_of_bt (s := s) (k := k + 2) (by omega)
    omega
  · omega
theorem ret_sb {a b : ByteArray} {x y : Bool} (h : a = b) (h2 : x = y) : Ending.returned (.tuple #[.string a, .bool x]) = .returned (.tuple #[.string b, .bool y]) := by rw [h, h2]

/-! The code of the escapes, which no plain text reaches, under a name. -/
def firstReg : Code → Nat
  | .region n _ _ => n
  | .seq a _ => firstReg a
  | .block _ c => firstReg c
  | _ => 0
def subAt (n : Nat) : Code → Option Code
  | .cond _ a b => if firstReg a = n then some a else match subAt n a with
    | some c => some c
    | none => subAt n b
  | .seq a b => match subAt n a with
    | some c => some c
    | none => subAt n b
  | .block _ c => subAt n c
  | .loop c => subAt n c
  | .scope c => subAt n c
  | _ => none
noncomputable def esc53 : Code := (Tryz.f53.body.bind (subAt 18)).getD .skip

/-- What a literal's content comes to. -/
def QPost (s : ByteArray) (gl gf : Nat) (t : St) (w : World) (e : Ending) (w' : World) : Prop :=
  (quoP s t.pos = none ∧ Fault gl gf w e w') ∨
  (∃ d v, quoP s t.pos = some (d, v) ∧ e = .returned (.tuple #[.string v, .bool false]) ∧ LX w' gl gf s { t with pos := d } ∧ w.grownBy w' (some gl) ∧ d ≤ s.size)

/-- A row of bytes of its own, in the loop. -/
def Cont (s : ByteArray) (w wr : World) (a n : Nat) (v : Value) : Prop :=
  wr.ownsRow w.heap.size 5 1 v n (bcells s a n) ∧ (n = 0 → v = .slice none 0 0)

end Go.Proofs.YtahcbeofaeflgaaGreatDoor
