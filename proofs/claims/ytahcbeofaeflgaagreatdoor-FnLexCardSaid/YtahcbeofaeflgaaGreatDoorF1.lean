/- Lemmas towards the statement FnLexCardSaid, conditions: as each theorem says. -/
import Derived.Test.YtahcbeofaeflgaaGreatDoorE3
import Derived.Test.YtahcbeofaeflgaaGreatDoorS1
import Derived.Lib.ItoaLen
import Derived.Deep.RegionWith
import Derived.StillTailTactics
import Derived.Deep.CutBlock
import Derived.Deep.DeepCutAuto
import Derived.WalkLawsBesides
namespace Go.Proofs.YtahcbeofaeflgaaGreatDoor
open Go.RowKit

theorem pow10_tab : pow10 = Lib.pow10Tab := by decide

set_option maxHeartbeats 1000000 in
theorem pad84 (n B : Nat) (w : World) (hn : n ≤ 100000) (hT : TabB B w) :
    Calls Tryz.prog 84 #[.int .i64 (n : Int)] w fun e w' => ∃ b : ByteArray, e = .returned (.string b) ∧ b.size ≤ 24 ∧ Below w.heap.size w w' := by
  have htab := hT w (Below.refl _ _)
  rw [pow10_tab] at htab
  have HT := Lib.hid htab
  clear htab
  go_enter Tryz.func84, Tryz.ntmps84
  go_wp2_with fail
  refine (Tryz.strconv_Itoa (n : Int) (by omega) (by omega) w HT.out).mono ?_
  rintro e w1 ⟨rfl, k, os, hw⟩
  have hb : Below w.heap.size w w1 := by
    rw [hw]
    refine ⟨rfl, rfl, rfl, ?_, fun i hi => ?_⟩
    · show w.heap.size ≤ (w.heap ++ os).size
      rw [Array.size_append]; omega
    · show (w.heap ++ os)[i]? = w.heap[i]?
      exact Array.getElem?_append_left hi
  obtain ⟨b0, hb0⟩ : ∃ b : ByteArray, b = ⟨(Lib.itoa (n : Int)).toArray⟩ := ⟨_, rfl⟩
  have hz : b0.size ≤ 21 := by
    rw [hb0]
    have := Lib.itoa_length_le (n : Int) (by omega) (by omega)
    show (List.toArray _).size ≤ 21
    simpa using this
  rw [← hb0]
  clear hw hb0
  go_wp2_with fail
  go_loop [3] (fun v3 => ∃ b : ByteArray, v3 = .string b ∧ b.size ≤ 24) (fun v3 => match v3 with | .string b => 3 - b.size | _ => 0)
  case atStart => exact ⟨b0, rfl, by omega⟩
  case round =>
    obtain ⟨b, rfl, hbz⟩ := hrel
    by_cases hlt : b.size < 3
    · go_wp2_with fail
      go_round
      case rel =>
        refine ⟨_, rfl, ?_⟩
        rw [ByteArray.size_append]
        show 1 + b.size ≤ 24
        omega
      case measure =>
        show 3 - ((⟨#[32]⟩ : ByteArray) ++ b).size < 3 - b.size
        rw [ByteArray.size_append]
        show 3 - (1 + b.size) < 3 - b.size
        omega
    · go_wp2_with fail
      go_ret
      exact ⟨b, rfl, hbz, hb⟩
end Go.Proofs.YtahcbeofaeflgaaGreatDoor
namespace Go.Proofs.YtahcbeofaeflgaaGreatDoor
open Go.RowKit

theorem resolve81_first (s : ByteArray) (gf pos : Nat) (w : World) (hs : s.size ≤ 2000) (hp : pos ≤ s.size) (hF : FileB w gf s (.slice none 0 0)) :
    Calls Tryz.prog 81 #[.pointer (some ⟨gf, 0, none⟩), .int .i64 (pos : Int)] w fun e w' => ∃ A c l, w.grownBy w' (some gf) ∧ Lined w' gf w.heap.size s A c l ∧ At l pos e :=
  resolve81 s gf w.heap.size pos w (fun w' _ _ _ => w.grownBy w' (some gf)) hs hp
    ((init93 s gf w hs hF).mono fun _ _ ⟨he, ⟨A, c, l, hl⟩, hg⟩ => ⟨he, A, c, l, hg, hl⟩)
theorem resolve81_again (s : ByteArray) (gf B pos : Nat) (w : World) (A : Option Addr) (c : Nat) (l : List ByteArray) (hs : s.size ≤ 2000) (hp : pos ≤ s.size) (hF : Lined w gf B s A c l) :
    Calls Tryz.prog 81 #[.pointer (some ⟨gf, 0, none⟩), .int .i64 (pos : Int)] w fun e w' => At l pos e ∧ w = w' :=
  (resolve81 s gf B pos w (fun w' A' c' l' => w = w' ∧ A' = A ∧ c' = c ∧ l' = l) hs hp
    ((init93_lined s gf B w A c l hF).mono fun _ _ ⟨he, hw⟩ => ⟨he, A, c, l, ⟨hw, rfl, rfl, rfl⟩, hw ▸ hF⟩)).mono
    fun _ _ ⟨_, _, _, ⟨hw, _, _, hl⟩, _, hat⟩ => ⟨hl ▸ hat, hw⟩

theorem Lined.on {w w' : World} {gf B : Nat} {s : ByteArray} {A : Option Addr} {c : Nat} {l : List ByteArray} (h : Lined w gf B s A c l) (hb : Below w.heap.size w w') : Lined w' gf B s A c l := by
  obtain ⟨h1, h2, h3, h4, h5⟩ := h
  exact ⟨(hb.block _ (lt_of_heap h1)).trans h1, h2.kept (row := none) ⟨hb.os, hb.tape, hb.output, hb.size, fun i hi _ => hb.block i hi⟩ (by cases hv : Value.ownBlock (.slice A (l.length + 1) c) <;> simp), h3, h4, h5⟩

/-- What the file's text and lines give a walk. -/
structure LineF (w : World) (gf : Nat) (s : ByteArray) (g c : Nat) (l : List ByteArray) : Prop where
  c0 : w.cell? ⟨gf, 0, none⟩ = some (.string ⟨#[]⟩)
  c1 : w.cell? ⟨gf, 1, none⟩ = some (.string s)
  c2 : w.cell? ⟨gf, 2, none⟩ = some (.slice (some ⟨g, 0, none⟩) (l.length + 1) c)
  at_ : ∀ j, j ≤ l.length → w.cell? ⟨g, j, none⟩ = some (.int .i64 (lineAt l j : Int))
theorem Lined.facts {w : World} {gf B : Nat} {s : ByteArray} {A : Option Addr} {c : Nat} {l : List ByteArray} (h : Lined w gf B s A c l) : ∃ g, A = some ⟨g, 0, none⟩ ∧ B ≤ g ∧ LineF w gf s g c l := by
  obtain ⟨h1, h2, h3, h4, h5⟩ := h
  obtain ⟨g, cap, hvf, hBg, _⟩ := World.ownsRow.form h2 (Nat.succ_pos _)
  injection hvf with e1 e2 e3
  subst e1
  refine ⟨g, rfl, hBg, cell_of h1 0, cell_of h1 1, cell_of h1 2, fun j hj => ?_⟩
  have h6 := h2.cells (g := g) rfl j (natV (lineAt l j)) (by rw [List.getElem?_map, lineL_at l _ j hj]; rfl)
  rw [add_cell] at h6; exact h6

/-- The cut of a line. -/
theorem line_cut (l : List ByteArray) (s : ByteArray) (k : Nat) (hk : k < l.length) (hsum : lenSum l = s.size + 1) : lineAt l k + 1 ≤ lineAt l (k + 1) ∧ lineAt l (k + 1) ≤ s.size + 1 := by
  have h1 := lineAt_succ l k hk
  have h2 := lineAt_le l (k + 1)
  omega

theorem below_dN {B : Nat} {w w' : World} (h : Below B w w') (n : Nat) : Below B w (w'.drewN n) := ⟨h.os, h.tape, h.output, h.size, h.block⟩
/-- The buffer of a position, in the block behind w1. -/
def BufS (w1 W : World) (n : Nat) : Prop := ∃ l2 : List UInt8, l2.length ≤ n ∧ Lib.IsBuffer 154 5 w1.heap.size w1.heap.size (Lib.byteCells l2) W ∧ Below w1.heap.size w1 W
theorem BufS.new (w1 : World) : BufS w1 (w1.alloc (.cells #[.slice none 0 0, .int .i64 0, .int .i8 0] 154)) 0 :=
  ⟨[], Nat.le_refl _, Lib.fresh_isBuffer 154 5 w1, (Below.refl _ w1).alloc (Nat.le_refl _) _⟩
theorem BufS.on {w1 W W' : World} {n : Nat} (h : BufS w1 W n) (hb : Below W.heap.size W W') : BufS w1 W' n := by
  obtain ⟨l2, h0, ⟨h1, v, lr, h2, h3, h4⟩, h5⟩ := h
  refine ⟨l2, h0, ⟨h1, v, lr, (hb.block _ (lt_of_heap h2)).trans h2, h3.kept (row := none) ⟨hb.os, hb.tape, hb.output, hb.size, fun i hi _ => hb.block i hi⟩ (by cases v.ownBlock <;> simp), h4⟩, h5.trans (hb.mono h5.size)⟩
theorem BufS.drewN {w1 W : World} {n : Nat} (h : BufS w1 W n) (k : Nat) : BufS w1 (W.drewN k) n := h.on (below_dN (Below.refl _ W) k)
theorem BufS.below {w1 W : World} {n : Nat} (h : BufS w1 W n) : Below w1.heap.size w1 W := h.choose_spec.2.2
theorem BufS.le {w1 W : World} {n m : Nat} (h : BufS w1 W n) (hm : n ≤ m) : BufS w1 W m := h.elim fun l2 ⟨h0, h1⟩ => ⟨l2, Nat.le_trans h0 hm, h1⟩
theorem BufS.lt {w1 W : World} {n : Nat} (h : BufS w1 W n) : w1.heap.size < W.heap.size := by
  obtain ⟨l2, h0, ⟨h1, v, lr, h2, h3, h4⟩, h5⟩ := h
  exact lt_of_heap h2
theorem write83 (w1 W : World) (n : Nat) (x : ByteArray) (h : BufS w1 W n) (hlim : n + x.size ≤ 100000000) :
    Calls Tryz.prog 83 #[.pointer (some ⟨w1.heap.size, 0, none⟩), .string x] W fun e w' => e = .returned (.tuple #[.int .i64 x.size, .nilIface]) ∧ BufS w1 w' (n + x.size) := by
  obtain ⟨l2, h0, h1, h5⟩ := h
  have hz : x.size = x.data.toList.length := by show x.data.size = _; simp
  refine (Tryz.Buffer_WriteString w1.heap.size w1.heap.size (Lib.byteCells l2) x W h1 h5.size (Lib.byteCells_one _) (by rw [Lib.byteCells_length]; omega)).mono ?_
  rintro e w' ⟨he, h6, h7⟩
  refine ⟨he, l2 ++ x.data.toList, by rw [List.length_append]; omega, ?_, h5.trans h7⟩
  rw [Lib.byteCells_append]; exact h6
theorem string86 (w1 W : World) (n : Nat) (h : BufS w1 W n) :
    Calls Tryz.prog 86 #[.pointer (some ⟨w1.heap.size, 0, none⟩)] W fun e w' => ∃ x, e = .returned (.string x) ∧ ∃ k, w' = W.drewN k := by
  obtain ⟨l2, h0, h1, h5⟩ := h
  exact (Tryz.Buffer_String w1.heap.size w1.heap.size l2 W h1).mono fun e w' ⟨he, hw⟩ => ⟨_, he, hw⟩
theorem rep85 (x : UInt8) (c : Nat) {cc : Int} (w : World) (hcc : cc = (c : Int)) (hc : c ≤ 100000) :
    Calls Tryz.prog 85 #[.string ⟨#[x]⟩, .int .i64 cc] w fun e w' => ∃ r : ByteArray, e = .returned (.string r) ∧ r.size ≤ c ∧ Below w.heap.size w w' := by
  subst hcc
  refine (Tryz.strings_Repeat ⟨#[x]⟩ c w (by omega) (by show 1 * c ≤ _; omega)).mono ?_
  rintro e w' ⟨he, hb⟩
  refine ⟨_, he, ?_, hb⟩
  show (List.toArray _).size ≤ c
  rw [List.size_toArray, Lib.repeatL_length]
  show c * 1 ≤ c
  omega
theorem pad84n (n B : Nat) {nn : Int} (w : World) (hnn : nn = (n : Int)) (hn : n ≤ 100000) (hT : TabB B w) :
    Calls Tryz.prog 84 #[.int .i64 nn] w fun e w' => ∃ b : ByteArray, e = .returned (.string b) ∧ b.size ≤ 24 ∧ Below w.heap.size w w' := by
  subst hnn; exact pad84 n B w hn hT

/-- What a place comes to. -/
def PosP (gf : Nat) (w : World) (e : Ending) (w' : World) : Prop :=
  ∃ (pp : Nat) (cs : Array Value) (n : Int), e = .returned (.pointer (some ⟨pp, 0, none⟩)) ∧ w'.heap[pp]? = some (.cells cs 59 (0, 0)) ∧ cs[1]? = some (.int .i64 n) ∧ w.heap.size ≤ pp ∧ w.grownBy w' (some gf)

set_option maxRecDepth 100000 in
set_option maxHeartbeats 4000000 in
theorem position75 (s : ByteArray) (gf a b B : Nat) (w : World) (hs : s.size ≤ 2000) (ha : a ≤ s.size) (hb : b ≤ s.size) (hF : FileB w gf s (.slice none 0 0)) (hB : B ≤ gf) (hT : TabB B w) :
    Calls Tryz.prog 75 #[.pointer (some ⟨gf, 0, none⟩), .int .i64 (a : Int), .int .i64 (b : Int)] w (PosP gf w) := by
  have hgf := lt_of_heap hF
  go_enter Tryz.func75, Tryz.ntmps75
  go_wp2_with fail
  refine (resolve81_first s gf a w hs ha hF).mono ?_
  rintro e w1 ⟨A, c, l, hg1, hL1, k, hk, hka, rfl⟩
  go_wp2_with fail
  refine (resolve81_again s gf w.heap.size b w1 A c l hs hb hL1).mono ?_
  rintro e w2 ⟨⟨k2, hk2, hkb, rfl⟩, rfl⟩
  have hT1 : TabB B w1 := hT.on ((Below.refl _ _).grown hg1 (by omega) (fun i hi => by injection hi with hi; omega))
  obtain ⟨g, rfl, hBg, hLF⟩ := hL1.facts
  have hsum := hL1.2.2.1
  have hl0 := hL1.2.2.2.1
  have hl1 := hL1.2.2.2.2
  have HL1 := Lib.hid hL1
  have HSUM := Lib.hid hsum
  clear hL1 hsum
  have hb1 : Below w1.heap.size w1 (w1.alloc (.cells #[.slice none 0 0, .int .i64 0, .int .i8 0] 154)) := (Below.refl _ w1).alloc (Nat.le_refl _) _
  have HTB : ∀ wx, Below w1.heap.size w1 wx → TabB B wx := fun wx h => hT1.on (h.mono (Nat.le_trans hB (Nat.le_trans (Nat.le_of_lt hgf) hg1.size)))
  go_upto_block 0 with (fail)
  go_cut [] (fun wx => ∃ n2, BufS w1 wx n2)
  case first =>
    by_cases hkk : k = k2
    · subst hkk
      have hq : ((k : Int) == (k : Int)) = true := by rw [beq_iff_eq]
      obtain ⟨g', hg', _, hLA⟩ := (HL1.out.on hb1).facts
      injection hg' with hg'; injection hg' with hg'
      subst hg'
      have d1 := hLA.c1
      have d2 := hLA.c2
      have m1 := hLA.at_ k (by omega)
      have m2 := hLA.at_ (k + 1) (by omega)
      have hcut := line_cut l s k hk HSUM.out
      have i1 : (k : Int) < ((l.length + 1 : Nat) : Int) := by omega
      have i2 : (k : Int) + 1 < ((l.length + 1 : Nat) : Int) := by omega
      have i3 : (0 : Int) ≤ (lineAt l k : Int) := by omega
      have i4 : (lineAt l k : Int) ≤ (lineAt l (k + 1) : Int) - 1 := by omega
      have i5 : (lineAt l (k + 1) : Int) - 1 ≤ (s.size : Int) := by omega
      have i6 : IntKind.i64.wrap ((lineAt l (k + 1) : Int) - 1) = (lineAt l (k + 1) : Int) - 1 := IntWalk.i64_in _ (by omega)
      have i7 : IntKind.i64.wrap ((k : Int) + 1) = (k : Int) + 1 := IntWalk.i64_in _ (by omega)
      have i8 : ((k : Int) + 1).toNat = k + 1 := by omega
      go_wp2_with (first | (go_at_call 82; refine (invalid82 a _).mono ?_; rintro e w' ⟨rfl, rfl⟩) | (go_at_call 82; refine (invalid82 b _).mono ?_; rintro e w' ⟨rfl, rfl⟩))
      go_quiet (fail)
      go_wp2_with fail
      refine (pad84n (k + 1) B _ (by omega) (by omega) (HTB _ (below_dN hb1 _))).mono ?_
      rintro e w3 ⟨p, rfl, hpz, hb3⟩
      have hS3 := ((BufS.new w1).drewN _).on hb3
      have z1 : (⟨#[124, 32, 32]⟩ : ByteArray).size = 3 := rfl
      have z2 : (⟨#[10]⟩ : ByteArray).size = 1 := rfl
      have z3 : (⟨#[32, 32, 32, 124, 32, 32]⟩ : ByteArray).size = 6 := rfl
      have z4 : (⟨#[94]⟩ : ByteArray).size = 1 := rfl
      go_wp2_with fail
      refine (write83 w1 w3 0 _ hS3 (by simp only [ByteArray.size_append, ByteArray.size_extract, z1, z2]; omega)).mono ?_
      rintro e w4 ⟨rfl, hS4⟩
      go_wp2_with fail
      refine (rep85 32 (a - lineAt l k) w4 (by omega) (by omega)).mono ?_
      rintro e w5 ⟨r1, rfl, hr1, hb5⟩
      have hS5 := hS4.on hb5
      go_wp2_with fail
      refine (rep85 126 (b - a - 1) w5 (by omega) (by omega)).mono ?_
      rintro e w6 ⟨r2, rfl, hr2, hb6⟩
      have hS6 := hS5.on hb6
      go_wp2_with fail
      refine (write83 w1 w6 _ _ hS6 (by simp only [ByteArray.size_append, ByteArray.size_extract, z1, z2, z3, z4]; omega)).mono ?_
      rintro e w7 ⟨rfl, hS7⟩
      go_wp2_with fail
      go_meet
      case rel => exact ⟨_, hS7⟩
    · have hq : ((k : Int) == (k2 : Int)) = false := by rw [beq_eq_false_iff_ne]; omega
      by_cases hlt : k < k2
      · have hlt2 : (k : Int) < (k2 : Int) := by omega
        go_wp2_with (first | (go_at_call 82; refine (invalid82 a _).mono ?_; rintro e w' ⟨rfl, rfl⟩) | (go_at_call 82; refine (invalid82 b _).mono ?_; rintro e w' ⟨rfl, rfl⟩))
        go_loopw [14] (fun v14 wr => ∃ j : Nat, v14 = .int .i64 j ∧ k ≤ j ∧ j ≤ k2 + 1 ∧ Hid (BufS w1 wr (5000 * (j - k)))) (fun v14 _ => k2 + 1 - (intOf v14).toNat)
        case atStart => exact ⟨k, rfl, Nat.le_refl _, by omega, by show BufS _ _ _; rw [Nat.sub_self]; exact BufS.new w1⟩
        case round =>
          obtain ⟨j, rfl, hj1, hj2, hS⟩ := hrel
          by_cases hjl : j ≤ k2
          · have hjI : (j : Int) ≤ (k2 : Int) := by omega
            have z1 : (⟨#[124, 32, 32]⟩ : ByteArray).size = 3 := rfl
            have z2 : (⟨#[10]⟩ : ByteArray).size = 1 := rfl
            by_cases hj0 : 0 < j
            · have hj0I : (0 : Int) < (j : Int) := by omega
              go_wp2_with fail
              refine (write83 w1 wr _ ⟨#[10]⟩ hS.out (by simp only [z2]; omega)).mono ?_
              rintro e wx ⟨rfl, hSx⟩
              obtain ⟨g', hg', _, hLA⟩ := (HL1.out.on hSx.below).facts
              injection hg' with hg'; injection hg' with hg'
              subst hg'
              have d1 := hLA.c1
              have d2 := hLA.c2
              have m1 := hLA.at_ j (by omega)
              have m2 := hLA.at_ (j + 1) (by omega)
              have hcut := line_cut l s j (by omega) HSUM.out
              have i1 : (j : Int) < ((l.length + 1 : Nat) : Int) := by omega
              have i2 : (j : Int) + 1 < ((l.length + 1 : Nat) : Int) := by omega
              have i3 : (0 : Int) ≤ (lineAt l j : Int) := by omega
              have i4 : (lineAt l j : Int) ≤ (lineAt l (j + 1) : Int) - 1 := by omega
              have i5 : (lineAt l (j + 1) : Int) - 1 ≤ (s.size : Int) := by omega
              have i6 : IntKind.i64.wrap ((lineAt l (j + 1) : Int) - 1) = (lineAt l (j + 1) : Int) - 1 := IntWalk.i64_in _ (by omega)
              have i7 : IntKind.i64.wrap ((j : Int) + 1) = (j : Int) + 1 := IntWalk.i64_in _ (by omega)
              have i8 : ((j : Int) + 1).toNat = j + 1 := by omega
              go_wp2_with fail
              go_quiet (fail)
              go_wp2_with fail
              refine (pad84n (j + 1) B _ (by omega) (by omega) (HTB _ (below_dN hSx.below _))).mono ?_
              rintro e w3 ⟨p, rfl, hpz, hb3⟩
              have hS3 := (hSx.drewN _).on hb3
              go_wp2_with fail
              refine (write83 w1 w3 _ _ hS3 (by simp only [ByteArray.size_append, ByteArray.size_extract, z1, z2]; omega)).mono ?_
              rintro e w4 ⟨rfl, hS4⟩
              have hS5 : BufS w1 w4 (5000 * (j + 1 - k)) := hS4.le (by simp only [ByteArray.size_append, ByteArray.size_extract, z1, z2]; omega)
              go_wp2_with fail
              go_roundw
              case rel => exact ⟨j + 1, by go_num, by omega, by omega, hS5⟩
              case measure => simp [intOf]; omega
            · have hj0I : ¬ (0 : Int) < (j : Int) := by omega
              have hSx := hS.out
              obtain ⟨g', hg', _, hLA⟩ := (HL1.out.on hSx.below).facts
              injection hg' with hg'; injection hg' with hg'
              subst hg'
              have d1 := hLA.c1
              have d2 := hLA.c2
              have m1 := hLA.at_ j (by omega)
              have m2 := hLA.at_ (j + 1) (by omega)
              have hcut := line_cut l s j (by omega) HSUM.out
              have i1 : (j : Int) < ((l.length + 1 : Nat) : Int) := by omega
              have i2 : (j : Int) + 1 < ((l.length + 1 : Nat) : Int) := by omega
              have i3 : (0 : Int) ≤ (lineAt l j : Int) := by omega
              have i4 : (lineAt l j : Int) ≤ (lineAt l (j + 1) : Int) - 1 := by omega
              have i5 : (lineAt l (j + 1) : Int) - 1 ≤ (s.size : Int) := by omega
              have i6 : IntKind.i64.wrap ((lineAt l (j + 1) : Int) - 1) = (lineAt l (j + 1) : Int) - 1 := IntWalk.i64_in _ (by omega)
              have i7 : IntKind.i64.wrap ((j : Int) + 1) = (j : Int) + 1 := IntWalk.i64_in _ (by omega)
              have i8 : ((j : Int) + 1).toNat = j + 1 := by omega
              go_wp2_with fail
              go_quiet (fail)
              go_wp2_with fail
              refine (pad84n (j + 1) B _ (by omega) (by omega) (HTB _ (below_dN hSx.below _))).mono ?_
              rintro e w3 ⟨p, rfl, hpz, hb3⟩
              have hS3 := (hSx.drewN _).on hb3
              go_wp2_with fail
              refine (write83 w1 w3 _ _ hS3 (by simp only [ByteArray.size_append, ByteArray.size_extract, z1]; omega)).mono ?_
              rintro e w4 ⟨rfl, hS4⟩
              have hS5 : BufS w1 w4 (5000 * (j + 1 - k)) := hS4.le (by simp only [ByteArray.size_append, ByteArray.size_extract, z1]; omega)
              go_wp2_with fail
              go_roundw
              case rel => exact ⟨j + 1, by go_num, by omega, by omega, hS5⟩
              case measure => simp [intOf]; omega
          · have hjI : ¬ (j : Int) ≤ (k2 : Int) := by omega
            go_wp2_with fail
            go_meet
            case rel => exact ⟨_, hS.out⟩
      · have hlt2 : ¬ (k : Int) < (k2 : Int) := by omega
        go_wp2_with (first | (go_at_call 82; refine (invalid82 a _).mono ?_; rintro e w' ⟨rfl, rfl⟩) | (go_at_call 82; refine (invalid82 b _).mono ?_; rintro e w' ⟨rfl, rfl⟩))
        go_meet
        case rel => exact ⟨_, BufS.new w1⟩
  case rest =>
    obtain ⟨n2, hS⟩ := hcut
    have hbc : Below w1.heap.size w1 wc := hS.below
    obtain ⟨g', hg', _, hLA⟩ := (HL1.out.on hbc).facts
    have d0 := hLA.c0
    go_wp2_with fail
    go_region_with (go_at_call 86; refine (string86 w1 _ n2 (hS.drewN 1)).mono ?_; rintro e w' ⟨x, rfl, kk, rfl⟩)
    all_goals (go_wp2_with fail)
    all_goals go_ret
    all_goals
      refine ⟨wc.heap.size, #[.string ⟨#[]⟩, .int .i64 a, .int .i64 b, .int .i64 k, .int .i64 ((a : Int) - lineAt l k), .int .i64 k2, .int .i64 ((b : Int) - lineAt l k2), .string x], (a : Int), rfl, ?_, rfl, Nat.le_trans hg1.size hbc.size, ?_⟩
      · exact heap_alloc_new (wc.drewN _) _
      · exact fr_alloc (fr_drewN (fr_trans hg1 (fr_below hbc (some gf))) _) _
end Go.Proofs.YtahcbeofaeflgaaGreatDoor
namespace Go.Proofs.YtahcbeofaeflgaaGreatDoor
open Go.RowKit

theorem Fr2.ofF {gl gf : Nat} {a b : World} (h : a.grownBy b (some gf)) : Fr2 gl gf a b :=
  ⟨h.os, h.tape, h.output, h.size, fun i hi _ h2 => h.block i hi (fun e => h2 (by injection e))⟩
/-- What an error comes to. -/
def ErrP (gl gf : Nat) (m : ByteArray) (w : World) (e : Ending) (w' : World) : Prop :=
  ∃ (pe pp : Nat) (cs : Array Value) (n : Int), e = .returned (.pointer (some ⟨pe, 0, none⟩)) ∧
    w'.heap[pe]? = some (.cells #[.string m, .pointer (some ⟨pp, 0, none⟩)] 57 (0, 0)) ∧ w'.heap[pp]? = some (.cells cs 59 (0, 0)) ∧ cs[1]? = some (.int .i64 n) ∧ w.heap.size ≤ pe ∧ w.heap.size ≤ pp ∧ Fr2 gl gf w w'
theorem ErrP.new {gl gf pp : Nat} {m : ByteArray} {w w1 : World} {cs : Array Value} {n : Int} (h1 : w1.heap[pp]? = some (.cells cs 59 (0, 0))) (h2 : cs[1]? = some (.int .i64 n)) (h3 : w.heap.size ≤ pp) (h4 : w.grownBy w1 (some gf)) :
    ErrP gl gf m w (.returned (.pointer (some ⟨w1.heap.size, 0, none⟩))) (w1.alloc (.cells #[.string m, .pointer (some ⟨pp, 0, none⟩)] 57)) :=
  ⟨w1.heap.size, pp, cs, n, rfl, heap_alloc_new w1 _, (Below.heap_alloc w1 _ pp (lt_of_heap h1)).trans h1, h2, h4.size, h3, Fr2.ofF (fr_alloc h4 _)⟩

set_option maxRecDepth 100000 in
set_option maxHeartbeats 1000000 in
theorem error73x (s : ByteArray) (gl gf : Nat) (t : St) (a b : Nat) (m : ByteArray) (w : World) (hP : Hid (PL s)) (hL : LX w gl gf s t) (hab : a ≤ b) (hb : b ≤ s.size) :
    Calls Tryz.prog 73 #[.pointer (some ⟨gl, 0, none⟩), .int .i64 (a : Int), .int .i64 (b : Int), .string m] w (ErrP gl gf m w) := by
  have c0 := hL.c0
  obtain ⟨B, _, hB2, hT⟩ := hL.gt
  have hf := Lib.hid hL.f
  go_enter Tryz.func73, Tryz.ntmps73
  go_wp2_with fail
  refine (position75 s gf a b B w hP.out.size (by omega) hb hf.out hB2 hT).mono ?_
  rintro e w1 ⟨pp, cs, n, rfl, h1, h2, h3, h4⟩
  go_wp2_with fail
  go_ret
  exact ErrP.new h1 h2 h3 h4

set_option maxRecDepth 100000 in
set_option maxHeartbeats 1000000 in
theorem error61x (s : ByteArray) (gl gf : Nat) (t : St) (m : ByteArray) (w : World) (hP : Hid (PL s)) (hL : LX w gl gf s t) (hb : t.pos ≤ s.size) :
    Calls Tryz.prog 61 #[.pointer (some ⟨gl, 0, none⟩), .string m] w (ErrP gl gf m w) := by
  go_enter Tryz.func61, Tryz.ntmps61
  go_wp2_with fail
  have hX : LX w.drew gl gf s t := hL.drew
  have hg : w.grownBy w.drew (some gf) := fr_drew (fr_refl w (some gf))
  have c0 := hX.c0
  have c9 := hX.c9
  obtain ⟨B, _, hB2, hT⟩ := hX.gt
  have hf := Lib.hid hX.f
  go_region_with (go_at_call 75; refine (position75 s gf t.pos t.pos B w.drew hP.out.size hb hb hf.out hB2 hT).mono ?_; rintro e w1 ⟨pp, cs, n, rfl, h1, h2, h3, h4⟩)
  all_goals (go_wp2_with fail; go_ret; exact ErrP.new h1 h2 (Nat.le_trans hg.size h3) (fr_trans hg h4))
end Go.Proofs.YtahcbeofaeflgaaGreatDoor
namespace Go.Proofs.YtahcbeofaeflgaaGreatDoor
open Go.RowKit
theorem error73 (s : ByteArray) (gl gf : Nat) (t : St) (a b : Nat) (m : ByteArray) (w : World) (hP : Hid (PL s)) (hL : LX w gl gf s t) (hab : a ≤ b) (hb : b ≤ s.size) :
    Calls Tryz.prog 73 #[.pointer (some ⟨gl, 0, none⟩), .int .i64 (a : Int), .int .i64 (b : Int), .string m] w fun e w' => ∃ (pe pp : Nat) (cs : Array Value) (n : Int), e = .returned (.pointer (some ⟨pe, 0, none⟩)) ∧
      w'.heap[pe]? = some (.cells #[.string m, .pointer (some ⟨pp, 0, none⟩)] 57 (0, 0)) ∧ w'.heap[pp]? = some (.cells cs 59 (0, 0)) ∧ cs[1]? = some (.int .i64 n) ∧ w.heap.size ≤ pe ∧ w.heap.size ≤ pp ∧ Fr2 gl gf w w' :=
  error73x s gl gf t a b m w hP hL hab hb
theorem error61 (s : ByteArray) (gl gf : Nat) (t : St) (m : ByteArray) (w : World) (hP : Hid (PL s)) (hL : LX w gl gf s t) (hb : t.pos ≤ s.size) :
    Calls Tryz.prog 61 #[.pointer (some ⟨gl, 0, none⟩), .string m] w fun e w' => ∃ (pe pp : Nat) (cs : Array Value) (n : Int), e = .returned (.pointer (some ⟨pe, 0, none⟩)) ∧
      w'.heap[pe]? = some (.cells #[.string m, .pointer (some ⟨pp, 0, none⟩)] 57 (0, 0)) ∧ w'.heap[pp]? = some (.cells cs 59 (0, 0)) ∧ cs[1]? = some (.int .i64 n) ∧ w.heap.size ≤ pe ∧ w.heap.size ≤ pp ∧ Fr2 gl gf w w' :=
  error61x s gl gf t m w hP hL hb
set_option maxRecDepth 100000 in
set_option maxHeartbeats 1000000 in
theorem panic67 (s : ByteArray) (gl gf : Nat) (t : St) (a b : Nat) (m : ByteArray) (w : World) (hP : Hid (PL s)) (hL : LX w gl gf s t) (hab : a ≤ b) (hb : b ≤ s.size) :
    Calls Tryz.prog 67 #[.pointer (some ⟨gl, 0, none⟩), .int .i64 (a : Int), .int .i64 (b : Int), .string m] w (Fault gl gf w) := by
  go_enter Tryz.func67, Tryz.ntmps67
  go_wp2_with fail
  refine (error73x s gl gf t a b m w hP hL hab hb).mono ?_
  rintro e w1 ⟨pe, pp, cs, n, rfl, h⟩
  go_wp2_with fail
  exact ⟨rfl, pe, pp, m, cs, n, rfl, h⟩
set_option maxRecDepth 100000 in
set_option maxHeartbeats 1000000 in
theorem panic69 (s : ByteArray) (gl gf : Nat) (t : St) (m : ByteArray) (w : World) (hP : Hid (PL s)) (hL : LX w gl gf s t) (hb : t.pos ≤ s.size) :
    Calls Tryz.prog 69 #[.pointer (some ⟨gl, 0, none⟩), .string m] w (Fault gl gf w) := by
  go_enter Tryz.func69, Tryz.ntmps69
  go_wp2_with fail
  refine (error61x s gl gf t m w hP hL hb).mono ?_
  rintro e w1 ⟨pe, pp, cs, n, rfl, h⟩
  go_wp2_with fail
  exact ⟨rfl, pe, pp, m, cs, n, rfl, h⟩
end Go.Proofs.YtahcbeofaeflgaaGreatDoor
