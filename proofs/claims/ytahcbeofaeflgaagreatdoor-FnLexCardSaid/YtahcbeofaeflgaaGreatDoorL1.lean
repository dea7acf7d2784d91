/-
PROVED: for every string s, the law FnLex (the reader of the specification and the reader of the implementation come to the same tokens on s) returns true, and the string reads as before; CONDITIONS: none beyond the statement's own (the listed package variables read as the program's text lays them).
-/
import Derived.Test.YtahcbeofaeflgaaGreatDoorK3
import Derived.Test.YtahcbeofaeflgaaGreatDoorCards
import Derived.Test.YtahcbeofaeflgaaGreatDoorTie
import Derived.ProofKit
import Derived.OpenShut
import Derived.LaidMore
import Derived.LaidHandle
import Derived.Lay
import Derived.SevenTiedAt
import Derived.Stop.Joined
import Derived.Lib.LaidTab
import Derived.Lib.LaidU8
namespace Go.Proofs.YtahcbeofaeflgaaGreatDoor
open Go.ChangeShapes Go.WideShapes Go.ChangeAt Go.RowKit
open Go.ChangeMaps (open_string shut_string)

theorem L.own : ownKnob Tryz.prog.godebug = none := by kernel_rfl
theorem L.rt : (Tryz.prog.cutTypes.find? (·.1 == "internal/reflectlite.rtype")).map (·.2) = some 108 := by kernel_rfl
theorem L.size : Tryz.prog.types.size = 228 := by kernel_rfl
theorem L.oneRow : ((List.range 228).filter fun t => Tryz.prog.rowNamed t [101, 114, 114, 111, 114]) = [41] := by kernel_rfl
theorem L.et : Tryz.prog.globalNamed "errors.errorType" = some 0 := by kernel_rfl
theorem L.pt : Tryz.prog.globalNamed "internal/strconv.uint64pow10" = some 8 := by kernel_rfl
theorem L.hd : typeHandle Tryz.prog 41 = .pointer (some ⟨12, 41, none⟩) := by kernel_rfl

/-- The listed variables but the one handle. -/
def plainL : List (String × DataW Unit) := [("math/bits.deBruijn32tab", Rows.laid_math_bits_deBruijn32tab), ("math/bits.deBruijn64tab", Rows.laid_math_bits_deBruijn64tab), ("internal/strconv.uint64pow10", Rows.laid_internal_strconv_uint64pow10), ("unicode/utf8.acceptRanges", Rows.laid_unicode_utf8_acceptRanges), ("strconv.ErrRange", Rows.laid_strconv_ErrRange), ("strconv.ErrSyntax", Rows.laid_strconv_ErrSyntax), ("unicode.White_Space", Rows.laid_unicode_White_Space), ("bytes.ErrTooLarge", Rows.laid_bytes_ErrTooLarge), ("unicode/utf8.first", Rows.laid_unicode_utf8_first)]
theorem plain_eq : (Rows.fnLexRow.laid.filter fun x => x.2.handleName?.isNone) = plainL := by kernel_rfl
theorem handle_eq : (Rows.fnLexRow.laid.filter fun x => x.2.handleName?.isSome) = [("errors.errorType", Rows.laid_errors_errorType)] := by kernel_rfl
theorem halves {W : World} (h : laidMetH Tryz.prog Rows.fnLexRow.laid W) : laidMet Tryz.prog plainL W ∧ handlesMet Tryz.prog [("errors.errorType", Rows.laid_errors_errorType)] W := by
  unfold laidMetH at h
  rw [handle_eq, plain_eq] at h
  exact h
/-- What the row's list gives a walk: the handle's cell. -/
theorem err_of {W : World} (h : laidMetH Tryz.prog Rows.fnLexRow.laid W) : W.cell? ⟨0, 0, none⟩ = some errT := by
  obtain ⟨name, u, ty, e1, e2, e3, e4, e5⟩ := (halves h).2 _ (List.mem_singleton.2 rfl)
  have en : name = [101, 114, 114, 111, 114] := (Option.some.inj e1).symm
  subst en
  obtain rfl := Option.some.inj (L.rt.symm.trans e2)
  have hm : ty ∈ (List.range 228).filter fun t => Tryz.prog.rowNamed t [101, 114, 114, 111, 114] := List.mem_filter.2 ⟨List.mem_range.2 (by rw [← L.size]; exact e3), e4⟩
  rw [L.oneRow] at hm
  obtain rfl := List.mem_singleton.1 hm
  rw [L.hd] at e5
  have := World.var?_cell L.et e5 0
  simpa [errT] using this
theorem pow_eq : Rows.laid_internal_strconv_uint64pow10 = (Lib.tabData .u64 pow10 : DataW Unit) := rfl
set_option maxRecDepth 100000 in
/-- What it gives besides: the table of the powers of ten, in every world that keeps the start's blocks. -/
theorem tab_of {W : World} (h : laidMetH Tryz.prog Rows.fnLexRow.laid W) : TabB W.heap.size W := by
  intro W' hb
  obtain ⟨g, t, cs, fuel, p, h1, h2, h3, h4⟩ := Lib.laidMet.reads (halves h).1 (n := "internal/strconv.uint64pow10") (d := Rows.laid_internal_strconv_uint64pow10) (.tail _ (.tail _ (.head _)))
  obtain rfl := Option.some.inj (L.pt.symm.trans h1)
  obtain rfl := Option.some.inj ((show (Tryz.prog.globals[8]?).map (·.type) = some 197 by kernel_rfl).symm.trans h2)
  rw [pow_eq] at h4
  have hcs := Lib.cells_of_tab (zs := pow10) Tryz.underlying197 Tryz.underlying125 (by kernel_rfl) (by kernel_rfl) h4
  unfold Lib.TabIs
  rw [← hcs]
  unfold World.var? at h3 ⊢
  rw [h1] at h3 ⊢
  simp only [Option.bind_some] at h3 ⊢
  have hlt : 8 < W.heap.size := by
    rcases Nat.lt_or_ge 8 W.heap.size with h | h
    · exact h
    · rw [Array.getElem?_eq_none h] at h3; cases h3
  rw [hb.block 8 hlt, h3]

/-- A start for the witness: the settled world, the handle's cell laid by hand, the other listed variables by the kit's function. -/
noncomputable def base0 (os : Os) : World :=
  let w0 := World.holding Tryz.prog os ⟨#[], #[], []⟩
  { w0 with heap := w0.heap.modify 0 fun
      | .cells _ t frozen => .cells #[errT] t frozen
      | o => o }
noncomputable def laidW (os : Os) : World := (base0 os).layVars Tryz.prog plainL
theorem plain_met (os : Os) (args : Array Value) : laidMet Tryz.prog plainL ((laidW os).forCall (fun _ _ => 0) ⟨#[], args, []⟩).memory := by
  have e1 : (plainL.filter fun x => (plainL.map (·.1)).contains x.1) = plainL := by kernel_rfl
  have e2 : (plainL.filter fun x => !(plainL.map (·.1)).contains x.1) = [] := by kernel_rfl
  have h : laidMet Tryz.prog plainL (laidW os) := laidMet_layVars (w0 := base0 os) (plainL.map (·.1)) [] (by rw [e1]; rfl) (by rw [e1]; kernel_rfl) (by rw [e1]; kernel_rfl) (by rw [e2]; exact LaidIn.none)
  exact h.of_heap (by simp [World.memory, World.forCall, Input.heap])
theorem met (os : Os) (args : Array Value) : laidMetH Tryz.prog Rows.fnLexRow.laid ((laidW os).forCall (fun _ _ => 0) ⟨#[], args, []⟩).memory :=
  laidMetH_of_parts (by rw [plain_eq]; exact plain_met os args) (by rw [handle_eq]; kernel_rfl)

set_option maxRecDepth 100000 in
theorem lifted (os : Os) (started : os.Started) (H : Type) (enc : TypeId × Value → H) :
    ReturnsInHanded {} Tryz.checked os 3 .any (fun w args => (Rows.fnLexSpec.pre enc Tryz.prog Tryz.f3 Rows.fnLexRow.domain false w args ∧ laidMetH Tryz.prog Rows.fnLexRow.laid w) ∧ sizedMet enc Tryz.prog Tryz.f3 (OpenSpec.ofChange Rows.fnLexSpec) false w args)
      (Rows.fnLexSpec.post enc Tryz.prog Tryz.f3 false true false false) := by
  refine returnsInHanded_of_change_and (C := Tryz.checked) (X := fun w _ => laidMetH Tryz.prog Rows.fnLexRow.laid w) (fun _ _ _ hh h => h.of_heap hh) L.own started (by kernel_rfl) Tryz.func3
    (ChangeSpec.witness_shaped (enc := enc) (C := Tryz.checked) (os := os) (X := fun w _ => laidMetH Tryz.prog Rows.fnLexRow.laid w) false (laidW os) #[.string ⟨#[]⟩] 8 (World.layVars_os _ _ _)
      (World.shaped_of_ZipB (by kernel_rfl) (by kernel_rfl)) (by kernel_rfl) (by kernel_rfl) (by kernel_rfl)
      (met os _)) ?_
  intro W base args ds gs before hval0 hW _ _ hL _
  have hval : ∀ (j : Nat) t v, Tryz.f3.params[j]? = some t → args[j]? = some v → Value.okWide Tryz.prog W .any base t v := hval0
  have hW' := hW
  obtain ⟨p, q, hA0, hV, rfl, _, _⟩ := hW
  have hA : DataW.TrodAll enc Tryz.prog W 0 (fun _ => true) true Tryz.f3.params.toList args.toList ds p := hA0
  rw [Tryz.params3] at hA hval
  obtain ⟨v0, d0, rfl, rfl, h0⟩ := trodAll_one hA
  obtain ⟨rfl, rfl⟩ := trodVars_none hV
  obtain ⟨s, rfl, rfl, rfl, ws⟩ := open_string Tryz.underlying9 (hval 0 9 v0 rfl rfl) h0
  clear hA0 hval0
  simp only [List.append_nil] at hW'
  refine (fnLex3 s W (tab_of hL) (err_of hL)).mono ?_
  rintro e W' ⟨rfl, bel⟩
  refine ⟨_, rfl, _, _, _, [], [], [], hW', ?_, ?_, ?_, bel.frame _, fun h => by cases h⟩
  · exact trodAll_mk1 (shut_bool Tryz.underlying4 _)
  · exact trodAll_mk1 (shut_string Tryz.underlying9 ws)
  · rfl

theorem said : Rows.FnLexSaid :=
  OpenClaim.holds_of_wide 3 Tryz.f3 rfl rfl rfl rfl rfl rfl rfl ⟨rfl, rfl, rfl, rfl, rfl⟩ rfl rfl rfl rfl rfl (by kernel_rfl) Tryz.func3 (by kernel_rfl)
    (of_decide_eq_true (by kernel_rfl)) (by unfold Func.isWrapper; first | (rw [if_pos (by decide +kernel)]; kernel_rfl) | (rw [if_neg (by decide +kernel)]; exact ⟨rfl, rfl⟩))
    (fun os started H enc _ => lifted os started H enc)

theorem plain (f : FuncId) (fn : Func) (hf : Tryz.pinned.checked.prog.funcNamed "pub-plashing/laws.FnLex" = some f) (hfn : Tryz.pinned.checked.prog.funcs[f]? = some fn) :
    true = Tryz.pinned.checked.prog.looks [] ∧ ∀ (j : Nat) t, fn.params[j]? = some t → Tryz.pinned.checked.prog.wantsStandIn t = false := by
  obtain rfl : f = 3 := Option.some.inj ((show Tryz.prog.funcNamed "pub-plashing/laws.FnLex" = some 3 by kernel_rfl).symm.trans hf) |>.symm
  obtain rfl : fn = Tryz.f3 := (Option.some.inj (Tryz.func3.symm.trans hfn)).symm
  refine ⟨by kernel_rfl, fun j t ht => ?_⟩
  rw [Tryz.params3] at ht
  obtain rfl : t = 9 := by simpa using Array.mem_of_getElem? ht
  exact (show Tryz.prog.wantsStandIn 9 = false by kernel_rfl)

/-- The card of 'laws.FnLex'. -/
theorem fnLexCard : Rows.FnLexCardSaid :=
  Claim7.holds_tied_plain_at .later [] _ _ _ _ said (fun _ h => by cases h) (by kernel_rfl) (fun _ h => by cases h) fnLex_row_tie rfl ⟨rfl, rfl⟩ (by kernel_rfl) rfl plain (by kernel_rfl)
#print axioms fnLexCard
end Go.Proofs.YtahcbeofaeflgaaGreatDoor
