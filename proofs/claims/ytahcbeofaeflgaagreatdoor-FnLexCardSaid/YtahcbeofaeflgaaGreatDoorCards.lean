/-
  DERIVED. GIVEN WITH THE SEED: THE CARDS: each row of YtahcbeofaeflgaaGreatDoorRows.lean that lists a variable, with what it lists TIED to the program's text (the seventh form; the later family's looks); each row that meets fmt, with fmt's text TOLD by the authors' own Lean function (tested against real Go, not proved from fmt's source: count such statements apart). THE CARD IS WHAT COUNTS. Prove the row's statement (the work); the ties are given (YtahcbeofaeflgaaGreatDoorTie.lean); close each card by the builder's one call (the guide's Derived/Test/ToyasCard.lean, 'card_holds'). Laid BY PROGRAM, IN A SANDBOX (cutbox-door.mjs). By AI agents, Wed Nov 11 2026. No macro, syntax, notation, axiom, sorry.
-/
import Derived.Test.YtahcbeofaeflgaaGreatDoorRows
import GoSem.ClaimSeven
namespace Go.Proofs.YtahcbeofaeflgaaGreatDoor
namespace Rows

/-- THE TIED CARD OF 'laws.FnLex'. -/
def fnLexCard : Claim7 := { stood := { row := fnLexRow, standIns := [], harness := (true, "261489bcf40f81ed22ecea3c151ad723e17dfec7660057685054aeaf2d7a126f"), looks := true }, kinds := [], alts := [], laidByText := true, laidKinds := [.data, .data, .data, .data, .handle, .sentinel, .sentinel, .listed, .sentinel, .pinned], laidTests := true, laidLooks := .later }
def FnLexCardSaid : Prop := Claim7.holds Tryz.pinned (.plain (OpenSpec.ofChange fnLexSpec)) fnLexCard

/-- THE SECOND FORM's CARD OF 'laws.FnLex'. -/
def fnLexUptoCard : Claim7 := { stood := { row := fnLexUptoRow, standIns := [], harness := (true, "261489bcf40f81ed22ecea3c151ad723e17dfec7660057685054aeaf2d7a126f"), looks := true }, kinds := [], alts := [], laidByText := true, laidKinds := [.data, .data, .data, .data, .handle, .sentinel, .sentinel, .listed, .sentinel, .pinned], laidTests := true, laidLooks := .later }
def FnLexUptoCardSaid : Prop := Claim7.holds Tryz.pinned (.plain (OpenSpec.upto fnLexSpec)) fnLexUptoCard
end Rows
end Go.Proofs.YtahcbeofaeflgaaGreatDoor
