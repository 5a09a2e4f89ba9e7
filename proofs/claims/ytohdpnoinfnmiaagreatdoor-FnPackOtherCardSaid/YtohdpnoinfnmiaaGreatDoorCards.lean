/-
  DERIVED. GIVEN WITH THE SEED: THE CARDS: each row of YtohdpnoinfnmiaaGreatDoorRows.lean that lists a variable, with what it lists TIED to the program's text (the seventh form; the later family's looks); each row that meets fmt, with fmt's text TOLD by the authors' own Lean function (tested against real Go, not proved from fmt's source: count such statements apart). THE CARD IS WHAT COUNTS. Prove the row's statement (the work); the ties are given (YtohdpnoinfnmiaaGreatDoorTie.lean); close each card by the builder's one call (the guide's Derived/Test/ToyasCard.lean, 'card_holds'). Laid BY PROGRAM, IN A SANDBOX (cutbox-door.mjs). By AI agents, Wed Nov 11 2026. No macro, syntax, notation, axiom, sorry.
-/
import Derived.Test.YtohdpnoinfnmiaaGreatDoorRows
import GoSem.ClaimSeven
namespace Go.Proofs.YtohdpnoinfnmiaaGreatDoor
namespace Rows

/-- THE TIED CARD OF 'laws.FnPackOther'. -/
def fnPackOtherCard : Claim7 := { stood := { row := fnPackOtherRow, standIns := [], harness := (true, "dbbb6ad0158da4f1343345514940716f6356770c5d9b4292b6d8d778e3b4bf78"), looks := true }, kinds := [], alts := [], laidByText := true, laidKinds := [.data, .data, .data, .sentinel, .sentinel, .sentinel, .sentinel, .sentinel, .sentinel, .sentinel, .sentinel, .sentinel, .sentinel, .sentinel, .data, .sentinel, .sentinel, .sentinel, .sentinel, .sentinel, .sentinel, .sentinel, .sentinel, .sentinel, .data, .data, .sentinel, .sentinel, .sentinel, .sentinel, .sentinel, .sentinel], laidTests := true, laidLooks := .later }
def FnPackOtherCardSaid : Prop := Claim7.holds Tryz.pinned (.plain (OpenSpec.ofChange fnPackOtherSpec)) fnPackOtherCard

/-- THE SECOND FORM's CARD OF 'laws.FnPackOther'. -/
def fnPackOtherUptoCard : Claim7 := { stood := { row := fnPackOtherUptoRow, standIns := [], harness := (true, "dbbb6ad0158da4f1343345514940716f6356770c5d9b4292b6d8d778e3b4bf78"), looks := true }, kinds := [], alts := [], laidByText := true, laidKinds := [.data, .data, .data, .sentinel, .sentinel, .sentinel, .sentinel, .sentinel, .sentinel, .sentinel, .sentinel, .sentinel, .sentinel, .sentinel, .data, .sentinel, .sentinel, .sentinel, .sentinel, .sentinel, .sentinel, .sentinel, .sentinel, .sentinel, .data, .data, .sentinel, .sentinel, .sentinel, .sentinel, .sentinel, .sentinel], laidTests := true, laidLooks := .later }
def FnPackOtherUptoCardSaid : Prop := Claim7.holds Tryz.pinned (.plain (OpenSpec.upto fnPackOtherSpec)) fnPackOtherUptoCard
end Rows
end Go.Proofs.YtohdpnoinfnmiaaGreatDoor
