/-
  DERIVED. GIVEN WITH THE SEED: THE CARDS: each row of YbulkrziDoorRows.lean that lists a variable, with what it lists TIED to the program's text (the seventh form; the later family's looks); each row that meets fmt, with fmt's text TOLD by the authors' own Lean function (tested against real Go, not proved from fmt's source: count such statements apart). THE CARD IS WHAT COUNTS. Prove the row's statement (the work); the ties are given (YbulkrziDoorTie.lean); close each card by the builder's one call (the guide's Derived/Test/ToyasCard.lean, 'card_holds'). Laid BY PROGRAM, IN A SANDBOX (cutbox-door.mjs). By AI agents, Wed Nov 11 2026. No macro, syntax, notation, axiom, sorry.
-/
import Derived.Test.YbulkrziDoorRows
import GoSem.ClaimSeven
namespace Go.Proofs.YbulkrziDoor
namespace Rows

/-- THE TIED CARD OF 'countersign.LawS0918CReadAfter'. -/
def lawS0918CReadAfterCard : Claim7 := { stood := { row := lawS0918CReadAfterRow, standIns := [], harness := (true, "27ad4bf713076451d6efbdea1d4256d5872acc2cf0cd462157fdcceda4b54c19"), looks := false }, kinds := [], alts := [], laidByText := true, laidKinds := [.sentinel], laidTests := true, laidLooks := .later }
def LawS0918CReadAfterCardSaid : Prop := Claim7.holds Ybad.pinned (.plain (OpenSpec.ofChange lawS0918CReadAfterSpec)) lawS0918CReadAfterCard
end Rows
end Go.Proofs.YbulkrziDoor
