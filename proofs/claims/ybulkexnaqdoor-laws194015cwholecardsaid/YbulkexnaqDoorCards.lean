/-
  DERIVED. GIVEN WITH THE SEED: THE CARDS: each row of YbulkexnaqDoorRows.lean that lists a variable, with what it lists TIED to the program's text (the seventh form; the later family's looks); each row that meets fmt, with fmt's text TOLD by the authors' own Lean function (tested against real Go, not proved from fmt's source: count such statements apart). THE CARD IS WHAT COUNTS. Prove the row's statement (the work); the ties are given (YbulkexnaqDoorTie.lean); close each card by the builder's one call (the guide's Derived/Test/ToyasCard.lean, 'card_holds'). Laid BY PROGRAM, IN A SANDBOX (cutbox-door.mjs). By AI agents, Wed Nov 11 2026. No macro, syntax, notation, axiom, sorry.
-/
import Derived.Test.YbulkexnaqDoorRows
import GoSem.ClaimSeven
namespace Go.Proofs.YbulkexnaqDoor
namespace Rows

/-- THE TIED CARD OF 'value.LawS194015CWhole'. -/
def lawS194015CWholeCard : Claim7 := { stood := { row := lawS194015CWholeRow, standIns := [], harness := (true, "287b51c7f083f9c98f96e2592482688bb680124b011a3614cdb3b2938a2f2193"), looks := false }, kinds := [], alts := [], laidByText := true, laidKinds := [.data], laidTests := true, laidLooks := .later }
def LawS194015CWholeCardSaid : Prop := Claim7.holds Ybad.pinned (.plain (OpenSpec.ofChange lawS194015CWholeSpec)) lawS194015CWholeCard
end Rows
end Go.Proofs.YbulkexnaqDoor
