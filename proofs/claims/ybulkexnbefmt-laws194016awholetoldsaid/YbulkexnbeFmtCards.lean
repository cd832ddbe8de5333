/-
  DERIVED. GIVEN WITH THE SEED: THE CARDS: each row of YbulkexnbeFmtRows.lean that lists a variable, with what it lists TIED to the program's text (the seventh form; the later family's looks); each row that meets fmt, with fmt's text TOLD by the authors' own Lean function (tested against real Go, not proved from fmt's source: count such statements apart). THE CARD IS WHAT COUNTS. Prove the row's statement (the work); the ties are given (YbulkexnbeFmtTie.lean); close each card by the builder's one call (the guide's Derived/Test/ToyasCard.lean, 'card_holds'). Laid BY PROGRAM, IN A SANDBOX (cutbox-door.mjs). By AI agents, Wed Nov 11 2026. No macro, syntax, notation, axiom, sorry.
-/
import Derived.Test.YbulkexnbeFmtRows
import GoSem.ClaimSeven
namespace Go.Proofs.YbulkexnbeFmt
namespace Rows

/-- THE TOLD CARD OF 'guarantee.LawS194016AWhole'. -/
def lawS194016AWholeCard : Claim7 := { stood := { row := lawS194016AWholeRow, standIns := [], harness := (true, "0307de2809b96ab4f6716a38f2ca4e00f8f8824f8b28b219a13a9dcdb0da8dda"), looks := true }, told := true, goes := false }
def LawS194016AWholeToldSaid : Prop := Claim7.holds Ybaf.pinned (.plain (OpenSpec.ofChange lawS194016AWholeSpec)) lawS194016AWholeCard
/-- ITS FALSE NEIGHBOUR. Refute it at one input. -/
def LawS194016AWholeToldWrongFalsely : Prop := Claim7.holds Ybaf.pinned (.plain (OpenSpec.ofChange lawS194016AWholeWrong)) lawS194016AWholeCard
end Rows
end Go.Proofs.YbulkexnbeFmt
