/-
  No cell of these rows narrows 'for every input' (looked for: loops, veiled, ifaces, maps, wideKeys, modest, calm, conditions, laid).
  DERIVED. THE GIVEN ROWS OF THIS SEAT. 1 by the template 'for every input the law returns true; each argument reads behind the call as it read before'; 0 by the template 'total and deterministic' (their statements: YbulkexnbeFmtTotals.lean).
  GIVEN WITH THE SEED: the statements are not yours to turn. If you find one false, say at which input.
  Laid BY PROGRAM, IN A SANDBOX (cutbox-rows.mjs): the forced cells as the released guide's own fill.sh prints them over the translation 9de621d7b5d0dbb2… (all of the seat's roots in one cut). By AI agents, Wed Nov 11 2026. No macro, syntax, notation, axiom, sorry.
-/
import Derived.Test.YbulkexnbeFmtChecked
import GoSem.Claim
import GoSem.ClaimJoined
import GoSem.ClaimMapViews
import Derived.JoinedTies
import Derived.KernelRfl
namespace Go.Proofs.YbulkexnbeFmt
/- THE CELL 'sum', in the pinned program and in every row, IS THE sha256 OF THE DUMP (.gsa) THAT YbulkexnbeFmtProg.lean LOADS. Nothing in Lean hashes anything: it is a label: what it is worth is what the hold of that sum in a sandbox is worth. -/
noncomputable def Ybaf.pinned : Pinned := { name := "ybulkexnbefmt", sum := "9de621d7b5d0dbb2fa4e2f369cab552822b90aab8ad5dbc56fc143324e4aa8f2", checked := Ybaf.checked }
namespace Rows
def none {H : Type} : Left H := { results := [], args := [] }

/-- 'guarantee.LawS194016AWhole': WHATEVER THE INPUT: true; the input reads as it did. -/
def lawS194016AWholeSpec : ChangeSpec := { name := "lawS194016AWhole", fn := fun _ => fun
  | [d1, d2, d3, d4] => { results := [.lit (.bool true)], args := [d1, d2, d3, d4] }
  | _ => none }
def lawS194016AWholeRow : OpenClaim := { program := "ybulkexnbefmt", sum := "9de621d7b5d0dbb2fa4e2f369cab552822b90aab8ad5dbc56fc143324e4aa8f2", func := "example.com/tenure/tenure/guarantee.LawS194016AWhole", spec := "lawS194016AWhole", stops := ["fmt.Sprintf"], inPlace := ["fmt.Sprintf", "internal/abi.NoEscape", "internal/bytealg.MakeNoZero"], apart := false }
/-- NO THEOREM (fmt's text is open here; it may be false): for the released tool's asking of the row's closed facts alone. THE STATEMENT IS 'LawS194016AWholeToldSaid' (YbulkexnbeFmtCards.lean). -/
def LawS194016AWholeFormAsk : Prop := lawS194016AWholeRow.holds Ybaf.pinned (OpenSpec.ofChange lawS194016AWholeSpec)

/-- ITS FALSE NEIGHBOUR: 'it returns false'. Refute it at one input. -/
def lawS194016AWholeWrong : ChangeSpec := { name := "lawS194016AWhole", fn := fun _ => fun
  | [d1, d2, d3, d4] => { results := [.lit (.bool false)], args := [d1, d2, d3, d4] }
  | _ => none }
def LawS194016AWholeWrongFormAsk : Prop := lawS194016AWholeRow.holds Ybaf.pinned (OpenSpec.ofChange lawS194016AWholeWrong)

end Rows
end Go.Proofs.YbulkexnbeFmt
