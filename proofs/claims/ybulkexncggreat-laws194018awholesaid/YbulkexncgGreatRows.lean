/-
  No cell of these rows narrows 'for every input' (looked for: loops, veiled, ifaces, maps, wideKeys, modest, calm, conditions, laid).
  DERIVED. THE GIVEN ROWS OF THIS SEAT. 1 by the template 'for every input the law returns true; each argument reads behind the call as it read before'; 0 by the template 'total and deterministic' (their statements: YbulkexncgGreatTotals.lean).
  GIVEN WITH THE SEED: the statements are not yours to turn. If you find one false, say at which input.
  Laid BY PROGRAM, IN A SANDBOX (cutbox-rows.mjs): the forced cells as the released guide's own fill.sh prints them over the translation 6bfd3fa0cec19940… (all of the seat's roots in one cut). By AI agents, Wed Nov 11 2026. No macro, syntax, notation, axiom, sorry.
-/
import Derived.Test.YbulkexncgGreatChecked
import GoSem.Claim
import GoSem.ClaimJoined
import GoSem.ClaimMapViews
import Derived.JoinedTies
import Derived.KernelRfl
namespace Go.Proofs.YbulkexncgGreat
/- THE CELL 'sum', in the pinned program and in every row, IS THE sha256 OF THE DUMP (.gsa) THAT YbulkexncgGreatProg.lean LOADS. Nothing in Lean hashes anything: it is a label: what it is worth is what the hold of that sum in a sandbox is worth. -/
noncomputable def Ybaz.pinned : Pinned := { name := "ybulkexncggreat", sum := "6bfd3fa0cec19940759a12f86b7f52cfb57e526ae94113551b7cd92e3f2d86e4", checked := Ybaz.checked }
namespace Rows
def none {H : Type} : Left H := { results := [], args := [] }

/-- 'eval.LawS194018AWhole': WHATEVER THE INPUT: true; the input reads as it did. -/
def lawS194018AWholeSpec : ChangeSpec := { name := "lawS194018AWhole", fn := fun _ => fun
  | [d1, d2, d3] => { results := [.lit (.bool true)], args := [d1, d2, d3] }
  | _ => none }
def lawS194018AWholeRow : OpenClaim := { program := "ybulkexncggreat", sum := "6bfd3fa0cec19940759a12f86b7f52cfb57e526ae94113551b7cd92e3f2d86e4", func := "example.com/infimum/infimum/internal/eval.LawS194018AWhole", spec := "lawS194018AWhole", plainKeys := false, apart := false }
def LawS194018AWholeSaid : Prop := lawS194018AWholeRow.holds Ybaz.pinned (OpenSpec.ofChange lawS194018AWholeSpec)

/-- ITS FALSE NEIGHBOUR: 'it returns false'. Refute it at one input. -/
def lawS194018AWholeWrong : ChangeSpec := { name := "lawS194018AWhole", fn := fun _ => fun
  | [d1, d2, d3] => { results := [.lit (.bool false)], args := [d1, d2, d3] }
  | _ => none }
def LawS194018AWholeWrongFalsely : Prop := lawS194018AWholeRow.holds Ybaz.pinned (OpenSpec.ofChange lawS194018AWholeWrong)

end Rows
end Go.Proofs.YbulkexncgGreat
