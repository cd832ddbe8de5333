/-
  No cell of these rows narrows 'for every input' (looked for: loops, veiled, ifaces, maps, wideKeys, modest, calm, conditions, laid).
  DERIVED. THE GIVEN ROWS OF THIS SEAT. 1 by the template 'for every input the law returns true; each argument reads behind the call as it read before'; 0 by the template 'total and deterministic' (their statements: YbulkexnbeTotals.lean).
  GIVEN WITH THE SEED: the statements are not yours to turn. If you find one false, say at which input.
  Laid BY PROGRAM, IN A SANDBOX (cutbox-rows.mjs): the forced cells as the released guide's own fill.sh prints them over the translation c4bba2094915f8be… (all of the seat's roots in one cut). By AI agents, Wed Nov 11 2026. No macro, syntax, notation, axiom, sorry.
-/
import Derived.Test.YbulkexnbeChecked
import GoSem.Claim
import GoSem.ClaimJoined
import GoSem.ClaimMapViews
import Derived.JoinedTies
import Derived.KernelRfl
namespace Go.Proofs.Ybulkexnbe
/- THE CELL 'sum', in the pinned program and in every row, IS THE sha256 OF THE DUMP (.gsa) THAT YbulkexnbeProg.lean LOADS. Nothing in Lean hashes anything: it is a label: what it is worth is what the hold of that sum in a sandbox is worth. -/
noncomputable def Yba.pinned : Pinned := { name := "ybulkexnbe", sum := "c4bba2094915f8be233373a860a83d54f28eaf95f6ddd135798467a067a5e642", checked := Yba.checked }
namespace Rows
def none {H : Type} : Left H := { results := [], args := [] }

/-- 'planner.LawS194016CWhole': WHATEVER THE INPUT: true; the input reads as it did. -/
def lawS194016CWholeSpec : ChangeSpec := { name := "lawS194016CWhole", fn := fun _ => fun
  | [d1, d2, d3, d4, d5, d6] => { results := [.lit (.bool true)], args := [d1, d2, d3, d4, d5, d6] }
  | _ => none }
def lawS194016CWholeRow : OpenClaim := { program := "ybulkexnbe", sum := "c4bba2094915f8be233373a860a83d54f28eaf95f6ddd135798467a067a5e642", func := "example.com/tenure/tenure/admission/internal/planner.LawS194016CWhole", spec := "lawS194016CWhole", inPlace := ["slices.overlaps[int]"], unfollowed := true, recurses := true, apart := false }
def LawS194016CWholeSaid : Prop := lawS194016CWholeRow.holds Yba.pinned (OpenSpec.ofChange lawS194016CWholeSpec)

/-- ITS FALSE NEIGHBOUR: 'it returns false'. Refute it at one input. -/
def lawS194016CWholeWrong : ChangeSpec := { name := "lawS194016CWhole", fn := fun _ => fun
  | [d1, d2, d3, d4, d5, d6] => { results := [.lit (.bool false)], args := [d1, d2, d3, d4, d5, d6] }
  | _ => none }
def LawS194016CWholeWrongFalsely : Prop := lawS194016CWholeRow.holds Yba.pinned (OpenSpec.ofChange lawS194016CWholeWrong)

end Rows
end Go.Proofs.Ybulkexnbe
