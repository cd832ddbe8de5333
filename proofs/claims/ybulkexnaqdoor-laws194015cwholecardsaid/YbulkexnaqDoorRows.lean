/-
  NARROWER THAN 'FOR EVERY INPUT', by the rows' own cells (each row's printed sentence says how): LawS194015CWhole: laid.
  DERIVED. THE GIVEN ROWS OF THIS SEAT. 1 by the template 'for every input the law returns true; each argument reads behind the call as it read before'; 0 by the template 'total and deterministic' (their statements: YbulkexnaqDoorTotals.lean).
  GIVEN WITH THE SEED: the statements are not yours to turn. If you find one false, say at which input.
  Laid BY PROGRAM, IN A SANDBOX (cutbox-rows.mjs): the forced cells as the released guide's own fill.sh prints them over the translation bda061024b1b7dbf… (all of the seat's roots in one cut). By AI agents, Wed Nov 11 2026. No macro, syntax, notation, axiom, sorry.
-/
import Derived.Test.YbulkexnaqDoorChecked
import GoSem.Claim
import GoSem.ClaimJoined
import GoSem.ClaimMapViews
import Derived.JoinedTies
import Derived.KernelRfl
namespace Go.Proofs.YbulkexnaqDoor
/- THE CELL 'sum', in the pinned program and in every row, IS THE sha256 OF THE DUMP (.gsa) THAT YbulkexnaqDoorProg.lean LOADS. Nothing in Lean hashes anything: it is a label: what it is worth is what the hold of that sum in a sandbox is worth. -/
noncomputable def Ybad.pinned : Pinned := { name := "ybulkexnaqdoor", sum := "bda061024b1b7dbf4ea6e847d84e695e84ffa1614b0ca4ac63198e5c7461c356", checked := Ybad.checked }
namespace Rows
def none {H : Type} : Left H := { results := [], args := [] }

/- WHAT THE LISTED PACKAGE-LEVEL VARIABLES READ AS WHEN THE CALL BEGINS. Each datum BY PROGRAM (the guide's laid-datum.mjs) off the statement by which the dump's own 'gosem.cut.vars' lays the variable. In a bare row this is a premise. The card (YbulkexnaqDoorCards.lean) ties it to the program's text. -/
def laid_example_com_castwright_castwright_internal_value_monthDays {H : Type} : DataW H := .agg [.lit (.int .i64 31), .lit (.int .i64 28), .lit (.int .i64 31), .lit (.int .i64 30), .lit (.int .i64 31), .lit (.int .i64 30), .lit (.int .i64 31), .lit (.int .i64 31), .lit (.int .i64 30), .lit (.int .i64 31), .lit (.int .i64 30), .lit (.int .i64 31)]

/-- 'value.LawS194015CWhole': WHATEVER THE INPUT: true; the input reads as it did. -/
def lawS194015CWholeSpec : ChangeSpec := { name := "lawS194015CWhole", vars := ["example.com/castwright/castwright/internal/value.monthDays"], fn := fun _ => fun
  | [d1, d2, d3, d4, d5, d6, d7, d8, d9, d10, g1] => { results := [.lit (.bool true)], args := [d1, d2, d3, d4, d5, d6, d7, d8, d9, d10], vars := [g1] }
  | _ => none }
def lawS194015CWholeRow : OpenClaim := { program := "ybulkexnaqdoor", sum := "bda061024b1b7dbf4ea6e847d84e695e84ffa1614b0ca4ac63198e5c7461c356", func := "example.com/castwright/castwright/internal/value.LawS194015CWhole", spec := "lawS194015CWhole", named := ["example.com/castwright/castwright/internal/value.monthDays"], apart := false, laid := [("example.com/castwright/castwright/internal/value.monthDays", laid_example_com_castwright_castwright_internal_value_monthDays)] }
def LawS194015CWholeSaid : Prop := lawS194015CWholeRow.holds Ybad.pinned (OpenSpec.ofChange lawS194015CWholeSpec)

/-- ITS FALSE NEIGHBOUR: 'it returns false'. Refute it at one input. -/
def lawS194015CWholeWrong : ChangeSpec := { name := "lawS194015CWhole", vars := ["example.com/castwright/castwright/internal/value.monthDays"], fn := fun _ => fun
  | [d1, d2, d3, d4, d5, d6, d7, d8, d9, d10, g1] => { results := [.lit (.bool false)], args := [d1, d2, d3, d4, d5, d6, d7, d8, d9, d10], vars := [g1] }
  | _ => none }
def LawS194015CWholeWrongFalsely : Prop := lawS194015CWholeRow.holds Ybad.pinned (OpenSpec.ofChange lawS194015CWholeWrong)

end Rows
end Go.Proofs.YbulkexnaqDoor
