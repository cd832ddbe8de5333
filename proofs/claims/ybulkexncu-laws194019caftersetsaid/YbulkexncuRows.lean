/-
  No cell of these rows narrows 'for every input' (looked for: loops, veiled, ifaces, maps, wideKeys, modest, calm, conditions, laid).
  DERIVED. THE GIVEN ROWS OF THIS SEAT. 2 by the template 'for every input the law returns true; each argument reads behind the call as it read before'; 0 by the template 'total and deterministic' (their statements: YbulkexncuTotals.lean).
  GIVEN WITH THE SEED: the statements are not yours to turn. If you find one false, say at which input.
  Laid BY PROGRAM, IN A SANDBOX (cutbox-rows.mjs): the forced cells as the released guide's own fill.sh prints them over the translation 1ed4fb80777c57c7… (all of the seat's roots in one cut). By AI agents, Wed Nov 11 2026. No macro, syntax, notation, axiom, sorry.
-/
import Derived.Test.YbulkexncuChecked
import GoSem.Claim
import GoSem.ClaimJoined
import GoSem.ClaimMapViews
import Derived.JoinedTies
import Derived.KernelRfl
namespace Go.Proofs.Ybulkexncu
/- THE CELL 'sum', in the pinned program and in every row, IS THE sha256 OF THE DUMP (.gsa) THAT YbulkexncuProg.lean LOADS. Nothing in Lean hashes anything: it is a label: what it is worth is what the hold of that sum in a sandbox is worth. -/
noncomputable def Yba.pinned : Pinned := { name := "ybulkexncu", sum := "1ed4fb80777c57c7e3a494a80eba4b9e042d41a4c6c7932b02f9536196256e18", checked := Yba.checked }
namespace Rows
def none {H : Type} : Left H := { results := [], args := [] }

/-- 'imports.LawS194019CWhole': WHATEVER THE INPUT: true; the input reads as it did. -/
def lawS194019CWholeSpec : ChangeSpec := { name := "lawS194019CWhole", fn := fun _ => fun
  | [d1, d2, d3, d4] => { results := [.lit (.bool true)], args := [d1, d2, d3, d4] }
  | _ => none }
def lawS194019CWholeRow : OpenClaim := { program := "ybulkexncu", sum := "1ed4fb80777c57c7e3a494a80eba4b9e042d41a4c6c7932b02f9536196256e18", func := "example.com/topolith/topolith/imports.LawS194019CWhole", spec := "lawS194019CWhole", apart := false }
def LawS194019CWholeSaid : Prop := lawS194019CWholeRow.holds Yba.pinned (OpenSpec.ofChange lawS194019CWholeSpec)

/-- ITS FALSE NEIGHBOUR: 'it returns false'. Refute it at one input. -/
def lawS194019CWholeWrong : ChangeSpec := { name := "lawS194019CWhole", fn := fun _ => fun
  | [d1, d2, d3, d4] => { results := [.lit (.bool false)], args := [d1, d2, d3, d4] }
  | _ => none }
def LawS194019CWholeWrongFalsely : Prop := lawS194019CWholeRow.holds Yba.pinned (OpenSpec.ofChange lawS194019CWholeWrong)

/-- 'imports.LawS194019CAfterSet': WHATEVER THE INPUT: true; the input reads as it did. -/
def lawS194019CAfterSetSpec : ChangeSpec := { name := "lawS194019CAfterSet", fn := fun _ => fun
  | [d1, d2, d3, d4] => { results := [.lit (.bool true)], args := [d1, d2, d3, d4] }
  | _ => none }
def lawS194019CAfterSetRow : OpenClaim := { program := "ybulkexncu", sum := "1ed4fb80777c57c7e3a494a80eba4b9e042d41a4c6c7932b02f9536196256e18", func := "example.com/topolith/topolith/imports.LawS194019CAfterSet", spec := "lawS194019CAfterSet", recurses := true, apart := false }
def LawS194019CAfterSetSaid : Prop := lawS194019CAfterSetRow.holds Yba.pinned (OpenSpec.ofChange lawS194019CAfterSetSpec)

/-- ITS FALSE NEIGHBOUR: 'it returns false'. Refute it at one input. -/
def lawS194019CAfterSetWrong : ChangeSpec := { name := "lawS194019CAfterSet", fn := fun _ => fun
  | [d1, d2, d3, d4] => { results := [.lit (.bool false)], args := [d1, d2, d3, d4] }
  | _ => none }
def LawS194019CAfterSetWrongFalsely : Prop := lawS194019CAfterSetRow.holds Yba.pinned (OpenSpec.ofChange lawS194019CAfterSetWrong)

end Rows
end Go.Proofs.Ybulkexncu
