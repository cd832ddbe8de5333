import Derived.Test.YbulkexnbeFmtMem
import Derived.Stop.CallBack
import Derived.Stop.IfaceNil
import GoSem.ClaimData
namespace Go.Proofs.YbulkexnbeFmt
open Go.RowKit Go.Extern.Stop Go.Stop Go.Extern

theorem call8 (args : Array Value) (w : World) : (callFunc 8 args).run Ybaf.prog w = ((FmtStop.sprintf #[9, 93] #[9] args).run Ybaf.prog w).andThen fun v w' => .ok (.value v) w' :=
  run_callFunc_extern Ybaf.func8 (by kernel_rfl) (by kernel_rfl) (by kernel_rfl) (by kernel_rfl) args w
theorem fguard (name : String) (w : World) : (FmtStop.guard name).run Ybaf.prog w = .ok () w := by kernel_rfl

/-- queues[%d].name -/
def fName : ByteArray := ⟨#[113, 117, 101, 117, 101, 115, 91, 37, 100, 93, 46, 110, 97, 109, 101]⟩
/-- no queue is named %q -/
def fNone : ByteArray := ⟨#[110, 111, 32, 113, 117, 101, 117, 101, 32, 105, 115, 32, 110, 97, 109, 101, 100, 32, 37, 113]⟩
theorem fName_p (w : World) : (FmtDoors.printed fName 1).run Ybaf.prog w = .ok [(0, 100, false)] w := by kernel_rfl
theorem fNone_p (w : World) : (FmtDoors.printed fNone 1).run Ybaf.prog w = .ok [(0, 113, false)] w := by kernel_rfl
theorem fName_q : FmtStop.printed? fName 1 = some [(0, 100, false)] := by kernel_rfl
theorem fNone_q : FmtStop.printed? fNone 1 = some [(0, 113, false)] := by kernel_rfl
def shape3 : List UInt8 := [5, 3, 0, 0, 0, 0, 0, 0, 0, 105, 110, 116]
def shape9 : List UInt8 := [12, 6, 0, 0, 0, 0, 0, 0, 0, 115, 116, 114, 105, 110, 103]
theorem op3 (name : String) (x : Int) (w : World) : (FmtStop.operand name false 100 false (.iface 3 (.int .i64 x))).run Ybaf.prog w = .ok (shape3, Go.Extern.Stop.digits 8 (x % 2 ^ 64).toNat) w := by kernel_rfl
theorem op9 (name : String) (x : ByteArray) (w : World) : (FmtStop.operand name false 113 false (.iface 9 (.string x))).run Ybaf.prog w = .ok (shape9, FmtStop.pack x.data.toList) w := by kernel_rfl
/-- queue %q is not a leaf queue -/
def fLeaf : ByteArray := ⟨#[113, 117, 101, 117, 101, 32, 37, 113, 32, 105, 115, 32, 110, 111, 116, 32, 97, 32, 108, 101, 97, 102, 32, 113, 117, 101, 117, 101]⟩
theorem fLeaf_p (w : World) : (FmtDoors.printed fLeaf 1).run Ybaf.prog w = .ok [(0, 113, false)] w := by kernel_rfl
theorem fLeaf_q : FmtStop.printed? fLeaf 1 = some [(0, 113, false)] := by kernel_rfl

theorem sp_int (F : Interp) (w : World) (hF : F.answers w.tape) (b : Nat) (i : Int) (hc : w.cell? ⟨b, 0, none⟩ = some (.iface 3 (.int .i64 i))) :
    ∃ s, (callFunc 8 #[.string fName, .slice (some ⟨b, 0, none⟩) 1 1]).run Ybaf.prog w = .ok (.value (.string s)) w.drew := by
  have hF' := answers_open hF
  have hg := fguard
  have hq := fName_q
  have ho := op3
  rw [call8]
  go_simp
theorem sp_none (F : Interp) (w : World) (hF : F.answers w.tape) (b : Nat) (x : ByteArray) (hc : w.cell? ⟨b, 0, none⟩ = some (.iface 9 (.string x))) :
    ∃ s, (callFunc 8 #[.string fNone, .slice (some ⟨b, 0, none⟩) 1 1]).run Ybaf.prog w = .ok (.value (.string s)) w.drew := by
  have hF' := answers_open hF
  have hg := fguard
  have hq := fNone_q
  have ho := op9
  rw [call8]
  go_simp
theorem sp_leaf (F : Interp) (w : World) (hF : F.answers w.tape) (b : Nat) (x : ByteArray) (hc : w.cell? ⟨b, 0, none⟩ = some (.iface 9 (.string x))) :
    ∃ s, (callFunc 8 #[.string fLeaf, .slice (some ⟨b, 0, none⟩) 1 1]).run Ybaf.prog w = .ok (.value (.string s)) w.drew := by
  have hF' := answers_open hF
  have hg := fguard
  have hq := fLeaf_q
  have ho := op9
  rw [call8]
  go_simp
end Go.Proofs.YbulkexnbeFmt
