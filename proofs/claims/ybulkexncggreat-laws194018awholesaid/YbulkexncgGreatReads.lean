import Derived.Test.YbulkexncgGreatProg
import Derived.WalkKit
import Derived.WalkSpells
import Derived.WalkLawsBesides
namespace Go.Proofs.YbulkexncgGreat
open Go.RowKit

/-! what each type assertion gives -/
theorem ta29_29 (p : Option Addr) (w : World) : (Instr.typeAssert (.iface 29 (.pointer p)) 24 29 true).run Ybaz.prog w = .ok (.tuple #[.pointer p, .bool true]) w := by kernel_rfl
theorem ta29_34 (p : Option Addr) (w : World) : (Instr.typeAssert (.iface 29 (.pointer p)) 24 34 true).run Ybaz.prog w = .ok (.tuple #[.pointer none, .bool false]) w := by kernel_rfl
theorem ta29_41 (p : Option Addr) (w : World) : (Instr.typeAssert (.iface 29 (.pointer p)) 24 41 true).run Ybaz.prog w = .ok (.tuple #[.pointer none, .bool false]) w := by kernel_rfl
theorem ta29_47 (p : Option Addr) (w : World) : (Instr.typeAssert (.iface 29 (.pointer p)) 24 47 true).run Ybaz.prog w = .ok (.tuple #[.pointer none, .bool false]) w := by kernel_rfl
theorem ta29_55 (p : Option Addr) (w : World) : (Instr.typeAssert (.iface 29 (.pointer p)) 24 55 true).run Ybaz.prog w = .ok (.tuple #[.pointer none, .bool false]) w := by kernel_rfl
theorem ta29_65 (p : Option Addr) (w : World) : (Instr.typeAssert (.iface 29 (.pointer p)) 24 65 true).run Ybaz.prog w = .ok (.tuple #[.pointer none, .bool false]) w := by kernel_rfl
theorem ta29_68 (p : Option Addr) (w : World) : (Instr.typeAssert (.iface 29 (.pointer p)) 24 68 true).run Ybaz.prog w = .ok (.tuple #[.pointer none, .bool false]) w := by kernel_rfl
theorem ta34_29 (p : Option Addr) (w : World) : (Instr.typeAssert (.iface 34 (.pointer p)) 24 29 true).run Ybaz.prog w = .ok (.tuple #[.pointer none, .bool false]) w := by kernel_rfl
theorem ta34_34 (p : Option Addr) (w : World) : (Instr.typeAssert (.iface 34 (.pointer p)) 24 34 true).run Ybaz.prog w = .ok (.tuple #[.pointer p, .bool true]) w := by kernel_rfl
theorem ta34_41 (p : Option Addr) (w : World) : (Instr.typeAssert (.iface 34 (.pointer p)) 24 41 true).run Ybaz.prog w = .ok (.tuple #[.pointer none, .bool false]) w := by kernel_rfl
theorem ta34_47 (p : Option Addr) (w : World) : (Instr.typeAssert (.iface 34 (.pointer p)) 24 47 true).run Ybaz.prog w = .ok (.tuple #[.pointer none, .bool false]) w := by kernel_rfl
theorem ta34_55 (p : Option Addr) (w : World) : (Instr.typeAssert (.iface 34 (.pointer p)) 24 55 true).run Ybaz.prog w = .ok (.tuple #[.pointer none, .bool false]) w := by kernel_rfl
theorem ta34_65 (p : Option Addr) (w : World) : (Instr.typeAssert (.iface 34 (.pointer p)) 24 65 true).run Ybaz.prog w = .ok (.tuple #[.pointer none, .bool false]) w := by kernel_rfl
theorem ta34_68 (p : Option Addr) (w : World) : (Instr.typeAssert (.iface 34 (.pointer p)) 24 68 true).run Ybaz.prog w = .ok (.tuple #[.pointer none, .bool false]) w := by kernel_rfl
theorem ta41_29 (p : Option Addr) (w : World) : (Instr.typeAssert (.iface 41 (.pointer p)) 24 29 true).run Ybaz.prog w = .ok (.tuple #[.pointer none, .bool false]) w := by kernel_rfl
theorem ta41_34 (p : Option Addr) (w : World) : (Instr.typeAssert (.iface 41 (.pointer p)) 24 34 true).run Ybaz.prog w = .ok (.tuple #[.pointer none, .bool false]) w := by kernel_rfl
theorem ta41_41 (p : Option Addr) (w : World) : (Instr.typeAssert (.iface 41 (.pointer p)) 24 41 true).run Ybaz.prog w = .ok (.tuple #[.pointer p, .bool true]) w := by kernel_rfl
theorem ta41_47 (p : Option Addr) (w : World) : (Instr.typeAssert (.iface 41 (.pointer p)) 24 47 true).run Ybaz.prog w = .ok (.tuple #[.pointer none, .bool false]) w := by kernel_rfl
theorem ta41_55 (p : Option Addr) (w : World) : (Instr.typeAssert (.iface 41 (.pointer p)) 24 55 true).run Ybaz.prog w = .ok (.tuple #[.pointer none, .bool false]) w := by kernel_rfl
theorem ta41_65 (p : Option Addr) (w : World) : (Instr.typeAssert (.iface 41 (.pointer p)) 24 65 true).run Ybaz.prog w = .ok (.tuple #[.pointer none, .bool false]) w := by kernel_rfl
theorem ta41_68 (p : Option Addr) (w : World) : (Instr.typeAssert (.iface 41 (.pointer p)) 24 68 true).run Ybaz.prog w = .ok (.tuple #[.pointer none, .bool false]) w := by kernel_rfl
theorem ta47_29 (p : Option Addr) (w : World) : (Instr.typeAssert (.iface 47 (.pointer p)) 24 29 true).run Ybaz.prog w = .ok (.tuple #[.pointer none, .bool false]) w := by kernel_rfl
theorem ta47_34 (p : Option Addr) (w : World) : (Instr.typeAssert (.iface 47 (.pointer p)) 24 34 true).run Ybaz.prog w = .ok (.tuple #[.pointer none, .bool false]) w := by kernel_rfl
theorem ta47_41 (p : Option Addr) (w : World) : (Instr.typeAssert (.iface 47 (.pointer p)) 24 41 true).run Ybaz.prog w = .ok (.tuple #[.pointer none, .bool false]) w := by kernel_rfl
theorem ta47_47 (p : Option Addr) (w : World) : (Instr.typeAssert (.iface 47 (.pointer p)) 24 47 true).run Ybaz.prog w = .ok (.tuple #[.pointer p, .bool true]) w := by kernel_rfl
theorem ta47_55 (p : Option Addr) (w : World) : (Instr.typeAssert (.iface 47 (.pointer p)) 24 55 true).run Ybaz.prog w = .ok (.tuple #[.pointer none, .bool false]) w := by kernel_rfl
theorem ta47_65 (p : Option Addr) (w : World) : (Instr.typeAssert (.iface 47 (.pointer p)) 24 65 true).run Ybaz.prog w = .ok (.tuple #[.pointer none, .bool false]) w := by kernel_rfl
theorem ta47_68 (p : Option Addr) (w : World) : (Instr.typeAssert (.iface 47 (.pointer p)) 24 68 true).run Ybaz.prog w = .ok (.tuple #[.pointer none, .bool false]) w := by kernel_rfl
theorem ta55_29 (p : Option Addr) (w : World) : (Instr.typeAssert (.iface 55 (.pointer p)) 24 29 true).run Ybaz.prog w = .ok (.tuple #[.pointer none, .bool false]) w := by kernel_rfl
theorem ta55_34 (p : Option Addr) (w : World) : (Instr.typeAssert (.iface 55 (.pointer p)) 24 34 true).run Ybaz.prog w = .ok (.tuple #[.pointer none, .bool false]) w := by kernel_rfl
theorem ta55_41 (p : Option Addr) (w : World) : (Instr.typeAssert (.iface 55 (.pointer p)) 24 41 true).run Ybaz.prog w = .ok (.tuple #[.pointer none, .bool false]) w := by kernel_rfl
theorem ta55_47 (p : Option Addr) (w : World) : (Instr.typeAssert (.iface 55 (.pointer p)) 24 47 true).run Ybaz.prog w = .ok (.tuple #[.pointer none, .bool false]) w := by kernel_rfl
theorem ta55_55 (p : Option Addr) (w : World) : (Instr.typeAssert (.iface 55 (.pointer p)) 24 55 true).run Ybaz.prog w = .ok (.tuple #[.pointer p, .bool true]) w := by kernel_rfl
theorem ta55_65 (p : Option Addr) (w : World) : (Instr.typeAssert (.iface 55 (.pointer p)) 24 65 true).run Ybaz.prog w = .ok (.tuple #[.pointer none, .bool false]) w := by kernel_rfl
theorem ta55_68 (p : Option Addr) (w : World) : (Instr.typeAssert (.iface 55 (.pointer p)) 24 68 true).run Ybaz.prog w = .ok (.tuple #[.pointer none, .bool false]) w := by kernel_rfl
theorem ta65_29 (p : Option Addr) (w : World) : (Instr.typeAssert (.iface 65 (.pointer p)) 24 29 true).run Ybaz.prog w = .ok (.tuple #[.pointer none, .bool false]) w := by kernel_rfl
theorem ta65_34 (p : Option Addr) (w : World) : (Instr.typeAssert (.iface 65 (.pointer p)) 24 34 true).run Ybaz.prog w = .ok (.tuple #[.pointer none, .bool false]) w := by kernel_rfl
theorem ta65_41 (p : Option Addr) (w : World) : (Instr.typeAssert (.iface 65 (.pointer p)) 24 41 true).run Ybaz.prog w = .ok (.tuple #[.pointer none, .bool false]) w := by kernel_rfl
theorem ta65_47 (p : Option Addr) (w : World) : (Instr.typeAssert (.iface 65 (.pointer p)) 24 47 true).run Ybaz.prog w = .ok (.tuple #[.pointer none, .bool false]) w := by kernel_rfl
theorem ta65_55 (p : Option Addr) (w : World) : (Instr.typeAssert (.iface 65 (.pointer p)) 24 55 true).run Ybaz.prog w = .ok (.tuple #[.pointer none, .bool false]) w := by kernel_rfl
theorem ta65_65 (p : Option Addr) (w : World) : (Instr.typeAssert (.iface 65 (.pointer p)) 24 65 true).run Ybaz.prog w = .ok (.tuple #[.pointer p, .bool true]) w := by kernel_rfl
theorem ta65_68 (p : Option Addr) (w : World) : (Instr.typeAssert (.iface 65 (.pointer p)) 24 68 true).run Ybaz.prog w = .ok (.tuple #[.pointer none, .bool false]) w := by kernel_rfl
theorem ta68_29 (p : Option Addr) (w : World) : (Instr.typeAssert (.iface 68 (.pointer p)) 24 29 true).run Ybaz.prog w = .ok (.tuple #[.pointer none, .bool false]) w := by kernel_rfl
theorem ta68_34 (p : Option Addr) (w : World) : (Instr.typeAssert (.iface 68 (.pointer p)) 24 34 true).run Ybaz.prog w = .ok (.tuple #[.pointer none, .bool false]) w := by kernel_rfl
theorem ta68_41 (p : Option Addr) (w : World) : (Instr.typeAssert (.iface 68 (.pointer p)) 24 41 true).run Ybaz.prog w = .ok (.tuple #[.pointer none, .bool false]) w := by kernel_rfl
theorem ta68_47 (p : Option Addr) (w : World) : (Instr.typeAssert (.iface 68 (.pointer p)) 24 47 true).run Ybaz.prog w = .ok (.tuple #[.pointer none, .bool false]) w := by kernel_rfl
theorem ta68_55 (p : Option Addr) (w : World) : (Instr.typeAssert (.iface 68 (.pointer p)) 24 55 true).run Ybaz.prog w = .ok (.tuple #[.pointer none, .bool false]) w := by kernel_rfl
theorem ta68_65 (p : Option Addr) (w : World) : (Instr.typeAssert (.iface 68 (.pointer p)) 24 65 true).run Ybaz.prog w = .ok (.tuple #[.pointer none, .bool false]) w := by kernel_rfl
theorem ta68_68 (p : Option Addr) (w : World) : (Instr.typeAssert (.iface 68 (.pointer p)) 24 68 true).run Ybaz.prog w = .ok (.tuple #[.pointer p, .bool true]) w := by kernel_rfl
theorem ta71_29 (p : Option Addr) (w : World) : (Instr.typeAssert (.iface 71 (.pointer p)) 24 29 true).run Ybaz.prog w = .ok (.tuple #[.pointer none, .bool false]) w := by kernel_rfl
theorem ta71_34 (p : Option Addr) (w : World) : (Instr.typeAssert (.iface 71 (.pointer p)) 24 34 true).run Ybaz.prog w = .ok (.tuple #[.pointer none, .bool false]) w := by kernel_rfl
theorem ta71_41 (p : Option Addr) (w : World) : (Instr.typeAssert (.iface 71 (.pointer p)) 24 41 true).run Ybaz.prog w = .ok (.tuple #[.pointer none, .bool false]) w := by kernel_rfl
theorem ta71_47 (p : Option Addr) (w : World) : (Instr.typeAssert (.iface 71 (.pointer p)) 24 47 true).run Ybaz.prog w = .ok (.tuple #[.pointer none, .bool false]) w := by kernel_rfl
theorem ta71_55 (p : Option Addr) (w : World) : (Instr.typeAssert (.iface 71 (.pointer p)) 24 55 true).run Ybaz.prog w = .ok (.tuple #[.pointer none, .bool false]) w := by kernel_rfl
theorem ta71_65 (p : Option Addr) (w : World) : (Instr.typeAssert (.iface 71 (.pointer p)) 24 65 true).run Ybaz.prog w = .ok (.tuple #[.pointer none, .bool false]) w := by kernel_rfl
theorem ta71_68 (p : Option Addr) (w : World) : (Instr.typeAssert (.iface 71 (.pointer p)) 24 68 true).run Ybaz.prog w = .ok (.tuple #[.pointer none, .bool false]) w := by kernel_rfl
theorem ta76_29 (p : Option Addr) (w : World) : (Instr.typeAssert (.iface 76 (.pointer p)) 24 29 true).run Ybaz.prog w = .ok (.tuple #[.pointer none, .bool false]) w := by kernel_rfl
theorem ta76_34 (p : Option Addr) (w : World) : (Instr.typeAssert (.iface 76 (.pointer p)) 24 34 true).run Ybaz.prog w = .ok (.tuple #[.pointer none, .bool false]) w := by kernel_rfl
theorem ta76_41 (p : Option Addr) (w : World) : (Instr.typeAssert (.iface 76 (.pointer p)) 24 41 true).run Ybaz.prog w = .ok (.tuple #[.pointer none, .bool false]) w := by kernel_rfl
theorem ta76_47 (p : Option Addr) (w : World) : (Instr.typeAssert (.iface 76 (.pointer p)) 24 47 true).run Ybaz.prog w = .ok (.tuple #[.pointer none, .bool false]) w := by kernel_rfl
theorem ta76_55 (p : Option Addr) (w : World) : (Instr.typeAssert (.iface 76 (.pointer p)) 24 55 true).run Ybaz.prog w = .ok (.tuple #[.pointer none, .bool false]) w := by kernel_rfl
theorem ta76_65 (p : Option Addr) (w : World) : (Instr.typeAssert (.iface 76 (.pointer p)) 24 65 true).run Ybaz.prog w = .ok (.tuple #[.pointer none, .bool false]) w := by kernel_rfl
theorem ta76_68 (p : Option Addr) (w : World) : (Instr.typeAssert (.iface 76 (.pointer p)) 24 68 true).run Ybaz.prog w = .ok (.tuple #[.pointer none, .bool false]) w := by kernel_rfl
theorem ta0_29 (w : World) : (Instr.typeAssert .nilIface 24 29 true).run Ybaz.prog w = .ok (.tuple #[.pointer none, .bool false]) w := by kernel_rfl
theorem ta0_34 (w : World) : (Instr.typeAssert .nilIface 24 34 true).run Ybaz.prog w = .ok (.tuple #[.pointer none, .bool false]) w := by kernel_rfl
theorem ta0_41 (w : World) : (Instr.typeAssert .nilIface 24 41 true).run Ybaz.prog w = .ok (.tuple #[.pointer none, .bool false]) w := by kernel_rfl
theorem ta0_47 (w : World) : (Instr.typeAssert .nilIface 24 47 true).run Ybaz.prog w = .ok (.tuple #[.pointer none, .bool false]) w := by kernel_rfl
theorem ta0_55 (w : World) : (Instr.typeAssert .nilIface 24 55 true).run Ybaz.prog w = .ok (.tuple #[.pointer none, .bool false]) w := by kernel_rfl
theorem ta0_65 (w : World) : (Instr.typeAssert .nilIface 24 65 true).run Ybaz.prog w = .ok (.tuple #[.pointer none, .bool false]) w := by kernel_rfl
theorem ta0_68 (w : World) : (Instr.typeAssert .nilIface 24 68 true).run Ybaz.prog w = .ok (.tuple #[.pointer none, .bool false]) w := by kernel_rfl

/-! what readsNothing answers, by the value's dynamic type -/
set_option maxHeartbeats 400000 in
theorem reads29 (p : Option Addr) (w : World) : Calls Ybaz.prog 5 #[.iface 29 (.pointer p)] w fun e w' => e = .returned (.bool true) ∧ w' = w := by
  have h29 := ta29_29
  have h34 := ta29_34
  have h41 := ta29_41
  go_enter Ybaz.func5, Ybaz.ntmps5
  go_wp2
  go_ret
  exact ⟨rfl, rfl⟩
set_option maxHeartbeats 400000 in
theorem reads34 (p : Option Addr) (w : World) : Calls Ybaz.prog 5 #[.iface 34 (.pointer p)] w fun e w' => e = .returned (.bool true) ∧ w' = w := by
  have h29 := ta34_29
  have h34 := ta34_34
  have h41 := ta34_41
  go_enter Ybaz.func5, Ybaz.ntmps5
  go_wp2
  go_ret
  exact ⟨rfl, rfl⟩
set_option maxHeartbeats 400000 in
theorem reads41 (p : Option Addr) (w : World) : Calls Ybaz.prog 5 #[.iface 41 (.pointer p)] w fun e w' => e = .returned (.bool true) ∧ w' = w := by
  have h29 := ta41_29
  have h34 := ta41_34
  have h41 := ta41_41
  go_enter Ybaz.func5, Ybaz.ntmps5
  go_wp2
  go_ret
  exact ⟨rfl, rfl⟩
set_option maxHeartbeats 400000 in
theorem reads71 (p : Option Addr) (w : World) : Calls Ybaz.prog 5 #[.iface 71 (.pointer p)] w fun e w' => e = .returned (.bool false) ∧ w' = w := by
  have h29 := ta71_29
  have h34 := ta71_34
  have h41 := ta71_41
  have h47 := ta71_47
  have h55 := ta71_55
  have h65 := ta71_65
  have h68 := ta71_68
  go_enter Ybaz.func5, Ybaz.ntmps5
  go_wp2
  go_ret
  exact ⟨rfl, rfl⟩
set_option maxHeartbeats 400000 in
theorem reads76 (p : Option Addr) (w : World) : Calls Ybaz.prog 5 #[.iface 76 (.pointer p)] w fun e w' => e = .returned (.bool false) ∧ w' = w := by
  have h29 := ta76_29
  have h34 := ta76_34
  have h41 := ta76_41
  have h47 := ta76_47
  have h55 := ta76_55
  have h65 := ta76_65
  have h68 := ta76_68
  go_enter Ybaz.func5, Ybaz.ntmps5
  go_wp2
  go_ret
  exact ⟨rfl, rfl⟩
set_option maxHeartbeats 400000 in
theorem reads0 (w : World) : Calls Ybaz.prog 5 #[.nilIface] w fun e w' => e = .returned (.bool false) ∧ w' = w := by
  have h29 := ta0_29
  have h34 := ta0_34
  have h41 := ta0_41
  have h47 := ta0_47
  have h55 := ta0_55
  have h65 := ta0_65
  have h68 := ta0_68
  go_enter Ybaz.func5, Ybaz.ntmps5
  go_wp2
  go_ret
  exact ⟨rfl, rfl⟩
set_option maxHeartbeats 400000 in
theorem reads55 (b : Nat) (f : Bool) (w : World) (hc : w.cell? ⟨b, 9, none⟩ = some (.bool f)) : Calls Ybaz.prog 5 #[.iface 55 (.pointer (some ⟨b, 0, none⟩))] w fun e w' => e = .returned (.bool f) ∧ w' = w := by
  have h29 := ta55_29
  have h34 := ta55_34
  have h41 := ta55_41
  have h47 := ta55_47
  have h55 := ta55_55
  have h65 := ta55_65
  have h68 := ta55_68
  go_enter Ybaz.func5, Ybaz.ntmps5
  go_wp2
  go_ret
  exact ⟨rfl, rfl⟩
set_option maxHeartbeats 400000 in
theorem reads65 (b : Nat) (f : Bool) (w : World) (hc : w.cell? ⟨b, 8, none⟩ = some (.bool f)) : Calls Ybaz.prog 5 #[.iface 65 (.pointer (some ⟨b, 0, none⟩))] w fun e w' => e = .returned (.bool f) ∧ w' = w := by
  have h29 := ta65_29
  have h34 := ta65_34
  have h41 := ta65_41
  have h47 := ta65_47
  have h55 := ta65_55
  have h65 := ta65_65
  have h68 := ta65_68
  go_enter Ybaz.func5, Ybaz.ntmps5
  go_wp2
  go_ret
  exact ⟨rfl, rfl⟩
set_option maxHeartbeats 400000 in
theorem reads68 (b : Nat) (f : Bool) (w : World) (hc : w.cell? ⟨b, 5, none⟩ = some (.bool f)) : Calls Ybaz.prog 5 #[.iface 68 (.pointer (some ⟨b, 0, none⟩))] w fun e w' => e = .returned (.bool f) ∧ w' = w := by
  have h29 := ta68_29
  have h34 := ta68_34
  have h41 := ta68_41
  have h47 := ta68_47
  have h55 := ta68_55
  have h65 := ta68_65
  have h68 := ta68_68
  go_enter Ybaz.func5, Ybaz.ntmps5
  go_wp2
  go_ret
  exact ⟨rfl, rfl⟩
set_option maxHeartbeats 400000 in
theorem reads47 (b : Nat) (a : Option Addr) (l c : Nat) (w : World) (hc : w.cell? ⟨b, 12, none⟩ = some (.slice a l c)) : Calls Ybaz.prog 5 #[.iface 47 (.pointer (some ⟨b, 0, none⟩))] w fun e w' => e = .returned (.bool ((l : Int) == 0)) ∧ w' = w := by
  have h29 := ta47_29
  have h34 := ta47_34
  have h41 := ta47_41
  have h47 := ta47_47
  have h55 := ta47_55
  have h65 := ta47_65
  have h68 := ta47_68
  go_enter Ybaz.func5, Ybaz.ntmps5
  go_wp2
  go_ret
  exact ⟨rfl, rfl⟩
end Go.Proofs.YbulkexncgGreat
