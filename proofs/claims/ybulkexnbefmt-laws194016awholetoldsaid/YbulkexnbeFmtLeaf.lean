import Derived.Test.YbulkexnbeFmtStop
namespace Go.Proofs.YbulkexnbeFmt
open Go.RowKit Go.Extern.Stop Go.Stop Go.Extern

/-- the cells of the tree itself -/
structure TreeAt (w : World) (bt bq bm bp bd bl n : Nat) : Prop where
  c0 : w.cell? ⟨bt, 0, none⟩ = some (.slice (some ⟨bq, 0, none⟩) n n)
  c1 : w.cell? ⟨bt, 1, none⟩ = some (.map (some bm))
  c2 : w.cell? ⟨bt, 2, none⟩ = some (.slice (some ⟨bp, 0, none⟩) n n)
  c3 : w.cell? ⟨bt, 3, none⟩ = some (.slice (some ⟨bd, 0, none⟩) n n)
  c4 : w.cell? ⟨bt, 4, none⟩ = some (.slice (some ⟨bl, 0, none⟩) n n)

set_option maxHeartbeats 400000 in
theorem leaf_hit (w : World) (bt bq bm bp bd bl n : Nat) (hT : TreeAt w bt bq bm bp bd bl n) (arg s : ByteArray) (i : Nat) (hi : i < n)
    (hlk : (Instr.lookup 50 (.map (some bm)) (.string s) true).run Ybaf.prog w = .ok (.tuple #[.int .i64 i, .bool true]) w) (hl : w.cell? ⟨bl, i, none⟩ = some (.bool true)) :
    Calls Ybaf.prog 6 #[.pointer (some ⟨bt, 0, none⟩), .string arg, .string s] w fun e w' => e = .returned (.tuple #[.int .i64 i, .nilIface]) ∧ Below w.heap.size w w' := by
  obtain ⟨c0, c1, c2, c3, c4⟩ := hT
  go_enter Ybaf.func6, Ybaf.ntmps6
  go_wp2
  go_ret2
  exact ⟨rfl, Below.refl _ _⟩
set_option maxHeartbeats 400000 in
theorem leaf_not (F : Interp) (w : World) (hF : F.answers w.tape) (bt bq bm bp bd bl n : Nat) (hT : TreeAt w bt bq bm bp bd bl n) (arg s : ByteArray) (i : Nat) (hi : i < n)
    (hlk : (Instr.lookup 50 (.map (some bm)) (.string s) true).run Ybaf.prog w = .ok (.tuple #[.int .i64 i, .bool true]) w) (hl : w.cell? ⟨bl, i, none⟩ = some (.bool false)) :
    Calls Ybaf.prog 6 #[.pointer (some ⟨bt, 0, none⟩), .string arg, .string s] w fun e w' => ∃ b, e = .returned (.tuple #[.int .i64 0, .iface 43 (.pointer (some ⟨b, 0, none⟩))]) ∧ w'.cell? ⟨b, 0, none⟩ = some (.string arg) ∧ Below w.heap.size w w' := by
  obtain ⟨c0, c1, c2, c3, c4⟩ := hT
  obtain ⟨m, hm⟩ := sp_leaf F (w.alloc (.cells #[.iface 9 (.string s)] 20)) hF w.heap.size s (by simp)
  unfold fLeaf at hm
  go_enter Ybaf.func6, Ybaf.ntmps6
  go_wp2
  go_ret2
  exact ⟨w.heap.size + 1, rfl, by simp, (((Below.refl _ _).alloc (Nat.le_refl _) _).alloc (by simp) _).drew⟩
set_option maxHeartbeats 400000 in
theorem leaf_miss (F : Interp) (w : World) (hF : F.answers w.tape) (bt bq bm bp bd bl n : Nat) (hT : TreeAt w bt bq bm bp bd bl n) (arg s : ByteArray)
    (hlk : (Instr.lookup 50 (.map (some bm)) (.string s) true).run Ybaf.prog w = .ok (.tuple #[.int .i64 0, .bool false]) w) :
    Calls Ybaf.prog 6 #[.pointer (some ⟨bt, 0, none⟩), .string arg, .string s] w fun e w' => ∃ b, e = .returned (.tuple #[.int .i64 0, .iface 43 (.pointer (some ⟨b, 0, none⟩))]) ∧ w'.cell? ⟨b, 0, none⟩ = some (.string arg) ∧ Below w.heap.size w w' := by
  obtain ⟨c0, c1, c2, c3, c4⟩ := hT
  obtain ⟨m, hm⟩ := sp_none F (w.alloc (.cells #[.iface 9 (.string s)] 20)) hF w.heap.size s (by simp)
  unfold fNone at hm
  go_enter Ybaf.func6, Ybaf.ntmps6
  go_wp2
  go_ret2
  exact ⟨w.heap.size + 1, rfl, by simp, (((Below.refl _ _).alloc (Nat.le_refl _) _).alloc (by simp) _).drew⟩
end Go.Proofs.YbulkexnbeFmt
