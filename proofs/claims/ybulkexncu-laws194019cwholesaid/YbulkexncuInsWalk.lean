import Derived.Test.YbulkexncuInsert
namespace Go.Proofs.Ybulkexncu
open Go.RowKit
set_option linter.unusedVariables false

def blk : Value → Nat
  | .pointer (some a) => a.block
  | _ => 0

set_option maxRecDepth 100000 in
set_option maxHeartbeats 400000 in
theorem insert_nil (w : World) (k v : Int) :
    Calls Yba.prog 5 #[.pointer none, .int .i64 k, .int .i64 v] w fun e w' => e = .returned (.pointer (some ⟨w.heap.size, 0, none⟩)) ∧ w' = w.alloc (.cells #[.int .i64 k, .int .i64 v, .pointer none, .pointer none] 36) := by
  go_enter Yba.func5, Yba.ntmps5
  go_wp2
  go_ret
  exact ⟨rfl, rfl⟩

set_option maxRecDepth 100000 in
set_option maxHeartbeats 1000000 in
theorem insert_some (w : World) (N : Nat) (ns : List Nd) (m : Int → Option Int) (k v : Int) (h0 : 0 < ns.length) (hR : Rep w N ns) (hf : ∀ key, ∃ d, Find ns key (m key) d (some 0)) :
    Calls Yba.prog 5 #[.pointer (some ⟨N, 0, none⟩), .int .i64 k, .int .i64 v] w fun e w' => e = .returned (.pointer (some ⟨N, 0, none⟩)) ∧ Tr w' N (some ⟨N, 0, none⟩) (upd m k v) ∧ Below N w w' := by
  have HR : Hid (Rep w N ns) := hR
  have HF : Hid (∀ key, ∃ d, Find ns key (m key) d (some 0)) := hf
  clear hR hf
  go_enter Yba.func5, Yba.ntmps5
  go_wp2
  go_loop [7] (fun p => ∃ i, i < ns.length ∧ p = .pointer (some ⟨N + i, 0, none⟩) ∧ Hid (Comes ns k i))
    (fun p => N + ns.length - blk p)
  case atStart => exact ⟨0, h0, rfl, Comes.start ns k⟩
  case round =>
    obtain ⟨i, hi, rfl, hC⟩ := hrel
    obtain ⟨nd, hnd⟩ : ∃ nd, ns[i]? = some nd := ⟨_, List.getElem?_eq_getElem hi⟩
    have HN : Hid (ns[i]? = some nd) := hnd
    have hrow := HR.out.row i nd hnd
    have hup := HR.out.up i nd hnd
    have hsz : w.heap.size = N + ns.length := HR.out.size
    obtain ⟨kk, vv, ll, rr⟩ := nd
    have c0 : w.cell? ⟨N + i, 0, none⟩ = some (.int .i64 kk) := (hrow.2 0 (by omega)).1
    have c2 : w.cell? ⟨N + i, 2, none⟩ = some (.pointer (pt N ll)) := (hrow.2 2 (by omega)).1
    have c3 : w.cell? ⟨N + i, 3, none⟩ = some (.pointer (pt N rr)) := (hrow.2 3 (by omega)).1
    have c1 : w.cell? ⟨N + i, 1, none⟩ = some (.int .i64 vv) := (hrow.2 1 (by omega)).1
    have f1 : w.frozen? ⟨N + i, 1, none⟩ = false := (hrow.2 1 (by omega)).2
    have f2 : w.frozen? ⟨N + i, 2, none⟩ = false := (hrow.2 2 (by omega)).2
    have f3 : w.frozen? ⟨N + i, 3, none⟩ = false := (hrow.2 3 (by omega)).2
    have hlt : N + i < w.heap.size := hrow.1
    clear hrow hnd
    by_cases e : k = kk
    · subst e
      clear c2 c3 hsz
      go_wp2
      go_ret
      exact ⟨rfl, tr_val HR.out HF.out HN.out v rfl hC.out, (Below.refl _ _).setCell (by simp) _⟩
    · by_cases e2 : k < kk
      · cases ll with
        | none =>
          have c2' : w.cell? ⟨N + i, 2, none⟩ = some (.pointer none) := c2
          clear c1 c2 c3 hup
          have HS : Hid (w.heap.size = N + ns.length) := hsz
          clear hsz
          go_wp2
          go_ret
          rw [← World.setCell_alloc_past _ _ _ _ hlt]
          refine ⟨rfl, ?_, ((Below.refl N w).alloc (show N ≤ w.heap.size by omega) _).setCell (by simp) _⟩
          rw [HS.out]
          exact tr_kid (nd' := ⟨kk, vv, some ns.length, rr⟩) HR.out HF.out HN.out v _ e hC.out rfl rfl (.inr ⟨rfl, rfl⟩) (.inl rfl) (fun _ => rfl) (fun h => by simp at h; omega) (q := 2) (by omega) (fun j hj => by
            obtain rfl | rfl | rfl | rfl : j = 0 ∨ j = 1 ∨ j = 2 ∨ j = 3 := by omega
            all_goals rfl)
        | some j =>
          have c2' : w.cell? ⟨N + i, 2, none⟩ = some (.pointer (some ⟨N + j, 0, none⟩)) := c2
          have hj := hup j (.inl rfl)
          clear c1 c2 c3 hup hsz
          go_wp2
          go_round
          case rel => exact ⟨j, hj.2, rfl, hC.out.left HN.out e2 rfl hj.1⟩
          case measure => simp only [blk]; omega
      · have e3 : kk < k := by omega
        cases rr with
        | none =>
          have c3' : w.cell? ⟨N + i, 3, none⟩ = some (.pointer none) := c3
          clear c1 c2 c3 hup
          have HS : Hid (w.heap.size = N + ns.length) := hsz
          clear hsz
          go_wp2
          go_ret
          rw [← World.setCell_alloc_past _ _ _ _ hlt]
          refine ⟨rfl, ?_, ((Below.refl N w).alloc (show N ≤ w.heap.size by omega) _).setCell (by simp) _⟩
          rw [HS.out]
          exact tr_kid (nd' := ⟨kk, vv, ll, some ns.length⟩) HR.out HF.out HN.out v _ e hC.out rfl rfl (.inl rfl) (.inr ⟨rfl, rfl⟩) (fun h => by simp at h; omega) (fun _ => rfl) (q := 3) (by omega) (fun j hj => by
            obtain rfl | rfl | rfl | rfl : j = 0 ∨ j = 1 ∨ j = 2 ∨ j = 3 := by omega
            all_goals rfl)
        | some j =>
          have c3' : w.cell? ⟨N + i, 3, none⟩ = some (.pointer (some ⟨N + j, 0, none⟩)) := c3
          have hj := hup j (.inr rfl)
          clear c1 c2 c3 hup hsz
          go_wp2
          go_round
          case rel => exact ⟨j, hj.2, rfl, hC.out.right HN.out e3 rfl hj.1⟩
          case measure => simp only [blk]; omega

/-- the insertion -/
theorem insert_is (w : World) (N : Nat) (P : Option Addr) (m : Int → Option Int) (k v : Int) (h : Tr w N P m) :
    Calls Yba.prog 5 #[.pointer P, .int .i64 k, .int .i64 v] w fun e w' => ∃ P', e = .returned (.pointer P') ∧ Tr w' N P' (upd m k v) ∧ Below N w w' := by
  rcases h with ⟨rfl, hs, hm⟩ | ⟨ns, h0, rfl, hR, hf⟩
  · refine (insert_nil w k v).mono ?_
    rintro e w' ⟨rfl, rfl⟩
    have R0 : Rep w N [] := ⟨by simp [hs], fun i nd h => by simp at h, fun i nd h => by simp at h⟩
    refine ⟨_, rfl, .inr ⟨[] ++ [Nd.mk k v none none], by simp, by rw [hs], R0.push k v 36, fun key => ⟨1, .inr ⟨0, Nd.mk k v none none, rfl, rfl, fun e => ?_, fun e => ?_, fun e => ?_⟩⟩⟩, (Below.refl _ _).alloc (by omega) _⟩
    · obtain rfl : key = k := e
      exact upd_same m key v
    · have e' : key < k := e
      exact ⟨rfl, by rw [upd_other m v (by omega)]; exact hm key⟩
    · have e' : k < key := e
      exact ⟨rfl, by rw [upd_other m v (by omega)]; exact hm key⟩
  · exact (insert_some w N ns m k v h0 hR hf).mono fun e w' h => ⟨_, h⟩
end Go.Proofs.Ybulkexncu
