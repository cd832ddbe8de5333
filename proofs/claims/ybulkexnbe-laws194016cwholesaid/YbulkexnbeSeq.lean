import Derived.RangeFuncNested
import Derived.RangeFuncBound
import Derived.RangeFuncCalls
import Derived.RangeFuncLeaves
import Derived.Shelf.Abstract
import Derived.Shelf.RegionOpen
import Derived.WalkKit
import Derived.OwnWalkIn
import Derived.TacticsInMore
import Derived.LoopNIn
import Derived.LoopIn
import Derived.Test.YbulkexnbeProg
namespace Go.Proofs.Ybulkexnbe
open Go.RowKit Go.Shelf
set_option linter.unusedVariables false
attribute [local go_sem] Oper.semAt_some

/-- what has come when k rounds are over -/
def upto (f : Nat → Int) (k : Nat) : List Int := (List.range k).map f
theorem upto_succ (f : Nat → Int) (k : Nat) : upto f (k + 1) = upto f k ++ [f k] := by simp [upto, List.range_succ]
theorem upto_length (f : Nat → Int) (k : Nat) : (upto f k).length = k := by simp [upto]
theorem upto_all (zs : List Int) : upto (fun j => zs[j]?.getD 0) zs.length = zs := by
  apply List.ext_getElem
  · simp [upto]
  · intro i h1 h2
    simp [upto, h2]
theorem upto_take (zs : List Int) {k : Nat} (hk : k ≤ zs.length) : upto (fun j => zs[j]?.getD 0) k = zs.take k := by
  apply List.ext_getElem
  · simp [upto, hk]
  · intro i h1 h2
    have : i < zs.length := by simp [upto] at h1; omega
    simp [upto, this]

set_option maxRecDepth 100000 in
set_option maxHeartbeats 2000000 in
/-- the law's own sequence, over a row: for every loop body that keeps what lay below n₀ -/
theorem seq1_in (F : Fence) (n : Nat) (h7 : F.fn 7) (hro : F.round = none) (hn : 1 ≤ n) (l Bs n₀ b off len cap : Nat) (zs : List Int) (hreach : len * 8 ≤ 140737488351232) (hb : b < n₀) (J Jx : List Int → World → Prop)
    (hY : ∀ pre x W, J pre W → pre.length < len → YieldAt F (n - 1) Yba.prog l #[.int .i64 x] W fun e W' =>
      (e = .returned (.bool true) ∧ J (pre ++ [x]) W' ∧ Below n₀ W W') ∨ (e = .returned (.bool false) ∧ Jx (pre ++ [x]) W'))
    (W : World) (hBs : W.cell? ⟨Bs, 0, none⟩ = some (.slice (some ⟨b, off, none⟩) len cap)) (hc : ∀ j, j < len → W.cell? ⟨b, off + j, none⟩ = some (.int .i64 (zs[j]?.getD 0))) (h0 : J [] W) :
    CallsIn F n Yba.prog 7 #[.func (.yield l) #[] #[], .pointer (some ⟨Bs, 0, none⟩)] W fun e W' => (∃ v, e = .returned v) ∧
      ((∃ ys, ys = upto (fun j => zs[j]?.getD 0) len ∧ J ys W') ∨ (∃ pre, (∃ k, k ≤ len ∧ pre = upto (fun j => zs[j]?.getD 0) k) ∧ Jx pre W')) := by
  refine callsIn_of_wp Yba.func7 rfl h7 ?_ hro
  simp only [Yba.ntmps7, List.size_toArray, List.length_cons, List.length_nil, Nat.reduceAdd, Nat.reduceSub, Array.replicate_succ, Array.replicate_zero, List.push_toArray, List.append_toArray, List.nil_append, List.cons_append]
  gi_wp2
  gi_loopw [7] (fun i wr => ∃ k : Nat, k ≤ len ∧ i = .int .i64 k ∧ J (upto (fun j => zs[j]?.getD 0) k) wr ∧ Below n₀ W wr)
    (fun i _ => len - (intOf i).toNat)
  case atStart => exact ⟨0, Nat.zero_le _, rfl, h0, Below.refl _ _⟩
  case round =>
    obtain ⟨k, hk, rfl, hJs, hnx⟩ := hrel
    have hcx : k < len → wr.cell? ⟨b, off + k, none⟩ = some (.int .i64 (zs[k]?.getD 0)) := fun h => (hnx.cell (p := ⟨b, off + k, none⟩) hb).trans (hc k h)
    by_cases hlt : k < len
    · obtain ⟨fn, tmps, assign, body, hy, hR⟩ := hY _ (zs[k]?.getD 0) wr hJs (by rw [upto_length]; exact hlt)
      have hcx' := hcx hlt
      gi_wp2
      refine hR.mono ?_
      rintro e W3 (⟨rfl, hJ3, hk3⟩ | ⟨rfl, hJx3⟩)
      · gi_wp2
        go_roundw
        case rel => exact ⟨k + 1, by omega, by simp, by rw [upto_succ]; exact hJ3, hnx.trans hk3⟩
        case measure => simp [intOf]; omega
      · gi_wp2
        refine bodyPost_ret (results_none rfl _ _ _) rfl ?_
        exact ⟨⟨_, rfl⟩, .inr ⟨_, ⟨k + 1, by omega, (upto_succ _ _).symm⟩, hJx3⟩⟩
    · obtain rfl : k = len := by omega
      gi_wp2
      go_end0
      exact ⟨⟨_, rfl⟩, .inl ⟨_, rfl, hJs⟩⟩

set_option maxRecDepth 100000 in
set_option maxHeartbeats 1000000 in
/-- the same, no element (nil, or an empty row) -/
theorem seq1_nil_in (F : Fence) (n : Nat) (h7 : F.fn 7) (hro : F.round = none) (l Bs cap : Nat) (a : Option Addr) (J : List Int → World → Prop) (W : World) (hBs : W.cell? ⟨Bs, 0, none⟩ = some (.slice a 0 cap)) (h0 : J [] W) :
    CallsIn F n Yba.prog 7 #[.func (.yield l) #[] #[], .pointer (some ⟨Bs, 0, none⟩)] W fun e W' => (∃ v, e = .returned v) ∧ J [] W' := by
  refine callsIn_of_wp Yba.func7 rfl h7 ?_ hro
  simp only [Yba.ntmps7, List.size_toArray, List.length_cons, List.length_nil, Nat.reduceAdd, Nat.reduceSub, Array.replicate_succ, Array.replicate_zero, List.push_toArray, List.append_toArray, List.nil_append, List.cons_append]
  gi_wp2
  gi_loopw [7] (fun i wr => i = .int .i64 0 ∧ J [] wr) (fun _ _ => 0)
  case atStart => exact ⟨rfl, h0⟩
  case round =>
    obtain ⟨rfl, hJs⟩ := hrel
    gi_wp2
    go_end0
    exact ⟨⟨_, rfl⟩, hJs⟩

/-- the slice holds the numbers zs, in a block below n₀; or there are none -/
def Ints (n₀ : Nat) (W : World) (a : Option Addr) (cap : Nat) (zs : List Int) : Prop :=
  zs = [] ∨ ∃ b off, a = some ⟨b, off, none⟩ ∧ b < n₀ ∧ ∀ j, j < zs.length → W.cell? ⟨b, off + j, none⟩ = some (.int .i64 (zs[j]?.getD 0))
theorem Ints.below {n₀ : Nat} {A B : World} (h : Below n₀ A B) {a : Option Addr} {cap : Nat} {zs : List Int} : Ints n₀ A a cap zs → Ints n₀ B a cap zs
  | .inl e => .inl e
  | .inr ⟨b, off, e, hb, hc⟩ => .inr ⟨b, off, e, hb, fun j hj => (h.cell (p := ⟨b, off + j, none⟩) hb).trans (hc j hj)⟩

/-- the contract of the law's sequence -/
theorem seq_stops (F : Fence) (n : Nat) (h7 : F.fn 7) (hro : F.round = none) (hn : 1 ≤ n) (Bs n₀ cap : Nat) (a : Option Addr) (zs : List Int) (hreach : zs.length * 8 ≤ 140737488351232) (w : World) (hBs : Bs < w.heap.size) (hn₀ : n₀ ≤ w.heap.size)
    (hc : w.cell? ⟨Bs, 0, none⟩ = some (.slice a zs.length cap)) (hI : Ints n₀ w a cap zs) :
    SeqStopsK F n Yba.prog 7 #[.pointer (some ⟨Bs, 0, none⟩)] (fun x : Int => #[Value.int .i64 x]) (Below n₀) (fun ys => ys = zs) (fun pre => pre <+: zs) zs.length w := fun l J Jx W hW _ _ hY h0 => by
  have hc' := (hW.cell (p := ⟨Bs, 0, none⟩) hBs).trans hc
  rcases hI.below (hW.mono hn₀) with rfl | ⟨b, off, rfl, hb, hcs⟩
  · exact (seq1_nil_in F n h7 hro l Bs cap a J W hc' h0).mono fun e W' ⟨he, hj⟩ => ⟨he, .inl ⟨_, rfl, hj⟩⟩
  · refine (seq1_in F n h7 hro hn l Bs n₀ b off zs.length cap zs hreach hb J Jx hY W hc' hcs h0).mono ?_
    rintro e W' ⟨he, ⟨ys, rfl, hj⟩ | ⟨pre, ⟨k, hk, rfl⟩, hj⟩⟩
    · exact ⟨he, .inl ⟨_, upto_all zs, hj⟩⟩
    · exact ⟨he, .inr ⟨_, by rw [upto_take zs hk]; exact List.take_prefix _ _, hj⟩⟩
end Go.Proofs.Ybulkexnbe
