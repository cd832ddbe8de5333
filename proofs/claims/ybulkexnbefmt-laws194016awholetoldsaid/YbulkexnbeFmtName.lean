import Derived.Test.YbulkexnbeFmtProg
import Derived.Test.YbulkexnbeFmtNames
import Derived.WalkKit
import Derived.WalkSpells
import Derived.WalkLawsBesides
namespace Go.Proofs.YbulkexnbeFmt
open Go.RowKit

theorem hide {p : Prop} (h : p) : Hid p := h

theorem len_small {m i0 l : Nat} (h1 : i0 ≤ 65536) (hm : 0 < m) (h : m * 10 ^ l ≤ i0) : l ≤ 4 := by
  rcases Nat.lt_or_ge 4 l with hl | hl
  · have h5 : 10 ^ 5 ≤ 10 ^ l := Nat.pow_le_pow_right (by omega) (by omega)
    have : 1 * 10 ^ l ≤ m * 10 ^ l := Nat.mul_le_mul_right _ hm
    omega
  · exact hl

theorem div_le {m i0 l : Nat} (h : m * 10 ^ l ≤ i0) : m / 10 * 10 ^ (l + 1) ≤ i0 := by
  have h2 : m / 10 * 10 ≤ m := Nat.div_mul_le_self m 10
  have h3 : m / 10 * 10 * 10 ^ l ≤ m * 10 ^ l := Nat.mul_le_mul_right _ h2
  rw [Nat.pow_succ, Nat.mul_comm (10 ^ l) 10, ← Nat.mul_assoc]
  omega

theorem q_cons (ds : List Int) : (⟨#[113]⟩ : ByteArray) ++ strOfNums ds = strOfNums (113 :: ds) := by
  apply ByteArray.ext
  simp [strOfNums, ByteArray.data_append]

set_option maxRecDepth 100000 in
set_option maxHeartbeats 400000 in
theorem name_pos (i0 : Nat) (w : World) (h1 : i0 ≤ 65536) (h0 : 0 < i0) :
    Calls Ybaf.prog 4 #[.int .i64 i0] w fun e w' => e = .returned (.string (Nm.qn i0)) ∧ Below w.heap.size w w' := by
  have hi0 : ((i0 : Int) == 0) = false := by simp; omega
  go_enter Ybaf.func4, Ybaf.ntmps4
  go_wp2
  go_loopw [0, 4] (fun i k wr => ∃ (m kk : Nat) (ds : List Int), m ≤ 65536 ∧ Hid (kk + ds.length = 24) ∧ kk ≤ 24 ∧ m * 10 ^ ds.length ≤ i0 ∧ Hid (Nm.dig 24 i0 = Nm.dig 24 m ++ ds) ∧ i = .int .i64 m ∧ k = .int .i64 kk ∧ wr = w.alloc (.cells (Nm.buf ds) 48)) (fun i _ _ => (intOf i).toNat)
  case atStart => exact ⟨i0, 24, [], h1, by show _ = _; simp, by omega, by simp, by show _ = _; simp, rfl, rfl, by rw [Nm.buf_nil]; rfl⟩
  case round =>
    obtain ⟨m, k, ds, hm, HK, hk, hle, HD, rfl, rfl, rfl⟩ := hrel
    have hl : ds.length ≤ 24 := by have := HK.out; omega
    by_cases hlt : 0 < m
    · have hl4 := len_small h1 hlt hle
      have hk1 : 1 ≤ k := by have := HK.out; omega
      obtain ⟨v, hv⟩ : ∃ v, (Nm.buf ds)[k - 1]? = some v := ⟨_, Array.getElem?_eq_getElem (by rw [Nm.buf_size ds hl]; omega)⟩
      go_wp2
      go_roundw
      case rel =>
        refine ⟨m / 10, k - 1, (48 + ((m % 10 : Nat) : Int)) :: ds, by omega, by have := HK.out; show _ = _; simp; omega, by omega, by simpa using div_le hle, ?_, by go_num, by go_num, ?_⟩
        · show _ = _
          rw [HD.out, Nm.dig_step m (by omega) hlt]; simp
        · rw [← Nm.buf_set ds _ (by omega)]
          rw [show 23 - ds.length = k - 1 by have := HK.out; omega, show ((m % 10 : Nat) : Int) = (m : Int) % 10 by omega]
      case measure => simp [intOf]; omega
    · obtain rfl : m = 0 := by omega
      have hk0 : (k : Int) ≤ 24 := by omega
      have hds : Nm.dig 24 i0 = ds := by rw [HD.out, Nm.dig_zero]; simp
      have hq : Nm.qn i0 = strOfNums (113 :: ds) := by rw [Nm.qn, Nm.dl, if_neg (by omega), hds]
      have hne : ¬ (k = 24) := by
        intro hk'
        have h2 : ds = [] := by have := HK.out; exact List.length_eq_zero_iff.1 (by omega)
        have := Nm.val_dig 24 i0 (by omega)
        rw [hds, h2] at this
        simp [Nm.val] at this
        omega
      have HQ := hide hq
      clear hq hds
      have hcv := run_convert_bytes_arg (P := Ybaf.prog) (w.alloc (.cells (Nm.buf ds) 48)) 49 5 Ybaf.underlying49 Ybaf.underlying5 w.heap.size k (24 - k) (24 - k) ds (by have := HK.out; omega)
        (fun i hi => by
          have := HK.out
          have hg := Nm.buf_get ds i (by omega)
          rw [show k = 24 - ds.length by omega, World.cell?_alloc_at _ _ _ _ rfl]
          exact hg) 9 Ybaf.underlying9
      have hsz : (strOfNums ds).size ≤ 24 := by rw [strOfNums_size]; exact hl
      go_wp2
      go_ret
      refine ⟨?_, (Below.refl _ _).alloc (Nat.le_refl _) _⟩
      rw [HQ.out]
      show Ending.returned (.string (⟨#[113]⟩ ++ strOfNums ds)) = _
      rw [q_cons]

set_option maxRecDepth 100000 in
/-- the name of queue i -/
theorem name_any (i : Nat) (w : World) (h1 : i ≤ 65536) :
    Calls Ybaf.prog 4 #[.int .i64 i] w fun e w' => e = .returned (.string (Nm.qn i)) ∧ Below w.heap.size w w' := by
  by_cases h : i = 0
  · subst h
    go_enter Ybaf.func4, Ybaf.ntmps4
    go_wp2
    go_ret
    exact ⟨rfl, Below.refl _ _⟩
  · exact name_pos i w h1 (by omega)
end Go.Proofs.YbulkexnbeFmt
