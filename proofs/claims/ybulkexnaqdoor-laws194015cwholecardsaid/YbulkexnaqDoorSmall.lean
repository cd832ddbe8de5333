import Derived.Test.YbulkexnaqDoorProg
import Derived.Test.YbulkexnaqDoorCal
import Derived.WalkKit
import Derived.WalkSpells
import Derived.WalkLawsBesides
namespace Go.Proofs.YbulkexnaqDoor
open Go.RowKit

theorem ret_int {k : IntKind} {a b : Int} (h : a = b) : Ending.returned (.int k a) = .returned (.int k b) := by rw [h]
theorem ret_bool {a b : Bool} (h : a = b) : Ending.returned (.bool a) = .returned (.bool b) := by rw [h]

set_option maxHeartbeats 400000 in
theorem zleap_any (y : Int) (w : World) (h0 : 0 ≤ y) (h1 : y ≤ 10001) :
    Calls Ybad.prog 6 #[.int .i64 y] w fun e w' => e = .returned (.bool (Cal.leapB y)) ∧ w' = w := by
  go_enter Ybad.func6, Ybad.ntmps6
  go_wp2
  all_goals go_ret
  all_goals (refine ⟨ret_bool ?_, rfl⟩; rw [Bool.eq_iff_iff]; simp [Cal.leapB]; omega)

set_option maxHeartbeats 400000 in
theorem isLeap_any (y : Int) (w : World) (h0 : 0 ≤ y) (h1 : y ≤ 10001) :
    Calls Ybad.prog 19 #[.int .i64 y] w fun e w' => e = .returned (.bool (Cal.leapB y)) ∧ w' = w := by
  go_enter Ybad.func19, Ybad.ntmps19
  go_wp2
  all_goals go_ret
  all_goals (refine ⟨ret_bool ?_, rfl⟩; rw [Bool.eq_iff_iff]; simp [Cal.leapB]; omega)

set_option maxHeartbeats 400000 in
theorem zdim_any (y m : Int) (w : World) (h0 : 0 ≤ y) (h1 : y ≤ 10001) :
    Calls Ybad.prog 4 #[.int .i64 y, .int .i64 m] w fun e w' => e = .returned (.int .i64 (Cal.dim y m)) ∧ w' = w := by
  go_enter Ybad.func4, Ybad.ntmps4
  go_wp2_with (go_at_call 6; refine (zleap_any _ _ h0 h1).mono ?_; rintro e w' ⟨rfl, rfl⟩)
  all_goals go_ret
  all_goals (refine ⟨ret_int ?_, rfl⟩; simp_all [Cal.dim, Cal.lp_leapB])

/-- The table of the months, as it lies in memory: global 0, twelve cells. -/
def Tab (w : World) : Prop := ∀ m : Int, 1 ≤ m → m ≤ 12 → w.cell? ⟨0, m.toNat - 1, none⟩ = some (.int .i64 (Cal.dim 1 m))

set_option maxHeartbeats 400000 in
theorem dim_any (y m : Int) (w : World) (hT : Tab w) (h0 : 0 ≤ y) (h1 : y ≤ 10001) (h2 : 1 ≤ m) (h3 : m ≤ 12) :
    Calls Ybad.prog 18 #[.int .i64 y, .int .i64 m] w fun e w' => e = .returned (.int .i64 (Cal.dim y m)) ∧ w' = w := by
  by_cases hm : m = 2
  · subst hm
    have hc2 : w.cell? ⟨0, 1, none⟩ = some (.int .i64 28) := hT 2 (by omega) (by omega)
    by_cases hl : Cal.leapB y = true
    · have hd : Cal.dim y 2 = 29 := by simp [Cal.dim, Cal.lp_leapB, hl]
      go_enter Ybad.func18, Ybad.ntmps18
      go_wp2_with (go_at_call 19; refine (isLeap_any _ _ h0 h1).mono ?_; rintro e w' ⟨rfl, rfl⟩)
      go_ret
      exact ⟨ret_int hd.symm, rfl⟩
    · have hl' : Cal.leapB y = false := by simpa using hl
      have hd : Cal.dim y 2 = 28 := by simp [Cal.dim, Cal.lp_leapB, hl']
      go_enter Ybad.func18, Ybad.ntmps18
      go_wp2_with (go_at_call 19; refine (isLeap_any _ _ h0 h1).mono ?_; rintro e w' ⟨rfl, rfl⟩)
      go_ret
      exact ⟨ret_int hd.symm, rfl⟩
  · have hc := hT m h2 h3
    have hd : Cal.dim 1 m = Cal.dim y m := by simp [Cal.dim, hm]
    rw [hd] at hc
    clear hd
    go_enter Ybad.func18, Ybad.ntmps18
    go_wp2
    go_ret
    exact ⟨rfl, rfl⟩

set_option maxHeartbeats 400000 in
theorem dby_any (y : Int) (w : World) (h0 : 0 ≤ y) (h1 : y ≤ 10001) :
    Calls Ybad.prog 16 #[.int .i64 y] w fun e w' => e = .returned (.int .i64 (Cal.dby y)) ∧ w' = w := by
  by_cases h : y = 0
  · subst h
    go_enter Ybad.func16, Ybad.ntmps16
    go_wp2
    go_ret
    exact ⟨rfl, rfl⟩
  · have h2 : 1 ≤ y := by omega
    go_enter Ybad.func16, Ybad.ntmps16
    go_wp2
    go_ret
    refine ⟨ret_int ?_, rfl⟩
    simp [Cal.dby, h]

set_option maxHeartbeats 400000 in
theorem floorDiv_any (a : Int) (w : World) (h0 : 0 ≤ a) (h1 : a ≤ 400000000000000000) :
    Calls Ybad.prog 10 #[.int .i64 a, .int .i64 86400000000] w fun e w' => e = .returned (.int .i64 (a / 86400000000)) ∧ w' = w := by
  go_enter Ybad.func10, Ybad.ntmps10
  go_wp2
  go_ret
  exact ⟨rfl, rfl⟩

set_option maxHeartbeats 400000 in
theorem doy_any (y m d : Int) (w : World) (hT : Tab w) (h0 : 0 ≤ y) (h1 : y ≤ 10001) (h2 : 1 ≤ m) (h3 : m ≤ 12) (h4 : 1 ≤ d) (h5 : d ≤ 31) :
    Calls Ybad.prog 17 #[.int .i64 y, .int .i64 m, .int .i64 d] w fun e w' => e = .returned (.int .i64 (Cal.cum y m + d)) ∧ w' = w := by
  go_enter Ybad.func17, Ybad.ntmps17
  go_wp2
  go_loop [2, 7] (fun t i => ∃ k : Int, 1 ≤ k ∧ k ≤ m ∧ i = .int .i64 k ∧ t = .int .i64 (Cal.cum y k + d)) (fun _ i => (m - intOf i).toNat)
  case atStart => exact ⟨1, by omega, h2, rfl, by rw [Cal.cum_1]; go_num⟩
  case round =>
    obtain ⟨k, hk1, hk2, rfl, rfl⟩ := hrel
    have cb := Cal.cum_bd y k hk1 (by omega)
    have db := Cal.dim_bd y k
    by_cases hlt : k < m
    · have HS : Hid (Cal.cum y (k + 1) = Cal.cum y k + Cal.dim y k) := Cal.cum_succ y k hk1 (by omega)
      go_wp2_with (go_at_call 18; refine (dim_any _ _ _ hT h0 h1 hk1 (by omega)).mono ?_; rintro e w' ⟨rfl, rfl⟩)
      go_round
      case rel => exact ⟨k + 1, by omega, by omega, rfl, by rw [HS.out]; go_num⟩
      case measure => simp [intOf]; omega
    · go_wp2
      go_ret
      exact ⟨ret_int (by rw [show k = m by omega]), rfl⟩

set_option maxHeartbeats 400000 in
theorem pow_any (n : Int) (w : World) (h0 : -9 ≤ n) (h1 : n ≤ 6) :
    Calls Ybad.prog 12 #[.int .i64 n] w fun e w' => e = .returned (.int .i64 (10 ^ n.toNat)) ∧ w' = w := by
  go_enter Ybad.func12, Ybad.ntmps12
  go_wp2
  go_loop [3, 5] (fun p i => ∃ k : Nat, k ≤ n.toNat ∧ i = .int .i64 k ∧ p = .int .i64 (10 ^ k)) (fun _ i => n.toNat - (intOf i).toNat)
  case atStart => exact ⟨0, by omega, rfl, rfl⟩
  case round =>
    obtain ⟨k, hk, rfl, rfl⟩ := hrel
    have hp := Cal.pow_bd k (by omega)
    by_cases hlt : (k : Int) < n
    · have HS : Hid ((10 : Int) ^ (k + 1) = 10 ^ k * 10) := Int.pow_succ 10 k
      go_wp2
      go_round
      case rel => exact ⟨k + 1, by omega, by go_num, by rw [HS.out]⟩
      case measure => simp [intOf]; omega
    · go_wp2
      go_ret
      exact ⟨ret_int (by rw [show k = n.toNat by omega]), rfl⟩

set_option maxHeartbeats 400000 in
theorem roundMicros_any (us p : Int) (w : World) (h0 : 0 ≤ us) (h1 : us ≤ 999999) (h2 : 0 ≤ p) (h3 : p ≤ 9) :
    Calls Ybad.prog 8 #[.int .i64 us, .int .i64 p] w fun e w' => e = .returned (.int .i64 (Cal.rnd us p)) ∧ w' = w := by
  have hp := Cal.pow_bd (6 - p).toNat (by omega)
  go_enter Ybad.func8, Ybad.ntmps8
  go_wp2_with (go_at_call 12; refine (pow_any _ _ (by omega) (by omega)).mono ?_; rintro e w' ⟨rfl, rfl⟩)
  go_ret
  refine ⟨ret_int ?_, rfl⟩
  have := Cal.rnd_bd us p h0 h1 h2
  exact IntWalk.wrap64_in _ (by unfold Cal.rnd at this; omega)

end Go.Proofs.YbulkexnaqDoor
