import Derived.Test.YbulkexnaqDoorSmall
namespace Go.Proofs.YbulkexnaqDoor
open Go.RowKit

theorem ret_int3 {a b c a' b' c' : Int} (h : a = a') (i : b = b') (j : c = c') : Ending.returned (.tuple #[.int .i64 a, .int .i64 b, .int .i64 c]) = .returned (.tuple #[.int .i64 a', .int .i64 b', .int .i64 c']) := by rw [h, i, j]

set_option maxHeartbeats 1000000 in
theorem dateOfDay_any (y m d n : Int) (w : World) (hT : Tab w) (h0 : 0 ≤ y) (h1 : y ≤ 9999) (h2 : 1 ≤ m) (h3 : m ≤ 12) (h4 : 1 ≤ d) (h5 : d ≤ Cal.dim y m) (HN : Hid (n = Cal.dby y + (Cal.cum y m + d))) :
    Calls Ybad.prog 15 #[.int .i64 n] w fun e w' => e = .returned (.tuple #[.int .i64 y, .int .i64 m, .int .i64 d]) ∧ w' = w := by
  have hn1 : Cal.dby y < n := by have := HN.out; have := Cal.cum_bd y m h2 (by omega); omega
  have hn2 : n ≤ Cal.dby (y + 1) := by have := HN.out; have := Cal.cum_end y m h2 h3; rw [Cal.dby_succ y h0]; omega
  have hn3 : n ≤ 3652424 := by have := Cal.dby_mono (y + 1) 10000 (by omega) (by omega); rw [Cal.dby_max] at this; omega
  have hb := Cal.dby_bd y h0 (by omega)
  have hn0 : 1 ≤ n := by omega
  go_enter Ybad.func15, Ybad.ntmps15
  go_wp2
  go_loop [2] (fun t => ∃ Y : Int, 0 ≤ Y ∧ Y ≤ 10000 ∧ t = .int .i64 Y) (fun t => (10000 - intOf t).toNat)
  case atStart => exact ⟨_, by omega, by omega, rfl⟩
  case round =>
    obtain ⟨Y, hy1, hy2, rfl⟩ := hrel
    by_cases hc : Y < y
    · have hd : Cal.dby (Y + 1) < n := by have := Cal.dby_mono (Y + 1) y (by omega) (by omega); omega
      go_wp2_with (go_at_call 16; refine (dby_any _ _ (by omega) (by omega)).mono ?_; rintro e w' ⟨rfl, rfl⟩)
      go_round
      case rel => exact ⟨Y + 1, by omega, by omega, rfl⟩
      case measure => simp [intOf]; omega
    · have hd : ¬ Cal.dby (Y + 1) < n := by have := Cal.dby_mono (y + 1) (Y + 1) (by omega) (by omega); omega
      go_wp2_with (go_at_call 16; refine (dby_any _ _ (by omega) (by omega)).mono ?_; rintro e w' ⟨rfl, rfl⟩)
      clear hd
      go_loop [2] (fun t => ∃ Y : Int, y ≤ Y ∧ Y ≤ 10000 ∧ t = .int .i64 Y) (fun t => (intOf t).toNat)
      case atStart => exact ⟨Y, by omega, by omega, rfl⟩
      case round =>
        clear hc hy1 hy2
        obtain ⟨Y, hy1, hy2, rfl⟩ := hrel
        by_cases hc : y < Y
        · have hd : n ≤ Cal.dby Y := by have := Cal.dby_mono (y + 1) Y (by omega) (by omega); omega
          have hp : 0 < Y := by omega
          go_wp2_with (go_at_call 16; refine (dby_any _ _ (by omega) (by omega)).mono ?_; rintro e w' ⟨rfl, rfl⟩)
          go_round
          case rel => exact ⟨Y - 1, by omega, by omega, rfl⟩
          case measure => simp [intOf]; omega
        · obtain rfl : Y = y := by omega
          clear hc hy1 hy2
          by_cases hp : 0 < Y
          all_goals
            go_wp2_with (go_at_call 16; refine (dby_any _ _ (by omega) (by omega)).mono ?_; rintro e w' ⟨rfl, rfl⟩)
            go_loop [3, 5] (fun k l => ∃ M : Int, 1 ≤ M ∧ M ≤ m ∧ k = .int .i64 M ∧ l = .int .i64 (n - Cal.dby Y - Cal.cum Y M)) (fun k _ => (m - intOf k).toNat)
            case atStart => exact ⟨1, by omega, by omega, rfl, by rw [Cal.cum_1]; go_num⟩
            case round =>
              obtain ⟨M, hm1, hm2, rfl, rfl⟩ := hrel
              have cb := Cal.cum_bd Y M hm1 (by omega)
              have db := Cal.dim_bd Y M
              by_cases hc : M < m
              · have HS : Hid (Cal.cum Y (M + 1) = Cal.cum Y M + Cal.dim Y M) := Cal.cum_succ Y M hm1 (by omega)
                have hd : Cal.dim Y M < n - Cal.dby Y - Cal.cum Y M := by
                  have := Cal.cum_mono Y (M + 1) m (by omega) (by omega) (by omega)
                  have := HS.out; have := HN.out; omega
                go_wp2_with (go_at_call 18; refine (dim_any _ _ _ hT h0 (by omega) hm1 (by omega)).mono ?_; rintro e w' ⟨rfl, rfl⟩)
                go_round
                case rel => exact ⟨M + 1, by omega, by omega, rfl, by rw [HS.out]; go_num⟩
                case measure => simp [intOf]; omega
              · obtain rfl : M = m := by omega
                have HD : Hid (n - Cal.dby Y - Cal.cum Y M = d) := by have := HN.out; show _ = _; omega
                have hd : n - Cal.dby Y - Cal.cum Y M ≤ Cal.dim Y M := by rw [HD.out]; exact h5
                go_wp2_with (go_at_call 18; refine (dim_any _ _ _ hT h0 (by omega) hm1 (by omega)).mono ?_; rintro e w' ⟨rfl, rfl⟩)
                go_ret3
                exact ⟨ret_int3 rfl rfl HD.out, rfl⟩
end Go.Proofs.YbulkexnaqDoor
