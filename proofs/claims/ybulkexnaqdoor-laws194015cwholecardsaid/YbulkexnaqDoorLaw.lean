import Derived.Test.YbulkexnaqDoorRound2
namespace Go.Proofs.YbulkexnaqDoor
open Go.RowKit

theorem below_end {w w1 : World} {o a b : Obj} (h : Below (w.alloc o).heap.size (w.alloc o) w1) : Below w.heap.size w ((w1.alloc a).alloc b) := by
  have hs := h.size
  simp at hs
  exact ((((Below.refl _ _).alloc (Nat.le_refl _) _).trans (h.mono (by simp))).alloc (by omega) _).alloc (by simp; omega) _
theorem below_end1 {w w1 : World} {o a : Obj} (h : Below (w.alloc o).heap.size (w.alloc o) w1) : Below w.heap.size w (w1.alloc a) := by
  have hs := h.size
  simp at hs
  exact (((Below.refl _ _).alloc (Nat.le_refl _) _).trans (h.mono (by simp))).alloc (by omega) _

theorem round_yes (y m d h i s u : Int) (t : Bool) (p q R : Int) (y' m' d' h' i' s' u' : Int) (w : World) (hT : Tab w) (hz : 0 < w.heap.size) (h01 : 0 ≤ y ∧ y ≤ 9999) (h23 : 1 ≤ m ∧ m ≤ 12) (h45 : 1 ≤ d ∧ d ≤ Cal.dim y m)
    (a01 : 0 ≤ h ∧ h ≤ 23) (a23 : 0 ≤ i ∧ i ≤ 59) (a45 : 0 ≤ s ∧ s ≤ 59) (a67 : 0 ≤ u ∧ u ≤ 999999) (q01 : 0 ≤ q ∧ q ≤ 9) (HR : Hid (Cal.rnd u q = R))
    (c01 : 0 ≤ y' ∧ y' ≤ 9999) (c23 : 1 ≤ m' ∧ m' ≤ 12) (c45 : 1 ≤ d' ∧ d' ≤ Cal.dim y' m')
    (c67 : 0 ≤ h' ∧ h' ≤ 23) (c89 : 0 ≤ i' ∧ i' ≤ 59) (b01 : 0 ≤ s' ∧ s' ≤ 59) (b23 : 0 ≤ u' ∧ u' ≤ 999999)
    (HN : Hid (Cal.mom y m d h i s u + (R - u) = Cal.mom y' m' d' h' i' s' u')) :
    Calls Ybad.prog 5 #[dt y m d h i s u t p, .int .i64 q] w fun e w' => e = .returned (.tuple #[dt y' m' d' h' i' s' u' t q, .bool true]) ∧ Below w.heap.size w w' :=
  round_any y m d h i s u t p q _ true w hT hz a67.1 a67.2 q01.1 q01.2 y' m' d' h' i' s' u' t q rfl (fun k w' hk hT' hz' => by
    have := Cal.dim_bd y m
    have := Cal.rnd_bd u q a67.1 a67.2 q01.1
    refine add_yes y m d h i s u t q k y' m' d' h' i' s' u' w' hT' hz' h01.1 h01.2 h23.1 h23.2 h45.1 (by omega) a01.1 a01.2 a23.1 a23.2 a45.1 a45.2 a67.1 a67.2 (by omega) (by omega) c01.1 c01.2 c23.1 c23.2 c45.1 c45.2 c67.1 c67.2 c89.1 c89.2 b01.1 b01.2 b23.1 b23.2 ?_
    show _ = _
    rw [hk, HR.out]; exact HN.out)

theorem round_no (u : Int) (t : Bool) (p q : Int) (w : World) (hT : Tab w) (hz : 0 < w.heap.size) (a67 : 0 ≤ u ∧ u ≤ 999999) (q01 : 0 ≤ q ∧ q ≤ 9) (HR : Hid (Cal.rnd u q = 1000000)) :
    Calls Ybad.prog 5 #[dt 9999 12 (Cal.dim 9999 12) 23 59 59 u t p, .int .i64 q] w fun e w' => e = .returned (.tuple #[dt 0 0 0 0 0 0 0 false 0, .bool false]) ∧ Below w.heap.size w w' :=
  round_any 9999 12 (Cal.dim 9999 12) 23 59 59 u t p q _ false w hT hz a67.1 a67.2 q01.1 q01.2 0 0 0 0 0 0 0 false 0 rfl (fun k w' hk hT' hz' => by
    have := Cal.dim_bd 9999 12
    refine add_no 9999 12 (Cal.dim 9999 12) 23 59 59 u t q k w' hT' hz' (by omega) (by omega) (by omega) (by omega) (by omega) (by omega) (by omega) (by omega) (by omega) (by omega) (by omega) (by omega) a67.1 a67.2 (by rw [hk, HR.out]; omega) (by rw [hk, HR.out]; omega) ?_
    rw [hk, HR.out]; exact Cal.mom_over u)

set_option maxRecDepth 100000 in
set_option maxHeartbeats 8000000 in
theorem law_any (y mo d h mi s us : Int) (t : Bool) (o p : Int) (w : World) (hT : Tab w) (hz : 0 < w.heap.size)
    (y0 : 0 ≤ y) (y1 : y ≤ 4294967295) (m0 : 0 ≤ mo) (m1 : mo ≤ 4294967295) (d0 : 0 ≤ d) (d1 : d ≤ 4294967295) (h0 : 0 ≤ h) (h1 : h ≤ 4294967295) (i0 : 0 ≤ mi) (i1 : mi ≤ 4294967295)
    (s0 : 0 ≤ s) (s1 : s ≤ 4294967295) (u0 : 0 ≤ us) (u1 : us ≤ 4294967295) (o0 : 0 ≤ o) (o1 : o ≤ 255) (p0 : 0 ≤ p) (p1 : p ≤ 255) :
    Calls Ybad.prog 3 #[.int .u32 y, .int .u32 mo, .int .u32 d, .int .u32 h, .int .u32 mi, .int .u32 s, .int .u32 us, .bool t, .int .u8 o, .int .u8 p] w fun e w' => e = .returned (.bool true) ∧ Below w.heap.size w w' := by
  have hT1 : ∀ a, Tab (w.alloc a) := fun a => hT.alloc hz a
  have hdb := Cal.dim_bd (9999 - y % 10000) (12 - mo % 12)
  have hdm0 : 0 ≤ d % Cal.dim (9999 - y % 10000) (12 - mo % 12) := Int.emod_nonneg _ (by omega)
  have hdm1 : d % Cal.dim (9999 - y % 10000) (12 - mo % 12) < Cal.dim (9999 - y % 10000) (12 - mo % 12) := Int.emod_lt_of_pos _ (by omega)
  go_enter Ybad.func3, Ybad.ntmps3
  go_wp2_with (go_at_call 4; refine (zdim_any _ _ _ (by omega) (by omega)).mono ?_; rintro e w' ⟨rfl, rfl⟩)
  have e1 : 0 ≤ 9999 - y % 10000 ∧ 9999 - y % 10000 ≤ 9999 := by omega
  have e2 : 1 ≤ 12 - mo % 12 ∧ 12 - mo % 12 ≤ 12 := by omega
  have e3 : 1 ≤ Cal.dim (9999 - y % 10000) (12 - mo % 12) - d % Cal.dim (9999 - y % 10000) (12 - mo % 12) ∧ Cal.dim (9999 - y % 10000) (12 - mo % 12) - d % Cal.dim (9999 - y % 10000) (12 - mo % 12) ≤ Cal.dim (9999 - y % 10000) (12 - mo % 12) := by omega
  have e4 : 0 ≤ 23 - h % 24 ∧ 23 - h % 24 ≤ 23 := by omega
  have e5 : 0 ≤ 59 - mi % 60 ∧ 59 - mi % 60 ≤ 59 := by omega
  have e6 : 0 ≤ 59 - s % 60 ∧ 59 - s % 60 ≤ 59 := by omega
  have e7 : 0 ≤ 999999 - us % 1000000 ∧ 999999 - us % 1000000 ≤ 999999 := by omega
  have e8 : 0 ≤ p % 10 ∧ p % 10 ≤ 9 := by omega
  clear hdm0 hdm1 y0 y1 m0 m1 d0 d1 h0 h1 i0 i1 s0 s1 u0 u1 o0 o1 p0 p1
  generalize Cal.dim (9999 - y % 10000) (12 - mo % 12) - d % Cal.dim (9999 - y % 10000) (12 - mo % 12) = D at *
  generalize 9999 - y % 10000 = Y at *
  generalize 12 - mo % 12 = M at *
  generalize 23 - h % 24 = H at *
  generalize 59 - mi % 60 = I at *
  generalize 59 - s % 60 = S at *
  generalize 999999 - us % 1000000 = U at *
  generalize p % 10 = q at *
  generalize o % 7 = o7 at *
  go_loop [31, 32] (fun n i => ∃ j : Nat, j ≤ (6 - q).toNat ∧ i = .int .i64 (q + j) ∧ n = .int .i64 (10 ^ j)) (fun _ i => (10 - intOf i).toNat)
  case atStart => exact ⟨0, by omega, by go_num, rfl⟩
  case round =>
    obtain ⟨j, hj, rfl, rfl⟩ := hrel
    have hp := Cal.pow_bd j (by omega)
    by_cases hlt : q + j < 6
    · have HS : Hid ((10 : Int) ^ (j + 1) = 10 ^ j * 10) := Int.pow_succ 10 j
      go_wp2
      go_round
      case rel => exact ⟨j + 1, by omega, by go_num, by rw [HS.out]⟩
      case measure => simp [intOf]; omega
    · have hpw : (10 : Int) ^ j = 10 ^ (6 - q).toNat := by rw [show j = (6 - q).toNat by omega]
      have hr0 : (U + 10 ^ j / 2) / 10 ^ j * 10 ^ j = Cal.rnd U q := by unfold Cal.rnd; rw [hpw]
      have hrb := Cal.rnd_bd U q e7.1 e7.2 e8.1
      clear hpw
      obtain ⟨R, HR⟩ : ∃ R, Hid (Cal.rnd U q = R) := ⟨_, rfl⟩
      rw [HR.out] at hr0 hrb
      by_cases hR : R < 1000000
      · go_wp2_with (go_at_call 5; refine (round_yes Y M D H I S U t _ q R Y M D H I S R _ (hT1 _) (by simp) e1 e2 e3 e4 e5 e6 e7 e8 HR e1 e2 e3 e4 e5 e6 (by omega) (Cal.mom_u _ _ _ _ _ _ _ _)).mono ?_; rintro e w1 ⟨rfl, hb1⟩; obtain ⟨hc1, hf1⟩ := bcell hb1)
        go_ret
        exact ⟨rfl, below_end hb1⟩
      obtain rfl : R = 1000000 := by omega
      clear hR hrb
      by_cases hS : S < 59
      · go_wp2_with (go_at_call 5; refine (round_yes Y M D H I S U t _ q _ Y M D H I (S + 1) 0 _ (hT1 _) (by simp) e1 e2 e3 e4 e5 e6 e7 e8 HR e1 e2 e3 e4 e5 (by omega) (by omega) (Cal.mom_s _ _ _ _ _ _ _)).mono ?_; rintro e w1 ⟨rfl, hb1⟩; obtain ⟨hc1, hf1⟩ := bcell hb1)
        go_ret
        exact ⟨rfl, below_end hb1⟩
      obtain rfl : S = 59 := by omega
      clear hS
      by_cases hI : I < 59
      · go_wp2_with (go_at_call 5; refine (round_yes Y M D H I 59 U t _ q _ Y M D H (I + 1) 0 0 _ (hT1 _) (by simp) e1 e2 e3 e4 e5 e6 e7 e8 HR e1 e2 e3 e4 (by omega) (by omega) (by omega) (Cal.mom_i _ _ _ _ _ _)).mono ?_; rintro e w1 ⟨rfl, hb1⟩; obtain ⟨hc1, hf1⟩ := bcell hb1)
        go_ret
        exact ⟨rfl, below_end hb1⟩
      obtain rfl : I = 59 := by omega
      clear hI
      by_cases hH : H < 23
      · go_wp2_with (go_at_call 5; refine (round_yes Y M D H 59 59 U t _ q _ Y M D (H + 1) 0 0 0 _ (hT1 _) (by simp) e1 e2 e3 e4 e5 e6 e7 e8 HR e1 e2 e3 (by omega) (by omega) (by omega) (by omega) (Cal.mom_h _ _ _ _ _)).mono ?_; rintro e w1 ⟨rfl, hb1⟩; obtain ⟨hc1, hf1⟩ := bcell hb1)
        go_ret
        exact ⟨rfl, below_end hb1⟩
      obtain rfl : H = 23 := by omega
      clear hH
      by_cases hD : D < Cal.dim Y M
      · go_wp2_with (go_at_call 5; refine (round_yes Y M D 23 59 59 U t _ q _ Y M (D + 1) 0 0 0 0 _ (hT1 _) (by simp) e1 e2 e3 e4 e5 e6 e7 e8 HR e1 e2 (by omega) (by omega) (by omega) (by omega) (by omega) (Cal.mom_d _ _ _ _)).mono ?_; rintro e w1 ⟨rfl, hb1⟩; obtain ⟨hc1, hf1⟩ := bcell hb1)
        go_ret
        exact ⟨rfl, below_end hb1⟩
      obtain rfl : D = Cal.dim Y M := by omega
      clear hD
      by_cases hM : M < 12
      · have hdb2 := Cal.dim_bd Y (M + 1)
        go_wp2_with (go_at_call 5; refine (round_yes Y M (Cal.dim Y M) 23 59 59 U t _ q _ Y (M + 1) 1 0 0 0 0 _ (hT1 _) (by simp) e1 e2 e3 e4 e5 e6 e7 e8 HR e1 (by omega) (by omega) (by omega) (by omega) (by omega) (by omega) (Cal.mom_m _ _ _ e2.1 e2.2)).mono ?_; rintro e w1 ⟨rfl, hb1⟩; obtain ⟨hc1, hf1⟩ := bcell hb1)
        go_ret
        exact ⟨rfl, below_end hb1⟩
      obtain rfl : M = 12 := by omega
      clear hM
      by_cases hY : Y < 9999
      · have hdb2 := Cal.dim_bd (Y + 1) 1
        go_wp2_with (go_at_call 5; refine (round_yes Y 12 (Cal.dim Y 12) 23 59 59 U t _ q _ (Y + 1) 1 1 0 0 0 0 _ (hT1 _) (by simp) e1 e2 e3 e4 e5 e6 e7 e8 HR (by omega) (by omega) (by omega) (by omega) (by omega) (by omega) (by omega) (Cal.mom_y _ _ e1.1)).mono ?_; rintro e w1 ⟨rfl, hb1⟩; obtain ⟨hc1, hf1⟩ := bcell hb1)
        go_ret
        exact ⟨rfl, below_end hb1⟩
      obtain rfl : Y = 9999 := by omega
      clear hY
      go_wp2_with (go_at_call 5; refine (round_no U t _ q _ (hT1 _) (by simp) e7 e8 HR).mono ?_; rintro e w1 ⟨rfl, hb1⟩; obtain ⟨hc1, hf1⟩ := bcell hb1)
      go_ret
      exact ⟨rfl, below_end1 hb1⟩
end Go.Proofs.YbulkexnaqDoor

