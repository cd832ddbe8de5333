import Derived.Test.YbulkexnbePlain
import Derived.WalkKit
import Derived.WalkSpells
import Derived.WalkLawsBesides
import Derived.Below
import Derived.Deep.DeepMust
import Derived.Shelf.SlCmpFuncs.BinarySearchFunc
namespace Go.Proofs.Ybulkexnbe
open Go.RowKit
set_option linter.unusedVariables false
theorem hide {p : Prop} (h : p) : Hid p := h

set_option maxHeartbeats 400000 in
theorem nan_is (x : Int) (w : World) : Calls Yba.prog 12 #[.int .i64 x] w fun e w' => e = .returned (.bool false) ∧ w' = w := by
  go_enter Yba.func12, Yba.ntmps12
  go_wp2
  go_ret
  exact ⟨by simp, rfl⟩

set_option maxHeartbeats 400000 in
theorem cmp_is (x y : Int) (w : World) : Calls Yba.prog 6 #[.int .i64 x, .int .i64 y] w fun e w' => e = .returned (.int .i64 (cmpI x y)) ∧ w' = w := by
  rcases Int.lt_trichotomy x y with h | h | h
  · have e : cmpI x y = -1 := by unfold cmpI; rw [if_pos h]
    rw [e]
    go_enter Yba.func6, Yba.ntmps6
    go_wp2_with (go_at_call 12; go_must (refine (nan_is _ _).mono ?_); rintro e w1 ⟨rfl, rfl⟩)
    go_ret
    exact ⟨rfl, rfl⟩
  · have e : cmpI x y = 0 := by unfold cmpI; rw [if_neg (by omega), if_neg (by omega)]
    rw [e]
    go_enter Yba.func6, Yba.ntmps6
    go_wp2_with (go_at_call 12; go_must (refine (nan_is _ _).mono ?_); rintro e w1 ⟨rfl, rfl⟩)
    go_ret
    exact ⟨rfl, rfl⟩
  · have e : cmpI x y = 1 := by unfold cmpI; rw [if_neg (by omega), if_pos h]
    rw [e]
    go_enter Yba.func6, Yba.ntmps6
    go_wp2_with (go_at_call 12; go_must (refine (nan_is _ _).mono ?_); rintro e w1 ⟨rfl, rfl⟩)
    go_ret
    exact ⟨rfl, rfl⟩

set_option maxHeartbeats 400000 in
/-- the law's own comparison -/
theorem cmpf_is (x y : Int) (B : Nat) (desc : Bool) (w : World) (hB : w.cell? ⟨B, 0, none⟩ = some (.bool desc)) :
    Calls Yba.prog 5 #[.int .i64 x, .int .i64 y, .pointer (some ⟨B, 0, none⟩)] w fun e w' => e = .returned (.int .i64 (cf desc x y)) ∧ w' = w := by
  cases desc
  · go_enter Yba.func5, Yba.ntmps5
    go_wp2_with (go_at_call 6; go_must (refine (cmp_is _ _ _).mono ?_); rintro e w1 ⟨rfl, rfl⟩)
    go_ret
    exact ⟨rfl, rfl⟩
  · go_enter Yba.func5, Yba.ntmps5
    go_wp2_with (go_at_call 6; go_must (refine (cmp_is _ _ _).mono ?_); rintro e w1 ⟨rfl, rfl⟩)
    go_ret
    exact ⟨rfl, rfl⟩

/-- the function value that the law hands on -/
abbrev fv (B : Nat) : Value := .func (.func 5) #[] #[.pointer (some ⟨B, 0, none⟩)]
theorem eg5 : ∀ args w, (callFunc 5 args).run Yba.prog w = .ok (.enter 5 args) w := enters_of Yba.func5 (by kernel_rfl) rfl

/-- the search's answer: the place, and a bool that nobody asks for -/
def Found (e : Ending) (n : Nat) : Prop := ∃ f, e = .returned (.tuple #[.int .i64 n, .bool f])

set_option maxRecDepth 100000 in
set_option maxHeartbeats 1000000 in
/-- slices.BinarySearchFunc over a list in order -/
theorem search_is (b off cap B : Nat) (l : List Int) (x : Int) (desc : Bool) (w : World) (hl : l.length ≤ 1048576) (hs : l.Pairwise (Le desc)) (hB : w.cell? ⟨B, 0, none⟩ = some (.bool desc))
    (hc : ∀ j, j < l.length → w.cell? ⟨b, off + j, none⟩ = some (.int .i64 (l.getD j 0))) :
    Calls Yba.prog 16 #[.slice (some ⟨b, off, none⟩) l.length cap, .int .i64 x, fv B] w fun e w' => Found e (l.countP fun y => decide (cf desc y x < 0)) ∧ w' = w := by
  have HC := hide hc
  have HS := hide hs
  clear hc hs
  have eg := eg5
  go_enter Yba.func16, Yba.ntmps16
  go_wp2
  go_loop [9, 10] (fun i j => ∃ p q : Nat, p ≤ q ∧ q ≤ l.length ∧ i = .int .i64 p ∧ j = .int .i64 q ∧ Hid (∀ t, t < p → cf desc (l.getD t 0) x < 0) ∧ Hid (∀ t, q ≤ t → t < l.length → 0 ≤ cf desc (l.getD t 0) x))
    (fun i j => (intOf j).toNat - (intOf i).toNat)
  case atStart => exact ⟨0, l.length, by omega, by omega, rfl, rfl, fun t h => by omega, fun t h h' => by omega⟩
  case round =>
    obtain ⟨p, q, hpq, hq, rfl, rfl, hp, hq2⟩ := hrel
    by_cases hlt : p < q
    · have hm : (p + q) / 2 < l.length := by omega
      have hcell := HC.out ((p + q) / 2) hm
      obtain ⟨z, hz⟩ : ∃ z, l.getD ((p + q) / 2) 0 = z := ⟨_, rfl⟩
      rw [hz] at hcell
      have HZ := hide hz
      clear hz
      by_cases hneg : cf desc z x < 0
      · obtain ⟨c, hcc⟩ : ∃ c, cf desc z x = c := ⟨_, rfl⟩
        rw [hcc] at hneg
        have HCC := hide hcc
        clear hcc
        go_wp2_with (first | (go_at_call 5; go_must (refine (cmpf_is _ _ B desc _ hB).mono ?_); rw [HCC.out]; rintro e w1 ⟨rfl, rfl⟩))
        go_round
        case rel =>
          refine ⟨(p + q) / 2 + 1, q, by omega, hq, by go_num, rfl, fun t ht => ?_, hq2⟩
          have h1 : Le desc (l.getD t 0) z := by
            rw [← HZ.out, getD_get (by omega), getD_get hm]
            by_cases e : t = (p + q) / 2
            · subst e; exact Le.refl _ _
            · exact List.pairwise_iff_getElem.1 HS.out t ((p + q) / 2) (by omega) hm (by omega)
          rw [cf_neg]
          intro h2
          have h3 : ¬ Le desc x z := by rw [← cf_neg, HCC.out]; exact hneg
          exact h3 (h2.trans h1)
        case measure => simp [intOf]; omega
      · obtain ⟨c, hcc⟩ : ∃ c, cf desc z x = c := ⟨_, rfl⟩
        rw [hcc] at hneg
        have HCC := hide hcc
        clear hcc
        go_wp2_with (first | (go_at_call 5; go_must (refine (cmpf_is _ _ B desc _ hB).mono ?_); rw [HCC.out]; rintro e w1 ⟨rfl, rfl⟩))
        go_round
        case rel =>
          refine ⟨p, (p + q) / 2, by omega, by omega, rfl, by go_num, hp, fun t ht ht2 => ?_⟩
          have h1 : Le desc z (l.getD t 0) := by
            rw [← HZ.out, getD_get ht2, getD_get hm]
            by_cases e : t = (p + q) / 2
            · subst e; exact Le.refl _ _
            · exact List.pairwise_iff_getElem.1 HS.out ((p + q) / 2) t hm ht2 (by omega)
          have h3 : ¬ cf desc z x < 0 := by rw [HCC.out]; omega
          rw [cf_neg, Classical.not_not] at h3
          have h4 : ¬ cf desc (l.getD t 0) x < 0 := by rw [cf_neg, Classical.not_not]; exact h3.trans h1
          omega
        case measure => simp [intOf]; omega
    · obtain rfl : p = q := by omega
      have hcnt : l.countP (fun y => decide (cf desc y x < 0)) = p := by
        refine Go.Lib.countP_boundary _ l p hq (fun t ht => ?_) (fun t ht ht2 => ?_)
        · rw [getElem!_pos l t (by omega), ← getD_get]; simpa using hp.out t ht
        · rw [getElem!_pos l t ht2, ← getD_get]; simpa using hq2.out t ht ht2
      have HN := hide hcnt
      clear hcnt
      by_cases hlast : p < l.length
      · have hcell := HC.out p hlast
        generalize l.getD p 0 = z at hcell
        go_wp2_with (first | (go_at_call 5; go_must (refine (cmpf_is _ _ B desc _ hB).mono ?_); rintro e w1 ⟨rfl, rfl⟩))
        go_ret2
        refine ⟨?_, rfl⟩
        rw [HN.out]
        exact ⟨_, rfl⟩
      · obtain rfl : p = l.length := by omega
        go_wp2
        go_ret2
        refine ⟨?_, rfl⟩
        rw [HN.out]
        exact ⟨_, rfl⟩

set_option maxHeartbeats 400000 in
/-- .. over an empty one, nil too -/
theorem search_empty (a : Option Addr) (cap B : Nat) (x : Int) (w : World) :
    Calls Yba.prog 16 #[.slice a 0 cap, .int .i64 x, fv B] w fun e w' => Found e 0 ∧ w' = w := by
  go_enter Yba.func16, Yba.ntmps16
  go_wp2
  go_loop [9, 10] (fun i j => i = .int .i64 0 ∧ j = .int .i64 0) (fun _ _ => 0)
  case atStart => exact ⟨rfl, rfl⟩
  case round =>
    obtain ⟨rfl, rfl⟩ := hrel
    go_wp2
    go_ret2
    exact ⟨⟨_, rfl⟩, rfl⟩
end Go.Proofs.Ybulkexnbe
