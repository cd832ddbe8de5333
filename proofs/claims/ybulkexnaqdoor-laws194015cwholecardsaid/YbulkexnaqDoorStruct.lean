import Derived.Test.YbulkexnaqDoorDate
import Derived.Deep.QuietTactic
import Derived.BigQuiet
import Derived.Deep.RegionWith
namespace Go.Proofs.YbulkexnaqDoor
open Go.RowKit

/-- A Datetime as a value. -/
abbrev dt (y m d h i s u : Int) (t : Bool) (p : Int) : Value := .agg #[.int .i64 y, .int .i64 m, .int .i64 d, .int .i64 h, .int .i64 i, .int .i64 s, .int .i64 u, .bool t, .int .i64 p]

theorem bcell {W w1 : World} (hb : Below W.heap.size W w1) : (∀ b o, b < W.heap.size → w1.cell? ⟨b, o, none⟩ = W.cell? ⟨b, o, none⟩) ∧ (∀ b o, b < W.heap.size → w1.frozen? ⟨b, o, none⟩ = W.frozen? ⟨b, o, none⟩) :=
  ⟨fun b o h => hb.cell (p := ⟨b, o, none⟩) h, fun b o h => hb.frozen (p := ⟨b, o, none⟩) h⟩

/-- The table lies below, and stays. -/
theorem Tab.below {w w' : World} (h : Tab w) (hz : 0 < w.heap.size) (hb : Below w.heap.size w w') : Tab w' := fun m h1 h2 => by
  rw [hb.cell (p := ⟨0, m.toNat - 1, none⟩) hz]; exact h m h1 h2
theorem Tab.alloc {w : World} (h : Tab w) (hz : 0 < w.heap.size) (o : Obj) : Tab (w.alloc o) := h.below hz ((Below.refl _ _).alloc (Nat.le_refl _) _)

set_option maxHeartbeats 400000 in
theorem mod_any (y m d h i s u : Int) (t : Bool) (p : Int) (w : World) (h0 : 0 ≤ h) (h1 : h ≤ 23) (h2 : 0 ≤ i) (h3 : i ≤ 59) (h4 : 0 ≤ s) (h5 : s ≤ 59) (h6 : 0 ≤ u) (h7 : u ≤ 999999) :
    Calls Ybad.prog 14 #[dt y m d h i s u t p] w fun e w' => e = .returned (.int .i64 (((h * 60 + i) * 60 + s) * 1000000 + u)) ∧ Below w.heap.size w w' := by
  go_enter Ybad.func14, Ybad.ntmps14
  go_wp2
  go_ret
  exact ⟨rfl, (Below.refl _ _).alloc (Nat.le_refl _) _⟩

theorem Tab.drewN {w : World} (h : Tab w) (n : Nat) : Tab (w.drewN n) := h

theorem ret_at (n D h i s u : Int) {y m d p : Int} {t : Bool} (e : n = D * 86400000000 + (((h * 60 + i) * 60 + s) * 1000000 + u))
    (a6 : 0 ≤ h) (a7 : h ≤ 23) (a8 : 0 ≤ i) (a9 : i ≤ 59) (b0 : 0 ≤ s) (b1 : s ≤ 59) (b2 : 0 ≤ u) (b3 : u ≤ 999999) :
    Ending.returned (dt y m d ((n - n / 86400000000 * 86400000000) / 1000000 / 3600) ((n - n / 86400000000 * 86400000000) / 1000000 / 60 % 60) ((n - n / 86400000000 * 86400000000) / 1000000 % 60) ((n - n / 86400000000 * 86400000000) % 1000000) t p)
      = .returned (dt y m d h i s u t p) := by
  have e0 : n / 86400000000 = D := by omega
  have e1 : n - n / 86400000000 * 86400000000 = ((h * 60 + i) * 60 + s) * 1000000 + u := by omega
  rw [e1]
  have e2 : (((h * 60 + i) * 60 + s) * 1000000 + u) / 1000000 = (h * 60 + i) * 60 + s := by omega
  rw [e2]
  have e3 : (((h * 60 + i) * 60 + s) * 1000000 + u) % 1000000 = u := by omega
  have e4 : ((h * 60 + i) * 60 + s) / 3600 = h := by omega
  have e5 : ((h * 60 + i) * 60 + s) / 60 % 60 = i := by omega
  have e6 : ((h * 60 + i) * 60 + s) % 60 = s := by omega
  rw [e3, e4, e5, e6]

set_option maxHeartbeats 400000 in
theorem at_any (y m d h i s u : Int) (t : Bool) (p : Int) (y' m' d' h' i' s' u' n : Int) (w : World) (hT : Tab w) (hz : 0 < w.heap.size)
    (a0 : 0 ≤ y') (a1 : y' ≤ 9999) (a2 : 1 ≤ m') (a3 : m' ≤ 12) (a4 : 1 ≤ d') (a5 : d' ≤ Cal.dim y' m')
    (a6 : 0 ≤ h') (a7 : h' ≤ 23) (a8 : 0 ≤ i') (a9 : i' ≤ 59) (b0 : 0 ≤ s') (b1 : s' ≤ 59) (b2 : 0 ≤ u') (b3 : u' ≤ 999999)
    (HN : Hid (n = (Cal.dby y' + (Cal.cum y' m' + d')) * 86400000000 + (((h' * 60 + i') * 60 + s') * 1000000 + u'))) :
    Calls Ybad.prog 11 #[dt y m d h i s u t p, .int .i64 n] w fun e w' => e = .returned (dt y' m' d' h' i' s' u' t p) ∧ Below w.heap.size w w' := by
  have hn0 : 0 ≤ n := by have := HN.out; have := Cal.dby_bd y' a0 (by omega); have := Cal.cum_bd y' m' a2 (by omega); omega
  have hn1 : n ≤ 400000000000000000 := by have := HN.out; have := Cal.dby_bd y' a0 (by omega); have := Cal.cum_bd y' m' a2 (by omega); have := Cal.dim_bd y' m'; omega
  have HQ : Hid (n / 86400000000 = Cal.dby y' + (Cal.cum y' m' + d')) := by have := HN.out; show _ = _; omega
  have hT2 : ∀ a b, Tab ((w.alloc a).alloc b) := fun a b => (hT.alloc hz a).alloc (by simp) b
  go_enter Ybad.func11, Ybad.ntmps11
  go_wp2_with (go_at_call 15; refine (dateOfDay_any y' m' d' _ _ (hT2 _ _) a0 a1 a2 a3 a4 a5 HQ).mono ?_; rintro e w' ⟨rfl, rfl⟩)
  refine bodyPost_ret (v := dt y' m' d' ((n - n / 86400000000 * 86400000000) / 1000000 / 3600) ((n - n / 86400000000 * 86400000000) / 1000000 / 60 % 60) ((n - n / 86400000000 * 86400000000) / 1000000 % 60) ((n - n / 86400000000 * 86400000000) % 1000000) t p)
    (by simp [results, Ybad.results11, go_sem]) rfl ⟨?_, ((Below.refl _ _).alloc (Nat.le_refl _) _).alloc (by simp) _⟩
  exact ret_at n _ h' i' s' u' HN.out a6 a7 a8 a9 b0 b1 b2 b3

set_option maxHeartbeats 400000 in
theorem dayNumber_any (y m d h i s u : Int) (t : Bool) (p : Int) (w : World) (hT : Tab w) (hz : 0 < w.heap.size) (h0 : 0 ≤ y) (h1 : y ≤ 9999) (h2 : 1 ≤ m) (h3 : m ≤ 12) (h4 : 1 ≤ d) (h5 : d ≤ 31) :
    Calls Ybad.prog 13 #[dt y m d h i s u t p] w fun e w' => e = .returned (.int .i64 (Cal.dby y + (Cal.cum y m + d))) ∧ Below w.heap.size w w' := by
  have hT2 : ∀ a n, Tab ((w.alloc a).drewN n) := fun a n => (hT.alloc hz a).drewN n
  have hb := Cal.dby_bd y h0 (by omega)
  have hc := Cal.cum_bd y m h2 (by omega)
  go_enter Ybad.func13, Ybad.ntmps13
  go_wp2_with fail
  go_quiet ((first | (go_at_call 16; exact Calls.quiet_of_same (dby_any _ _ h0 (by omega))) | (go_at_call 17; exact Calls.quiet_of_same (doy_any _ _ _ _ (hT2 _ _) h0 (by omega) h2 h3 h4 h5))))
  go_wp2
  go_ret
  exact ⟨rfl, below_drewN ((Below.refl _ _).alloc (Nat.le_refl _) _) _⟩

theorem below2 {w X w1 w2 : World} (hX : Below w.heap.size w X) (h1 : Below X.heap.size X w1) (h2 : Below w1.heap.size w1 w2) : Below w.heap.size w w2 :=
  (hX.trans (h1.mono hX.size)).trans (h2.mono (Nat.le_trans hX.size h1.size))

theorem mom_wrap (y m d h i s u : Int) (hb : 0 ≤ Cal.dby y ∧ Cal.dby y ≤ 3653000) (hc : 0 ≤ Cal.cum y m ∧ Cal.cum y m ≤ 366) (h4 : 1 ≤ d) (h5 : d ≤ 31)
    (a0 : 0 ≤ h) (a1 : h ≤ 23) (a2 : 0 ≤ i) (a3 : i ≤ 59) (a4 : 0 ≤ s) (a5 : s ≤ 59) (a6 : 0 ≤ u) (a7 : u ≤ 999999) :
    IntKind.i64.wrap (IntKind.i64.wrap ((Cal.dby y + (Cal.cum y m + d)) * 86400000000) + (((h * 60 + i) * 60 + s) * 1000000 + u)) = Cal.mom y m d h i s u := by
  unfold Cal.mom
  rw [IntWalk.i64_left, IntWalk.i64_left, IntWalk.wrap64_in ((Cal.dby y + (Cal.cum y m + d)) * 86400000000) (by omega), IntWalk.wrap64_in _ (by omega)]

set_option maxHeartbeats 400000 in
theorem moment_any (y m d h i s u : Int) (t : Bool) (p : Int) (w : World) (hT : Tab w) (hz : 0 < w.heap.size) (h0 : 0 ≤ y) (h1 : y ≤ 9999) (h2 : 1 ≤ m) (h3 : m ≤ 12) (h4 : 1 ≤ d) (h5 : d ≤ 31)
    (a0 : 0 ≤ h) (a1 : h ≤ 23) (a2 : 0 ≤ i) (a3 : i ≤ 59) (a4 : 0 ≤ s) (a5 : s ≤ 59) (a6 : 0 ≤ u) (a7 : u ≤ 999999) :
    Calls Ybad.prog 9 #[dt y m d h i s u t p] w fun e w' => e = .returned (.int .i64 (Cal.mom y m d h i s u)) ∧ Below w.heap.size w w' := by
  have hb := Cal.dby_bd y h0 (by omega)
  have hc := Cal.cum_bd y m h2 (by omega)
  go_enter Ybad.func9, Ybad.ntmps9
  go_wp2_with fail
  go_region_with (first
    | (go_at_call 13; refine (dayNumber_any _ _ _ _ _ _ _ _ _ _ ?_ ?_ h0 h1 h2 h3 h4 h5).mono ?_; (exact (hT.alloc hz _)); (simp); (rintro e w1 ⟨rfl, hb1⟩; obtain ⟨hc1, hf1⟩ := bcell hb1))
    | (go_at_call 14; refine (mod_any _ _ _ _ _ _ _ _ _ _ a0 a1 a2 a3 a4 a5 a6 a7).mono ?_; rintro e w2 ⟨rfl, hb2⟩))
  all_goals go_wp2
  all_goals go_ret
  all_goals refine ⟨ret_int (mom_wrap y m d h i s u hb hc h4 h5 a0 a1 a2 a3 a4 a5 a6 a7), ?_⟩
  all_goals exact below2 (((Below.refl _ _).alloc (Nat.le_refl _) _).drew) hb1 hb2
end Go.Proofs.YbulkexnaqDoor
