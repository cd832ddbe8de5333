import Derived.Test.YbulkexnaqDoorStruct
namespace Go.Proofs.YbulkexnaqDoor
open Go.RowKit

/-- nine stores into one block of the call's own -/
theorem below9 {B : Nat} {a w : World} (h : Below B a w) {k : Nat} (hk : B ≤ k) (v0 v1 v2 v3 v4 v5 v6 v7 v8 : Value) :
    Below B a (((((((((w.setCell ⟨k, 0, none⟩ v0).setCell ⟨k, 1, none⟩ v1).setCell ⟨k, 2, none⟩ v2).setCell ⟨k, 3, none⟩ v3).setCell ⟨k, 4, none⟩ v4).setCell ⟨k, 5, none⟩ v5).setCell ⟨k, 6, none⟩ v6).setCell ⟨k, 7, none⟩ v7).setCell ⟨k, 8, none⟩ v8) :=
  ((((((((h.setCell hk _).setCell hk _).setCell hk _).setCell hk _).setCell hk _).setCell hk _).setCell hk _).setCell hk _).setCell hk _

theorem below_two {w w1 : World} {o1 o2 : Obj} (h : Below ((w.alloc o1).alloc o2).heap.size ((w.alloc o1).alloc o2) w1) : Below w.heap.size w w1 :=
  (((Below.refl _ _).alloc (Nat.le_refl _) _).alloc (by simp) _).trans (h.mono (by simp; omega))

set_option maxHeartbeats 400000 in
theorem add_no (y m d h i s u : Int) (t : Bool) (p k : Int) (w : World) (hT : Tab w) (hz : 0 < w.heap.size) (h0 : 0 ≤ y) (h1 : y ≤ 9999) (h2 : 1 ≤ m) (h3 : m ≤ 12) (h4 : 1 ≤ d) (h5 : d ≤ 31)
    (a0 : 0 ≤ h) (a1 : h ≤ 23) (a2 : 0 ≤ i) (a3 : i ≤ 59) (a4 : 0 ≤ s) (a5 : s ≤ 59) (a6 : 0 ≤ u) (a7 : u ≤ 999999) (k0 : -1000000 ≤ k) (k1 : k ≤ 1000000)
    (hn : 3652425 ≤ (Cal.mom y m d h i s u + k) / 86400000000) :
    Calls Ybad.prog 7 #[dt y m d h i s u t p, .int .i64 k] w fun e w' => e = .returned (.tuple #[dt 0 0 0 0 0 0 0 false 0, .bool false]) ∧ Below w.heap.size w w' := by
  have hb := Cal.mom_bd y m d h i s u h0 h1 h2 h3 h4 h5 a0 a1 a2 a3 a4 a5 a6 a7
  have hT2 : ∀ a b, Tab ((w.alloc a).alloc b) := fun a b => (hT.alloc hz a).alloc (by simp) b
  go_enter Ybad.func7, Ybad.ntmps7
  go_wp2_with (first
    | (go_at_call 9; refine (moment_any _ _ _ _ _ _ _ _ _ _ (hT2 _ _) (by simp) h0 h1 h2 h3 h4 h5 a0 a1 a2 a3 a4 a5 a6 a7).mono ?_; rintro e w1 ⟨rfl, hb1⟩; obtain ⟨hc1, hf1⟩ := bcell hb1)
    | (go_at_call 10; refine (floorDiv_any _ _ (by omega) (by omega)).mono ?_; rintro e w' ⟨rfl, rfl⟩))
  exact bodyPost_ret (v := .tuple #[dt 0 0 0 0 0 0 0 false 0, .bool false]) (by simp [results, Ybad.results7, go_sem, hc1]) rfl ⟨rfl, below9 (below_two hb1) (by omega) _ _ _ _ _ _ _ _ _⟩

set_option maxHeartbeats 400000 in
theorem add_yes (y m d h i s u : Int) (t : Bool) (p k : Int) (y' m' d' h' i' s' u' : Int) (w : World) (hT : Tab w) (hz : 0 < w.heap.size) (h0 : 0 ≤ y) (h1 : y ≤ 9999) (h2 : 1 ≤ m) (h3 : m ≤ 12) (h4 : 1 ≤ d) (h5 : d ≤ 31)
    (a0 : 0 ≤ h) (a1 : h ≤ 23) (a2 : 0 ≤ i) (a3 : i ≤ 59) (a4 : 0 ≤ s) (a5 : s ≤ 59) (a6 : 0 ≤ u) (a7 : u ≤ 999999) (k0 : -1000000 ≤ k) (k1 : k ≤ 1000000)
    (c0 : 0 ≤ y') (c1 : y' ≤ 9999) (c2 : 1 ≤ m') (c3 : m' ≤ 12) (c4 : 1 ≤ d') (c5 : d' ≤ Cal.dim y' m')
    (c6 : 0 ≤ h') (c7 : h' ≤ 23) (c8 : 0 ≤ i') (c9 : i' ≤ 59) (b0 : 0 ≤ s') (b1 : s' ≤ 59) (b2 : 0 ≤ u') (b3 : u' ≤ 999999)
    (HN : Hid (Cal.mom y m d h i s u + k = Cal.mom y' m' d' h' i' s' u')) :
    Calls Ybad.prog 7 #[dt y m d h i s u t p, .int .i64 k] w fun e w' => e = .returned (.tuple #[dt y' m' d' h' i' s' u' t p, .bool true]) ∧ Below w.heap.size w w' := by
  have hb := Cal.mom_bd y m d h i s u h0 h1 h2 h3 h4 h5 a0 a1 a2 a3 a4 a5 a6 a7
  have hn1 : 1 ≤ (Cal.mom y m d h i s u + k) / 86400000000 := by rw [HN.out]; exact Cal.mom_day_lo c0 c1 c2 c3 c4 c6 c7 c8 c9 b0 b1 b2 b3
  have hn2 : (Cal.mom y m d h i s u + k) / 86400000000 ≤ 3652424 := by rw [HN.out]; exact Cal.mom_day_hi c0 c1 c2 c3 c5 c6 c7 c8 c9 b0 b1 b2 b3
  have hT2 : ∀ a b, Tab ((w.alloc a).alloc b) := fun a b => (hT.alloc hz a).alloc (by simp) b
  have hT3 : ∀ a b w1, Below ((w.alloc a).alloc b).heap.size ((w.alloc a).alloc b) w1 → Tab w1 ∧ 0 < w1.heap.size ∧ w.heap.size + 1 < w1.heap.size := fun a b w1 h => ⟨(hT2 a b).below (by simp) h, by have := h.size; simp at this; omega, by have := h.size; simp at this; omega⟩
  go_enter Ybad.func7, Ybad.ntmps7
  go_wp2_with (first
    | (go_at_call 9; refine (moment_any _ _ _ _ _ _ _ _ _ _ (hT2 _ _) (by simp) h0 h1 h2 h3 h4 h5 a0 a1 a2 a3 a4 a5 a6 a7).mono ?_; rintro e w1 ⟨rfl, hb1⟩; obtain ⟨hc1, hf1⟩ := bcell hb1; obtain ⟨hT1, hz1, hz2⟩ := hT3 _ _ _ hb1)
    | (go_at_call 10; refine (floorDiv_any _ _ (by omega) (by omega)).mono ?_; rintro e w' ⟨rfl, rfl⟩)
    | (go_at_call 11; refine (at_any _ _ _ _ _ _ _ _ _ y' m' d' h' i' s' u' _ _ hT1 hz1 c0 c1 c2 c3 c4 c5 c6 c7 c8 c9 b0 b1 b2 b3 HN).mono ?_; rintro e w2 ⟨rfl, hb2⟩; obtain ⟨hc2, hf2⟩ := bcell hb2))
  exact bodyPost_ret (v := .tuple #[dt y' m' d' h' i' s' u' t p, .bool true]) (by simp [results, Ybad.results7, go_sem, hc1, hc2, hz2]) rfl ⟨rfl, below9 ((below_two hb1).trans (hb2.mono (by omega))) (by omega) _ _ _ _ _ _ _ _ _⟩
end Go.Proofs.YbulkexnaqDoor
