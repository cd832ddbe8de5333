import Derived.Test.YbulkexnbeFill
import Derived.Sort.OwnSortedInts
import Derived.Shelf.Slices.In.SortNone
namespace Go.Proofs.Ybulkexnbe
open Go.RowKit Go.Lib Go.Shelf Go.Sort
set_option linter.unusedVariables false

/-- the slice's elements are the numbers l -/
def Cells (w : World) (a : Option Addr) (l : List Int) : Prop := l = [] ∨ ∃ b off, a = some ⟨b, off, none⟩ ∧ b < w.heap.size ∧ ∀ j, j < l.length → w.cell? ⟨b, off + j, none⟩ = some (.int .i64 (l.getD j 0))

theorem Cells.below {w w' : World} {a : Option Addr} {l : List Int} (h : Cells w a l) (hb : Below w.heap.size w w') : Cells w' a l := by
  rcases h with rfl | ⟨b, off, rfl, h1, h2⟩
  · exact .inl rfl
  · exact .inr ⟨b, off, rfl, Nat.lt_of_lt_of_le h1 hb.size, fun j hj => (hb.cell (p := ⟨b, off + j, none⟩) h1).trans (h2 j hj)⟩
theorem Cells.ints {w : World} {a : Option Addr} {l : List Int} (h : Cells w a l) (cap : Nat) : Ints w.heap.size w a cap l := by
  rcases h with rfl | ⟨b, off, rfl, h1, h2⟩
  · exact .inl rfl
  · exact .inr ⟨b, off, rfl, h1, fun j hj => by rw [h2 j hj, List.getD_eq_getElem?_getD]⟩
theorem Items.cells {w : World} {N n cap : Nat} {a : Option Addr} {l : List Int} (h : Items w N (.slice a n cap) l) : Cells w a l ∧ n = l.length := by
  rcases h.open with ⟨e, rfl⟩ | ⟨g, cap', cur, e, hg, hh, hlc, hm, hs, hc⟩
  · cases e
    exact ⟨.inl rfl, rfl⟩
  · cases e
    exact ⟨.inr ⟨g, 0, rfl, (Array.getElem?_eq_some_iff.1 hh).1, fun j hj => by rw [Nat.zero_add]; exact hc j hj⟩, rfl⟩
theorem Cells.take {w : World} {a : Option Addr} {l : List Int} (h : Cells w a l) (m : Nat) : Cells w a (l.take m) := by
  rcases h with rfl | ⟨b, off, rfl, h1, h2⟩
  · exact .inl (by simp)
  · refine .inr ⟨b, off, rfl, h1, fun j hj => ?_⟩
    have hj' : j < l.length ∧ j < m := by simp at hj; omega
    rw [h2 j hj'.1]
    simp [List.getD_eq_getElem?_getD, hj'.2]

/-- slices.Clone -/
theorem clone_is (a : Option Addr) (cap : Nat) (l : List Int) (w : World) (h : Cells w a l) (hl : l.length ≤ 1048576) :
    Calls Yba.prog 4 #[.slice a l.length cap] w fun e w' => ∃ a' cap', e = .returned (.slice a' l.length cap') ∧ Items w' w.heap.size (.slice a' l.length cap') l ∧ Below w.heap.size w w' := by
  have key : ∀ {e : Ending} {w' : World}, (∃ v', e = .returned v' ∧ Items w' w.heap.size v' l ∧ Below w.heap.size w w') → ∃ a' cap', e = .returned (.slice a' l.length cap') ∧ Items w' w.heap.size (.slice a' l.length cap') l ∧ Below w.heap.size w w' := by
    rintro e w' ⟨v', rfl, h1, h2⟩
    obtain ⟨a', cap', rfl, _⟩ := h1.shape
    exact ⟨a', cap', rfl, h1, h2⟩
  cases a with
  | none =>
    obtain rfl : l = [] := by
      rcases h with h | ⟨b, off, e, _⟩
      · exact h
      · cases e
    refine (Yba.slices_Clone_int_nil 0 cap w).mono ?_
    rintro e w' ⟨rfl, rfl⟩
    exact ⟨none, 0, rfl, World.ownsRow_nil _ _ _ _, Below.refl _ _⟩
  | some a =>
    by_cases e0 : l = []
    · subst e0
      refine (Yba.slices_Clone_int_zero a cap w).mono ?_
      rintro e w' ⟨v', rfl, h1, _, h2⟩
      exact key ⟨v', rfl, h1, h2⟩
    · rcases h with h | ⟨b, off, e, h1, h2⟩
      · exact absurd h e0
      · cases e
        refine (Yba.slices_Clone_int b off l.length cap l w (Nat.le_refl _) (by omega) h2).mono ?_
        rintro e w' ⟨v', rfl, h1, _, h2⟩
        rw [List.take_length] at h1
        exact key ⟨v', rfl, h1, h2⟩

/-- slices.Equal of two slices with the same elements -/
theorem equal_is (a1 a2 : Option Addr) (c d : Nat) (l : List Int) (w : World) (h1 : Cells w a1 l) (h2 : Cells w a2 l) (hl : l.length ≤ 1048576) :
    Calls Yba.prog 11 #[.slice a1 l.length c, .slice a2 l.length d] w fun e w' => e = .returned (.bool true) ∧ ∃ q, w' = w.drewN q := by
  by_cases e0 : l = []
  · subst e0
    refine (Yba.slices_Equal_int_empty a1 a2 c 0 d w (by omega)).mono ?_
    rintro e w' ⟨rfl, rfl⟩
    exact ⟨by simp, 0, rfl⟩
  · rcases h1 with h1 | ⟨b1, o1, rfl, _, c1⟩
    · exact absurd h1 e0
    rcases h2 with h2 | ⟨b2, o2, rfl, _, c2⟩
    · exact absurd h2 e0
    refine (Yba.slices_Equal_int b1 o1 l.length c b2 o2 l.length d l l w (Nat.le_refl _) (Nat.le_refl _) (by omega) (by omega) c1 c2).mono ?_
    rintro e w' ⟨rfl, q, rfl⟩
    exact ⟨by simp, q, rfl⟩

theorem Items.grown_below {w w' : World} {N : Nat} {v : Value} {l : List Int} (h : Items w N v l) (hg : w.grownBy w' v.ownBlock) (hN : N ≤ w.heap.size) : Below N w w' :=
  ⟨hg.os, hg.tape, hg.output, hg.size, fun b hb => hg.block b (by omega) (fun e => by
    rcases h.open with ⟨rfl, _⟩ | ⟨g, cap, cur, rfl, h1, _⟩
    · cases e
    · have e' : b = g := by simpa [Value.ownBlock] using e
      omega)⟩

/-- slices.Sort of a row of the call's own -/
theorem sort_is (w : World) (N cap : Nat) (a : Option Addr) (l : List Int) (h : Items w N (.slice a l.length cap) l) (hN : N ≤ w.heap.size) (hl : l.length ≤ 1048576) :
    Calls Yba.prog 9 #[.slice a l.length cap] w fun e w' => e = .returned (.tuple #[]) ∧ Items w' N (.slice a l.length cap) (sorted false l) ∧ Below N w w' := by
  rcases h.open with ⟨e, rfl⟩ | ⟨g, cap', cur, e, hg, hh, hlc, hm, hs, hc⟩
  · cases e
    refine (Any.slices_Sort_int_none Yba.lays189 none 0 w).mono ?_
    rintro e w' ⟨rfl, rfl⟩
    exact ⟨rfl, h, Below.refl _ _⟩
  · cases e
    have ht : cur.toList.take l.length = l.map (Value.int .i64) := by
      rcases h.2 with ⟨e, _⟩ | ⟨g', c', cur', e, _, h2, _, _, _, h3⟩
      · cases e
      · cases e
        rw [hh] at h2
        cases h2
        simpa using h3
    refine (Yba.slices_Sort_int g 0 cap l w (holds_of_blockI hh ht) (Array.getElem?_eq_some_iff.1 hh).1 (by omega)).mono ?_
    rintro e w' ⟨rfl, n, os, rfl⟩
    rw [sorted_asc]
    refine ⟨rfl, ?_, ?_⟩
    · have h1 := ownsRow_sortedI (n := n) (os := os) (ts := sorted false l) (sorted_length false l) hg hh hlc hm (by omega)
      unfold Items
      rw [sorted_length]
      exact h1
    · exact Items.grown_below h (grownBy_sortedI _) hN

/-- slices.Reverse of a row of the call's own -/
theorem reverse_is (w : World) (N cap : Nat) (a : Option Addr) (l : List Int) (h : Items w N (.slice a l.length cap) l) (hN : N ≤ w.heap.size) (hl : l.length ≤ 1048576) :
    Calls Yba.prog 10 #[.slice a l.length cap] w fun e w' => e = .returned (.tuple #[]) ∧ Items w' N (.slice a l.length cap) l.reverse ∧ Below N w w' := by
  rcases h.open with ⟨e, rfl⟩ | ⟨g, cap', cur, e, hg, hh, hlc, hm, hs, hc⟩
  · cases e
    refine (Yba.slices_Reverse_int_empty none 0 w).mono ?_
    rintro e w' ⟨rfl, rfl⟩
    exact ⟨rfl, h, Below.refl _ _⟩
  · cases e
    refine (Yba.slices_Reverse_int_cells g 0 l.length cap l w (Nat.le_refl _) (by omega) (fun j hj => by rw [Nat.zero_add]; exact hc j hj) (fun j hj => by rw [Nat.zero_add]; exact frz_of_block hh j)).mono ?_
    rintro e w' ⟨rfl, q, rfl⟩
    rw [List.take_length]
    have hg' : (w.drewN q).heap[g]? = some (.cells cur 3 (0, 0)) := hh
    obtain ⟨cur1, h1, s1⟩ := setCells_block g (l.reverse.map (Value.int .i64)) 0 (w.drewN q) cur 3 (0, 0) hg'
    have hgr : w.grownBy ((w.drewN q).setCells g 0 (l.reverse.map (Value.int .i64))) (some g) := (show w.grownBy (w.drewN q) (some g) from ⟨rfl, rfl, rfl, Nat.le_refl _, fun _ _ _ => rfl⟩).trans (setCells_grown _ g _ _)
    refine ⟨rfl, ?_, Items.grown_below h hgr hN⟩
    have h2 : Items ((w.drewN q).setCells g 0 (l.reverse.map (Value.int .i64))) N (.slice (some ⟨g, 0, none⟩) l.reverse.length cap) l.reverse :=
      items_of h1 hg (by simpa using hlc) hm (by omega) (fun j hj => by
        have := World.cell?_setCells_in g (l.reverse.map (Value.int .i64)) 0 (w.drewN q) (fun i hi => some_of_block hg' hs (0 + i) (by simp at hi; omega)) j (by simpa using hj)
        rw [Nat.zero_add] at this
        rw [this, List.getElem_map, ← getD_get])
    rwa [List.length_reverse] at h2
end Go.Proofs.Ybulkexnbe
