import Derived.Test.YbulkexnbeLawA
namespace Go.Proofs.Ybulkexnbe
open Go.RowKit Go.Lib Go.Shelf
set_option linter.unusedVariables false

/-- the slice's elements are the numbers l, in a block below N -/
def CellsN (N : Nat) (w : World) (a : Option Addr) (l : List Int) : Prop := l = [] ∨ ∃ b off, a = some ⟨b, off, none⟩ ∧ b < N ∧ ∀ j, j < l.length → w.cell? ⟨b, off + j, none⟩ = some (.int .i64 (l.getD j 0))
theorem CellsN.below {N : Nat} {w w' : World} {a : Option Addr} {l : List Int} (h : CellsN N w a l) (hb : Below N w w') : CellsN N w' a l := by
  rcases h with rfl | ⟨b, off, rfl, h1, h2⟩
  · exact .inl rfl
  · exact .inr ⟨b, off, rfl, h1, fun j hj => (hb.cell (p := ⟨b, off + j, none⟩) h1).trans (h2 j hj)⟩
theorem CellsN.cells {N : Nat} {w : World} {a : Option Addr} {l : List Int} (h : CellsN N w a l) (hN : N ≤ w.heap.size) : Cells w a l := by
  rcases h with rfl | ⟨b, off, rfl, h1, h2⟩
  · exact .inl rfl
  · exact .inr ⟨b, off, rfl, by omega, h2⟩
theorem CellsN.ints {N : Nat} {w : World} {a : Option Addr} {l : List Int} (h : CellsN N w a l) (cap : Nat) : Ints N w a cap l := by
  rcases h with rfl | ⟨b, off, rfl, h1, h2⟩
  · exact .inl rfl
  · exact .inr ⟨b, off, rfl, h1, fun j hj => by rw [h2 j hj, List.getD_eq_getElem?_getD]⟩
theorem Cells.at {w : World} {a : Option Addr} {l : List Int} (h : Cells w a l) {N : Nat} (hN : w.heap.size ≤ N) : CellsN N w a l := by
  rcases h with rfl | ⟨b, off, rfl, h1, h2⟩
  · exact .inl rfl
  · exact .inr ⟨b, off, rfl, by omega, h2⟩

/-- what the law's own variables hold -/
structure Base (w U : World) (n0 : Nat) (desc : Bool) (xa : Option Addr) (xcap : Nat) (xs : List Int) (ao : Option Addr) : Prop where
  bel : Below w.heap.size w U
  lt : w.heap.size + 1 < n0
  le : n0 ≤ U.heap.size
  cb : U.cell? ⟨w.heap.size, 0, none⟩ = some (.bool desc)
  cs : U.cell? ⟨w.heap.size + 1, 0, none⟩ = some (.slice xa xs.length xcap)
  cx : CellsN n0 U xa xs
  co : CellsN n0 U ao xs
theorem Base.below {w U U' : World} {n0 : Nat} {desc : Bool} {xa : Option Addr} {xcap : Nat} {xs : List Int} {ao : Option Addr} (h : Base w U n0 desc xa xcap xs ao) (hb : Below n0 U U') : Base w U' n0 desc xa xcap xs ao :=
  have := h.lt
  ⟨h.bel.trans (hb.mono (by omega)), h.lt, Nat.le_trans h.le hb.size, (hb.cell (p := ⟨w.heap.size, 0, none⟩) (by show w.heap.size < _; omega)).trans h.cb, (hb.cell (p := ⟨w.heap.size + 1, 0, none⟩) (by show w.heap.size + 1 < _; omega)).trans h.cs, h.cx.below hb, h.co.below hb⟩

/-- what stands behind Fill -/
structure Mid (w U : World) (n0 N L m : Nat) (desc : Bool) (xa : Option Addr) (xcap : Nat) (xs : List Int) (ao : Option Addr) (ai : Option Addr) (ci : Nat) (bar : Int) : Prop where
  base : Base w U n0 desc xa xcap xs ao
  le : n0 ≤ N
  sz : N ≤ U.heap.size
  lt : L < N
  blk : U.heap[L]? = some (.cells #[.int .i64 m, fv w.heap.size, .slice ai (min m xs.length) ci, .int .i64 (if m < xs.length then (sorted desc xs).getD m 0 else bar), .bool (decide (m < xs.length))] 28 (0, 0))
  items : CellsN N U ai ((sorted desc xs).take m)
theorem Mid.below {w U U' : World} {n0 N L m : Nat} {desc : Bool} {xa : Option Addr} {xcap : Nat} {xs : List Int} {ao : Option Addr} {ai : Option Addr} {ci : Nat} {bar : Int} (h : Mid w U n0 N L m desc xa xcap xs ao ai ci bar) (hb : Below N U U') : Mid w U' n0 N L m desc xa xcap xs ao ai ci bar :=
  ⟨h.base.below (hb.mono h.le), h.le, Nat.le_trans h.sz hb.size, h.lt, (hb.block L h.lt).trans h.blk, h.items.below hb⟩

/-- the world behind the two boxes -/
abbrev boxed (w : World) (desc : Bool) (xa : Option Addr) (xcap : Nat) (xs : List Int) : World := (w.alloc (.cells #[.bool desc] 4)).alloc (.cells #[.slice xa xs.length xcap] 23)

theorem step1 (w : World) (desc : Bool) (xa : Option Addr) (xcap : Nat) (xs : List Int) (hx : Cells w xa xs) (hl : xs.length ≤ 1048576) :
    Calls Yba.prog 4 #[.slice xa xs.length xcap] (boxed w desc xa xcap xs) fun e w1 => ∃ ao oc, e = .returned (.slice ao xs.length oc) ∧ Base w w1 w1.heap.size desc xa xcap xs ao := by
  have hb0 : Below w.heap.size w (boxed w desc xa xcap xs) := ((Below.refl _ w).alloc (Nat.le_refl _) _).alloc (by simp) _
  have hs : (boxed w desc xa xcap xs).heap.size = w.heap.size + 2 := by simp
  refine (clone_is xa xcap xs (boxed w desc xa xcap xs) (hx.below hb0) hl).mono ?_
  rintro e w1 ⟨ao, oc, rfl, h1, h2⟩
  have hsz := h2.size
  refine ⟨ao, oc, rfl, ⟨hb0.trans (h2.mono (by omega)), by omega, Nat.le_refl _, ?_, ?_, ?_, ?_⟩⟩
  · refine (h2.cell (p := ⟨w.heap.size, 0, none⟩) (by show w.heap.size < _; omega)).trans ?_
    refine (World.cell?_of_block (Below.heap_alloc (w.alloc (.cells #[.bool desc] 4)) _ w.heap.size (by simp))).trans ?_
    exact World.cell?_alloc_at (w := w) _ _ w.heap.size 0 rfl
  · refine (h2.cell (p := ⟨w.heap.size + 1, 0, none⟩) (by show w.heap.size + 1 < _; omega)).trans ?_
    exact World.cell?_alloc_at (w := w.alloc (.cells #[.bool desc] 4)) _ _ (w.heap.size + 1) 0 (by simp)
  · exact ((hx.below hb0).below h2).at (Nat.le_refl _)
  · exact h1.cells.1.at (Nat.le_refl _)

theorem step2 (w w1 : World) (desc : Bool) (xa : Option Addr) (xcap : Nat) (xs : List Int) (ao : Option Addr) (ia : Option Addr) (icap : Nat) (is : List Int) (h : Base w w1 w1.heap.size desc xa xcap xs ao) (hi : Cells w ia is) (hl : is.length ≤ 1048576) :
    Calls Yba.prog 4 #[.slice ia is.length icap] w1 fun e w2 => ∃ ai ci, e = .returned (.slice ai is.length ci) ∧ Base w w2 w1.heap.size desc xa xcap xs ao ∧ Items w2 w1.heap.size (.slice ai is.length ci) is := by
  refine (clone_is ia icap is w1 (hi.below h.bel) hl).mono ?_
  rintro e w2 ⟨ai, ci, rfl, h1, h2⟩
  exact ⟨ai, ci, rfl, h.below h2, h1⟩

theorem step3 (w w2 : World) (n0 m : Nat) (desc : Bool) (xa : Option Addr) (xcap : Nat) (xs : List Int) (ao : Option Addr) (ai : Option Addr) (ci : Nat) (is : List Int) (bar : Int) (bnd : Bool) (h : Base w w2 n0 desc xa xcap xs ao) (hi : Items w2 n0 (.slice ai is.length ci) is) (hl : xs.length ≤ 1048576) (hm : m < 512) :
    Calls Yba.prog 8 #[.pointer (some ⟨w2.heap.size, 0, none⟩), .func (.func 7) #[] #[.pointer (some ⟨w.heap.size + 1, 0, none⟩)]] (w2.alloc (.cells #[.int .i64 m, fv w.heap.size, .slice ai is.length ci, .int .i64 bar, .bool bnd] 28)) fun e w4 =>
      e = .returned (.tuple #[]) ∧ ∃ aj cj, Mid w w4 n0 w4.heap.size w2.heap.size m desc xa xcap xs ao aj cj bar := by
  have hb : Below n0 w2 (w2.alloc (.cells #[.int .i64 m, fv w.heap.size, .slice ai is.length ci, .int .i64 bar, .bool bnd] 28)) := (Below.refl _ w2).alloc h.le _
  have h' := h.below hb
  have hlt := h.lt
  have hle := h.le
  refine (fill_is _ n0 w2.heap.size w.heap.size (w.heap.size + 1) m desc xa xcap xs (.slice ai is.length ci) is bar bnd (by show (w2.heap.push _)[w2.heap.size]? = _; simp) hm h.le (by omega) (by omega) h'.cb h'.cs (h'.cx.ints _) hl (Items.alloc hi _)).mono ?_
  rintro e w4 ⟨rfl, h1, v', h2, h3⟩
  refine ⟨rfl, ?_⟩
  obtain ⟨aj, cj, rfl, _⟩ := h2.shape
  have hlen : ((sorted desc xs).take m).length = min m xs.length := by rw [List.length_take, sorted_length]
  rw [hlen] at h3
  have hs4 := h1.size
  simp at hs4
  exact ⟨aj, cj, ⟨h'.below h1, by omega, Nat.le_refl _, by omega, h3, h2.cells.1.at (Nat.le_refl _)⟩⟩

/-- behind the clone of the whole collection -/
theorem step4 (w w4 : World) (n0 L m : Nat) (desc : Bool) (xa : Option Addr) (xcap : Nat) (xs : List Int) (ao : Option Addr) (ai : Option Addr) (ci : Nat) (bar : Int) (h : Mid w w4 n0 w4.heap.size L m desc xa xcap xs ao ai ci bar) (hl : xs.length ≤ 1048576) :
    Calls Yba.prog 4 #[.slice xa xs.length xcap] w4 fun e w5 => ∃ sa cs, e = .returned (.slice sa xs.length cs) ∧ Mid w w5 n0 w4.heap.size L m desc xa xcap xs ao ai ci bar ∧ Items w5 w4.heap.size (.slice sa xs.length cs) xs := by
  refine (clone_is xa xcap xs w4 (h.base.cx.cells h.base.le) hl).mono ?_
  rintro e w5 ⟨sa, cs, rfl, h1, h2⟩
  exact ⟨sa, cs, rfl, h.below h2, h1⟩

theorem step5 (w w5 : World) (n0 N L m : Nat) (desc : Bool) (xa : Option Addr) (xcap : Nat) (xs : List Int) (ao : Option Addr) (ai : Option Addr) (ci : Nat) (bar : Int) (sa : Option Addr) (cs : Nat) (h : Mid w w5 n0 N L m desc xa xcap xs ao ai ci bar) (hi : Items w5 N (.slice sa xs.length cs) xs) (hl : xs.length ≤ 1048576) :
    Calls Yba.prog 9 #[.slice sa xs.length cs] w5 fun e w6 => e = .returned (.tuple #[]) ∧ Mid w w6 n0 N L m desc xa xcap xs ao ai ci bar ∧ Items w6 N (.slice sa xs.length cs) (sorted false xs) := by
  refine (sort_is w5 N cs sa xs hi h.sz hl).mono ?_
  rintro e w6 ⟨rfl, h1, h2⟩
  exact ⟨rfl, h.below h2, h1⟩

theorem step6 (w w6 : World) (n0 N L m : Nat) (desc : Bool) (xa : Option Addr) (xcap : Nat) (xs : List Int) (ao : Option Addr) (ai : Option Addr) (ci : Nat) (bar : Int) (sa : Option Addr) (cs : Nat) (h : Mid w w6 n0 N L m desc xa xcap xs ao ai ci bar) (hi : Items w6 N (.slice sa xs.length cs) (sorted false xs)) (hl : xs.length ≤ 1048576) :
    Calls Yba.prog 10 #[.slice sa xs.length cs] w6 fun e w7 => e = .returned (.tuple #[]) ∧ Mid w w7 n0 N L m desc xa xcap xs ao ai ci bar ∧ Items w7 N (.slice sa xs.length cs) (sorted true xs) := by
  have h0 : Items w6 N (.slice sa (sorted false xs).length cs) (sorted false xs) := by rw [sorted_length]; exact hi
  have h1 := reverse_is w6 N cs sa (sorted false xs) h0 h.sz (by rw [sorted_length]; exact hl)
  rw [sorted_length] at h1
  refine h1.mono ?_
  rintro e w7 ⟨rfl, h2, h3⟩
  refine ⟨rfl, h.below h3, ?_⟩
  rw [← sorted_desc, sorted_asc]
  exact h2
end Go.Proofs.Ybulkexnbe
