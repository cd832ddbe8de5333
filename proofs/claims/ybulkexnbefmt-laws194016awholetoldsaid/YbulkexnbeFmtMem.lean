import Derived.Test.YbulkexnbeFmtName
import Derived.Maps.OwnSet
namespace Go.Proofs.YbulkexnbeFmt
open Go.RowKit Go.Maps Go.WideElems Go.WideMaps

/-! ### rows of cells -/

/-- block b holds, from its head on, n cells: cell k holds f k; none is frozen -/
def Row (w : World) (b n : Nat) (f : Nat → Value) : Prop := b < w.heap.size ∧ ∀ k, k < n → w.cell? ⟨b, k, none⟩ = some (f k) ∧ w.frozen? ⟨b, k, none⟩ = false

theorem Row.below {w w' : World} {b n B : Nat} {f : Nat → Value} (h : Row w b n f) (hb : Below B w w') (hB : b < B) : Row w' b n f :=
  ⟨Nat.lt_of_lt_of_le h.1 hb.size, fun k hk => ⟨(hb.cell (p := ⟨b, k, none⟩) hB).trans (h.2 k hk).1, (hb.frozen (p := ⟨b, k, none⟩) hB).trans (h.2 k hk).2⟩⟩
theorem Row.alloc {w : World} {b n : Nat} {f : Nat → Value} (h : Row w b n f) (o : Obj) : Row (w.alloc o) b n f :=
  h.below ((Below.refl _ _).alloc (Nat.le_refl _) o) h.1
theorem Row.drew {w : World} {b n : Nat} {f : Nat → Value} (h : Row w b n f) : Row w.drew b n f := h
theorem Row.far {w : World} {b n : Nat} {f : Nat → Value} (h : Row w b n f) {a : Addr} (ha : a.block ≠ b) (v : Value) : Row (w.setCell a v) b n f :=
  ⟨by simpa [World.setCell] using h.1, fun k hk => ⟨by rw [World.cell?_setCell_other _ _ _ _ (fun e => ha (by rw [e]))]; exact (h.2 k hk).1, by rw [World.frozen?_setCell]; exact (h.2 k hk).2⟩⟩
theorem Row.set {w : World} {b n : Nat} {f : Nat → Value} (h : Row w b n f) {k : Nat} (hk : k < n) (v : Value) {g : Nat → Value} (hg : ∀ j, j < n → g j = if j = k then v else f j) : Row (w.setCell ⟨b, k, none⟩ v) b n g := by
  refine ⟨by simpa [World.setCell] using h.1, fun j hj => ⟨?_, by rw [World.frozen?_setCell]; exact (h.2 j hj).2⟩⟩
  rw [hg j hj]
  by_cases e : j = k
  · subst e; rw [if_pos rfl, World.cell?_setCell_same _ _ _ (h.2 j hj).1]
  · rw [if_neg e, World.cell?_setCell_other _ _ _ _ (fun h' => e (by cases h'; rfl))]; exact (h.2 j hj).1
theorem Row.grown {w w' : World} {b n : Nat} {f : Nat → Value} {row : Option Nat} (h : Row w b n f) (hg : w.grownBy w' row) (hne : some b ≠ row) : Row w' b n f :=
  ⟨Nat.lt_of_lt_of_le h.1 hg.size, fun k hk => ⟨(World.cell?_of_block (a := ⟨b, k, none⟩) (hg.block b h.1 hne)).trans (h.2 k hk).1, (World.frozen?_of_block (a := ⟨b, k, none⟩) (hg.block b h.1 hne)).trans (h.2 k hk).2⟩⟩
theorem Row.congr {w : World} {b n : Nat} {f g : Nat → Value} (h : Row w b n f) (e : ∀ k, k < n → g k = f k) : Row w b n g :=
  ⟨h.1, fun k hk => ⟨by rw [e k hk]; exact (h.2 k hk).1, (h.2 k hk).2⟩⟩
theorem Row.new (w : World) (c : Array Value) (t : TypeId) (n : Nat) (f : Nat → Value) (h : ∀ k, k < n → c[k]? = some (f k)) : Row (w.alloc (.cells c t)) w.heap.size n f :=
  ⟨by simp, fun k hk => ⟨by rw [World.cell?_alloc_at _ _ _ _ rfl]; exact h k hk, World.frozen?_alloc_at _ _ _ _ rfl⟩⟩
theorem Row.cell {w : World} {b n : Nat} {f : Nat → Value} (h : Row w b n f) (k : Nat) (hk : k < n) : w.cell? ⟨b, k, none⟩ = some (f k) := (h.2 k hk).1
theorem Row.frz {w : World} {b n : Nat} {f : Nat → Value} (h : Row w b n f) (k : Nat) (hk : k < n) : w.frozen? ⟨b, k, none⟩ = false := (h.2 k hk).2

theorem made1 (z : Value) (n k : Nat) (hk : k < n) : (madeCells #[z] n)[k]? = some z := by
  simp [madeCells, hk, Nat.mod_one]
theorem made9 (z0 z1 z2 z3 z4 z5 z6 z7 z8 : Value) (n k : Nat) (hk : k < n) : (madeCells #[z0, z1, z2, z3, z4, z5, z6, z7, z8] n)[k]? = some (#[z0, z1, z2, z3, z4, z5, z6, z7, z8][k % 9]!) := by
  simp [madeCells, hk]

/-! ### the index: name of queue i to i -/
def D : Nat → DataW Unit
  | 0 => .map []
  | k + 1 => (D k).put (.string (Nm.qn k).data.toList) (.lit (.int .i64 k))
theorem D_isMap : ∀ k, IsMap (D k)
  | 0 => isMap_empty
  | k + 1 => (D_isMap k).put _ _

theorem key_ne {i j : Nat} (hi : i < 10 ^ 24) (hj : j < 10 ^ 24) (h : i ≠ j) : (Lit.string (Nm.qn i).data.toList) ≠ .string (Nm.qn j).data.toList := by
  intro e
  simp only [Lit.string.injEq] at e
  exact h (Nm.qn_inj i j hi hj (by apply ByteArray.ext; exact Array.toList_inj.1 e))

theorem D_at (i : Nat) : ∀ k, i < k → k ≤ 10 ^ 24 → (D k).atKey (.string (Nm.qn i).data.toList) (.lit (.int .i64 0)) = .lit (.int .i64 i) ∧ Maps.has (D k) (.string (Nm.qn i).data.toList) = true
  | 0, h, _ => by omega
  | k + 1, h, hk => by
    by_cases e : i = k
    · subst e; exact ⟨atKey_put_same (k := .string (Nm.qn i).data.toList) (D_isMap i) trivial _ _, has_put_same (k := .string (Nm.qn i).data.toList) (D_isMap i) trivial _⟩
    · have hne := key_ne (i := i) (j := k) (by omega) (by omega) e
      have := D_at i k (by omega) (by omega)
      exact ⟨(atKey_put_other hne _ _).trans this.1, (has_put_other hne _).trans this.2⟩
theorem D_not (s : ByteArray) : ∀ k, (∀ i, i < k → s ≠ Nm.qn i) → Maps.has (D k) (.string s.data.toList) = false
  | 0, _ => rfl
  | k + 1, h => by
    have hne : (Lit.string s.data.toList) ≠ .string (Nm.qn k).data.toList := by
      intro e
      simp only [Lit.string.injEq] at e
      exact h k (by omega) (by apply ByteArray.ext; exact Array.toList_inj.1 e)
    exact (has_put_other hne _).trans (D_not s k fun i hi => h i (by omega))

def Idx (w : World) (b k : Nat) : Prop := w.ownsMap Ybaf.prog 9 (plainElem Ybaf.prog 3) b k (D k)
theorem law9 : Keyed Ybaf.prog 9 := string_keyed Ybaf.underlying9
theorem zero3 (w : World) : (zeroValue 3).run Ybaf.prog w = .ok (.int .i64 0) w := by kernel_rfl

theorem Idx.alloc {w : World} {b k : Nat} (h : Idx w b k) (o : Obj) : Idx (w.alloc o) b k := World.ownsMap.alloc h o
theorem Idx.drew {w : World} {b k : Nat} (h : Idx w b k) : Idx w.drew b k := h
theorem Idx.far {w : World} {b k : Nat} (h : Idx w b k) {a : Addr} (ha : a.block ≠ b) (v : Value) : Idx (w.setCell a v) b k := World.ownsMap.setCell h (Ne.symm ha) v
theorem Idx.below {w w' : World} {b k B : Nat} (h : Idx w b k) (hb : Below B w w') (hB : b < B) : Idx w' b k := by
  obtain ⟨es, clock, h1, F, h2, h3⟩ := h
  exact ⟨es, clock, (hb.block b hB).trans h1, F, h2, h3⟩
theorem Idx.lt {w : World} {b k : Nat} (h : Idx w b k) : b < w.heap.size := World.ownsMap.lt h

theorem qkey (i : Nat) : keyOf Ybaf.prog 9 (.string (Nm.qn i)) = some (.string (Nm.qn i).data.toList) :=
  keyOf_string_mk Ybaf.underlying9 (by have := Nm.qn_size i; unfold maxLen; omega)

theorem Idx.hit {w : World} {b k : Nat} (h : Idx w b k) (i : Nat) (hi : i < k) (hk : k ≤ 10 ^ 24) :
    (Instr.lookup 50 (.map (some b)) (.string (Nm.qn i)) true).run Ybaf.prog w = .ok (.tuple #[.int .i64 i, .bool true]) w := by
  obtain ⟨v, ps, hrun, hv⟩ := World.ownsMap.look_ok h law9 Ybaf.underlying50 (zero3 w) (plainElem_int Ybaf.underlying3 (by decide)) (qkey i)
  obtain ⟨c, rfl, hc, _⟩ := plainElem_int_inv Ybaf.underlying3 hv
  rw [(D_at i k hi hk).1] at hc
  simp only [Prod.mk.injEq, DataW.lit.injEq, Lit.int.injEq, true_and] at hc
  rw [hrun, (D_at i k hi hk).2, ← hc.1]
theorem Idx.miss {w : World} {b k : Nat} (h : Idx w b k) (s : ByteArray) (hs : s.size ≤ maxLen) (hn : ∀ i, i < k → s ≠ Nm.qn i) :
    (Instr.lookup 50 (.map (some b)) (.string s) true).run Ybaf.prog w = .ok (.tuple #[.int .i64 0, .bool false]) w := by
  obtain ⟨v, ps, hrun, hv⟩ := World.ownsMap.look_ok h law9 Ybaf.underlying50 (zero3 w) (plainElem_int Ybaf.underlying3 (by decide)) (keyOf_string_mk Ybaf.underlying9 hs)
  obtain ⟨c, rfl, hc, _⟩ := plainElem_int_inv Ybaf.underlying3 hv
  rw [atKey_of_not_has (D_not s k hn)] at hc
  simp only [Prod.mk.injEq, DataW.lit.injEq, Lit.int.injEq, true_and] at hc
  rw [hrun, D_not s k hn, ← hc.1]
theorem Idx.put {w : World} {b k : Nat} (h : Idx w b k) (hk : k ≤ 65536) :
    ∃ w', (Instr.mapUpdate 50 (.map (some b)) (.string (Nm.qn k)) (.int .i64 k)).run Ybaf.prog w = .ok () w' ∧ Idx w' b (k + 1) ∧ w.grownBy w' (some b) :=
  World.ownsMap.update h law9 Ybaf.underlying50 (by unfold maxLen; omega) (qkey k) (plainElem_int Ybaf.underlying3 (WalkArith.wf_i64 (by omega)))
end Go.Proofs.YbulkexnbeFmt
