import Derived.Test.YbulkexnbeSearch
import Derived.Test.YbulkexnbeShelf
import Derived.OwnWalk
namespace Go.Proofs.Ybulkexnbe
open Go.RowKit Go.Lib
set_option linter.unusedVariables false

/-! ### a row that is the call's own, its cells rewritten -/
theorem setCell_block {w : World} {b o : Nat} {cur : Array Value} {e : TypeId} {fz : Nat × Nat} (h : w.heap[b]? = some (.cells cur e fz)) (v : Value) :
    (w.setCell ⟨b, o, none⟩ v).heap[b]? = some (.cells (cur.setIfInBounds o v) e fz) := by
  simp [World.setCell, Array.getElem?_modify, h]
theorem setCells_block (b : Nat) : ∀ (vs : List Value) (o : Nat) (w : World) (cur : Array Value) (e : TypeId) (fz : Nat × Nat), w.heap[b]? = some (.cells cur e fz) →
    ∃ cur', (w.setCells b o vs).heap[b]? = some (.cells cur' e fz) ∧ cur'.size = cur.size
  | [], o, w, cur, e, fz, h => ⟨cur, h, rfl⟩
  | v :: r, o, w, cur, e, fz, h => by
    obtain ⟨cur', h1, h2⟩ := setCells_block b r (o + 1) (w.setCell ⟨b, o, none⟩ v) _ e fz (setCell_block h v)
    exact ⟨cur', h1, by rw [h2]; simp⟩
theorem setCells_far (b : Nat) {k : Nat} (hk : k ≠ b) : ∀ (vs : List Value) (o : Nat) (w : World), (w.setCells b o vs).heap[k]? = w.heap[k]?
  | [], o, w => rfl
  | v :: r, o, w => by
    rw [World.setCells, setCells_far b hk r]
    exact Below.heap_setCell w _ v k hk
theorem setCells_meta (b : Nat) : ∀ (vs : List Value) (o : Nat) (w : World), (w.setCells b o vs).os = w.os ∧ (w.setCells b o vs).tape = w.tape ∧ (w.setCells b o vs).output = w.output ∧ (w.setCells b o vs).heap.size = w.heap.size
  | [], o, w => ⟨rfl, rfl, rfl, rfl⟩
  | v :: r, o, w => by
    obtain ⟨h1, h2, h3, h4⟩ := setCells_meta b r (o + 1) (w.setCell ⟨b, o, none⟩ v)
    exact ⟨h1, h2, h3, by rw [World.setCells, h4]; simp [World.setCell]⟩
theorem setCells_grown (w : World) (b o : Nat) (vs : List Value) : w.grownBy (w.setCells b o vs) (some b) := by
  obtain ⟨h1, h2, h3, h4⟩ := setCells_meta b vs o w
  exact ⟨h1, h2, h3, by rw [h4]; exact Nat.le_refl _, fun k _ hk => setCells_far b (fun e => hk (by rw [e])) vs o w⟩

/-- a slice of the call's own that holds the numbers l -/
def Items (w : World) (N : Nat) (v : Value) (l : List Int) : Prop := w.ownsRow N 3 1 v l.length (l.map (Value.int .i64))

theorem items_of {w : World} {N g cap : Nat} {cur : Array Value} {l : List Int} (h : w.heap[g]? = some (.cells cur 3 (0, 0))) (hN : N ≤ g) (hl : l.length ≤ cap) (hm : cap ≤ maxLen) (hs : cur.size = cap)
    (hc : ∀ j, j < l.length → w.cell? ⟨g, j, none⟩ = some (.int .i64 (l.getD j 0))) : Items w N (.slice (some ⟨g, 0, none⟩) l.length cap) l := by
  refine ⟨by simp, .inr ⟨g, cap, cur, rfl, hN, h, hl, hm, by omega, ?_⟩⟩
  apply List.ext_getElem?
  intro j
  rw [Nat.mul_one, List.getElem?_take]
  by_cases hj : j < l.length
  · rw [if_pos hj, List.getElem?_map, List.getElem?_eq_getElem hj]
    have := hc j hj
    simp [World.cell?, h] at this
    rw [← getD_get hj]
    simpa using this
  · rw [if_neg hj, List.getElem?_eq_none (by simp; omega)]

theorem Items.open {w : World} {N : Nat} {v : Value} {l : List Int} (h : Items w N v l) :
    (v = .slice none 0 0 ∧ l = []) ∨ ∃ g cap cur, v = .slice (some ⟨g, 0, none⟩) l.length cap ∧ N ≤ g ∧ w.heap[g]? = some (.cells cur 3 (0, 0)) ∧ l.length ≤ cap ∧ cap ≤ maxLen ∧ cur.size = cap ∧ ∀ j, j < l.length → w.cell? ⟨g, j, none⟩ = some (.int .i64 (l.getD j 0)) := by
  have hx := h
  obtain ⟨_, ⟨rfl, h2⟩ | ⟨g, cap, cur, rfl, hN, hh, hl, hm, hs, ht⟩⟩ := h
  · exact .inl ⟨rfl, List.length_eq_zero_iff.1 h2⟩
  · refine .inr ⟨g, cap, cur, rfl, hN, hh, hl, hm, by omega, fun j hj => ?_⟩
    have := World.ownsRow.cells hx (g := g) rfl j (.int .i64 (l.getD j 0)) (by rw [List.getElem?_map, List.getElem?_eq_getElem hj, getD_get hj]; rfl)
    rwa [Addr.add_lit, Nat.zero_add] at this

theorem ins_length (l : List Int) (i : Nat) (x : Int) (hi : i ≤ l.length) : (l.take i ++ x :: l.drop i).length = l.length + 1 := by
  simp; omega
theorem ins_getD (l : List Int) (i : Nat) (x : Int) (hi : i ≤ l.length) (j : Nat) : (l.take i ++ x :: l.drop i).getD j 0 = if j < i then l.getD j 0 else if j = i then x else l.getD (j - 1) 0 := by
  simp only [List.getD_eq_getElem?_getD]
  by_cases h1 : j < i
  · rw [if_pos h1, List.getElem?_append_left (by simp; omega), List.getElem?_take, if_pos h1]
  · rw [if_neg h1, List.getElem?_append_right (by simp; omega)]
    have hl : (l.take i).length = i := by simp; omega
    rw [hl]
    by_cases h2 : j = i
    · rw [if_pos h2, h2]; simp
    · rw [if_neg h2]
      obtain ⟨q, rfl⟩ : ∃ q, j = i + 1 + q := ⟨j - (i + 1), by omega⟩
      rw [show i + 1 + q - i = q + 1 by omega, List.getElem?_cons_succ, List.getElem?_drop, show i + 1 + q - 1 = i + q by omega]

theorem one_cell_map (l : List Int) : ∀ v ∈ l.map (Value.int .i64), v.oneCell' = true := by
  intro v hv
  obtain ⟨z, _, rfl⟩ := List.mem_map.1 hv
  rfl
theorem map_get {l : List Int} {j : Nat} {v : Value} (h : (l.map (Value.int .i64))[j]? = some v) : j < l.length ∧ v = .int .i64 (l.getD j 0) := by
  rw [List.getElem?_map] at h
  by_cases hj : j < l.length
  · rw [List.getElem?_eq_getElem hj] at h
    exact ⟨hj, by rw [getD_get hj]; simpa using h.symm⟩
  · rw [List.getElem?_eq_none (by omega)] at h
    cases h

theorem some_of_block {w : World} {g cap : Nat} {cur : Array Value} {e : TypeId} {fz : Nat × Nat} (h : w.heap[g]? = some (.cells cur e fz)) (hs : cur.size = cap) (j : Nat) (hj : j < cap) : (w.cell? ⟨g, j, none⟩).isSome = true := by
  simp [World.cell?, h, hs, hj]
theorem frz_of_block {w : World} {g : Nat} {cur : Array Value} {e : TypeId} (h : w.heap[g]? = some (.cells cur e (0, 0))) (j : Nat) : w.frozen? ⟨g, j, none⟩ = false := by
  simp [World.frozen?, h]
theorem shape_of_block {w : World} {g : Nat} {cur : Array Value} {e : TypeId} {fz : Nat × Nat} (h : w.heap[g]? = some (.cells cur e fz)) : w.shape? g = some (e, cur.size) := by
  simp [World.shape?, h]
theorem one_of_block {w : World} {vb : Nat} {x : Int} (h : w.heap[vb]? = some (.cells #[.int .i64 x] 3 (0, 0))) : ∀ j v, ([Value.int .i64 x] : List Value)[j]? = some v → w.cell? ⟨vb, 0 + j, none⟩ = some v := by
  intro j v hj
  cases j with
  | zero => simp at hj; subst hj; simp [World.cell?, h]
  | succ j => simp at hj

/-- room, and not at the end -/
theorem ins_shift (w : World) (N g cap : Nat) (cur : Array Value) (l : List Int) (i vb : Nat) (x : Int) (hN : N ≤ g) (hg : w.heap[g]? = some (.cells cur 3 (0, 0))) (hs : cur.size = cap) (hm : cap ≤ maxLen)
    (hc : ∀ j, j < l.length → w.cell? ⟨g, j, none⟩ = some (.int .i64 (l.getD j 0))) (hi : i < l.length) (hroom : l.length + 1 ≤ cap) (hvb : w.heap[vb]? = some (.cells #[.int .i64 x] 3 (0, 0))) (hne : vb ≠ g) :
    Calls Yba.prog 17 #[.slice (some ⟨g, 0, none⟩) l.length cap, .int .i64 i, .slice (some ⟨vb, 0, none⟩) 1 1] w fun e w' => ∃ v', e = .returned v' ∧ Items w' N v' (l.take i ++ x :: l.drop i) ∧ w.grownBy w' (some g) := by
  unfold maxLen at hm
  have h : Calls Yba.prog 17 #[.slice (some ⟨g, 0, none⟩) l.length cap, .int .i64 i, .slice (some ⟨vb, 0, none⟩) 1 1] w fun e w' =>
      e = .returned (.slice (some ⟨g, 0, none⟩) (l.length + 1) cap) ∧ w' = (w.drew.setCells g (0 + (i + 1)) ((l.map (Value.int .i64)).drop i)).setCells g (0 + i) [.int .i64 x] :=
    Any2.slices_Insert_int_shift Yba.laysIns g 0 l.length cap i vb 0 1 1 (l.map (Value.int .i64)) [.int .i64 x] w hi (by omega) hroom (by omega) hne (by simp) rfl
      (fun j v hj => by obtain ⟨h1, rfl⟩ := map_get hj; rw [Nat.zero_add]; exact hc j h1) (fun j hj => by rw [Nat.zero_add]; exact some_of_block hg hs j (by omega)) (fun j hj => by rw [Nat.zero_add]; exact frz_of_block hg j)
      (one_of_block hvb) (one_cell_map l) (fun v hv => by simp at hv; subst hv; rfl) 3 3 1 cap (shape_of_block hvb) (by rw [shape_of_block hg, hs]) (by omega) (frz_of_block hvb 0) (frz_of_block hvb 1)
  refine h.mono ?_
  rintro e w' ⟨rfl, rfl⟩
  have hg' : w.drew.heap[g]? = some (.cells cur 3 (0, 0)) := hg
  obtain ⟨cur1, h1, s1⟩ := setCells_block g ((l.map (Value.int .i64)).drop i) (0 + (i + 1)) w.drew cur 3 (0, 0) hg'
  obtain ⟨cur2, h2, s2⟩ := setCells_block g [.int .i64 x] (0 + i) _ cur1 3 (0, 0) h1
  have hlen := ins_length l i x (by omega)
  refine ⟨_, rfl, ?_, ?_⟩
  · rw [← hlen]
    refine items_of h2 hN (by omega) (by unfold maxLen; omega) (by omega) fun j hj => ?_
    rw [ins_getD l i x (by omega)]
    rw [hlen] at hj
    by_cases e1 : j < i
    · rw [if_pos e1, World.cell?_setCells_out _ _ _ _ _ (fun _ _ => by simp; omega), World.cell?_setCells_out _ _ _ _ _ (fun _ _ => by simp; omega)]
      exact hc j (by omega)
    · rw [if_neg e1]
      by_cases e2 : j = i
      · rw [if_pos e2]
        have := World.cell?_setCells_in g [.int .i64 x] (0 + i) _ (fun q hq => some_of_block h1 s1 (0 + i + q) (by simp at hq; omega)) 0 (by simp)
        rw [show j = 0 + i + 0 by omega]
        exact this
      · rw [if_neg e2, World.cell?_setCells_out _ _ _ _ _ (fun _ _ => by simp; omega)]
        have := World.cell?_setCells_in g ((l.map (Value.int .i64)).drop i) (0 + (i + 1)) w.drew (fun q hq => some_of_block hg' hs (0 + (i + 1) + q) (by simp at hq; omega)) (j - (i + 1)) (by simp; omega)
        rw [show (0 + (i + 1) + (j - (i + 1))) = j by omega] at this
        rw [this, List.getElem_drop, List.getElem_map, ← getD_get, show i + (j - (i + 1)) = j - 1 by omega]
  · exact (show w.grownBy w.drew (some g) from ⟨rfl, rfl, rfl, Nat.le_refl _, fun _ _ _ => rfl⟩).trans ((setCells_grown _ g _ _).trans (setCells_grown _ g _ _))

/-- room, at the end -/
theorem ins_room (w : World) (N g cap : Nat) (cur : Array Value) (l : List Int) (vb : Nat) (x : Int) (hN : N ≤ g) (hg : w.heap[g]? = some (.cells cur 3 (0, 0))) (hs : cur.size = cap) (hm : cap ≤ maxLen)
    (hc : ∀ j, j < l.length → w.cell? ⟨g, j, none⟩ = some (.int .i64 (l.getD j 0))) (hroom : l.length + 1 ≤ cap) (hvb : w.heap[vb]? = some (.cells #[.int .i64 x] 3 (0, 0))) :
    Calls Yba.prog 17 #[.slice (some ⟨g, 0, none⟩) l.length cap, .int .i64 l.length, .slice (some ⟨vb, 0, none⟩) 1 1] w fun e w' => ∃ v', e = .returned v' ∧ Items w' N v' (l.take l.length ++ x :: l.drop l.length) ∧ w.grownBy w' (some g) := by
  unfold maxLen at hm
  have h : Calls Yba.prog 17 #[.slice (some ⟨g, 0, none⟩) l.length cap, .int .i64 l.length, .slice (some ⟨vb, 0, none⟩) 1 1] w fun e w' =>
      e = .returned (.slice (some ⟨g, 0, none⟩) (l.length + 1) cap) ∧ w' = w.setCells g (0 + l.length) [.int .i64 x] :=
    Any2.slices_Insert_int_end_room Yba.laysIns g 0 l.length cap vb 0 1 1 [.int .i64 x] w (by omega) hroom (by omega) rfl (fun j hj => some_of_block hg hs _ (by omega)) (fun j hj => frz_of_block hg _)
      (one_of_block hvb) (fun v hv => by simp at hv; subst hv; rfl)
  refine h.mono ?_
  rintro e w' ⟨rfl, rfl⟩
  obtain ⟨cur1, h1, s1⟩ := setCells_block g [.int .i64 x] (0 + l.length) w cur 3 (0, 0) hg
  have hlen := ins_length l l.length x (Nat.le_refl _)
  refine ⟨_, rfl, ?_, setCells_grown _ g _ _⟩
  rw [← hlen]
  refine items_of h1 hN (by omega) (by unfold maxLen; omega) (by omega) fun j hj => ?_
  rw [ins_getD l l.length x (Nat.le_refl _)]
  rw [hlen] at hj
  by_cases e1 : j < l.length
  · rw [if_pos e1, World.cell?_setCells_out _ _ _ _ _ (fun _ _ => by simp; omega)]
    exact hc j e1
  · have e2 : j = l.length := by omega
    rw [if_neg e1, if_pos e2]
    have := World.cell?_setCells_in g [.int .i64 x] (0 + l.length) w (fun q hq => some_of_block hg hs (0 + l.length + q) (by simp at hq; omega)) 0 (by simp)
    rw [show j = 0 + l.length + 0 by omega]
    exact this

theorem zeros_size (n : Nat) : (Builtin.zeroCells (Value.int .i64 0).cells n).size = n := by simp [Builtin.zeroCells, Value.cells]

/-- no room, at the end: a new row -/
theorem ins_end_grow (w : World) (N : Nat) (base : Option Addr) (cap : Nat) (l : List Int) (vb : Nat) (x : Int) (row : Option Nat) (hN : N ≤ w.heap.size) (hl : l.length ≤ cap) (hl2 : l.length ≤ 1048576) (hnil : base = none → l.length = 0)
    (hc : ∀ a, base = some a → ∀ j, j < l.length → w.cell? (a.add j) = some (.int .i64 (l.getD j 0))) (hroom : cap < l.length + 1) (hvb : w.heap[vb]? = some (.cells #[.int .i64 x] 3 (0, 0))) :
    Calls Yba.prog 17 #[.slice base l.length cap, .int .i64 l.length, .slice (some ⟨vb, 0, none⟩) 1 1] w fun e w' => ∃ v', e = .returned v' ∧ Items w' N v' (l.take l.length ++ x :: l.drop l.length) ∧ w.grownBy w' row := by
  have h : Calls Yba.prog 17 #[.slice base l.length cap, .int .i64 l.length, .slice (some ⟨vb, 0, none⟩) 1 1] w fun e w' =>
      e = .returned (.slice (some ⟨w.heap.size, 0, none⟩) (l.length + 1) (grownCap w (l.length + 1) cap 3)) ∧
      w' = w.drew.alloc (.cells ((l.map (Value.int .i64) ++ [Value.int .i64 x]).toArray ++ Builtin.zeroCells (Value.int .i64 0).cells (grownCap w (l.length + 1) cap 3 - (l.length + 1))) 3) :=
    Any2.slices_Insert_int_end_grow Yba.laysIns base l.length cap vb 0 1 1 (l.map (Value.int .i64)) [.int .i64 x] w (by omega) hl hroom (by omega) (by simp) rfl hnil
      (fun a ha j v hj => by obtain ⟨h1, rfl⟩ := map_get hj; exact hc a ha j h1) (one_of_block hvb) (fun v hv => by simp at hv; subst hv; rfl)
  refine h.mono ?_
  rintro e w' ⟨rfl, rfl⟩
  have hge := grownCap_ge w (l.length + 1) cap 3
  have hle := grownCap_le_maxLen w (l.length + 1) cap 3 (by unfold maxLen; omega)
  generalize grownCap w (l.length + 1) cap 3 = G at hge hle
  have hlen := ins_length l l.length x (Nat.le_refl _)
  refine ⟨_, rfl, ?_, ?_⟩
  · rw [← hlen]
    refine items_of (g := w.heap.size) (cur := (l.map (Value.int .i64) ++ [Value.int .i64 x]).toArray ++ Builtin.zeroCells (Value.int .i64 0).cells (G - (l.length + 1))) ?_ hN (by omega) hle ?_ fun j hj => ?_
    · show (w.heap.push _)[w.heap.size]? = _
      simp
    · rw [Array.size_append, zeros_size]; simp; omega
    · rw [hlen] at hj
      refine (World.cell?_alloc_at (w := w.drew) _ _ w.heap.size j rfl).trans ?_
      rw [ins_getD l l.length x (Nat.le_refl _), Array.getElem?_append_left (by simp; omega)]
      simp only [List.getElem?_toArray]
      by_cases e1 : j < l.length
      · rw [if_pos e1, List.getElem?_append_left (by simpa using e1), List.getElem?_map, List.getElem?_eq_getElem e1, getD_get e1]
        rfl
      · have e2 : j = l.length := by omega
        subst e2
        rw [if_neg e1, if_pos rfl, List.getElem?_append_right (by simp)]
        simp
  · exact (show w.grownBy w.drew row from ⟨rfl, rfl, rfl, Nat.le_refl _, fun _ _ _ => rfl⟩).trans (World.grownBy_alloc _ _ _)

/-- no room, not at the end: a new row -/
theorem ins_grow (w : World) (N g cap : Nat) (l : List Int) (i vb : Nat) (x : Int) (row : Option Nat) (hN : N ≤ w.heap.size) (hl : l.length ≤ cap) (hl2 : l.length ≤ 1048576)
    (hc : ∀ j, j < l.length → w.cell? ⟨g, j, none⟩ = some (.int .i64 (l.getD j 0))) (hi : i < l.length) (hroom : cap < l.length + 1) (hvb : w.heap[vb]? = some (.cells #[.int .i64 x] 3 (0, 0))) :
    Calls Yba.prog 17 #[.slice (some ⟨g, 0, none⟩) l.length cap, .int .i64 i, .slice (some ⟨vb, 0, none⟩) 1 1] w fun e w' => ∃ v', e = .returned v' ∧ Items w' N v' (l.take i ++ x :: l.drop i) ∧ w.grownBy w' row := by
  have h : Calls Yba.prog 17 #[.slice (some ⟨g, 0, none⟩) l.length cap, .int .i64 i, .slice (some ⟨vb, 0, none⟩) 1 1] w fun e w' =>
      e = .returned (.slice (some ⟨w.heap.size, 0, none⟩) (l.length + 1) (grownCap w (l.length + 1) cap 3)) ∧
      w' = (((w.alloc (.cells (((l.map (Value.int .i64)).take i).toArray ++ Builtin.zeroCells (Value.int .i64 0).cells (l.length + 1 - i) ++ Builtin.zeroCells (Value.int .i64 0).cells (grownCap w (l.length + 1) cap 3 - (l.length + 1))) 3)).drew.setCells w.heap.size i [.int .i64 x]).drew).setCells w.heap.size (i + 1) ((l.map (Value.int .i64)).drop i) :=
    Any2.slices_Insert_int_grow Yba.laysIns g 0 l.length cap i vb 0 1 1 (l.map (Value.int .i64)) [.int .i64 x] w hi (by omega) hl hroom (by omega) (by simp) rfl
      (fun j v hj => by obtain ⟨h1, rfl⟩ := map_get hj; rw [Nat.zero_add]; exact hc j h1) (one_of_block hvb) (one_cell_map l) (fun v hv => by simp at hv; subst hv; rfl)
  refine h.mono ?_
  rintro e w' ⟨rfl, rfl⟩
  have hge := grownCap_ge w (l.length + 1) cap 3
  have hle := grownCap_le_maxLen w (l.length + 1) cap 3 (by unfold maxLen; omega)
  generalize grownCap w (l.length + 1) cap 3 = G at hge hle
  have hlen := ins_length l i x (by omega)
  obtain ⟨R, hRR⟩ : ∃ R : Array Value, ((l.map (Value.int .i64)).take i).toArray ++ Builtin.zeroCells (Value.int .i64 0).cells (l.length + 1 - i) ++ Builtin.zeroCells (Value.int .i64 0).cells (G - (l.length + 1)) = R := ⟨_, rfl⟩
  have hRs : R.size = G := by
    rw [← hRR, Array.size_append, Array.size_append, zeros_size, zeros_size]; simp; omega
  have hRc : ∀ j, j < i → R[j]? = some (.int .i64 (l.getD j 0)) := by
    intro j hj
    rw [← hRR, Array.getElem?_append_left (by simp; omega), Array.getElem?_append_left (by simp; omega), List.getElem?_toArray, List.getElem?_take, if_pos hj, List.getElem?_map, List.getElem?_eq_getElem (by omega), getD_get (by omega)]
    rfl
  rw [hRR]
  have hg' : (w.alloc (.cells R 3)).drew.heap[w.heap.size]? = some (.cells R 3 (0, 0)) := by
    show (w.heap.push _)[w.heap.size]? = _
    simp
  obtain ⟨cur1, h1, s1⟩ := setCells_block w.heap.size [.int .i64 x] i (w.alloc (.cells R 3)).drew R 3 (0, 0) hg'
  have h1' : ((w.alloc (.cells R 3)).drew.setCells w.heap.size i [.int .i64 x]).drew.heap[w.heap.size]? = some (.cells cur1 3 (0, 0)) := h1
  obtain ⟨cur2, h2, s2⟩ := setCells_block w.heap.size ((l.map (Value.int .i64)).drop i) (i + 1) _ cur1 3 (0, 0) h1'
  refine ⟨_, rfl, ?_, ?_⟩
  · rw [← hlen]
    refine items_of h2 hN (by omega) hle (by omega) fun j hj => ?_
    rw [ins_getD l i x (by omega)]
    rw [hlen] at hj
    by_cases e1 : j < i
    · rw [if_pos e1, World.cell?_setCells_out _ _ _ _ _ (fun _ _ => by simp; omega)]
      refine (World.cell?_setCells_out w.heap.size [.int .i64 x] i (w.alloc (.cells R 3)).drew ⟨w.heap.size, j, none⟩ (fun _ _ => by simp; omega)).trans ?_
      exact (World.cell?_alloc_at (w := w) R 3 w.heap.size j rfl).trans (hRc j e1)
    · rw [if_neg e1]
      by_cases e2 : j = i
      · rw [if_pos e2, World.cell?_setCells_out _ _ _ _ _ (fun _ _ => by simp; omega)]
        have := World.cell?_setCells_in w.heap.size [.int .i64 x] i (w.alloc (.cells R 3)).drew (fun q hq => some_of_block hg' hRs (i + q) (by simp at hq; omega)) 0 (by simp)
        rw [show j = i + 0 by omega]
        exact this
      · rw [if_neg e2]
        have := World.cell?_setCells_in w.heap.size ((l.map (Value.int .i64)).drop i) (i + 1) ((w.alloc (.cells R 3)).drew.setCells w.heap.size i [.int .i64 x]).drew (fun q hq => some_of_block h1' (s1.trans hRs) (i + 1 + q) (by simp at hq; omega)) (j - (i + 1)) (by simp; omega)
        rw [show i + 1 + (j - (i + 1)) = j by omega] at this
        rw [this, List.getElem_drop, List.getElem_map, ← getD_get, show i + (j - (i + 1)) = j - 1 by omega]
  · have a1 : w.grownBy (w.alloc (.cells R 3)).drew row := ⟨rfl, rfl, rfl, by simp [World.drew], fun q hq _ => Below.heap_alloc w _ q hq⟩
    have a2 := setCells_meta w.heap.size [.int .i64 x] i (w.alloc (.cells R 3)).drew
    have a3 := setCells_meta w.heap.size ((l.map (Value.int .i64)).drop i) (i + 1) ((w.alloc (.cells R 3)).drew.setCells w.heap.size i [.int .i64 x]).drew
    refine ⟨a3.1.trans (a2.1.trans a1.os), a3.2.1.trans (a2.2.1.trans a1.tape), a3.2.2.1.trans (a2.2.2.1.trans a1.output), ?_, fun q hq _ => ?_⟩
    · rw [a3.2.2.2]
      show _ ≤ ((w.alloc (.cells R 3)).drew.setCells w.heap.size i [.int .i64 x]).heap.size
      rw [a2.2.2.2]
      exact a1.size
    · rw [setCells_far w.heap.size (by omega)]
      refine (setCells_far w.heap.size (show q ≠ w.heap.size by omega) [.int .i64 x] i (w.alloc (.cells R 3)).drew).trans ?_
      exact Below.heap_alloc w _ q hq

/-- slices.Insert of one number into a row of the call's own -/
theorem ins_is (w : World) (N : Nat) (v : Value) (l : List Int) (i vb : Nat) (x : Int) (h : Items w N v l) (hN : N ≤ w.heap.size) (hi : i ≤ l.length) (hl : l.length ≤ 1048576) (hvb : w.heap[vb]? = some (.cells #[.int .i64 x] 3 (0, 0))) (hne : v.ownBlock ≠ some vb) :
    Calls Yba.prog 17 #[v, .int .i64 i, .slice (some ⟨vb, 0, none⟩) 1 1] w fun e w' => ∃ v', e = .returned v' ∧ Items w' N v' (l.take i ++ x :: l.drop i) ∧ w.grownBy w' v.ownBlock := by
  rcases h.open with ⟨rfl, rfl⟩ | ⟨g, cap, cur, rfl, hg, hh, hlc, hm, hs, hc⟩
  · obtain rfl : i = 0 := by simpa using hi
    exact ins_end_grow w N none 0 [] vb x _ hN (by simp) (by simp) (fun _ => rfl) (fun a ha => by cases ha) (by simp) hvb
  · have hne' : vb ≠ g := fun e => hne (by rw [e]; rfl)
    by_cases e1 : l.length + 1 ≤ cap
    · by_cases e2 : i < l.length
      · exact ins_shift w N g cap cur l i vb x hg hh hs hm hc e2 e1 hvb hne'
      · obtain rfl : i = l.length := by omega
        exact ins_room w N g cap cur l vb x hg hh hs hm hc e1 hvb
    · by_cases e2 : i < l.length
      · exact ins_grow w N g cap l i vb x _ hN hlc hl hc e2 (by omega) hvb
      · obtain rfl : i = l.length := by omega
        exact ins_end_grow w N _ cap l vb x _ hN hlc hl (fun h => by cases h) (fun a ha j hj => by cases ha; rw [Addr.add_lit, Nat.zero_add]; exact hc j hj) (by omega) hvb
end Go.Proofs.Ybulkexnbe
