import Derived.Test.YbulkexncuGet
namespace Go.Proofs.Ybulkexncu
open Go.RowKit
set_option linter.unusedVariables false

/-! ### rows of cells that may be written -/
def Row (w : World) (b n : Nat) (f : Nat → Value) : Prop := b < w.heap.size ∧ ∀ k, k < n → w.cell? ⟨b, k, none⟩ = some (f k) ∧ w.frozen? ⟨b, k, none⟩ = false
theorem Row.below {w w' : World} {b n B : Nat} {f : Nat → Value} (h : Row w b n f) (hb : Below B w w') (hB : b < B) : Row w' b n f :=
  ⟨Nat.lt_of_lt_of_le h.1 hb.size, fun k hk => ⟨(hb.cell (p := ⟨b, k, none⟩) hB).trans (h.2 k hk).1, (hb.frozen (p := ⟨b, k, none⟩) hB).trans (h.2 k hk).2⟩⟩
theorem Row.alloc {w : World} {b n : Nat} {f : Nat → Value} (h : Row w b n f) (o : Obj) : Row (w.alloc o) b n f :=
  h.below ((Below.refl _ _).alloc (Nat.le_refl _) o) h.1
theorem Row.far {w : World} {b n : Nat} {f : Nat → Value} (h : Row w b n f) {a : Addr} (ha : a.block ≠ b) (v : Value) : Row (w.setCell a v) b n f :=
  ⟨by simpa [World.setCell] using h.1, fun k hk => ⟨by rw [World.cell?_setCell_other _ _ _ _ (fun e => ha (by rw [e]))]; exact (h.2 k hk).1, by rw [World.frozen?_setCell]; exact (h.2 k hk).2⟩⟩
theorem Row.set {w : World} {b n : Nat} {f : Nat → Value} (h : Row w b n f) {k : Nat} (hk : k < n) (v : Value) {g : Nat → Value} (hg : ∀ j, j < n → g j = if j = k then v else f j) : Row (w.setCell ⟨b, k, none⟩ v) b n g := by
  refine ⟨by simpa [World.setCell] using h.1, fun j hj => ⟨?_, by rw [World.frozen?_setCell]; exact (h.2 j hj).2⟩⟩
  rw [hg j hj]
  by_cases e : j = k
  · subst e; rw [if_pos rfl, World.cell?_setCell_same _ _ _ (h.2 j hj).1]
  · rw [if_neg e, World.cell?_setCell_other _ _ _ _ (fun h' => e (by cases h'; rfl))]; exact (h.2 j hj).1
theorem Row.new (w : World) (c : Array Value) (t : TypeId) (n : Nat) (f : Nat → Value) (h : ∀ k, k < n → c[k]? = some (f k)) : Row (w.alloc (.cells c t)) w.heap.size n f :=
  ⟨by simp, fun k hk => ⟨by rw [World.cell?_alloc_at _ _ _ _ rfl]; exact h k hk, World.frozen?_alloc_at _ _ _ _ rfl⟩⟩

/-! ### the nodes of the plain tree: node i lies in block N + i; a child has the greater number -/
structure Nd where
  k : Int
  v : Int
  l : Option Nat
  r : Option Nat
def pt (N : Nat) (o : Option Nat) : Option Addr := o.map fun j => ⟨N + j, 0, none⟩
def cf (N : Nat) (nd : Nd) : Nat → Value
  | 0 => .int .i64 nd.k
  | 1 => .int .i64 nd.v
  | 2 => .pointer (pt N nd.l)
  | _ => .pointer (pt N nd.r)
structure Rep (w : World) (N : Nat) (ns : List Nd) : Prop where
  size : w.heap.size = N + ns.length
  row : ∀ i nd, ns[i]? = some nd → Row w (N + i) 4 (cf N nd)
  up : ∀ i nd, ns[i]? = some nd → ∀ j, nd.l = some j ∨ nd.r = some j → i < j ∧ j < ns.length

theorem Rep.push {w : World} {N : Nat} {ns : List Nd} (h : Rep w N ns) (k v : Int) (t : TypeId) : Rep (w.alloc (.cells #[.int .i64 k, .int .i64 v, .pointer none, .pointer none] t)) N (ns ++ [(Nd.mk k v none none)]) := by
  refine ⟨by simp [h.size]; omega, fun i nd hi => ?_, fun i nd hi j hj => ?_⟩
  · by_cases e : i < ns.length
    · rw [List.getElem?_append_left e] at hi
      exact (h.row i nd hi).alloc _
    · rw [List.getElem?_append_right (by omega)] at hi
      by_cases e2 : i = ns.length
      · subst e2
        simp at hi
        subst hi
        rw [← h.size]
        refine Row.new _ _ _ _ _ fun q hq => ?_
        obtain rfl | rfl | rfl | rfl : q = 0 ∨ q = 1 ∨ q = 2 ∨ q = 3 := by omega
        all_goals rfl
      · rw [List.getElem?_eq_none (by simp; omega)] at hi
        cases hi
  · by_cases e : i < ns.length
    · rw [List.getElem?_append_left e] at hi
      have := h.up i nd hi j hj
      simp
      omega
    · rw [List.getElem?_append_right (by omega)] at hi
      by_cases e2 : i = ns.length
      · subst e2
        simp at hi
        subst hi
        simp at hj
      · rw [List.getElem?_eq_none (by simp; omega)] at hi
        cases hi
theorem Rep.put {w : World} {N : Nat} {ns : List Nd} (h : Rep w N ns) {i : Nat} {nd nd' : Nd} (hi : ns[i]? = some nd) {q : Nat} (hq : q < 4) {x : Value} (hx : ∀ j, j < 4 → cf N nd' j = if j = q then x else cf N nd j)
    (hu : ∀ j, nd'.l = some j ∨ nd'.r = some j → i < j ∧ j < ns.length) : Rep (w.setCell ⟨N + i, q, none⟩ x) N (ns.set i nd') := by
  refine ⟨by simp [World.setCell, h.size], fun j md hj => ?_, fun j md hj y hy => ?_⟩
  · by_cases e : i = j
    · subst e
      rw [List.getElem?_set_self (List.getElem?_eq_some_iff.1 hi).1] at hj
      cases hj
      exact (h.row i nd hi).set hq x hx
    · rw [List.getElem?_set_ne e] at hj
      exact (h.row j md hj).far (by simp; omega) x
  · rw [List.length_set]
    by_cases e : i = j
    · subst e
      rw [List.getElem?_set_self (List.getElem?_eq_some_iff.1 hi).1] at hj
      cases hj
      exact hu y hy
    · rw [List.getElem?_set_ne e] at hj
      exact h.up j md hj y hy

/-! ### searching -/
def Find (ns : List Nd) (key : Int) (r : Option Int) : Nat → Option Nat → Prop
  | 0, s => s = none ∧ r = none
  | d + 1, s => (s = none ∧ r = none) ∨ ∃ i nd, s = some i ∧ ns[i]? = some nd ∧ (key = nd.k → r = some nd.v) ∧ (key < nd.k → Find ns key r d nd.l) ∧ (nd.k < key → Find ns key r d nd.r)

theorem Find.none' {ns : List Nd} {key : Int} {r : Option Int} {d : Nat} (h : Find ns key r d none) : r = none := by
  cases d with
  | zero => exact h.2
  | succ d =>
    rcases h with h | ⟨i, nd, h, _⟩
    · exact h.2
    · cases h

theorem Find.look {w : World} {N : Nat} {ns : List Nd} (h : Rep w N ns) {key : Int} {r : Option Int} : ∀ {d : Nat} {s : Option Nat}, Find ns key r d s → Look w key r d (pt N s)
  | 0, _, ⟨rfl, hr⟩ => ⟨rfl, hr⟩
  | d + 1, _, .inl ⟨rfl, hr⟩ => .inl ⟨rfl, hr⟩
  | d + 1, _, .inr ⟨i, nd, rfl, hi, h1, h2, h3⟩ => by
    have R := h.row i nd hi
    exact .inr ⟨N + i, nd.k, nd.v, pt N nd.l, pt N nd.r, rfl, ⟨R.1, (R.2 0 (by omega)).1, (R.2 1 (by omega)).1, (R.2 2 (by omega)).1, (R.2 3 (by omega)).1⟩, h1, fun e => (h2 e).look h, fun e => (h3 e).look h⟩

/-- another key's search in a list in which node i has a new value -/
theorem Find.other_val {ns : List Nd} {key k v : Int} {i : Nat} {nd : Nd} (hi : ns[i]? = some nd) (hk : nd.k = k) (hne : key ≠ k) {r : Option Int} :
    ∀ {d : Nat} {s : Option Nat}, Find ns key r d s → Find (ns.set i { nd with v := v }) key r d s
  | 0, _, h => h
  | d + 1, _, .inl h => .inl h
  | d + 1, _, .inr ⟨j, md, rfl, hj, h1, h2, h3⟩ => by
    by_cases e : i = j
    · subst e
      rw [hi] at hj
      cases hj
      exact .inr ⟨i, { nd with v := v }, rfl, List.getElem?_set_self (List.getElem?_eq_some_iff.1 hi).1, fun h => absurd (h.trans hk) hne, fun h => (h2 h).other_val hi hk hne, fun h => (h3 h).other_val hi hk hne⟩
    · exact .inr ⟨j, md, rfl, by rw [List.getElem?_set_ne e]; exact hj, h1, fun h => (h2 h).other_val hi hk hne, fun h => (h3 h).other_val hi hk hne⟩

/-- another key's search in a list in which node i, that had no such child, has a new one -/
theorem Find.other_kid {ns : List Nd} {key k v : Int} {i : Nat} {nd nd' : Nd} (hi : ns[i]? = some nd) (e1 : nd'.k = nd.k) (e2 : nd'.v = nd.v)
    (el : nd'.l = nd.l ∨ (nd.l = none ∧ nd'.l = some ns.length)) (er : nd'.r = nd.r ∨ (nd.r = none ∧ nd'.r = some ns.length)) (hne : key ≠ k) {r : Option Int} :
    ∀ {d : Nat} {s : Option Nat}, Find ns key r d s → Find ((ns ++ [(Nd.mk k v none none)]).set i nd') key r (d + 1) s
  | 0, _, h => .inl h
  | d + 1, _, .inl h => .inl h
  | d + 1, _, .inr ⟨j, md, rfl, hj, h1, h2, h3⟩ => by
    have hin : i < ns.length := (List.getElem?_eq_some_iff.1 hi).1
    have hjn : j < ns.length := (List.getElem?_eq_some_iff.1 hj).1
    have new : ∀ {d' : Nat} {s s' : Option Nat}, (s' = s ∨ (s = none ∧ s' = some ns.length)) → Find ns key r d' s → Find ((ns ++ [(Nd.mk k v none none)]).set i nd') key r (d' + 1) s → Find ((ns ++ [(Nd.mk k v none none)]).set i nd') key r (d' + 1) s' := by
      intro d' s s' hs hf hf'
      rcases hs with rfl | ⟨rfl, rfl⟩
      · exact hf'
      · obtain rfl := hf.none'
        refine .inr ⟨ns.length, (Nd.mk k v none none), rfl, by rw [List.getElem?_set_ne (by omega)]; simp, fun h => absurd h hne, fun _ => ?_, fun _ => ?_⟩
        · cases d' with
          | zero => exact ⟨rfl, rfl⟩
          | succ _ => exact .inl ⟨rfl, rfl⟩
        · cases d' with
          | zero => exact ⟨rfl, rfl⟩
          | succ _ => exact .inl ⟨rfl, rfl⟩
    by_cases e : i = j
    · subst e
      rw [hi] at hj
      cases hj
      exact .inr ⟨i, nd', rfl, List.getElem?_set_self (by simp; omega), fun h => by rw [e2]; exact h1 (h.trans e1), fun h => new el (h2 (e1 ▸ h)) ((h2 (e1 ▸ h)).other_kid hi e1 e2 el er hne), fun h => new er (h3 (e1 ▸ h)) ((h3 (e1 ▸ h)).other_kid hi e1 e2 el er hne)⟩
    · exact .inr ⟨j, md, rfl, by rw [List.getElem?_set_ne e, List.getElem?_append_left hjn]; exact hj, h1, fun h => (h2 h).other_kid hi e1 e2 el er hne, fun h => (h3 h).other_kid hi e1 e2 el er hne⟩

/-- the search for k from node 0 comes to node i -/
def Comes (ns : List Nd) (k : Int) (i : Nat) : Prop :=
  ∀ (ns' : List Nd) (v : Int), (∀ j nd, j < i → ns[j]? = some nd → ns'[j]? = some nd) → ∀ d, Find ns' k (some v) d (some i) → ∃ d', Find ns' k (some v) d' (some 0)

theorem Comes.start (ns : List Nd) (k : Int) : Comes ns k 0 := fun _ _ _ d h => ⟨d, h⟩
theorem Comes.left {ns : List Nd} {k : Int} {i j : Nat} (h : Comes ns k i) {nd : Nd} (hi : ns[i]? = some nd) (hk : k < nd.k) (hl : nd.l = some j) (hij : i < j) : Comes ns k j :=
  fun ns' v hs d hf => h ns' v (fun q md hq => hs q md (by omega)) (d + 1) (.inr ⟨i, nd, rfl, hs i nd hij hi, fun e => by omega, fun _ => hl ▸ hf, fun e => by omega⟩)
theorem Comes.right {ns : List Nd} {k : Int} {i j : Nat} (h : Comes ns k i) {nd : Nd} (hi : ns[i]? = some nd) (hk : nd.k < k) (hl : nd.r = some j) (hij : i < j) : Comes ns k j :=
  fun ns' v hs d hf => h ns' v (fun q md hq => hs q md (by omega)) (d + 1) (.inr ⟨i, nd, rfl, hs i nd hij hi, fun e => by omega, fun e => by omega, fun _ => hl ▸ hf⟩)

/-- the tree at pointer P maps as m says -/
def Tr (w : World) (N : Nat) (P : Option Addr) (m : Int → Option Int) : Prop :=
  (P = none ∧ w.heap.size = N ∧ ∀ key, m key = none) ∨ ∃ ns, 0 < ns.length ∧ P = some ⟨N, 0, none⟩ ∧ Rep w N ns ∧ ∀ key, ∃ d, Find ns key (m key) d (some 0)

theorem Tr.look {w : World} {N : Nat} {P : Option Addr} {m : Int → Option Int} (h : Tr w N P m) (key : Int) : ∃ d, Look w key (m key) d P := by
  rcases h with ⟨rfl, _, h⟩ | ⟨ns, _, rfl, hR, hf⟩
  · exact ⟨0, rfl, h key⟩
  · obtain ⟨d, hd⟩ := hf key
    exact ⟨d, hd.look hR⟩

def upd (m : Int → Option Int) (k v : Int) (key : Int) : Option Int := if k = key then some v else m key
theorem upd_same (m : Int → Option Int) (k v : Int) : upd m k v k = some v := if_pos rfl
theorem upd_other (m : Int → Option Int) {k key : Int} (v : Int) (h : key ≠ k) : upd m k v key = m key := if_neg (fun e => h e.symm)

/-- a new value -/
theorem tr_val {w : World} {N : Nat} {ns : List Nd} {m : Int → Option Int} (hR : Rep w N ns) (hf : ∀ key, ∃ d, Find ns key (m key) d (some 0)) {i : Nat} {nd : Nd} (hi : ns[i]? = some nd) {k : Int} (v : Int) (hk : nd.k = k) (hc : Comes ns k i) :
    Tr (w.setCell ⟨N + i, 1, none⟩ (.int .i64 v)) N (some ⟨N, 0, none⟩) (upd m k v) := by
  have hin := (List.getElem?_eq_some_iff.1 hi).1
  refine .inr ⟨ns.set i { nd with v := v }, by simp; omega, rfl, hR.put hi (by omega) (fun j hj => ?_) (hR.up i nd hi), fun key => ?_⟩
  · obtain rfl | rfl | rfl | rfl : j = 0 ∨ j = 1 ∨ j = 2 ∨ j = 3 := by omega
    all_goals rfl
  · by_cases e : key = k
    · subst e
      rw [upd_same]
      exact hc _ v (fun j md hj h => by rw [List.getElem?_set_ne (by omega)]; exact h) 1 (.inr ⟨i, { nd with v := v }, rfl, List.getElem?_set_self hin, fun _ => rfl, fun h => by simp at h; omega, fun h => by simp at h; omega⟩)
    · rw [upd_other _ _ e]
      obtain ⟨d, hd⟩ := hf key
      exact ⟨d, hd.other_val hi hk e⟩

theorem tr_kid {w : World} {N : Nat} {ns : List Nd} {m : Int → Option Int} (hR : Rep w N ns) (hf : ∀ key, ∃ d, Find ns key (m key) d (some 0)) {i : Nat} {nd nd' : Nd} (hi : ns[i]? = some nd) {k : Int} (v : Int) (t : TypeId) (hne : k ≠ nd.k) (hc : Comes ns k i)
    (e1 : nd'.k = nd.k) (e2 : nd'.v = nd.v) (el : nd'.l = nd.l ∨ (nd.l = none ∧ nd'.l = some ns.length)) (er : nd'.r = nd.r ∨ (nd.r = none ∧ nd'.r = some ns.length))
    (hl : k < nd.k → nd'.l = some ns.length) (hr : nd.k < k → nd'.r = some ns.length) {q : Nat} (hq : q < 4) (hx : ∀ j, j < 4 → cf N nd' j = if j = q then .pointer (some ⟨N + ns.length, 0, none⟩) else cf N nd j) :
    Tr ((w.alloc (.cells #[.int .i64 k, .int .i64 v, .pointer none, .pointer none] t)).setCell ⟨N + i, q, none⟩ (.pointer (some ⟨N + ns.length, 0, none⟩))) N (some ⟨N, 0, none⟩) (upd m k v) := by
  have hin := (List.getElem?_eq_some_iff.1 hi).1
  have hi' : (ns ++ [(Nd.mk k v none none)])[i]? = some nd := by rw [List.getElem?_append_left hin]; exact hi
  refine .inr ⟨(ns ++ [(Nd.mk k v none none)]).set i nd', by simp, rfl, (hR.push k v t).put hi' hq hx (fun j hj => ?_), fun key => ?_⟩
  · have hup := hR.up i nd hi j
    simp only [List.length_append, List.length_cons, List.length_nil]
    rcases hj with hj | hj
    · rcases el with h | ⟨_, h⟩
      · rw [h] at hj
        have := hup (.inl hj)
        omega
      · rw [h] at hj
        cases hj
        omega
    · rcases er with h | ⟨_, h⟩
      · rw [h] at hj
        have := hup (.inr hj)
        omega
      · rw [h] at hj
        cases hj
        omega
  · by_cases e : key = k
    · subst e
      rw [upd_same]
      have new : Find ((ns ++ [(Nd.mk key v none none)]).set i nd') key (some v) 1 (some ns.length) :=
        .inr ⟨ns.length, (Nd.mk key v none none), rfl, by rw [List.getElem?_set_ne (by omega)]; simp, fun _ => rfl, fun h => by simp at h, fun h => by simp at h⟩
      exact hc _ v (fun j md hj h => by rw [List.getElem?_set_ne (by omega), List.getElem?_append_left (by omega)]; exact h) 2
        (.inr ⟨i, nd', rfl, List.getElem?_set_self (by simp; omega), fun h => absurd (h.trans e1) hne, fun h => by rw [hl (e1 ▸ h)]; exact new, fun h => by rw [hr (e1 ▸ h)]; exact new⟩)
    · rw [upd_other _ _ e]
      obtain ⟨d, hd⟩ := hf key
      exact ⟨d + 1, hd.other_kid hi e1 e2 el er e⟩
end Go.Proofs.Ybulkexncu
