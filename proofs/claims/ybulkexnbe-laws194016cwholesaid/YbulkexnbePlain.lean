import Derived.Test.YbulkexnbeProg
namespace Go.Proofs.Ybulkexnbe

/-! ### the plain side: the first k of a list, kept in order one item at a time -/
def cmpI (x y : Int) : Int := if x < y then -1 else if y < x then 1 else 0
/-- the law's order, ascending or descending -/
def cf (desc : Bool) (x y : Int) : Int := if desc then cmpI y x else cmpI x y
/-- x does not come behind y -/
def Le (desc : Bool) (x y : Int) : Prop := if desc then y ≤ x else x ≤ y

theorem cf_neg (desc : Bool) (x y : Int) : cf desc x y < 0 ↔ ¬ Le desc y x := by
  cases desc <;> simp only [cf, Le, cmpI, if_true, Bool.false_eq_true, if_false] <;> (repeat' split) <;> omega
theorem Le.total (desc : Bool) (x y : Int) : Le desc x y ∨ Le desc y x := by
  cases desc <;> simp only [Le, if_true, Bool.false_eq_true, if_false] <;> omega
theorem Le.trans {desc : Bool} {x y z : Int} (h : Le desc x y) (k : Le desc y z) : Le desc x z := by
  cases desc <;> simp only [Le, if_true, Bool.false_eq_true, if_false] at * <;> omega
theorem Le.antisymm {desc : Bool} {x y : Int} (h : Le desc x y) (k : Le desc y x) : x = y := by
  cases desc <;> simp only [Le, if_true, Bool.false_eq_true, if_false] at * <;> omega
theorem Le.refl (desc : Bool) (x : Int) : Le desc x x := by
  cases desc <;> simp [Le]

/-- x ahead of the first that does not come before it -/
def ordIns (desc : Bool) (x : Int) : List Int → List Int
  | [] => [x]
  | y :: t => if cf desc y x < 0 then y :: ordIns desc x t else x :: y :: t

theorem ordIns_perm (desc : Bool) (x : Int) : ∀ l, (ordIns desc x l).Perm (x :: l)
  | [] => List.Perm.refl _
  | y :: t => by
    unfold ordIns
    split
    · exact ((ordIns_perm desc x t).cons y).trans (List.Perm.swap x y t)
    · exact List.Perm.refl _

theorem ordIns_sorted (desc : Bool) (x : Int) : ∀ l : List Int, l.Pairwise (Le desc) → (ordIns desc x l).Pairwise (Le desc)
  | [], _ => List.pairwise_singleton _ _
  | y :: t, h => by
    rw [List.pairwise_cons] at h
    unfold ordIns
    split
    · rename_i hc
      rw [List.pairwise_cons]
      refine ⟨fun z hz => ?_, ordIns_sorted desc x t h.2⟩
      have hz' := (ordIns_perm desc x t).mem_iff.1 hz
      rw [List.mem_cons] at hz'
      rcases hz' with rfl | hz'
      · rw [cf_neg] at hc
        rcases Le.total desc y z with h' | h'
        · exact h'
        · exact absurd h' hc
      · exact h.1 z hz'
    · rename_i hc
      rw [cf_neg, Classical.not_not] at hc
      rw [List.pairwise_cons, List.pairwise_cons]
      refine ⟨fun z hz => ?_, h.1, h.2⟩
      rw [List.mem_cons] at hz
      rcases hz with rfl | hz
      · exact hc
      · exact hc.trans (h.1 z hz)

/-- the insertion at the place that the search finds -/
theorem ordIns_at (desc : Bool) (x : Int) : ∀ l : List Int, l.Pairwise (Le desc) → ordIns desc x l = l.take (l.countP fun y => decide (cf desc y x < 0)) ++ x :: l.drop (l.countP fun y => decide (cf desc y x < 0))
  | [], _ => rfl
  | y :: t, h => by
    rw [List.pairwise_cons] at h
    unfold ordIns
    by_cases hc : cf desc y x < 0
    · rw [if_pos hc, List.countP_cons_of_pos (by simpa using hc), List.take_succ_cons, List.drop_succ_cons, ordIns_at desc x t h.2]
      rfl
    · have h0 : (y :: t).countP (fun y => decide (cf desc y x < 0)) = 0 := by
        rw [List.countP_eq_zero]
        intro z hz
        rw [List.mem_cons] at hz
        rcases hz with rfl | hz
        · simpa using hc
        · rw [cf_neg, Classical.not_not] at hc
          have := hc.trans (h.1 z hz)
          simp only [decide_eq_true_eq, cf_neg, Classical.not_not]
          exact this
      rw [if_neg hc, h0]
      rfl

theorem ordIns_take (desc : Bool) (x : Int) : ∀ (k : Nat) (l : List Int), (ordIns desc x (l.take k)).take k = (ordIns desc x l).take k
  | 0, l => by simp
  | k + 1, [] => by simp
  | k + 1, y :: t => by
    rw [List.take_succ_cons]
    unfold ordIns
    split
    · rw [List.take_succ_cons, List.take_succ_cons, ordIns_take desc x k t]
    · rw [List.take_succ_cons, List.take_succ_cons]
      cases k with
      | zero => rfl
      | succ k => rw [List.take_succ_cons, List.take_succ_cons, List.take_take, Nat.min_eq_left (Nat.le_succ _)]

/-- an item that comes before none of a full list leaves it -/
theorem ordIns_full (desc : Bool) (x : Int) : ∀ l : List Int, l.Pairwise (Le desc) → (∀ y ∈ l, Le desc y x) → (ordIns desc x l).take l.length = l
  | [], _, _ => by simp
  | y :: t, h, hx => by
    rw [List.pairwise_cons] at h
    unfold ordIns
    split
    · rw [List.length_cons, List.take_succ_cons, ordIns_full desc x t h.2 (fun z hz => hx z (List.mem_cons_of_mem _ hz))]
    · rename_i hc
      rw [cf_neg, Classical.not_not] at hc
      have e : ∀ z ∈ y :: t, z = x := fun z hz => by
        refine Le.antisymm (hx z hz) ?_
        rw [List.mem_cons] at hz
        rcases hz with rfl | hz
        · exact hc
        · exact hc.trans (h.1 z hz)
      have e2 : y :: t = List.replicate (t.length + 1) x := List.eq_replicate_iff.2 ⟨rfl, e⟩
      rw [e2, List.length_replicate, ← List.replicate_succ, List.take_replicate, Nat.min_eq_left (by omega)]

/-- what offer leaves of the items -/
def offered (desc : Bool) (k : Nat) (l : List Int) (x : Int) : List Int :=
  if l.length = k ∧ (k = 0 ∨ 0 ≤ cf desc x (l.getD (k - 1) 0)) then l else (ordIns desc x l).take k

def kept (desc : Bool) (k : Nat) (xs : List Int) : List Int := xs.foldl (offered desc k) []
def sorted (desc : Bool) (xs : List Int) : List Int := xs.foldl (fun l x => ordIns desc x l) []

theorem sorted_snoc (desc : Bool) (xs : List Int) (x : Int) : sorted desc (xs ++ [x]) = ordIns desc x (sorted desc xs) := by
  simp [sorted]
theorem kept_snoc (desc : Bool) (k : Nat) (xs : List Int) (x : Int) : kept desc k (xs ++ [x]) = offered desc k (kept desc k xs) x := by
  simp [kept]

theorem list_snoc_ind {p : List Int → Prop} (h0 : p []) (h1 : ∀ xs x, p xs → p (xs ++ [x])) (l : List Int) : p l := by
  have : ∀ l : List Int, p l.reverse := by
    intro l
    induction l with
    | nil => exact h0
    | cons a t ih => rw [List.reverse_cons]; exact h1 _ _ ih
  have h := this l.reverse
  rwa [List.reverse_reverse] at h

theorem sorted_pairwise (desc : Bool) (xs : List Int) : (sorted desc xs).Pairwise (Le desc) := by
  refine list_snoc_ind (p := fun xs => (sorted desc xs).Pairwise (Le desc)) List.Pairwise.nil (fun xs x ih => ?_) xs
  rw [sorted_snoc]
  exact ordIns_sorted desc x _ ih
theorem sorted_perm (desc : Bool) (xs : List Int) : (sorted desc xs).Perm xs := by
  refine list_snoc_ind (p := fun xs => (sorted desc xs).Perm xs) (List.Perm.refl _) (fun xs x ih => ?_) xs
  rw [sorted_snoc]
  exact (ordIns_perm desc x _).trans ((ih.cons x).trans (List.perm_append_comm (l₁ := [x]) (l₂ := xs)))

theorem getD_get {l : List Int} {i : Nat} (h : i < l.length) : l.getD i 0 = l[i] := by
  rw [List.getD_eq_getElem?_getD, List.getElem?_eq_getElem h]
  rfl

theorem take_pairwise {R : Int → Int → Prop} {l : List Int} (h : l.Pairwise R) (k : Nat) : (l.take k).Pairwise R := h.sublist (List.take_sublist k l)

/-- what is kept is the head of what is sorted -/
theorem kept_is (desc : Bool) (k : Nat) (xs : List Int) : kept desc k xs = (sorted desc xs).take k := by
  refine list_snoc_ind (p := fun xs => kept desc k xs = (sorted desc xs).take k) (by simp [kept, sorted]) (fun xs x ih => ?_) xs
  rw [kept_snoc, sorted_snoc, ih]
  unfold offered
  split
  · rename_i h
    obtain ⟨hl, hx⟩ := h
    rw [← ordIns_take]
    rcases hx with rfl | hx
    · simp
    · have hs := take_pairwise (sorted_pairwise desc xs) k
      generalize (sorted desc xs).take k = l at hl hx hs
      subst hl
      refine (ordIns_full desc x l hs fun y hy => ?_).symm
      have hlast : Le desc (l.getD (l.length - 1) 0) x := by
        have : ¬ cf desc x (l.getD (l.length - 1) 0) < 0 := by omega
        rwa [cf_neg, Classical.not_not] at this
      obtain ⟨i, hi, rfl⟩ := List.getElem_of_mem hy
      by_cases e : i = l.length - 1
      · rw [getD_get (by omega)] at hlast
        subst e
        exact hlast
      · rw [getD_get (by omega)] at hlast
        exact (List.pairwise_iff_getElem.1 hs i (l.length - 1) hi (by omega) (by omega)).trans hlast
  · rw [ordIns_take]

/-- Go's sort, and its reverse, give the same list -/
theorem sorted_asc (xs : List Int) : xs.mergeSort (fun x y => decide (x ≤ y)) = sorted false xs := by
  refine List.Perm.eq_of_pairwise (le := Le false) (fun a b _ _ h k => Le.antisymm h k) ?_ (sorted_pairwise false xs) ((List.mergeSort_perm xs _).trans (sorted_perm false xs).symm)
  have := List.pairwise_mergeSort (le := fun x y : Int => decide (x ≤ y)) (fun a b c h k => by simp at *; omega) (fun a b => by simp; omega) xs
  exact List.pairwise_iff_getElem.2 fun i j hi hj hij => by simpa [Le] using List.pairwise_iff_getElem.1 this i j hi hj hij
theorem sorted_desc (xs : List Int) : (xs.mergeSort (fun x y => decide (x ≤ y))).reverse = sorted true xs := by
  refine List.Perm.eq_of_pairwise (le := Le true) (fun a b _ _ h k => Le.antisymm h k) ?_ (sorted_pairwise true xs) ((List.reverse_perm _).trans ((List.mergeSort_perm xs _).trans (sorted_perm true xs).symm))
  rw [List.pairwise_reverse]
  have := List.pairwise_mergeSort (le := fun x y : Int => decide (x ≤ y)) (fun a b c h k => by simp at *; omega) (fun a b => by simp; omega) xs
  exact List.pairwise_iff_getElem.2 fun i j hi hj hij => by simpa [Le] using List.pairwise_iff_getElem.1 this i j hi hj hij
theorem sorted_length (desc : Bool) (xs : List Int) : (sorted desc xs).length = xs.length := (sorted_perm desc xs).length_eq
end Go.Proofs.Ybulkexnbe
