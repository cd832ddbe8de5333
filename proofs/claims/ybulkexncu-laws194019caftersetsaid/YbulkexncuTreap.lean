import Derived.Test.YbulkexncuGet
import Derived.Deep.RegionHeld3
namespace Go.Proofs.Ybulkexncu
open Go.RowKit
set_option linter.unusedVariables false

/-! ### trees in memory that are never changed, read as what a search in them comes to -/
/-- a node over what its two sides hold -/
def join (k v : Int) (l r : Int → Option Int) (y : Int) : Option Int := if y = k then some v else if y < k then l y else r y
theorem join_at {k v : Int} {l r : Int → Option Int} {y : Int} (h : y = k) : join k v l r y = some v := if_pos h
theorem join_lt {k v : Int} {l r : Int → Option Int} {y : Int} (h : y < k) : join k v l r y = l y := by
  rw [join, if_neg (by omega), if_pos h]
theorem join_gt {k v : Int} {l r : Int → Option Int} {y : Int} (h : k < y) : join k v l r y = r y := by
  rw [join, if_neg (by omega), if_neg (by omega)]

def none1 (_ : Int) : Option Int := none

/-- from pointer p hangs a tree of at most d storeys, in which a search comes to what m says -/
def Tree (w : World) : Nat → (Int → Option Int) → Option Addr → Prop
  | 0, m, p => p = none ∧ m = none1
  | d + 1, m, p => (p = none ∧ m = none1) ∨ ∃ b k v pl pr l r, p = some ⟨b, 0, none⟩ ∧ Node w b k v pl pr ∧ Tree w d l pl ∧ Tree w d r pr ∧ m = join k v l r

theorem Tree.below {w w' : World} {B : Nat} (hb : Below B w w') (hB : w.heap.size ≤ B) : ∀ {d : Nat} {m : Int → Option Int} {p : Option Addr}, Tree w d m p → Tree w' d m p
  | 0, _, _, h => h
  | d + 1, _, _, .inl h => .inl h
  | d + 1, _, _, .inr ⟨b, k, v, pl, pr, l, r, hp, hn, hl, hr, hm⟩ => .inr ⟨b, k, v, pl, pr, l, r, hp, hn.below hb (Nat.lt_of_lt_of_le hn.lt hB), hl.below hb hB, hr.below hb hB, hm⟩
theorem Tree.more {w : World} : ∀ {d d' : Nat} {m : Int → Option Int} {p : Option Addr}, d ≤ d' → Tree w d m p → Tree w d' m p
  | 0, 0, _, _, _, h => h
  | 0, d' + 1, _, _, _, h => .inl h
  | d + 1, 0, _, _, hd, _ => absurd hd (by omega)
  | d + 1, d' + 1, _, _, hd, .inl h => .inl h
  | d + 1, d' + 1, _, _, hd, .inr ⟨b, k, v, pl, pr, l, r, hp, hn, hl, hr, hm⟩ => .inr ⟨b, k, v, pl, pr, l, r, hp, hn, hl.more (by omega), hr.more (by omega), hm⟩
theorem Tree.look {w : World} {x : Int} : ∀ {d : Nat} {m : Int → Option Int} {p : Option Addr}, Tree w d m p → Look w x (m x) d p
  | 0, _, _, ⟨hp, hm⟩ => ⟨hp, by rw [hm]; rfl⟩
  | d + 1, _, _, .inl ⟨hp, hm⟩ => .inl ⟨hp, by rw [hm]; rfl⟩
  | d + 1, _, _, .inr ⟨b, k, v, pl, pr, l, r, hp, hn, hl, hr, hm⟩ => by
    subst hm
    refine .inr ⟨b, k, v, pl, pr, hp, hn, fun e => join_at e, fun e => ?_, fun e => ?_⟩
    · rw [join_lt e]; exact hl.look
    · rw [join_gt e]; exact hr.look

/-- from pointer p hangs a tree in which a search comes to what m says -/
def Has (w : World) (m : Int → Option Int) (p : Option Addr) : Prop := ∃ d, Tree w d m p
theorem Tree.has {w : World} {d : Nat} {m : Int → Option Int} {p : Option Addr} (h : Tree w d m p) : Has w m p := ⟨d, h⟩
theorem Has.empty (w : World) : Has w none1 none := ⟨0, rfl, rfl⟩
theorem Has.grown {w w' : World} (hb : Below w.heap.size w w') {m : Int → Option Int} {p : Option Addr} (h : Has w m p) : Has w' m p := by
  obtain ⟨d, h⟩ := h
  exact ⟨d, h.below hb (Nat.le_refl _)⟩
theorem Has.drew {w : World} {m : Int → Option Int} {p : Option Addr} (h : Has w m p) : Has w.drew m p := h.grown (Below.refl _ _).drew
theorem Tree.drew {w : World} {d : Nat} {m : Int → Option Int} {p : Option Addr} (h : Tree w d m p) : Tree w.drew d m p := h.below (Below.refl w.heap.size _).drew (Nat.le_refl _)
/-- a new node over trees that are there -/
theorem Has.new {w : World} {l r : Int → Option Int} {pl pr : Option Addr} (hl : Has w l pl) (hr : Has w r pr) (k v : Int) : Has (w.alloc (.cells #[.int .i64 k, .int .i64 v, .pointer pl, .pointer pr] 36)) (join k v l r) (some ⟨w.heap.size, 0, none⟩) := by
  obtain ⟨d1, h1⟩ := hl.grown ((Below.refl _ _).alloc (Nat.le_refl _) (.cells #[.int .i64 k, .int .i64 v, .pointer pl, .pointer pr] 36))
  obtain ⟨d2, h2⟩ := hr.grown ((Below.refl _ _).alloc (Nat.le_refl _) (.cells #[.int .i64 k, .int .i64 v, .pointer pl, .pointer pr] 36))
  exact ⟨max d1 d2 + 1, .inr ⟨w.heap.size, k, v, pl, pr, l, r, rfl, Node.new w k v pl pr 36, h1.more (by omega), h2.more (by omega), rfl⟩⟩
theorem below_new (w : World) (o : Obj) : Below w.heap.size w (w.alloc o) := (Below.refl _ _).alloc (Nat.le_refl _) _

/-! ### the two calls that only reckon -/
set_option maxHeartbeats 400000 in
theorem prio_is (k : Int) (w : World) : Calls Yba.prog 14 #[.int .i64 k] w fun e w' => ∃ z, e = .returned (.int .u64 z) ∧ w' = w := by
  go_enter Yba.func14, Yba.ntmps14
  go_wp2
  go_ret
  exact ⟨_, rfl, rfl⟩

set_option maxHeartbeats 400000 in
theorem outranks_is (a b : Int) (w : World) : Calls Yba.prog 12 #[.int .i64 a, .int .i64 b] w fun e w' => ∃ c, e = .returned (.bool c) ∧ w' = w := by
  go_enter Yba.func12, Yba.ntmps12
  go_wp2_with (go_at_call 14; go_must (refine (prio_is _ _).mono ?_); rintro e w1 ⟨z, rfl, rfl⟩)
  go_ret
  exact ⟨_, rfl, rfl⟩
end Go.Proofs.Ybulkexncu
