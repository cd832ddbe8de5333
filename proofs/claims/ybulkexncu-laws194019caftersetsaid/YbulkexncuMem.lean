import Derived.Test.YbulkexncuProg
import Derived.WalkKit
import Derived.WalkSpells
import Derived.WalkLawsBesides
import Derived.Below
import Derived.Deep.DeepMust
namespace Go.Proofs.Ybulkexncu
open Go.RowKit
set_option linter.unusedVariables false

/-! ### a node in memory, and what a search from a pointer comes to -/

/-- block b holds a node -/
structure Node (w : World) (b : Nat) (k v : Int) (l r : Option Addr) : Prop where
  lt : b < w.heap.size
  key : w.cell? ⟨b, 0, none⟩ = some (.int .i64 k)
  val : w.cell? ⟨b, 1, none⟩ = some (.int .i64 v)
  left : w.cell? ⟨b, 2, none⟩ = some (.pointer l)
  right : w.cell? ⟨b, 3, none⟩ = some (.pointer r)

theorem Node.below {w w' : World} {b B : Nat} {k v : Int} {l r : Option Addr} (h : Node w b k v l r) (hb : Below B w w') (hB : b < B) : Node w' b k v l r :=
  ⟨Nat.lt_of_lt_of_le h.lt hb.size, (hb.cell (p := ⟨b, 0, none⟩) hB).trans h.key, (hb.cell (p := ⟨b, 1, none⟩) hB).trans h.val, (hb.cell (p := ⟨b, 2, none⟩) hB).trans h.left, (hb.cell (p := ⟨b, 3, none⟩) hB).trans h.right⟩
theorem Node.new (w : World) (k v : Int) (l r : Option Addr) (t : TypeId) : Node (w.alloc (.cells #[.int .i64 k, .int .i64 v, .pointer l, .pointer r] t)) w.heap.size k v l r :=
  ⟨by simp, (World.cell?_alloc_at _ _ _ _ rfl).trans rfl, (World.cell?_alloc_at _ _ _ _ rfl).trans rfl, (World.cell?_alloc_at _ _ _ _ rfl).trans rfl, (World.cell?_alloc_at _ _ _ _ rfl).trans rfl⟩

/-- from pointer p a search for key comes, in at most d steps, to r -/
def Look (w : World) (key : Int) (r : Option Int) : Nat → Option Addr → Prop
  | 0, p => p = none ∧ r = none
  | d + 1, p => (p = none ∧ r = none) ∨ ∃ b k v l rt, p = some ⟨b, 0, none⟩ ∧ Node w b k v l rt ∧ (key = k → r = some v) ∧ (key < k → Look w key r d l) ∧ (k < key → Look w key r d rt)

theorem Look.below {w w' : World} {key : Int} {r : Option Int} {B : Nat} (hb : Below B w w') (hB : w.heap.size ≤ B) : ∀ {d : Nat} {p : Option Addr}, Look w key r d p → Look w' key r d p
  | 0, _, h => h
  | d + 1, _, .inl h => .inl h
  | d + 1, _, .inr ⟨b, k, v, l, rt, hp, hn, h1, h2, h3⟩ => .inr ⟨b, k, v, l, rt, hp, hn.below hb (Nat.lt_of_lt_of_le hn.lt hB), h1, fun h => (h2 h).below hb hB, fun h => (h3 h).below hb hB⟩

/-! ### the plain side: the value last given to a key -/
def vl (z1 : List Int) (len1 : Nat) (i : Nat) : Int := if len1 = 0 then i else z1.getD (i % len1) 0
def lastv (z0 : List Int) (f : Nat → Int) (key : Int) : Nat → Option Int
  | 0 => none
  | n + 1 => if z0.getD n 0 = key then some (f n) else lastv z0 f key n

theorem lastv_hit {z0 : List Int} (f : Nat → Int) {key : Int} {n : Nat} (h : z0.getD n 0 = key) : lastv z0 f key (n + 1) = some (f n) := if_pos h
theorem lastv_miss {z0 : List Int} (f : Nat → Int) {key : Int} {n : Nat} (h : ¬ z0.getD n 0 = key) : lastv z0 f key (n + 1) = lastv z0 f key n := if_neg h

/-- what is told of a slice of numbers: where it has an element, its cells -/
structure Nums (w : World) (a : Option Addr) (b off len : Nat) (zs : List Int) : Prop where
  head : 0 < len → a = some ⟨b, off, none⟩
  cell : ∀ i, i < len → w.cell? ⟨b, off + i, none⟩ = some (.int .i64 (zs.getD i 0))

theorem Nums.lt {w : World} {a : Option Addr} {b off len : Nat} {zs : List Int} (h : Nums w a b off len zs) (h0 : 0 < len) : b < w.heap.size := by
  rcases Nat.lt_or_ge b w.heap.size with h' | h'
  · exact h'
  · have := h.cell 0 h0
    simp [World.cell?, Array.getElem?_eq_none h'] at this
theorem Nums.below {w w' : World} {a : Option Addr} {b off len : Nat} {zs : List Int} {B : Nat} (h : Nums w a b off len zs) (hb : Below B w w') (hB : w.heap.size ≤ B) : Nums w' a b off len zs :=
  ⟨h.head, fun i hi => (hb.cell (p := ⟨b, off + i, none⟩) (Nat.lt_of_lt_of_le (h.lt (by omega)) hB)).trans (h.cell i hi)⟩

set_option maxHeartbeats 400000 in
/-- zzval -/
theorem val_is (a : Option Addr) (b off len cap : Nat) (zs : List Int) (i : Nat) (w : World) (h : Nums w a b off len zs) (hi : i ≤ 4096) (hl : len ≤ maxLen) :
    Calls Yba.prog 6 #[.slice a len cap, .int .i64 i] w fun e w' => e = .returned (.int .i64 (vl zs len i)) ∧ w' = w := by
  unfold maxLen at hl
  by_cases h0 : len = 0
  · subst h0
    go_enter Yba.func6, Yba.ntmps6
    go_wp2
    go_ret
    exact ⟨rfl, rfl⟩
  · obtain rfl := h.head (by omega)
    have hm : i % len < len := Nat.mod_lt _ (by omega)
    have hc := h.cell (i % len) hm
    clear h
    go_enter Yba.func6, Yba.ntmps6
    go_wp2
    go_ret
    exact ⟨by simp [vl, h0], rfl⟩

set_option maxHeartbeats 400000 in
/-- zzkey -/
theorem key_is (a : Option Addr) (b off len cap : Nat) (zs : List Int) (s p : Int) (w : World) (h : Nums w a b off len zs) (hs : 0 ≤ s ∧ s ≤ 18446744073709551615) (hl : len ≤ maxLen) :
    Calls Yba.prog 7 #[.slice a len cap, .int .u64 s, .int .i64 p] w fun e w' => ∃ key, e = .returned (.int .i64 key) ∧ w' = w := by
  unfold maxLen at hl
  by_cases h0 : len = 0
  · subst h0
    go_enter Yba.func7, Yba.ntmps7
    go_wp2
    go_ret
    exact ⟨_, rfl, rfl⟩
  · obtain rfl := h.head (by omega)
    obtain ⟨s, rfl⟩ : ∃ n : Nat, s = n := ⟨s.toNat, by omega⟩
    obtain ⟨q, hm, hw⟩ : ∃ q : Nat, q < len ∧ wrap64 ((s : Int) / 2 % (len : Int)) = (q : Int) := by
      have hm : s / 2 % len < len := Nat.mod_lt _ (by omega)
      have e : ((s : Int) / 2 % (len : Int)) = ((s / 2 % len : Nat) : Int) := by simp
      refine ⟨s / 2 % len, hm, ?_⟩
      rw [e]
      generalize s / 2 % len = q at hm
      unfold wrap64
      omega
    have hc := h.cell q hm
    clear h
    by_cases h2 : s % 2 = 0
    · go_enter Yba.func7, Yba.ntmps7
      go_wp2
      go_ret
      exact ⟨_, rfl, rfl⟩
    · go_enter Yba.func7, Yba.ntmps7
      go_wp2
      go_ret
      exact ⟨_, rfl, rfl⟩

set_option maxHeartbeats 400000 in
/-- zzexpect -/
theorem expect_is (a : Option Addr) (b off len cap : Nat) (zs : List Int) (a1 : Option Addr) (b1 off1 len1 cap1 : Nat) (z1 : List Int) (key : Int) (w : World) (h : Nums w a b off len zs) (h1 : Nums w a1 b1 off1 len1 z1)
    (hl : len ≤ 4096) (hl1 : len1 ≤ maxLen) :
    Calls Yba.prog 9 #[.slice a len cap, .slice a1 len1 cap1, .int .i64 key] w fun e w' =>
      e = .returned (.tuple #[.int .i64 ((lastv zs (vl z1 len1) key len).getD 0), .bool (lastv zs (vl z1 len1) key len).isSome]) ∧ w' = w := by
  have H1 : Hid (Nums w a1 b1 off1 len1 z1) := h1
  clear h1
  go_enter Yba.func9, Yba.ntmps9
  go_wp2
  go_loop [8, 9, 10] (fun v ok i => ∃ k : Nat, k ≤ len ∧ i = .int .i64 k ∧ v = .int .i64 ((lastv zs (vl z1 len1) key k).getD 0) ∧ ok = .bool (lastv zs (vl z1 len1) key k).isSome)
    (fun _ _ i => len - (intOf i).toNat)
  case atStart => exact ⟨0, by omega, rfl, rfl, rfl⟩
  case round =>
    obtain ⟨k, hk, rfl, rfl, rfl⟩ := hrel
    by_cases hlt : k < len
    · obtain rfl := h.head (by omega)
      have hc := h.cell k hlt
      by_cases he : zs.getD k 0 = key
      · rw [he] at hc
        go_wp2_with (go_at_call 6; go_must (refine (val_is a1 b1 off1 len1 cap1 z1 k _ H1.out (by omega) hl1).mono ?_); rintro e w1 ⟨rfl, rfl⟩)
        go_round
        case rel => exact ⟨k + 1, by omega, by go_num, by rw [lastv_hit _ he]; rfl, by rw [lastv_hit _ he]; rfl⟩
        case measure => simp [intOf]; omega
      · have he' := he
        have HE : Hid (¬ zs.getD k 0 = key) := he
        clear he
        generalize zs.getD k 0 = z at hc he'
        go_wp2
        go_round
        case rel => exact ⟨k + 1, by omega, by go_num, by rw [lastv_miss _ HE.out], by rw [lastv_miss _ HE.out]⟩
        case measure => simp [intOf]; omega
    · obtain rfl : k = len := by omega
      go_wp2
      go_ret2
      exact ⟨rfl, rfl⟩
end Go.Proofs.Ybulkexncu
