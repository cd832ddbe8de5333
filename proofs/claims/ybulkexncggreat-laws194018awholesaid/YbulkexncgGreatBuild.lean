import Derived.Test.YbulkexncgGreatReads
import Derived.Deep.DeepMust
namespace Go.Proofs.YbulkexncgGreat
open Go.RowKit
set_option linter.unusedVariables false

theorem info46 : (Ybaz.prog.info? 46).map (fun i => (i.zero, i.size, i.bytes)) = some (some (.agg #[.int .i64 0, .nilIface]), 2, 24) := by kernel_rfl

theorem two_new (w : World) (v u : Value) (t : TypeId) : ∀ j x, [v, u][j]? = some x → (w.alloc (.cells #[v, u] t)).cell? ((⟨w.heap.size, 0, none⟩ : Addr).add j) = some x := by
  intro j x hj
  have hp : (⟨w.heap.size, 0, none⟩ : Addr).add j = ⟨w.heap.size, j, none⟩ := by unfold Addr.add; split <;> simp_all
  rw [hp, World.cell?_alloc_at _ _ _ _ rfl]
  simpa using hj

set_option maxRecDepth 100000 in
set_option maxHeartbeats 1000000 in
/-- the struct literal, a slice that is not nil -/
theorem build3 (t : Int) (f : Bool) (x : Addr) (b off len cap : Nat) (zs : List Int) (w : World) (ht : 0 ≤ t ∧ t ≤ 255) (h3 : t % 11 = 3) (hl : len ≤ 1048576)
    (hx : 0 < len → x = ⟨b, off, none⟩) (hc : ∀ i, i < len → w.cell? ⟨b, off + i, none⟩ = some (.int .i64 (zs.getD i 0))) :
    Calls Ybaz.prog 4 #[.int .u8 t, .bool f, .slice (some x) len cap] w fun e w' => ∃ bs a c, e = .returned (.tuple #[.iface 47 (.pointer (some ⟨bs, 0, none⟩)), .bool ((len : Int) == 0)]) ∧ w'.cell? ⟨bs, 12, none⟩ = some (.slice a len c) ∧ Below w.heap.size w w' := by
  obtain ⟨i0, hi, hz0, hz1, hz2⟩ := info_parts info46
  have hne := fun (w : World) (n c n' c' : Nat) => run_neq_slice_nil_any (P := Ybaz.prog) w 22 3 (some x) n c n' c' Ybaz.underlying22
  have n0 : ((3 : Int) == 0) = false := by decide
  go_enter Ybaz.func4, Ybaz.ntmps4
  go_wp2_with (first
    | (at_make; refine wpList_make_own _ rfl _ _ 44 rfl w.heap.size 46 i0 _ 2 Ybaz.underlying44 hi hz0 hz1 _ _ _ len rfl rfl rfl (by rw [hz2]; omega) (by unfold maxLen; omega) (Nat.le_refl _) ?_; intro w1 hown1 hgrow1))
  go_loopw [8, 9] (fun v i wr => ∃ (k : Nat) (xs : List Value), k ≤ len ∧ i = .int .i64 k ∧ v = .slice (some ⟨w.heap.size, 0, none⟩) k len ∧ wr.ownsRow w.heap.size 46 2 (.slice (some ⟨w.heap.size, 0, none⟩) k len) k xs ∧ Below w.heap.size w wr)
    (fun _ i _ => len - (intOf i).toNat)
  case atStart => exact ⟨0, [], by omega, rfl, rfl, hown1, (Below.refl _ _).grown hgrow1 (Nat.le_refl _) (by simp)⟩
  case round =>
    obtain ⟨k, xs, hk, rfl, rfl, hown, hB⟩ := hrel
    by_cases hlt : k < len
    · obtain rfl := hx (by omega)
      obtain ⟨z, hz⟩ : ∃ z, w.cell? ⟨b, off + k, none⟩ = some (.int .i64 z) := ⟨_, hc k hlt⟩
      have hb : b < w.heap.size := by
        rcases Nat.lt_or_ge b w.heap.size with h | h
        · exact h
        · simp [World.cell?, Array.getElem?_eq_none h] at hz
      have hz2 : wr.cell? ⟨b, off + k, none⟩ = some (.int .i64 z) := (hB.cell (p := ⟨b, off + k, none⟩) hb).trans hz
      have hBH : Hid (Below w.heap.size w wr) := hB
      have hsz := hB.size
      clear hB
      go_wp2_with (first
        | (at_builtin; go_must (refine wpList_append_fits _ (by rfl) _ _ 44 (by rfl) w.heap.size 46 i0 2 Ybaz.underlying44 hi hz1 w.heap.size k len xs (by rfl) (hown.alloc _) ⟨wr.heap.size, 0, none⟩ 1 1 [.int .i64 z, .nilIface] (by rfl) rfl (two_new _ _ _ _) (by simp [Value.oneCell']) (by omega) ?_); intro w1 hown1 hgrow))
      go_roundw
      case rel => exact ⟨k + 1, _, by omega, by go_num, rfl, hown1, (hBH.out.alloc hsz _).grown hgrow (by simp; omega) (fun j hj => by cases hj; exact Nat.le_refl _)⟩
      case measure => simp [intOf]; omega
    · obtain rfl : k = len := by omega
      have hBH : Hid (Below w.heap.size w wr) := hB
      have hsz := hB.size
      clear hB
      go_wp2
      go_ret2
      exact ⟨wr.heap.size, _, _, rfl, (World.cell?_alloc_at _ _ _ _ rfl).trans rfl, hBH.out.alloc hsz _⟩

/-- what the law wants of a value that is built: readsNothing answers b of it -/
def Built (w w' : World) (v : Value) (b : Bool) : Prop := Below w.heap.size w w' ∧ Calls Ybaz.prog 5 #[v] w' fun e w'' => e = .returned (.bool b) ∧ w'' = w'

set_option maxRecDepth 100000 in
set_option maxHeartbeats 1000000 in
theorem build_0 (t : Int) (f : Bool) (a : Option Addr) (len cap : Nat) (w : World) (ht : 0 ≤ t ∧ t ≤ 255) (hc : t % 11 = 0) (hl : len ≤ 1048576) :
    Calls Ybaz.prog 4 #[.int .u8 t, .bool f, .slice a len cap] w fun e w' => ∃ v b, e = .returned (.tuple #[v, .bool b]) ∧ Built w w' v b := by
  go_enter Ybaz.func4, Ybaz.ntmps4
  go_wp2
  go_ret2
  exact ⟨_, _, rfl, (Below.refl _ _).alloc (Nat.le_refl _) _, reads29 _ _⟩

set_option maxRecDepth 100000 in
set_option maxHeartbeats 1000000 in
theorem build_1 (t : Int) (f : Bool) (a : Option Addr) (len cap : Nat) (w : World) (ht : 0 ≤ t ∧ t ≤ 255) (hc : t % 11 = 1) (hl : len ≤ 1048576) :
    Calls Ybaz.prog 4 #[.int .u8 t, .bool f, .slice a len cap] w fun e w' => ∃ v b, e = .returned (.tuple #[v, .bool b]) ∧ Built w w' v b := by
  go_enter Ybaz.func4, Ybaz.ntmps4
  go_wp2
  go_ret2
  exact ⟨_, _, rfl, (Below.refl _ _).alloc (Nat.le_refl _) _, reads34 _ _⟩

set_option maxRecDepth 100000 in
set_option maxHeartbeats 1000000 in
theorem build_2 (t : Int) (f : Bool) (a : Option Addr) (len cap : Nat) (w : World) (ht : 0 ≤ t ∧ t ≤ 255) (hc : t % 11 = 2) (hl : len ≤ 1048576) :
    Calls Ybaz.prog 4 #[.int .u8 t, .bool f, .slice a len cap] w fun e w' => ∃ v b, e = .returned (.tuple #[v, .bool b]) ∧ Built w w' v b := by
  go_enter Ybaz.func4, Ybaz.ntmps4
  go_wp2
  go_ret2
  exact ⟨_, _, rfl, (Below.refl _ _).alloc (Nat.le_refl _) _, reads41 _ _⟩

set_option maxRecDepth 100000 in
set_option maxHeartbeats 1000000 in
theorem build_4 (t : Int) (f : Bool) (a : Option Addr) (len cap : Nat) (w : World) (ht : 0 ≤ t ∧ t ≤ 255) (hc : t % 11 = 4) (hl : len ≤ 1048576) :
    Calls Ybaz.prog 4 #[.int .u8 t, .bool f, .slice a len cap] w fun e w' => ∃ v b, e = .returned (.tuple #[v, .bool b]) ∧ Built w w' v b := by
  go_enter Ybaz.func4, Ybaz.ntmps4
  go_wp2
  go_ret2
  exact ⟨_, _, rfl, (Below.refl _ _).alloc (Nat.le_refl _) _, reads55 _ f _ ((World.cell?_alloc_at _ _ _ _ rfl).trans rfl)⟩

set_option maxRecDepth 100000 in
set_option maxHeartbeats 1000000 in
theorem build_5 (t : Int) (f : Bool) (a : Option Addr) (len cap : Nat) (w : World) (ht : 0 ≤ t ∧ t ≤ 255) (hc : t % 11 = 5) (hl : len ≤ 1048576) :
    Calls Ybaz.prog 4 #[.int .u8 t, .bool f, .slice a len cap] w fun e w' => ∃ v b, e = .returned (.tuple #[v, .bool b]) ∧ Built w w' v b := by
  go_enter Ybaz.func4, Ybaz.ntmps4
  go_wp2
  go_ret2
  exact ⟨_, _, rfl, ((Below.refl _ _).alloc (Nat.le_refl _) _).alloc (by simp) _, reads65 _ f _ ((World.cell?_alloc_at _ _ _ _ (by simp)).trans rfl)⟩

set_option maxRecDepth 100000 in
set_option maxHeartbeats 1000000 in
theorem build_6 (t : Int) (f : Bool) (a : Option Addr) (len cap : Nat) (w : World) (ht : 0 ≤ t ∧ t ≤ 255) (hc : t % 11 = 6) (hl : len ≤ 1048576) :
    Calls Ybaz.prog 4 #[.int .u8 t, .bool f, .slice a len cap] w fun e w' => ∃ v b, e = .returned (.tuple #[v, .bool b]) ∧ Built w w' v b := by
  go_enter Ybaz.func4, Ybaz.ntmps4
  go_wp2
  go_ret2
  exact ⟨_, _, rfl, (((Below.refl _ _).alloc (Nat.le_refl _) _).alloc (by simp) _).alloc (by simp; omega) _, reads68 _ f _ ((World.cell?_alloc_at _ _ _ _ (by simp)).trans rfl)⟩

set_option maxRecDepth 100000 in
set_option maxHeartbeats 1000000 in
theorem build_7 (t : Int) (f : Bool) (a : Option Addr) (len cap : Nat) (w : World) (ht : 0 ≤ t ∧ t ≤ 255) (hc : t % 11 = 7) (hl : len ≤ 1048576) :
    Calls Ybaz.prog 4 #[.int .u8 t, .bool f, .slice a len cap] w fun e w' => ∃ v b, e = .returned (.tuple #[v, .bool b]) ∧ Built w w' v b := by
  go_enter Ybaz.func4, Ybaz.ntmps4
  go_wp2
  go_ret2
  exact ⟨_, _, rfl, (Below.refl _ _).alloc (Nat.le_refl _) _, reads71 _ _⟩

set_option maxRecDepth 100000 in
set_option maxHeartbeats 1000000 in
theorem build_8 (t : Int) (f : Bool) (a : Option Addr) (len cap : Nat) (w : World) (ht : 0 ≤ t ∧ t ≤ 255) (hc : t % 11 = 8) (hl : len ≤ 1048576) :
    Calls Ybaz.prog 4 #[.int .u8 t, .bool f, .slice a len cap] w fun e w' => ∃ v b, e = .returned (.tuple #[v, .bool b]) ∧ Built w w' v b := by
  go_enter Ybaz.func4, Ybaz.ntmps4
  go_wp2
  go_ret2
  exact ⟨_, _, rfl, Below.refl _ _, reads0 _⟩

set_option maxRecDepth 100000 in
set_option maxHeartbeats 1000000 in
theorem build_9 (t : Int) (f : Bool) (a : Option Addr) (len cap : Nat) (w : World) (ht : 0 ≤ t ∧ t ≤ 255) (hc : t % 11 = 9) (hl : len ≤ 1048576) :
    Calls Ybaz.prog 4 #[.int .u8 t, .bool f, .slice a len cap] w fun e w' => ∃ v b, e = .returned (.tuple #[v, .bool b]) ∧ Built w w' v b := by
  go_enter Ybaz.func4, Ybaz.ntmps4
  go_wp2
  go_ret2
  exact ⟨_, _, rfl, Below.refl _ _, reads29 _ _⟩

set_option maxRecDepth 100000 in
set_option maxHeartbeats 1000000 in
theorem build_10 (t : Int) (f : Bool) (a : Option Addr) (len cap : Nat) (w : World) (ht : 0 ≤ t ∧ t ≤ 255) (hc : t % 11 = 10) (hl : len ≤ 1048576) :
    Calls Ybaz.prog 4 #[.int .u8 t, .bool f, .slice a len cap] w fun e w' => ∃ v b, e = .returned (.tuple #[v, .bool b]) ∧ Built w w' v b := by
  go_enter Ybaz.func4, Ybaz.ntmps4
  go_wp2
  go_ret2
  exact ⟨_, _, rfl, (Below.refl _ _).alloc (Nat.le_refl _) _, reads76 _ _⟩

set_option maxRecDepth 100000 in
set_option maxHeartbeats 1000000 in
theorem build_3nil (t : Int) (f : Bool) (w : World) (ht : 0 ≤ t ∧ t ≤ 255) (h3 : t % 11 = 3) :
    Calls Ybaz.prog 4 #[.int .u8 t, .bool f, .slice none 0 0] w fun e w' => ∃ v b, e = .returned (.tuple #[v, .bool b]) ∧ Built w w' v b := by
  have hne := fun (w : World) (n c n' c' : Nat) => run_neq_slice_nil_any (P := Ybaz.prog) w 22 3 none n c n' c' Ybaz.underlying22
  go_enter Ybaz.func4, Ybaz.ntmps4
  go_wp2
  go_ret2
  exact ⟨_, _, rfl, (Below.refl _ _).alloc (Nat.le_refl _) _, reads47 _ none 0 0 _ ((World.cell?_alloc_at _ _ _ _ rfl).trans rfl)⟩

theorem build_any (t : Int) (f : Bool) (a : Option Addr) (b off len cap : Nat) (zs : List Int) (w : World) (ht : 0 ≤ t ∧ t ≤ 255) (hl : len ≤ 1048576) (hn : a = none → len = 0 ∧ cap = 0)
    (hx : 0 < len → a = some ⟨b, off, none⟩) (hc : ∀ i, i < len → w.cell? ⟨b, off + i, none⟩ = some (.int .i64 (zs.getD i 0))) :
    Calls Ybaz.prog 4 #[.int .u8 t, .bool f, .slice a len cap] w fun e w' => ∃ v b, e = .returned (.tuple #[v, .bool b]) ∧ Built w w' v b := by
  have hd : t % 11 = 0 ∨ t % 11 = 1 ∨ t % 11 = 2 ∨ t % 11 = 3 ∨ t % 11 = 4 ∨ t % 11 = 5 ∨ t % 11 = 6 ∨ t % 11 = 7 ∨ t % 11 = 8 ∨ t % 11 = 9 ∨ t % 11 = 10 := by omega
  rcases hd with h | h | h | h | h | h | h | h | h | h | h
  · exact build_0 t f a len cap w ht h hl
  · exact build_1 t f a len cap w ht h hl
  · exact build_2 t f a len cap w ht h hl
  · cases a with
    | none =>
      obtain ⟨rfl, rfl⟩ := hn rfl
      exact build_3nil t f w ht h
    | some x =>
      refine (build3 t f x b off len cap zs w ht h hl (fun h0 => Option.some.inj (hx h0)) hc).mono ?_
      rintro e w' ⟨bs, a', c, rfl, hcell, hB⟩
      exact ⟨_, _, rfl, hB, reads47 bs a' len c w' hcell⟩
  · exact build_4 t f a len cap w ht h hl
  · exact build_5 t f a len cap w ht h hl
  · exact build_6 t f a len cap w ht h hl
  · exact build_7 t f a len cap w ht h hl
  · exact build_8 t f a len cap w ht h hl
  · exact build_9 t f a len cap w ht h hl
  · exact build_10 t f a len cap w ht h hl

set_option maxRecDepth 100000 in
set_option maxHeartbeats 1000000 in
theorem law_any (t : Int) (f : Bool) (a : Option Addr) (b off len cap : Nat) (zs : List Int) (w : World) (ht : 0 ≤ t ∧ t ≤ 255) (hm : len ≤ maxLen) (hn : a = none → len = 0 ∧ cap = 0)
    (hx : 0 < len → a = some ⟨b, off, none⟩) (hc : ∀ i, i < len → w.cell? ⟨b, off + i, none⟩ = some (.int .i64 (zs.getD i 0))) :
    Calls Ybaz.prog 3 #[.int .u8 t, .bool f, .slice a len cap] w fun e w' => e = .returned (.bool true) ∧ Below w.heap.size w w' := by
  unfold maxLen at hm
  by_cases hl : len ≤ 1048576
  · have HC : Hid (∀ i, i < len → w.cell? ⟨b, off + i, none⟩ = some (.int .i64 (zs.getD i 0))) := hc
    have HX : Hid (0 < len → a = some ⟨b, off, none⟩) := hx
    have HN : Hid (a = none → len = 0 ∧ cap = 0) := hn
    clear hc hx hn
    go_enter Ybaz.func3, Ybaz.ntmps3
    go_wp2_with (first
      | (go_at_call 4; go_must (refine (build_any t f a b off len cap zs _ ht hl HN.out HX.out HC.out).mono ?_); rintro e w1 ⟨v, bb, rfl, hB, hR⟩; have HR : Hid (Calls Ybaz.prog 5 #[v] w1 fun e w2 => e = .returned (.bool bb) ∧ w2 = w1) := hR; clear hR)
      | (go_at_call 5; go_must (refine HR.out.mono ?_); rintro e w2 ⟨rfl, rfl⟩))
    go_ret
    exact ⟨by simp, hB⟩
  · go_enter Ybaz.func3, Ybaz.ntmps3
    go_wp2
    go_ret
    exact ⟨rfl, Below.refl _ _⟩
end Go.Proofs.YbulkexncgGreat
