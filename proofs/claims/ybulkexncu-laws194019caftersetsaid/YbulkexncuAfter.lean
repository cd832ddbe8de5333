import Derived.Test.YbulkexncuSetIn
namespace Go.Proofs.Ybulkexncu
open Go.RowKit
set_option linter.unusedVariables false

theorem Nums.drew' {w : World} {a : Option Addr} {b off len : Nat} {zs : List Int} (h : Nums w a b off len zs) : Nums w.drew a b off len zs := ⟨h.head, h.cell⟩
theorem lastv_set (z0 : List Int) (f : Nat → Int) (k : Nat) {z : Int} (hz : z0.getD k 0 = z) (y : Int) : (if z = y then some (f k) else lastv z0 f y k) = lastv z0 f y (k + 1) := by
  rw [← hz]
  rfl

/-- a write to a cell that holds a pointer, at a block's head, leaves every tree: a node's head holds a number -/
theorem Node.far {w : World} {b B : Nat} {k v : Int} {l r q : Option Addr} (h : Node w b k v l r) (hB : w.cell? ⟨B, 0, none⟩ = some (.pointer q)) (x : Value) : Node (w.setCell ⟨B, 0, none⟩ x) b k v l r := by
  have hne : B ≠ b := fun e => by
    rw [e, h.key] at hB
    cases hB
  have other : ∀ q, w.cell? ⟨b, q, none⟩ = (w.setCell ⟨B, 0, none⟩ x).cell? ⟨b, q, none⟩ := fun q => by
    rw [World.cell?_setCell_other _ _ _ _ (fun e => hne (by cases e; rfl))]
  exact ⟨by simpa [World.setCell] using h.lt, (other 0).symm.trans h.key, (other 1).symm.trans h.val, (other 2).symm.trans h.left, (other 3).symm.trans h.right⟩
theorem Tree.far {w : World} {B : Nat} {q : Option Addr} (hB : w.cell? ⟨B, 0, none⟩ = some (.pointer q)) (x : Value) : ∀ {d : Nat} {m : Int → Option Int} {p : Option Addr}, Tree w d m p → Tree (w.setCell ⟨B, 0, none⟩ x) d m p
  | 0, _, _, h => h
  | d + 1, _, _, .inl h => .inl h
  | d + 1, _, _, .inr ⟨b, k, v, pl, pr, l, r, hp, hn, hl, hr, hm⟩ => .inr ⟨b, k, v, pl, pr, l, r, hp, hn.far hB x, hl.far hB x, hr.far hB x, hm⟩
theorem Has.far {w : World} {B : Nat} {q : Option Addr} (hB : w.cell? ⟨B, 0, none⟩ = some (.pointer q)) (x : Value) {m : Int → Option Int} {p : Option Addr} (h : Has w m p) : Has (w.setCell ⟨B, 0, none⟩ x) m p := by
  obtain ⟨d, h⟩ := h
  exact ⟨d, h.far hB x⟩

set_option maxRecDepth 100000 in
set_option maxHeartbeats 1000000 in
/-- set: a map over the new tree -/
theorem set_is (x u : Int) (m : Int → Option Int) (w : World) (p : Option Addr) (h : Has w m p) :
    Calls Yba.prog 10 #[.agg #[.pointer p], .int .i64 x, .int .i64 u] w fun e w' => ∃ p', e = .returned (.agg #[.pointer p']) ∧ Given w w' m x u p' := by
  have HB0 : Hid (Below w.heap.size w ((w.alloc (.cells #[.pointer p] 29)).alloc (.cells #[.pointer none] 29))) := ((Below.refl _ _).alloc (Nat.le_refl _) _).alloc (by simp) _
  obtain ⟨d, hd⟩ := h.grown HB0.out
  have HT := hide hd
  clear hd
  have HA : Hid (∀ w1, Below ((w.alloc (.cells #[.pointer p] 29)).alloc (.cells #[.pointer none] 29)).heap.size ((w.alloc (.cells #[.pointer p] 29)).alloc (.cells #[.pointer none] 29)) w1 →
      w1.cell? ⟨w.heap.size + 1, 0, none⟩ = some (.pointer none) ∧ w1.frozen? ⟨w.heap.size + 1, 0, none⟩ = false) := by
    intro w1 hB
    exact ⟨(hB.cell (p := ⟨w.heap.size + 1, 0, none⟩) (by simp)).trans ((World.cell?_alloc_at _ _ _ _ (by simp)).trans rfl), (hB.frozen (p := ⟨w.heap.size + 1, 0, none⟩) (by simp)).trans (World.frozen?_alloc_at _ _ _ _ (by simp))⟩
  clear h
  go_enter Yba.func10, Yba.ntmps10
  go_wp2_with (first | (go_at_call 11; go_must (refine (setIn_is _ _ _ _ _ _ HT.out).mono ?_); rintro e' w1 ⟨q, rfl, hP⟩; obtain ⟨d0, d1⟩ := HA.out w1 hP.below; have HP := hide hP; clear hP))
  obtain ⟨t', h1, h2, hB⟩ := HP.out
  have hBw : Below w.heap.size w w1 := HB0.out.trans (hB.mono HB0.out.size)
  refine bodyPost_ret (v := .agg #[.pointer q]) ?_ rfl ⟨q, rfl, t', h1.far d0 _, h2, hBw.setCell (by simp) _⟩
  simp [results, Yba.results10, go_sem, World.cell?_setCell_same _ _ _ d0]

/-- what stands behind a round -/
structure Step (w wr : World) (P : Option Addr) (t m : Int → Option Int) : Prop where
  cell : wr.cell? ⟨w.heap.size, 0, none⟩ = some (.pointer P)
  frz : wr.frozen? ⟨w.heap.size, 0, none⟩ = false
  size : w.heap.size < wr.heap.size
  tree : Has wr t P
  find : ∀ y, t y = m y
  below : Below w.heap.size w wr

set_option maxRecDepth 100000 in
set_option maxHeartbeats 1000000 in
theorem after_any (a : Option Addr) (b off len cap : Nat) (z0 : List Int) (a1 : Option Addr) (b1 off1 len1 cap1 : Nat) (z1 : List Int) (s p : Int) (w : World) (h : Nums w a b off len z0) (h1 : Nums w a1 b1 off1 len1 z1)
    (hs : 0 ≤ s ∧ s ≤ 18446744073709551615) (hl : len ≤ maxLen) (hl1 : len1 ≤ maxLen) :
    Calls Yba.prog 4 #[.slice a len cap, .slice a1 len1 cap1, .int .u64 s, .int .i64 p] w fun e w' => e = .returned (.bool true) ∧ Below w.heap.size w w' := by
  by_cases hlen : len ≤ 4096
  · have H : Hid (Nums w a b off len z0) := h
    have H1 : Hid (Nums w a1 b1 off1 len1 z1) := h1
    clear h h1
    go_enter Yba.func4, Yba.ntmps4
    go_wp2
    go_loopw [10] (fun i wr => ∃ (k : Nat) (P : Option Addr) (t : Int → Option Int), k ≤ len ∧ i = .int .i64 k ∧ wr.cell? ⟨w.heap.size, 0, none⟩ = some (.pointer P) ∧ wr.frozen? ⟨w.heap.size, 0, none⟩ = false ∧ w.heap.size < wr.heap.size ∧ Hid (Has wr t P) ∧ Hid (∀ y, t y = lastv z0 (vl z1 len1) y k) ∧ Hid (Below w.heap.size w wr))
      (fun i _ => len - (intOf i).toNat)
    case atStart => exact ⟨0, none, none1, by omega, rfl, (World.cell?_alloc_at _ _ _ _ rfl).trans rfl, World.frozen?_alloc_at _ _ _ _ rfl, by simp, Has.empty _, fun _ => rfl, below_new _ _⟩
    case round =>
      obtain ⟨k, P, t, hk, rfl, hm, hz, hsz, hT, hF, hB⟩ := hrel
      have HK : Hid (Nums wr a b off len z0) := H.out.below hB.out (Nat.le_refl _)
      have HK1 : Hid (Nums wr a1 b1 off1 len1 z1) := H1.out.below hB.out (Nat.le_refl _)
      by_cases hlt : k < len
      · have ha : a = some ⟨b, off, none⟩ := HK.out.head (by omega)
        subst ha
        obtain ⟨z, hzz⟩ : ∃ z, z0.getD k 0 = z := ⟨_, rfl⟩
        have hc : wr.cell? ⟨b, off + k, none⟩ = some (.int .i64 z) := by rw [← hzz]; exact HK.out.cell k hlt
        have hb0 : b < w.heap.size := H.out.lt (by omega)
        have hb : b < wr.heap.size := by omega
        have HZ : Hid (z0.getD k 0 = z) := hzz
        clear hzz
        go_wp2
        go_region_with ((first
          | (go_at_call 6; go_must (refine (val_is a1 b1 off1 len1 cap1 z1 k _ (by first | exact HK1.out | exact HK1.out.drew' | exact HK1.out.drew'.drew') (by omega) hl1).mono ?_); rintro e w' ⟨rfl, rfl⟩)
          | (go_at_call 10; go_must (refine (set_is z (vl z1 len1 k) t _ P (by first | exact hT.out | exact hT.out.drew | exact hT.out.drew.drew)).mono ?_); rintro e w' ⟨P', rfl, hG⟩; have HG := hide hG; have hB2 := hG.below; clear hG; have e0 : w'.cell? ⟨b, off + k, none⟩ = some (.int .i64 z) := (hB2.cell (p := ⟨b, off + k, none⟩) hb).trans hc; have e1 : w'.cell? ⟨w.heap.size, 0, none⟩ = some (.pointer P) := (hB2.cell (p := ⟨w.heap.size, 0, none⟩) hsz).trans hm; have e2 : w'.frozen? ⟨w.heap.size, 0, none⟩ = false := (hB2.frozen (p := ⟨w.heap.size, 0, none⟩) hsz).trans hz; clear hB2)))
        all_goals (
          obtain ⟨t', h1, h2, hB2⟩ := HG.out
          have hB3 : Below wr.heap.size wr w' := of_drew hB2
          have HS : Hid (Step w (w'.setCell ⟨w.heap.size, 0, none⟩ (.pointer P')) P' t' (fun y => lastv z0 (vl z1 len1) y (k + 1))) := by
            refine ⟨World.cell?_setCell_same _ _ _ e1, by rw [World.frozen?_setCell]; exact e2, by simp [World.setCell]; have := hB3.size; omega, h1.far e1 _, fun y => ?_, (hB.out.trans (hB3.mono (by omega))).setCell (by simp) _⟩
            rw [h2 y, hF.out y]
            exact lastv_set z0 (vl z1 len1) k HZ.out y
          clear h1 h2 hB2 hB3 e0 e1 e2
          go_wp2
          go_roundw
          case rel => exact ⟨k + 1, P', t', by omega, by go_num, HS.out.cell, HS.out.frz, HS.out.size, HS.out.tree, HS.out.find, HS.out.below⟩
          case measure => simp [intOf]; omega)
      · have hkl : k = len := by omega
        obtain rfl := hkl
        have HL : Hid (∀ key, ∃ d, Look wr key (lastv z0 (vl z1 len1) key k) d P) := by
          intro key
          obtain ⟨d, hd⟩ := hT.out
          have hd := hd.look (x := key)
          rw [hF.out key] at hd
          exact ⟨d, hd⟩
        have HA : Hid (∀ w2, Below wr.heap.size wr w2 → Below w.heap.size w w2 ∧ Nums w2 a b off k z0 ∧ Nums w2 a1 b1 off1 len1 z1) := by
          intro w2 h2
          have hbel : Below w.heap.size w w2 := hB.out.trans (h2.mono (by omega))
          exact ⟨hbel, H.out.below hbel (Nat.le_refl _), H1.out.below hbel (Nat.le_refl _)⟩
        clear hT hB hF
        go_wp2_with (first
          | (go_at_call 7; go_must (refine (key_is a b off k cap z0 s p _ HK.out hs hl).mono ?_); rintro e w1 ⟨key, rfl, rfl⟩; obtain ⟨d, hd⟩ := HL.out key; have HD := hide hd; clear hd)
          | (go_at_call 8; go_must (refine (get_is _ key _ d P HD.out).mono ?_); rintro e w2 ⟨rfl, hB2⟩; obtain ⟨hb2, hn2, hn3⟩ := HA.out w2 hB2; have Hb2 := hide hb2; have Hn2 := hide hn2; have Hn3 := hide hn3; clear hb2 hn2 hn3 hB2)
          | (go_at_call 9; go_must (refine (expect_is a b off k cap z0 a1 b1 off1 len1 cap1 z1 key _ Hn2.out Hn3.out hlen hl1).mono ?_); rintro e w3 ⟨rfl, rfl⟩))
        go_ret
        exact ⟨by simp, Hb2.out⟩
  · go_enter Yba.func4, Yba.ntmps4
    go_wp2
    go_ret
    exact ⟨rfl, Below.refl _ _⟩
end Go.Proofs.Ybulkexncu
