import Derived.Test.YbulkexncuInsWalk
import Derived.Deep.RegionHeld3
import Derived.Lib.Builder
namespace Go.Proofs.Ybulkexncu
open Go.RowKit
set_option linter.unusedVariables false

theorem Nums.drew {w : World} {a : Option Addr} {b off len : Nat} {zs : List Int} (h : Nums w a b off len zs) : Nums w.drew a b off len zs := ⟨h.head, h.cell⟩
theorem Rep.drew {w : World} {N : Nat} {ns : List Nd} (h : Rep w N ns) : Rep w.drew N ns := ⟨h.size, h.row, h.up⟩
theorem Tr.drew {w : World} {N : Nat} {P : Option Addr} {m : Int → Option Int} (h : Tr w N P m) : Tr w.drew N P m := by
  rcases h with h | ⟨ns, h0, h1, h2, h3⟩
  · exact .inl h
  · exact .inr ⟨ns, h0, h1, h2.drew, h3⟩

theorem info36 : ((Yba.prog.info? 36).map fun i => i.size) = some 4 := by kernel_rfl
theorem neq_same (P : Option Addr) (w : World) : (binOp .neq 24 (.pointer P) (.pointer P)).run Yba.prog w = .ok (.bool false) w := by
  cases P with
  | none => exact run_neq_pointer_nil w 24 none (by kernel_rfl)
  | some a =>
    cases h : Yba.prog.info? 36 with
    | none => have := info36; rw [h] at this; cases this
    | some j => exact Go.Lib.run_neq_ptr_same w a Yba.underlying24 h

theorem lastv_upd (z0 : List Int) (f : Nat → Int) (k : Nat) {z : Int} (hz : z0.getD k 0 = z) : upd (fun key => lastv z0 f key k) z (f k) = fun key => lastv z0 f key (k + 1) := by
  funext key
  rw [← hz]
  rfl

set_option maxRecDepth 100000 in
set_option maxHeartbeats 1000000 in
theorem whole_any (a : Option Addr) (b off len cap : Nat) (z0 : List Int) (a1 : Option Addr) (b1 off1 len1 cap1 : Nat) (z1 : List Int) (s p : Int) (w : World) (h : Nums w a b off len z0) (h1 : Nums w a1 b1 off1 len1 z1)
    (hs : 0 ≤ s ∧ s ≤ 18446744073709551615) (hl : len ≤ maxLen) (hl1 : len1 ≤ maxLen) :
    Calls Yba.prog 3 #[.slice a len cap, .slice a1 len1 cap1, .int .u64 s, .int .i64 p] w fun e w' => e = .returned (.bool true) ∧ Below w.heap.size w w' := by
  by_cases hlen : len ≤ 4096
  · have H : Hid (Nums w a b off len z0) := h
    have H1 : Hid (Nums w a1 b1 off1 len1 z1) := h1
    clear h h1
    go_enter Yba.func3, Yba.ntmps3
    go_wp2
    go_loopw [9, 10] (fun r i wr => ∃ (k : Nat) (P : Option Addr), k ≤ len ∧ i = .int .i64 k ∧ r = .pointer P ∧ Hid (Tr wr w.heap.size P (fun key => lastv z0 (vl z1 len1) key k)) ∧ Hid (Below w.heap.size w wr))
      (fun _ i _ => len - (intOf i).toNat)
    case atStart => exact ⟨0, none, by omega, rfl, rfl, .inl ⟨rfl, rfl, fun _ => rfl⟩, Below.refl _ _⟩
    case round =>
      obtain ⟨k, P, hk, rfl, rfl, hT, hB⟩ := hrel
      have HK : Hid (Nums wr a b off len z0) := H.out.below hB.out (Nat.le_refl _)
      have HK1 : Hid (Nums wr a1 b1 off1 len1 z1) := H1.out.below hB.out (Nat.le_refl _)
      by_cases hlt : k < len
      · have ha : a = some ⟨b, off, none⟩ := HK.out.head (by omega)
        subst ha
        obtain ⟨z, hz⟩ : ∃ z, z0.getD k 0 = z := ⟨_, rfl⟩
        have hc : wr.cell? ⟨b, off + k, none⟩ = some (.int .i64 z) := by rw [← hz]; exact HK.out.cell k hlt
        have hb : b < w.heap.size := H.out.lt (by omega)
        have HZ : Hid (z0.getD k 0 = z) := hz
        clear hz
        go_wp2
        go_region_held3 (fun w' => w'.cell? ⟨b, off + k, none⟩ = some (.int .i64 z)) (first | assumption | go_keep) ((first
          | (go_at_call 6; go_must (refine (val_is a1 b1 off1 len1 cap1 z1 k _ (by first | exact HK1.out | exact HK1.out.drew | exact HK1.out.drew.drew) (by omega) hl1).mono ?_); rintro e w' ⟨rfl, rfl⟩)
          | (go_at_call 5; go_must (refine (insert_is _ w.heap.size P _ z (vl z1 len1 k) (by first | exact hT.out | exact hT.out.drew | exact hT.out.drew.drew)).mono ?_); rintro e w' ⟨P', rfl, hT2, hB2⟩; have hc2 : w'.cell? ⟨b, off + k, none⟩ = some (.int .i64 z) := (hB2.cell (p := ⟨b, off + k, none⟩) hb).trans hc)))
        have HT2 := hide hT2
        have HB2 := hide hB2
        clear hT2 hB2
        go_wp2
        go_roundw
        case rel =>
          refine ⟨k + 1, P', by omega, by go_num, rfl, ?_, ?_⟩
          · rw [← lastv_upd z0 (vl z1 len1) k HZ.out]; exact HT2
          · first | exact hB.out.trans HB2.out | exact hB.out.drew.trans HB2.out | exact hB.out.drew.drew.trans HB2.out
        case measure => simp [intOf]; omega
      · have hkl : k = len := by omega
        have hN : w.heap.size ≤ wr.heap.size := hB.out.size
        have HB1 : Hid (Below w.heap.size w (wr.alloc (.cells #[.pointer P] 29))) := hB.out.alloc hN _
        have HL : Hid (∀ key, ∃ d, Look (wr.alloc (.cells #[.pointer P] 29)) key (lastv z0 (vl z1 len1) key len) d P) := by
          intro key
          obtain ⟨d, hd⟩ := hT.out.look key
          rw [hkl] at hd
          exact ⟨d, hd.below ((Below.refl _ _).alloc (Nat.le_refl _) _) (Nat.le_refl _)⟩
        have HA : Hid (∀ w2, Below (wr.alloc (.cells #[.pointer P] 29)).heap.size (wr.alloc (.cells #[.pointer P] 29)) w2 → w2.cell? ⟨wr.heap.size, 0, none⟩ = some (.pointer P) ∧ Below w.heap.size w w2 ∧ Nums w2 a b off len z0 ∧ Nums w2 a1 b1 off1 len1 z1) := by
          intro w2 h2
          have hbel : Below w.heap.size w w2 := HB1.out.trans (h2.mono (by simp; omega))
          exact ⟨(h2.cell (p := ⟨wr.heap.size, 0, none⟩) (by simp)).trans ((World.cell?_alloc_at _ _ _ _ rfl).trans rfl), hbel, H.out.below hbel (Nat.le_refl _), H1.out.below hbel (Nat.le_refl _)⟩
        have hnq := neq_same P
        clear hT hB
        go_wp2_with (first
          | (go_at_call 7; go_must (refine (key_is a b off len cap z0 s p _ HK.out hs hl).mono ?_); rintro e w1 ⟨key, rfl, rfl⟩; obtain ⟨d, hd⟩ := HL.out key; have HD := hide hd; clear hd)
          | (go_at_call 8; go_must (refine (get_is _ key _ d P HD.out).mono ?_); rintro e w2 ⟨rfl, hB2⟩; obtain ⟨hm2, hb2, hn2, hn3⟩ := HA.out w2 hB2; have Hb2 := hide hb2; have Hn2 := hide hn2; have Hn3 := hide hn3; clear hb2 hn2 hn3 hB2)
          | (go_at_call 9; go_must (refine (expect_is a b off len cap z0 a1 b1 off1 len1 cap1 z1 key _ Hn2.out Hn3.out hlen hl1).mono ?_); rintro e w3 ⟨rfl, rfl⟩))
        go_ret
        exact ⟨rfl, Hb2.out⟩
  · go_enter Yba.func3, Yba.ntmps3
    go_wp2
    go_ret
    exact ⟨rfl, Below.refl _ _⟩
end Go.Proofs.Ybulkexncu
