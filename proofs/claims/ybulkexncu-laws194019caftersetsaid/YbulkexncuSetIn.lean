import Derived.Test.YbulkexncuSplit
import Derived.Deep.Cut
namespace Go.Proofs.Ybulkexncu
open Go.RowKit
set_option linter.unusedVariables false

/-- what setIn answers: a tree that holds the new entry, and else what the tree held -/
def Given (w w' : World) (m : Int → Option Int) (x u : Int) (p : Option Addr) : Prop :=
  ∃ m', Has w' m' p ∧ (∀ y, m' y = if x = y then some u else m y) ∧ Below w.heap.size w w'
theorem Given.below {w w' : World} {m : Int → Option Int} {x u : Int} {p : Option Addr} (h : Given w w' m x u p) : Below w.heap.size w w' := by
  obtain ⟨_, _, _, hB⟩ := h
  exact hB

theorem find_new {l' r' m : Int → Option Int} {x u : Int} (hl : ∀ y, y < x → l' y = m y) (hr : ∀ y, x < y → r' y = m y) (y : Int) :
    join x u l' r' y = if x = y then some u else m y := by
  rcases Int.lt_trichotomy y x with h | h | h
  · rw [join_lt h, hl y h, if_neg (by omega)]
  · rw [join_at h, if_pos h.symm]
  · rw [join_gt h, hr y h, if_neg (by omega)]
theorem find_left {k v : Int} {l r l' : Int → Option Int} {x u : Int} (e : x < k) (h : ∀ y, l' y = if x = y then some u else l y) (y : Int) :
    join k v l' r y = if x = y then some u else join k v l r y := by
  rcases Int.lt_trichotomy y k with h' | h' | h'
  · rw [join_lt h', join_lt h', h y]
  · rw [join_at h', join_at h', if_neg (by omega)]
  · rw [join_gt h', join_gt h', if_neg (by omega)]
theorem find_right {k v : Int} {l r r' : Int → Option Int} {x u : Int} (e : k < x) (h : ∀ y, r' y = if x = y then some u else r y) (y : Int) :
    join k v l r' y = if x = y then some u else join k v l r y := by
  rcases Int.lt_trichotomy y k with h' | h' | h'
  · rw [join_lt h', join_lt h', if_neg (by omega)]
  · rw [join_at h', join_at h', if_neg (by omega)]
  · rw [join_gt h', join_gt h', h y]
theorem of_drew {w w' : World} (h : Below w.drew.heap.size w.drew w') : Below w.heap.size w w' := Below.trans (b := w.drew) (Below.refl _ w).drew h

set_option maxRecDepth 100000 in
theorem setIn_nil (x u : Int) (w : World) :
    Calls Yba.prog 11 #[.pointer none, .int .i64 x, .int .i64 u] w fun e w' => ∃ p', e = .returned (.pointer p') ∧ Given w w' none1 x u p' := by
  go_enter Yba.func11, Yba.ntmps11
  go_wp2
  go_ret
  exact ⟨_, rfl, join x u none1 none1, Has.new (Has.empty w) (Has.empty w) x u, find_new (fun _ _ => rfl) (fun _ _ => rfl), below_new _ _⟩

set_option maxRecDepth 100000 in
set_option maxHeartbeats 2000000 in
theorem setIn_is (x u : Int) : ∀ (d : Nat) (w : World) (m : Int → Option Int) (p : Option Addr), Tree w d m p →
    Calls Yba.prog 11 #[.pointer p, .int .i64 x, .int .i64 u] w fun e w' => ∃ p', e = .returned (.pointer p') ∧ Given w w' m x u p' := by
  intro d
  induction d with
  | zero =>
    intro w m p h
    obtain ⟨rfl, rfl⟩ := h
    exact setIn_nil x u w
  | succ d ih =>
    intro w m p h
    have HT := hide h
    rcases h with ⟨rfl, rfl⟩ | ⟨b, k, v, pl, pr, l, r, rfl, hn, hl, hr, rfl⟩
    · exact setIn_nil x u w
    obtain ⟨hb, c0, c1, c2, c3⟩ := hn
    have HL := hide hl
    have HR := hide hr
    clear hl hr
    by_cases e0 : k = x
    · subst e0
      go_enter Yba.func11, Yba.ntmps11
      go_wp2
      go_region_held3 (fun w' => w'.cell? ⟨b, 2, none⟩ = some (.pointer pl) ∧ w'.cell? ⟨b, 3, none⟩ = some (.pointer pr)) (go_keep) (fail)
      go_wp2
      go_ret
      exact ⟨_, rfl, join k u l r, (Has.new HL.out.has HR.out.has k u).drew, find_new (fun y hy => by rw [join_lt hy]) (fun y hy => by rw [join_gt hy]), (below_new _ _).drew⟩
    · by_cases e : x < k
      · go_enter Yba.func11, Yba.ntmps11
        go_upto_if 56 with (first | (go_at_call 12; go_must (refine (outranks_is _ _ _).mono ?_); rintro e' w1 ⟨c, rfl, rfl⟩))
        cases c with
        | true =>
          go_wp2_with (first | (go_at_call 13; go_must (refine (split_is _ _ _ _ _ HT.out).mono ?_); rintro e' w2 ⟨ql, qr, rfl, hP⟩; have HP := hide hP; clear hP))
          go_ret
          obtain ⟨tl, tr, h1, h2, h3, h4, hB⟩ := HP.out
          exact ⟨_, rfl, join x u tl tr, Has.new h1 h2 x u, find_new h3 h4, hB.trans ((below_new _ _).mono hB.size)⟩
        | false =>
          go_wp2
          go_region_held3 (fun w' => w'.cell? ⟨b, 0, none⟩ = some (.int .i64 k) ∧ w'.cell? ⟨b, 1, none⟩ = some (.int .i64 v) ∧ w'.cell? ⟨b, 2, none⟩ = some (.pointer pl) ∧ w'.cell? ⟨b, 3, none⟩ = some (.pointer pr)) (first | exact ⟨d0, d1, d2, d3⟩ | go_keep)
            ((go_at_call 11; go_must (refine (ih _ _ _ (by first | exact HL.out | exact HL.out.drew)).mono ?_); rintro e' w2 ⟨q, rfl, hP⟩; have HP := hide hP; clear hP; have hB := HP.out.below; have d0 := (hB.cell (p := ⟨b, 0, none⟩) hb).trans c0; have d1 := (hB.cell (p := ⟨b, 1, none⟩) hb).trans c1; have d2 := (hB.cell (p := ⟨b, 2, none⟩) hb).trans c2; have d3 := (hB.cell (p := ⟨b, 3, none⟩) hb).trans c3; clear hB))
          go_wp2
          go_ret
          obtain ⟨t', h1, h2, hB⟩ := HP.out
          have hB' := of_drew hB
          exact ⟨_, rfl, join k v t' r, Has.new h1 (HR.out.has.grown hB') k v, find_left e h2, hB'.trans ((below_new _ _).mono hB'.size)⟩
      · go_enter Yba.func11, Yba.ntmps11
        go_upto_if 56 with (first | (go_at_call 12; go_must (refine (outranks_is _ _ _).mono ?_); rintro e' w1 ⟨c, rfl, rfl⟩))
        cases c with
        | true =>
          go_wp2_with (first | (go_at_call 13; go_must (refine (split_is _ _ _ _ _ HT.out).mono ?_); rintro e' w2 ⟨ql, qr, rfl, hP⟩; have HP := hide hP; clear hP))
          go_ret
          obtain ⟨tl, tr, h1, h2, h3, h4, hB⟩ := HP.out
          exact ⟨_, rfl, join x u tl tr, Has.new h1 h2 x u, find_new h3 h4, hB.trans ((below_new _ _).mono hB.size)⟩
        | false =>
          go_wp2
          go_region_held3 (fun w' => w'.cell? ⟨b, 0, none⟩ = some (.int .i64 k) ∧ w'.cell? ⟨b, 1, none⟩ = some (.int .i64 v) ∧ w'.cell? ⟨b, 2, none⟩ = some (.pointer pl) ∧ w'.cell? ⟨b, 3, none⟩ = some (.pointer pr)) (first | exact ⟨d0, d1, d2, d3⟩ | go_keep)
            ((go_at_call 11; go_must (refine (ih _ _ _ (by first | exact HR.out | exact HR.out.drew)).mono ?_); rintro e' w2 ⟨q, rfl, hP⟩; have HP := hide hP; clear hP; have hB := HP.out.below; have d0 := (hB.cell (p := ⟨b, 0, none⟩) hb).trans c0; have d1 := (hB.cell (p := ⟨b, 1, none⟩) hb).trans c1; have d2 := (hB.cell (p := ⟨b, 2, none⟩) hb).trans c2; have d3 := (hB.cell (p := ⟨b, 3, none⟩) hb).trans c3; clear hB))
          go_wp2
          go_ret
          obtain ⟨t', h1, h2, hB⟩ := HP.out
          have hB' := of_drew hB
          exact ⟨_, rfl, join k v l t', Has.new (HL.out.has.grown hB') h1 k v, find_right (by omega) h2, hB'.trans ((below_new _ _).mono hB'.size)⟩
end Go.Proofs.Ybulkexncu
