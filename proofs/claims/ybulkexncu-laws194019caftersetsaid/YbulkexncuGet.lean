import Derived.Test.YbulkexncuMem
namespace Go.Proofs.Ybulkexncu
open Go.RowKit
set_option linter.unusedVariables false

theorem least (p : Nat → Prop) : ∀ d, p d → ∃ m, p m ∧ ∀ d', p d' → m ≤ d' := by
  intro d
  induction d using Nat.strongRecOn with
  | ind d ih =>
    intro h
    by_cases e : ∃ d', d' < d ∧ p d'
    · obtain ⟨d', h1, h2⟩ := e
      exact ih d' h1 h2
    · exact ⟨d, h, fun d' hd' => by
        rcases Nat.lt_or_ge d' d with h' | h'
        · exact absurd ⟨d', h', hd'⟩ e
        · exact h'⟩

/-- the least number of steps, as a function of the pointer -/
theorem look_measure (w : World) (key : Int) (r : Option Int) : ∃ m : Option Addr → Nat, ∀ p d, Look w key r d p → Look w key r (m p) p ∧ m p ≤ d := by
  refine ⟨fun p => Classical.epsilon fun d => Look w key r d p ∧ ∀ d', Look w key r d' p → d ≤ d', fun p d h => ?_⟩
  have := Classical.epsilon_spec (least (fun d => Look w key r d p) d h)
  exact ⟨this.1, this.2 d h⟩

def ptrOf : Value → Option Addr
  | .pointer p => p
  | _ => none

theorem hide {p : Prop} (h : p) : Hid p := h

set_option maxRecDepth 100000 in
set_option maxHeartbeats 400000 in
/-- get: what the search comes to -/
theorem get_is (w : World) (key : Int) (r : Option Int) (d : Nat) (p : Option Addr) (h : Look w key r d p) :
    Calls Yba.prog 8 #[.agg #[.pointer p], .int .i64 key] w fun e w' => e = .returned (.tuple #[.int .i64 (r.getD 0), .bool r.isSome]) ∧ Below w.heap.size w w' := by
  have hB : Hid (Below w.heap.size w (w.alloc (.cells #[.pointer p] 29))) := (Below.refl _ _).alloc (Nat.le_refl _) _
  obtain ⟨m, hm⟩ := look_measure (w.alloc (.cells #[.pointer p] 29)) key r
  have h0 : Hid (Look (w.alloc (.cells #[.pointer p] 29)) key r (m p) p) := (hm p d (h.below hB.out (Nat.le_refl _))).1
  clear h
  go_enter Yba.func8, Yba.ntmps8
  go_wp2
  go_loop [6] (fun v => ∃ p', v = .pointer p' ∧ Hid (Look (w.alloc (.cells #[.pointer p] 29)) key r (m p') p'))
    (fun v => m (ptrOf v))
  case atStart => exact ⟨p, rfl, h0⟩
  case round =>
    obtain ⟨p', rfl, hL⟩ := hrel
    have hL' := hL.out
    cases hd : m p' with
    | zero =>
      rw [hd] at hL'
      obtain ⟨rfl, rfl⟩ := hL'
      go_wp2
      go_ret2
      exact ⟨rfl, hB.out⟩
    | succ d' =>
      rw [hd] at hL'
      rcases hL' with ⟨rfl, rfl⟩ | ⟨b, k, v, l, rt, rfl, hn, h1, h2, h3⟩
      · go_wp2
        go_ret2
        exact ⟨rfl, hB.out⟩
      · obtain ⟨c0, c1, c2, c3, c4⟩ := hn
        by_cases e : key = k
        · obtain rfl := h1 e
          subst e
          go_wp2
          go_ret2
          exact ⟨rfl, hB.out⟩
        · by_cases e2 : key < k
          · have hx := hm _ _ (h2 e2)
            have HX : Hid (Look (w.alloc (.cells #[.pointer p] 29)) key r (m l) l) := hx.1
            have hlt := hx.2
            clear hx h1 h2 h3 hm
            go_wp2
            go_round
            case rel => exact ⟨l, rfl, HX⟩
            case measure => simp only [ptrOf]; omega
          · have hx := hm _ _ (h3 (by omega))
            have HX : Hid (Look (w.alloc (.cells #[.pointer p] 29)) key r (m rt) rt) := hx.1
            have hlt := hx.2
            clear hx h1 h2 h3 hm
            go_wp2
            go_round
            case rel => exact ⟨rt, rfl, HX⟩
            case measure => simp only [ptrOf]; omega
end Go.Proofs.Ybulkexncu
