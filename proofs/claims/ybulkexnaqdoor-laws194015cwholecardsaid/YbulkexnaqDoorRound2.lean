import Derived.Test.YbulkexnaqDoorRound
namespace Go.Proofs.YbulkexnaqDoor
open Go.RowKit

theorem below_two' {w w1 : World} {o1 o2 : Obj} (h : Below ((w.alloc o1).alloc o2).drew.heap.size ((w.alloc o1).alloc o2).drew w1) : Below w.heap.size w w1 :=
  (((Below.refl _ _).alloc (Nat.le_refl _) _).alloc (by simp) _).drew.trans (h.mono (by simp; omega))
theorem hide {p : Prop} (h : p) : Hid p := h

set_option maxHeartbeats 1000000 in
theorem round_any (y m d h i s u : Int) (t : Bool) (p q : Int) (R : Value) (b : Bool) (w : World) (hT : Tab w) (hz : 0 < w.heap.size)
    (a6 : 0 ≤ u) (a7 : u ≤ 999999) (q0 : 0 ≤ q) (q1 : q ≤ 9) (r0 r1 r2 r3 r4 r5 r6 : Int) (rt : Bool) (rp : Int) (hR : R = dt r0 r1 r2 r3 r4 r5 r6 rt rp)
    (add : ∀ k w', k = Cal.rnd u q - u → Tab w' → 0 < w'.heap.size → Calls Ybad.prog 7 #[dt y m d h i s u t q, .int .i64 k] w' fun e w'' => e = .returned (.tuple #[R, .bool b]) ∧ Below w'.heap.size w' w'') :
    Calls Ybad.prog 5 #[dt y m d h i s u t p, .int .i64 q] w fun e w' => e = .returned (.tuple #[R, .bool b]) ∧ Below w.heap.size w w' := by
  have hb := Cal.rnd_bd u q a6 a7 q0
  have hT2 : ∀ a b, Tab ((w.alloc a).alloc b) := fun a b => (hT.alloc hz a).alloc (by simp) b
  have ADD := hide add
  clear add
  have HW : Hid (IntKind.i64.wrap (Cal.rnd u q - u) = Cal.rnd u q - u) := by show _ = _; rw [IntWalk.i64_left]; exact IntWalk.wrap64_in _ (by omega)
  subst hR
  go_enter Ybad.func5, Ybad.ntmps5
  go_wp2_with fail
  go_region_with (first
    | (go_at_call 8; refine (roundMicros_any _ _ _ a6 a7 q0 q1).mono ?_; rintro e w' ⟨rfl, rfl⟩)
    | (go_at_call 7; refine (ADD.out _ _ ?_ ?_ ?_).mono ?_; (exact (HW.out)); (exact (hT2 _ _)); (simp); (rintro e w1 ⟨rfl, hb1⟩; obtain ⟨hc1, hf1⟩ := bcell hb1)))
  all_goals go_wp2
  all_goals exact bodyPost_ret (v := .tuple #[dt r0 r1 r2 r3 r4 r5 r6 rt rp, .bool b]) (by simp [results, Ybad.results5, go_sem, hc1]) rfl ⟨rfl, below9 (below_two' hb1) (by omega) _ _ _ _ _ _ _ _ _⟩
end Go.Proofs.YbulkexnaqDoor
