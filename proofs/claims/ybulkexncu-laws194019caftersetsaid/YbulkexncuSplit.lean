import Derived.Test.YbulkexncuTreap
namespace Go.Proofs.Ybulkexncu
open Go.RowKit
set_option linter.unusedVariables false

/-- what splitMap answers: two trees; below the key the first, above it the second, holds what the tree held -/
def Parted (w w' : World) (m : Int → Option Int) (x : Int) (pl pr : Option Addr) : Prop :=
  ∃ l r, Has w' l pl ∧ Has w' r pr ∧ (∀ y, y < x → l y = m y) ∧ (∀ y, x < y → r y = m y) ∧ Below w.heap.size w w'

theorem Parted.below {w w' : World} {m : Int → Option Int} {x : Int} {pl pr : Option Addr} (h : Parted w w' m x pl pr) : Below w.heap.size w w' := by
  obtain ⟨_, _, _, _, _, _, hB⟩ := h
  exact hB

set_option maxRecDepth 100000 in
theorem split_nil (x : Int) (w : World) :
    Calls Yba.prog 13 #[.pointer none, .int .i64 x] w fun e w' => ∃ pl pr, e = .returned (.tuple #[.pointer pl, .pointer pr]) ∧ Parted w w' none1 x pl pr := by
  go_enter Yba.func13, Yba.ntmps13
  go_wp2
  go_ret2
  exact ⟨none, none, rfl, none1, none1, Has.empty _, Has.empty _, fun _ _ => rfl, fun _ _ => rfl, Below.refl _ _⟩

set_option maxRecDepth 100000 in
set_option maxHeartbeats 1000000 in
theorem split_is (x : Int) : ∀ (d : Nat) (w : World) (m : Int → Option Int) (p : Option Addr), Tree w d m p →
    Calls Yba.prog 13 #[.pointer p, .int .i64 x] w fun e w' => ∃ pl pr, e = .returned (.tuple #[.pointer pl, .pointer pr]) ∧ Parted w w' m x pl pr := by
  intro d
  induction d with
  | zero =>
    intro w m p h
    obtain ⟨rfl, rfl⟩ := h
    exact split_nil x w
  | succ d ih =>
    intro w m p h
    rcases h with ⟨rfl, rfl⟩ | ⟨b, k, v, pl, pr, l, r, rfl, hn, hl, hr, rfl⟩
    · exact split_nil x w
    obtain ⟨hb, c0, c1, c2, c3⟩ := hn
    have HL := hide hl
    have HR := hide hr
    clear hl hr
    by_cases e : x < k
    · go_enter Yba.func13, Yba.ntmps13
      go_wp2_with (go_at_call 13; go_must (refine (ih _ _ _ HL.out).mono ?_); rintro e' w1 ⟨ql, qr, rfl, hP⟩; have HP := hide hP; clear hP; have hB := HP.out.below; have d0 := (hB.cell (p := ⟨b, 0, none⟩) hb).trans c0; have d1 := (hB.cell (p := ⟨b, 1, none⟩) hb).trans c1; have d3 := (hB.cell (p := ⟨b, 3, none⟩) hb).trans c3; clear hB)
      go_region_held3 (fun w' => w'.cell? ⟨b, 0, none⟩ = some (.int .i64 k) ∧ w'.cell? ⟨b, 1, none⟩ = some (.int .i64 v) ∧ w'.cell? ⟨b, 3, none⟩ = some (.pointer pr)) (go_keep) (fail)
      go_wp2
      go_ret2
      obtain ⟨tl, tr, h1, h2, h3, h4, hB⟩ := HP.out
      refine ⟨ql, _, rfl, tl, join k v tr r, (h1.grown (below_new _ _)).drew, (Has.new h2 (HR.out.has.grown hB) k v).drew, fun y hy => ?_, fun y hy => ?_, (hB.trans ((below_new _ _).mono hB.size)).drew⟩
      · rw [h3 y hy, join_lt (by omega)]
      · rcases Int.lt_trichotomy y k with h | h | h
        · rw [join_lt h, join_lt h, h4 y hy]
        · rw [join_at h, join_at h]
        · rw [join_gt h, join_gt h]
    · go_enter Yba.func13, Yba.ntmps13
      go_wp2_with (go_at_call 13; go_must (refine (ih _ _ _ HR.out).mono ?_); rintro e' w1 ⟨ql, qr, rfl, hP⟩; have HP := hide hP; clear hP; have hB := HP.out.below; have d0 := (hB.cell (p := ⟨b, 0, none⟩) hb).trans c0; have d1 := (hB.cell (p := ⟨b, 1, none⟩) hb).trans c1; have d2 := (hB.cell (p := ⟨b, 2, none⟩) hb).trans c2; clear hB)
      go_region_held3 (fun w' => w'.cell? ⟨b, 0, none⟩ = some (.int .i64 k) ∧ w'.cell? ⟨b, 1, none⟩ = some (.int .i64 v) ∧ w'.cell? ⟨b, 2, none⟩ = some (.pointer pl)) (go_keep) (fail)
      go_wp2
      go_ret2
      obtain ⟨tl, tr, h1, h2, h3, h4, hB⟩ := HP.out
      refine ⟨_, qr, rfl, join k v l tl, tr, (Has.new (HL.out.has.grown hB) h1 k v).drew, (h2.grown (below_new _ _)).drew, fun y hy => ?_, fun y hy => ?_, (hB.trans ((below_new _ _).mono hB.size)).drew⟩
      · rcases Int.lt_trichotomy y k with h | h | h
        · rw [join_lt h, join_lt h]
        · rw [join_at h, join_at h]
        · rw [join_gt h, join_gt h, h3 y hy]
      · rw [h4 y hy, join_gt (by omega)]
end Go.Proofs.Ybulkexncu
