import Derived.Test.YbulkexnbeFmtLeaf
import Derived.Deep.AppendLies
import Derived.Deep.OwnRows
import Derived.Deep.LoopGhost
import Derived.Deep.Light
import Derived.Deep.DeepMust
namespace Go.Proofs.YbulkexnbeFmt
open Go.RowKit

theorem info3 : (Ybaf.prog.info? 3).map (fun i => (i.zero, i.size, i.bytes)) = some (some (.int .i64 0), 1, 8) := by kernel_rfl

/-- the slice that gathers the path, at the head of round k -/
def PathAt (w : World) (base : Nat) (v : Value) (k : Nat) : Prop :=
  (k = 0 ∧ v = .slice none 0 0) ∨ (0 < k ∧ ∃ g cap xs, v = .slice (some ⟨g, 0, none⟩) 1 cap ∧ w.ownsRow base 3 1 (.slice (some ⟨g, 0, none⟩) 1 cap) 1 xs)

theorem owns_zero {w : World} {base g cap : Nat} {xs : List Value} (h : w.ownsRow base 3 1 (.slice (some ⟨g, 0, none⟩) 1 cap) 1 xs) : w.ownsRow base 3 1 (.slice (some ⟨g, 0, none⟩) 0 cap) 0 [] ∧ 1 ≤ cap ∧ cap ≤ maxLen := by
  rcases h.2 with ⟨h1, _⟩ | ⟨g', cap', cur, e, h1, h2, h3, h4, h5, h6⟩
  · cases h1
  · cases e
    exact ⟨⟨rfl, Or.inr ⟨g, cap, cur, rfl, h1, h2, by omega, h4, h5, by simp⟩⟩, h3, h4⟩

/-- parents: queue 0 is the root, every other hangs under an earlier one -/
def Par (pp : Nat → Int) (n : Nat) : Prop := pp 0 = -1 ∧ ∀ k, 0 < k → k < n → ∃ p : Nat, pp k = p ∧ p < k

theorem TreeAt.grown {w w' : World} {bt bq bm bp bd bl n : Nat} {row : Option Nat} (h : TreeAt w bt bq bm bp bd bl n) (hb : bt < w.heap.size) (hg : w.grownBy w' row) (hne : some bt ≠ row) : TreeAt w' bt bq bm bp bd bl n := by
  have e : ∀ o, w'.cell? ⟨bt, o, none⟩ = w.cell? ⟨bt, o, none⟩ := fun o => World.cell?_of_block (a := ⟨bt, o, none⟩) (hg.block bt hb hne)
  exact ⟨(e 0).trans h.c0, (e 1).trans h.c1, (e 2).trans h.c2, (e 3).trans h.c3, (e 4).trans h.c4⟩
theorem TreeAt.far {w : World} {bt bq bm bp bd bl n : Nat} (h : TreeAt w bt bq bm bp bd bl n) {a : Addr} (ha : a.block ≠ bt) (v : Value) : TreeAt (w.setCell a v) bt bq bm bp bd bl n := by
  have e : ∀ o, (w.setCell a v).cell? ⟨bt, o, none⟩ = w.cell? ⟨bt, o, none⟩ := fun o => World.cell?_setCell_other _ _ _ _ (fun h' => ha (by rw [h']))
  exact ⟨(e 0).trans h.c0, (e 1).trans h.c1, (e 2).trans h.c2, (e 3).trans h.c3, (e 4).trans h.c4⟩

theorem ownBlock_ne {base b : Nat} {v : Value} {w : World} {n : Nat} {xs : List Value} (h : w.ownsRow base 3 1 v n xs) (hb : b < base) : some b ≠ v.ownBlock := by
  rcases h.2 with ⟨rfl, _⟩ | ⟨g, cap, cur, rfl, hg, _⟩
  · simp [Value.ownBlock]
  · simp [Value.ownBlock]; omega

theorem one_new (w : World) (v : Value) (t : TypeId) (b : Nat) (hb : b = w.heap.size) : ∀ j u, [v][j]? = some u → (w.alloc (.cells #[v] t)).cell? ((⟨b, 0, none⟩ : Addr).add j) = some u := by
  subst hb; exact cell_one_new _ _ _

theorem far_cell {w : World} {b c p : Nat} {x : Value} (o : Nat) (v : Value) (h : w.cell? ⟨c, p, none⟩ = some x) (hne : b ≠ c) : (w.setCell ⟨b, o, none⟩ v).cell? ⟨c, p, none⟩ = some x := by
  rw [World.cell?_setCell_other _ _ _ _ (fun h' => hne (by cases h'; rfl))]; exact h

theorem after_append {wr w1 : World} {N k n bt bq bm bp bd bl : Nat} {pp dd : Nat → Int} (hTr : TreeAt wr bt bq bm bp bd bl n) (hpr : Row wr bp n (fun k => .int .i64 (pp k)))
    (hm : Row wr N n (fun j => .int .i64 (if j < k then 2 else 0))) (hdr : Row wr bd n (fun j => .int .i64 (dd j))) (ht : bt < N) (hlp : bp < N) (hld : bd < N) (hk : k < n) {o : Obj} {row : Option Nat}
    (hgrow : ((wr.setCell ⟨N, k, none⟩ (.int .i64 1)).alloc o).grownBy w1 row) (hrow : ∀ b, b ≤ N → some b ≠ row) :
    TreeAt w1 bt bq bm bp bd bl n ∧ Row w1 bp n (fun k => .int .i64 (pp k)) ∧ Row w1 N n (fun j => .int .i64 (if j = k then 1 else if j < k then 2 else 0)) ∧ Row w1 bd n (fun j => .int .i64 (dd j)) ∧ wr.heap.size + 1 ≤ w1.heap.size := by
  have hs : N < wr.heap.size := hm.1
  have hz : ((wr.setCell ⟨N, k, none⟩ (.int .i64 1)).alloc o).heap.size = wr.heap.size + 1 := by simp [World.setCell]
  refine ⟨?_, ?_, ?_, ?_, by rw [← hz]; exact hgrow.size⟩
  · exact ((hTr.far (by simp; omega) _).grown (by simp [World.setCell]; omega) (World.grownBy_alloc _ o none) (by simp)).grown (by rw [hz]; omega) hgrow (hrow _ (by omega))
  · exact ((hpr.far (by simp; omega) _).alloc o).grown hgrow (hrow _ (by omega))
  · refine ((hm.set hk (.int .i64 1) (g := fun j => .int .i64 (if j = k then 1 else if j < k then 2 else 0)) (fun j _ => ?_)).alloc o).grown hgrow (hrow _ (Nat.le_refl _))
    split <;> rfl
  · exact ((hdr.far (by simp; omega) _).alloc o).grown hgrow (hrow _ (by omega))

theorem grown_set {w w' : World} {row : Option Nat} (h : w.grownBy w' row) {a : Addr} (ha : w.heap.size ≤ a.block ∨ some a.block = row) (v : Value) : w.grownBy (w'.setCell a v) row :=
  ⟨h.os, h.tape, h.output, by simpa [World.setCell] using h.size, fun k hk hne => by
    rw [Below.heap_setCell _ _ _ _ (fun e => by rcases ha with ha | ha; (omega); (exact hne (by rw [e]; exact ha)))]; exact h.block k hk hne⟩
theorem grown_far {w w' w'' : World} {row row' : Option Nat} (h : w.grownBy w' row) (h' : w'.grownBy w'' row') (hr : ∀ k, row' = some k → w.heap.size ≤ k) : w.grownBy w'' row :=
  ⟨h'.os.trans h.os, h'.tape.trans h.tape, h'.output.trans h.output, Nat.le_trans h.size h'.size, fun k hk hne => (h'.block k (Nat.lt_of_lt_of_le hk h.size) (fun e => by have := hr k e.symm; omega)).trans (h.block k hk hne)⟩

theorem round_end {w wr w1 : World} {n bd k g cap cc : Nat} {dd : Nat → Int} {v0 : Value} {xs0 xs : List Value} (hg : w.grownBy wr (some bd)) (hld : bd < w.heap.size) (hNr : w.heap.size + 1 ≤ wr.heap.size) (hlt : k < n)
    (hgrow : ((wr.setCell ⟨w.heap.size, k, none⟩ (.int .i64 1)).alloc (.cells #[.int .i64 cc] 3)).grownBy w1 v0.ownBlock) (hown : wr.ownsRow (w.heap.size + 1) 3 1 v0 0 xs0)
    (hown1 : Hid (w1.ownsRow (w.heap.size + 1) 3 1 (.slice (some ⟨g, 0, none⟩) 1 cap) 1 xs))
    (HM : Hid (Row w1 w.heap.size n fun j => .int .i64 (if j = k then 1 else if j < k then 2 else 0))) (HD : Hid (Row w1 bd n fun j => .int .i64 (dd j))) (hdd : ∀ j, 0 ≤ dd j ∧ dd j ≤ (j : Int)) (d : Int) (h0 : 0 ≤ d) (h1 : d ≤ k) :
    PathAt ((w1.setCell ⟨bd, k, none⟩ (.int .i64 d)).setCell ⟨w.heap.size, k, none⟩ (.int .i64 2)).drew (w.heap.size + 1) (.slice (some ⟨g, 0, none⟩) 1 cap) (k + 1) ∧
    Row ((w1.setCell ⟨bd, k, none⟩ (.int .i64 d)).setCell ⟨w.heap.size, k, none⟩ (.int .i64 2)).drew w.heap.size n (fun j => .int .i64 (if j < k + 1 then 2 else 0)) ∧
    (∃ dd : Nat → Int, (∀ j, 0 ≤ dd j ∧ dd j ≤ (j : Int)) ∧ Row ((w1.setCell ⟨bd, k, none⟩ (.int .i64 d)).setCell ⟨w.heap.size, k, none⟩ (.int .i64 2)).drew bd n (fun j => .int .i64 (dd j))) ∧
    w.heap.size + 1 ≤ ((w1.setCell ⟨bd, k, none⟩ (.int .i64 d)).setCell ⟨w.heap.size, k, none⟩ (.int .i64 2)).drew.heap.size ∧
    w.grownBy ((w1.setCell ⟨bd, k, none⟩ (.int .i64 d)).setCell ⟨w.heap.size, k, none⟩ (.int .i64 2)).drew (some bd) := by
  have hs : wr.heap.size + 1 ≤ w1.heap.size := by have := hgrow.size; simpa [World.setCell] using this
  refine ⟨Or.inr ⟨by omega, g, cap, xs, rfl, (ownsRow_setCell_below (ownsRow_setCell_below hown1.out (by simp; omega) _) (by simp) _).drew⟩, ?_, ?_, by simp [World.setCell]; omega, ?_⟩
  · refine ((HM.out.far (a := ⟨bd, k, none⟩) (by simp; omega) _).set hlt (.int .i64 2) (g := fun j => .int .i64 (if j < k + 1 then 2 else 0)) (fun j _ => ?_)).drew
    by_cases e : j = k
    · subst e; simp
    · rw [if_neg e]
      by_cases e2 : j < k
      · simp [e, e2, show j < k + 1 by omega]
      · simp [e, e2, show ¬ j < k + 1 by omega]
  · refine ⟨fun j => if j = k then d else dd j, fun j => ?_, ((HD.out.set hlt (.int .i64 d) (g := fun j => .int .i64 (if j = k then d else dd j)) (fun j _ => ?_)).far (by simp; omega) _).drew⟩
    · by_cases e : j = k
      · subst e; simp; omega
      · simp only [e, if_false]; exact hdd j
    · split <;> rfl
  · have a1 := grown_set hg (a := ⟨w.heap.size, k, none⟩) (Or.inl (Nat.le_refl _)) (.int .i64 1)
    have a2 := grown_far a1 (World.grownBy_alloc _ (.cells #[.int .i64 cc] 3) none) (fun _ h => by cases h)
    have a3 := grown_far a2 hgrow (fun b hb => by have := (hown.lt b hb).1; omega)
    have a4 := grown_set (grown_set a3 (a := ⟨bd, k, none⟩) (Or.inr rfl) (.int .i64 d)) (a := ⟨w.heap.size, k, none⟩) (Or.inl (Nat.le_refl _)) (.int .i64 2)
    exact ⟨a4.os, a4.tape, a4.output, a4.size, a4.block⟩

set_option maxRecDepth 100000 in
set_option maxHeartbeats 1000000 in
theorem depths_any (w : World) (bt bq bm bp bd bl n : Nat) (hT : TreeAt w bt bq bm bp bd bl n) (hn0 : 0 < n) (hn : n ≤ 65537) (pp : Nat → Int) (hP : Par pp n)
    (hp : Row w bp n (fun k => .int .i64 (pp k))) (hd : Row w bd n (fun _ => .int .i64 0)) (ht : bt < w.heap.size) (n1 : bd ≠ bt) (n2 : bd ≠ bp) :
    Calls Ybaf.prog 9 #[.pointer (some ⟨bt, 0, none⟩)] w fun e w' => e = .returned .nilIface ∧ w.grownBy w' (some bd) := by
  have hTH := hide hT
  have hlp := hp.1
  have hld := hd.1
  obtain ⟨i3, hi3, hz0, hz1, hz2⟩ := info_parts info3
  obtain ⟨c0, c1, c2, c3, c4⟩ := hT
  have hmk := run_make_row' (P := Ybaf.prog) 25 3 (.int .i64 0) 8 Ybaf.underlying25 info3 rfl .i64 .i64 n (by omega) (by omega)
  go_enter Ybaf.func9, Ybaf.ntmps9
  go_wp2
  clear hmk c0 c1 c2 c3 c4
  go_loopw [4, 20] (fun v i wr => ∃ k : Nat, k ≤ n ∧ i = .int .i64 k ∧ PathAt wr (w.heap.size + 1) v k ∧ Row wr w.heap.size n (fun j => .int .i64 (if j < k then 2 else 0)) ∧ (∃ dd : Nat → Int, (∀ j, 0 ≤ dd j ∧ dd j ≤ j) ∧ Row wr bd n (fun j => .int .i64 (dd j))) ∧ w.heap.size + 1 ≤ wr.heap.size ∧ w.grownBy wr (some bd))
    (fun _ i _ => n - (intOf i).toNat)
  case atStart =>
    exact ⟨0, by omega, rfl, Or.inl ⟨rfl, rfl⟩, Row.new w _ 3 n _ (fun k hk => by rw [made1 _ n k hk]; simp), ⟨fun _ => 0, fun j => by simp, hd.alloc _⟩, by simp, World.grownBy_alloc _ _ _⟩
  case round =>
    obtain ⟨k, hk, rfl, hv, hm, ⟨dd, hdd, hdr⟩, hNr, hg⟩ := hrel
    by_cases hlt : k < n
    · have hTr : TreeAt wr bt bq bm bp bd bl n := hTH.out.grown ht hg (by simp; omega)
      have hpr : Row wr bp n (fun k => .int .i64 (pp k)) := hp.grown hg (by simp; omega)
      rcases hv with ⟨rfl, rfl⟩ | ⟨hk0, g0, cap0, xs0, rfl, hown0⟩
      · have hown : wr.ownsRow (w.heap.size + 1) 3 1 (.slice none 0 0) 0 [] := ⟨rfl, Or.inl ⟨rfl, rfl⟩⟩
        have hm0 := hm.cell 0 hlt
        have hf0 := hm.frz 0 hlt
        simp only [Nat.lt_irrefl, if_false] at hm0
        go_wp2
        refine wp_loop_rounds 2 ?_
        rw [rounds_succ]
        go_wp2_with (first
          | (at_builtin; go_must (refine wpList_append_lies _ (by rfl) _ _ _ (by rfl) (w.heap.size + 1) 3 i3 _ 1 8 Ybaf.underlying25 hi3 hz0 hz1 hz2 rfl (by decide) _ _ _ (by rfl) (ownsRow_setCell_below hown (by simp) _ |>.alloc _) ⟨wr.heap.size, 0, none⟩ 1 1 [.int .i64 0] (by rfl) rfl (one_new _ _ _ _ (by simp [World.setCell])) (ints_oneCell .i64 [0]) (by decide) (by unfold maxLen; omega) (by omega) (by simp; omega) (wr.heap.size + 1) (by simp) ?_); intro g cap w1 hown1 hgrow hat hlt1; go_must (
             obtain ⟨hT1, hp1, hm1, hd1, hz1'⟩ := after_append hTr hpr hm hdr ht hlp hld hlt hgrow (fun b hb => ownBlock_ne hown (by omega))
             obtain ⟨q0, q1, q2, q3, q4⟩ := hT1
             have p1 : w1.cell? ⟨bp, 0, none⟩ = some (.int .i64 (-1)) := by rw [hp1.cell 0 hlt, hP.1]
             have m1 : w1.cell? ⟨w.heap.size, 0, none⟩ = some (.int .i64 1) := by rw [hm1.cell 0 hlt]; simp
             have m2 := hm1.frz 0 hlt
             have d1 := hd1.cell 0 hlt
             have d2 := hd1.frz 0 hlt
             have g1 : w1.cell? ⟨g, 0, none⟩ = some (.int .i64 0) := hown1.cellAt 0 (by omega)
             have hgN : w.heap.size + 1 ≤ g := (hown1.lt g rfl).1
             have e1 := fun (o : Nat) (v : Value) => far_cell o v g1 (show bd ≠ g by omega)
             have e2 := fun (o : Nat) (v : Value) => far_cell o v m1 (show bd ≠ w.heap.size by omega)
             have HM := hide hm1
             have HD := hide hd1
             clear hp1 hm1 hd1)))
        rw [rounds_succ]
        go_wp2
        refine wp_loop_rounds 2 ?_
        rw [rounds_succ]
        go_wp2
        go_region
        all_goals go_wp2
        all_goals rw [rounds_succ]
        all_goals go_wp2
        all_goals go_roundw
        case rel => exact ⟨1, by omega, rfl, round_end (k := 0) hg hld hNr hlt hgrow hown (hide hown1) HM HD hdd 0 (by omega) (by omega)⟩
        case measure => simp [intOf]; omega
      · obtain ⟨hown, hcap1, hcap2⟩ := owns_zero hown0
        obtain ⟨p, hpk, hpl⟩ := hP.2 k hk0 hlt
        have hdp := hdd p
        have hm0 := hm.cell k hlt
        have hf0 := hm.frz k hlt
        simp only [Nat.lt_irrefl, if_false] at hm0
        go_wp2
        refine wp_loop_rounds 2 ?_
        rw [rounds_succ]
        go_wp2_with (first
          | (at_builtin; go_must (refine wpList_append_lies _ (by rfl) _ _ _ (by rfl) (w.heap.size + 1) 3 i3 _ 1 8 Ybaf.underlying25 hi3 hz0 hz1 hz2 rfl (by decide) _ _ _ (by rfl) (ownsRow_setCell_below hown (by simp) _ |>.alloc _) ⟨wr.heap.size, 0, none⟩ 1 1 [.int .i64 k] (by rfl) rfl (one_new _ _ _ _ (by simp [World.setCell])) (ints_oneCell .i64 [(k : Int)]) (by decide) (by unfold maxLen; omega) (by omega) (by simp; omega) (wr.heap.size + 1) (by simp) ?_); intro g cap w1 hown1 hgrow hat hlt1; go_must (
             obtain ⟨hT1, hp1, hm1, hd1, hz1'⟩ := after_append hTr hpr hm hdr ht hlp hld hlt hgrow (fun b hb => ownBlock_ne hown (by omega))
             obtain ⟨q0, q1, q2, q3, q4⟩ := hT1
             have p1 : w1.cell? ⟨bp, k, none⟩ = some (.int .i64 p) := by rw [hp1.cell k hlt, hpk]
             have m1 : w1.cell? ⟨w.heap.size, k, none⟩ = some (.int .i64 1) := by rw [hm1.cell k hlt]; simp
             have m3 : w1.cell? ⟨w.heap.size, p, none⟩ = some (.int .i64 2) := by rw [hm1.cell p (by omega), if_neg (by omega), if_pos hpl]
             have m2 := hm1.frz k hlt
             have d1 := hd1.cell k hlt
             have d3 := hd1.cell p (by omega)
             have d2 := hd1.frz k hlt
             have g1 : w1.cell? ⟨g, 0, none⟩ = some (.int .i64 k) := hown1.cellAt 0 (by omega)
             have hgN : w.heap.size + 1 ≤ g := (hown1.lt g rfl).1
             have e1 := fun (o : Nat) (v : Value) => far_cell o v g1 (show bd ≠ g by omega)
             have e2 := fun (o : Nat) (v : Value) => far_cell o v m1 (show bd ≠ w.heap.size by omega)
             have HM := hide hm1
             have HD := hide hd1
             clear hp1 hm1 hd1)))
        rw [rounds_succ]
        go_wp2
        refine wp_loop_rounds 2 ?_
        rw [rounds_succ]
        go_wp2
        go_region
        all_goals go_wp2
        all_goals rw [rounds_succ]
        all_goals go_wp2
        all_goals go_roundw
        case rel => exact ⟨k + 1, by omega, by go_num, round_end (k := k) hg hld hNr hlt hgrow hown (hide hown1) HM HD hdd _ (by omega) (by omega)⟩
        case measure => simp [intOf]; omega
    · go_wp2
      go_ret
      exact ⟨rfl, hg⟩
end Go.Proofs.YbulkexnbeFmt
