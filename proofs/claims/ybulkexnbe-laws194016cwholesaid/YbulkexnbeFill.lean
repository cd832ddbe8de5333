import Derived.Test.YbulkexnbeOfferC
import Derived.Test.YbulkexnbeSeq
import Derived.Laws.EntriesVeiled
namespace Go.Proofs.Ybulkexnbe
open Go.RowKit Go.Lib Go.Shelf
set_option linter.unusedVariables false
attribute [local go_sem] Oper.semAt_some

/-- block L alone may have been written -/
structure Turned (W U : World) (L : Nat) : Prop where
  os : U.os = W.os
  tape : U.tape = W.tape
  output : U.output = W.output
  size : U.heap.size = W.heap.size
  block : ∀ b, b ≠ L → U.heap[b]? = W.heap[b]?
theorem Turned.refl (W : World) (L : Nat) : Turned W W L := ⟨rfl, rfl, rfl, rfl, fun _ _ => rfl⟩
theorem Turned.drew {W U : World} {L : Nat} (h : Turned W U L) : Turned W U.drew L := ⟨h.os, h.tape, h.output, h.size, h.block⟩
theorem Turned.set {W U : World} {L : Nat} (h : Turned W U L) (j : Nat) (v : Value) : Turned W (U.setCell ⟨L, j, none⟩ v) L :=
  ⟨h.os, h.tape, h.output, by rw [← h.size]; simp [World.setCell], fun b hb => (Below.heap_setCell U _ v b hb).trans (h.block b hb)⟩
theorem Turned.grown {W U : World} {L : Nat} (h : Turned W U L) : W.grownBy U (some L) := ⟨h.os, h.tape, h.output, by rw [h.size]; exact Nat.le_refl _, fun b _ hb => h.block b (fun e => hb (by rw [e]))⟩
theorem Turned.below {W U : World} {L n : Nat} (h : Turned W U L) (hn : n ≤ L) : Below n W U := ⟨h.os, h.tape, h.output, by rw [h.size]; exact Nat.le_refl _, fun b hb => h.block b (by omega)⟩

theorem fill_end {w W E : World} {n0 L D : Nat} {arr : Array Value} {v' : Value} {l' : List Int} (hn : n0 ≤ L) (hLw : L < w.heap.size) (hD : w.heap.size ≤ D) (hB : Below n0 w W) (hT : Turned W E L) (hK : W.heap[D]? = some (.deferred (some []))) (hE : E.heap[L]? = some (.cells arr 28 (0, 0))) (hi : Items E n0 v' l') :
    E.heap[D]? = some (.deferred (some [])) ∧ Below n0 w (E.putObj D (.deferred none)) ∧ Items (E.putObj D (.deferred none)) n0 v' l' ∧ (E.putObj D (.deferred none)).heap[L]? = some (.cells arr 28 (0, 0)) := by
  have h1 : E.heap[D]? = some (.deferred (some [])) := (hT.block D (by omega)).trans hK
  exact ⟨h1, (hB.trans (hT.below hn)).trans (belowK_b (w := w) (by omega) E D _ _ hD h1 rfl rfl), ownsRow_putObj hi _ h1 rfl, (World.putObj_heap_other (by omega)).trans hE⟩

theorem KeepAt.own {A A' : World} {N K B k : Nat} {desc : Bool} {v : Value} {l : List Int} {row : Option Nat} (h : KeepAt A N K B k desc v l) (hg : A.grownBy A' row) (hr : ∀ r, row = some r → ∃ o : Obj, A.heap[r]? = some o ∧ o.isCells = false) : KeepAt A' N K B k desc v l := by
  refine ⟨(grownBy_keeps_cells hg hr h.blk rfl).trans h.blk, cell_kept h.cb hg hr, World.ownsRow.kept h.items hg ?_, h.base, h.bx, h.order, h.short, h.pos, h.small⟩
  rcases h.items.open with ⟨rfl, _⟩ | ⟨g, cap, cur, rfl, _, hh, _⟩
  · exact .inl rfl
  · refine .inr fun e => ?_
    obtain ⟨o, ho, hc⟩ := hr g e.symm
    rw [hh] at ho
    cases ho
    cases hc

/-- what a round keeps -/
theorem Off.keeps {w w' : World} {N K B k : Nat} {desc : Bool} {v : Value} {l : List Int} (h : KeepAt w N K B k desc v l) (o : Off w w' K v) : KeepsOthers w w' :=
  ⟨o.size, fun b ob hb hc => (o.kept b (Array.getElem?_eq_some_iff.1 hb).1 (fun e => by rw [e, h.blk] at hb; cases hb; cases hc) (fun e => by
    rcases h.items.open with ⟨rfl, _⟩ | ⟨g, cap, cur, rfl, _, hh, _⟩
    · cases e
    · cases e
      rw [hh] at hb
      cases hb
      cases hc)).trans hb⟩
theorem Off.below {w w' : World} {N K B k : Nat} {desc : Bool} {v : Value} {l : List Int} (h : KeepAt w N K B k desc v l) (o : Off w w' K v) : Below N w w' :=
  ⟨o.os, o.tape, o.output, o.size, fun b hb => o.kept b (by have := h.lt; have := h.base; omega) (by have := h.base; omega) (fun e => by
    rcases h.items.open with ⟨rfl, _⟩ | ⟨g, cap, cur, rfl, hg, hh, _⟩
    · cases e
    · have e' : b = g := by simpa [Value.ownBlock] using e
      omega)⟩
/-- a struct of another type lies as it lay -/
theorem Off.struct {w w' : World} {N K B k L : Nat} {desc : Bool} {v : Value} {l : List Int} {arr : Array Value} (h : KeepAt w N K B k desc v l) (o : Off w w' K v) (hL : w.heap[L]? = some (.cells arr 28 (0, 0))) : w'.heap[L]? = some (.cells arr 28 (0, 0)) :=
  (o.kept L (Array.getElem?_eq_some_iff.1 hL).1 (fun e => by rw [e, h.blk] at hL; simp at hL) (fun e => by
    rcases h.items.open with ⟨rfl, _⟩ | ⟨g, cap, cur, rfl, _, hh, _⟩
    · cases e
    · cases e
      rw [hh] at hL
      simp at hL)).trans hL

set_option maxRecDepth 100000 in
set_option maxHeartbeats 4000000 in
theorem fill_is (w : World) (n0 L B Bs m : Nat) (desc : Bool) (a : Option Addr) (cap : Nat) (xs : List Int) (vi : Value) (li : List Int) (bar : Int) (bnd : Bool)
    (hL : w.heap[L]? = some (.cells #[.int .i64 m, fv B, vi, .int .i64 bar, .bool bnd] 28 (0, 0))) (hm : m < 512) (hn : n0 ≤ L) (hB : B < n0) (hBs : Bs < n0)
    (cb : w.cell? ⟨B, 0, none⟩ = some (.bool desc)) (cs : w.cell? ⟨Bs, 0, none⟩ = some (.slice a xs.length cap)) (hx : Ints n0 w a cap xs) (hlen : xs.length ≤ 1048576) (hi : Items w n0 vi li) :
    Calls Yba.prog 8 #[.pointer (some ⟨L, 0, none⟩), .func (.func 7) #[] #[.pointer (some ⟨Bs, 0, none⟩)]] w fun e w' => e = .returned (.tuple #[]) ∧ Below n0 w w' ∧
      ∃ v', Items w' n0 v' ((sorted desc xs).take m) ∧ w'.heap[L]? = some (.cells #[.int .i64 m, fv B, v', .int .i64 (if m < xs.length then (sorted desc xs).getD m 0 else bar), .bool (decide (m < xs.length))] 28 (0, 0)) := by
  obtain ⟨av, capv, rfl, hvl, hvc, hav⟩ := hi.shape
  have l0 : w.cell? ⟨L, 0, none⟩ = some (.int .i64 m) := by simp [World.cell?, hL]
  have l1 : w.cell? ⟨L, 1, none⟩ = some (.func (.func 5) #[] #[.pointer (some ⟨B, 0, none⟩)]) := by simp [World.cell?, hL]
  have l2 : w.cell? ⟨L, 2, none⟩ = some (.slice av li.length capv) := by simp [World.cell?, hL]
  have hLl := (Array.getElem?_eq_some_iff.1 hL).1
  refine (callsIn_wide (n := 3)).1 ?_
  refine callsIn_of_wp_marks Yba.func8 rfl trivial ?_ rfl
  refine wpIn_wide.2 ?_
  simp only [Yba.ntmps8, List.size_toArray, List.length_cons, List.length_nil, Nat.reduceAdd, Nat.reduceSub, Array.replicate_succ, Array.replicate_zero, List.push_toArray, List.append_toArray, List.nil_append, List.cons_append]
  have hw1 : IntKind.i64.wrap ((m : Int) + 1) = (m : Int) + 1 := by rw [IntKind.wrap_i64]; omega
  go_wp2
  go_region_held3 (fun w' => w'.cell? ⟨L, 0, none⟩ = some (.int .i64 m) ∧ w'.cell? ⟨L, 1, none⟩ = some (.func (.func 5) #[] #[.pointer (some ⟨B, 0, none⟩)]) ∧ w'.cell? ⟨L, 2, none⟩ = some (.slice av li.length capv)) (go_keep) ((fail))
  go_wp2
  obtain ⟨W0, hW0⟩ : ∃ W0, (w.alloc (.cells #[.int .i64 ((m : Int) + 1), .func (.func 5) #[] #[.pointer (some ⟨B, 0, none⟩)], .slice av 0 capv] 37)).drew = W0 := ⟨_, rfl⟩
  rw [hW0]
  have hsz : W0.heap.size = w.heap.size + 1 := by rw [← hW0]; simp [World.drew]
  have hb0 : Below w.heap.size w W0 := by rw [← hW0]; exact ((Below.refl _ w).alloc (Nat.le_refl _) _).drew
  have hk0 : KeepAt W0 n0 w.heap.size B (m + 1) desc (.slice av 0 capv) [] := by
    refine ⟨?_, (hb0.cell (p := ⟨B, 0, none⟩) (by show B < _; omega)).trans cb, ?_, by omega, hB, List.Pairwise.nil, by simp, by omega, by omega⟩
    · rw [← hW0]
      show (w.heap.push _)[w.heap.size]? = _
      simp
    · rw [← hW0]
      exact Items.alloc hi.nothing _
  have hl0 : W0.heap[L]? = some (.cells #[.int .i64 m, fv B, .slice av li.length capv, .int .i64 bar, .bool bnd] 28 (0, 0)) := (hb0.block L hLl).trans hL
  clear hW0
  refine wpIn_wide.1 (wpIn_rangeFunc_ownG (F := Fence.wide) (n := 3) rfl (by omega) (gf := 7) (lb := #[.pointer (some ⟨Bs, 0, none⟩)]) rfl trivial (enters_of Yba.func7 (by kernel_rfl) rfl)
    (seq_stops Fence.wide _ trivial rfl (by omega) Bs n0 cap a xs (by omega) W0 (by omega) (by omega) ((hb0.cell (p := ⟨Bs, 0, none⟩) (by show Bs < _; omega)).trans cs) (hx.below (hb0.mono (by omega)))) belowK_t (belowK_b (by omega)) (Below.refl _ _) (fun _ => rfl)
    (fun pre W => (∃ v, KeepAt W n0 w.heap.size B (m + 1) desc v (kept desc (m + 1) pre) ∧ W.heap[L]? = some (.cells #[.int .i64 m, fv B, .slice av li.length capv, .int .i64 bar, .bool bnd] 28 (0, 0))) ∧ Below n0 w W)
    (fun _ _ _ => False)
    (OwnFrom.and (Own.from (fun s A A' row hs hg hr => by
      obtain ⟨v, h1, h2⟩ := hs
      exact ⟨v, h1.own hg hr, (grownBy_keeps_cells hg hr h2 rfl).trans h2⟩) _) (ownFrom_below (by omega) (by omega)))
    (fun _ _ _ _ _ hs _ _ => hs)
    ⟨⟨_, hk0, hl0⟩, hb0.mono (by omega)⟩
    (fun x => { tmps := #[.pointer (some ⟨L, 0, none⟩), .func (.func 7) #[] #[.pointer (some ⟨Bs, 0, none⟩)], undef, undef, .pointer (some ⟨w.heap.size, 0, none⟩), .int .i64 x, .pointer (some ⟨L, 0, none⟩), .pointer (some ⟨L, 0, none⟩), .pointer (some ⟨L, 0, none⟩), .int .i64 m, .int .i64 ((m : Int) + 1), .pointer (some ⟨L, 0, none⟩), .pointer (some ⟨L, 0, none⟩), .pointer (some ⟨L, 1, none⟩), .func (.func 5) #[] #[.pointer (some ⟨B, 0, none⟩)], .pointer (some ⟨L, 0, none⟩), .pointer (some ⟨L, 0, none⟩), .pointer (some ⟨L, 2, none⟩), .slice av li.length capv, .slice av 0 capv, .agg #[.int .i64 ((m : Int) + 1), .func (.func 5) #[] #[.pointer (some ⟨B, 0, none⟩)], .slice av 0 capv], .func (.func 7) #[] #[.pointer (some ⟨Bs, 0, none⟩)], .int .i64 x, undef, undef, undef, undef, undef, undef, undef, undef, undef, undef, undef, undef, undef, undef, undef, undef, undef, undef, undef, undef, undef, undef, undef, undef, undef, undef, undef, undef, undef, undef, undef, undef, undef, undef, undef, undef, undef, undef, undef, undef, undef, undef, undef, undef, undef, undef, undef], defers := [] }) ?assign ?body ?done ?stop)
  case assign =>
    intro l x W K hK
    gi_wp2
    exact hK
  case body =>
    rintro l pre x W ⟨⟨v, hk, hl⟩, hB2⟩ hlt
    gi_wp2_with (refine ⟨trivial, ?_⟩; gi_at_call 13; refine (CallsIn.inRound l (callsIn_wide.2 (offer_is _ _ _ _ _ _ _ _ _ hk))).mono ?_; rintro e w' ⟨rfl, v', hk', ho⟩)
    exact ⟨(ho.keeps hk).from _, ho.below hk, ⟨v', by rw [kept_snoc]; exact hk', ho.struct hk hl⟩, hB2.trans (ho.below hk)⟩
  case stop =>
    rintro D c pre W _ _ h _
    exact h.elim
  case done =>
    rintro D ys W hD rfl ⟨⟨v, hk, hl⟩, hB2⟩ hK
    have hko := kept_is desc (m + 1) ys
    obtain ⟨l, hl1⟩ : ∃ l, kept desc (m + 1) ys = l := ⟨_, rfl⟩
    rw [hl1] at hk hko
    have hll : Hid (l.length = min (m + 1) ys.length) := by rw [hko, List.length_take, sorted_length]; rfl
    have HKO := hide hko
    have HL1 := hide hl1
    clear hko hl1
    obtain ⟨a2, cap2, rfl, hvl2, hvc2, hav2⟩ := hk.items.shape
    have k2 := hk.c2
    have m0 : W.cell? ⟨L, 0, none⟩ = some (.int .i64 m) := by simp [World.cell?, hl]
    have m2 : W.frozen? ⟨L, 2, none⟩ = false := by simp [World.frozen?, hl]
    have m4 : W.frozen? ⟨L, 4, none⟩ = false := by simp [World.frozen?, hl]
    have n2 : (W.cell? ⟨L, 2, none⟩).isSome = true := by simp [World.cell?, hl]
    have n4 : (W.cell? ⟨L, 4, none⟩).isSome = true := by simp [World.cell?, hl]
    have e2 : W.cell? ⟨L, 2, none⟩ = some (.slice av li.length capv) := by simp [World.cell?, hl]
    have e4 : W.cell? ⟨L, 4, none⟩ = some (.bool bnd) := by simp [World.cell?, hl]
    have HL := hide hl
    have HK := hide hK
    have HKA := hide hk
    clear hl hK hk
    have hne : L ≠ w.heap.size := by omega
    have s22 : ∀ (U : World) (v : Value), (U.setCell ⟨L, 2, none⟩ v).cell? ⟨w.heap.size, 2, none⟩ = U.cell? ⟨w.heap.size, 2, none⟩ := fun U v => World.cell?_setCell_far U _ _ v hne
    have s42 : ∀ (U : World) (v : Value), (U.setCell ⟨L, 4, none⟩ v).cell? ⟨w.heap.size, 2, none⟩ = U.cell? ⟨w.heap.size, 2, none⟩ := fun U v => World.cell?_setCell_far U _ _ v hne
    have s20 : ∀ (U : World) (v : Value), (U.setCell ⟨L, 2, none⟩ v).cell? ⟨L, 0, none⟩ = U.cell? ⟨L, 0, none⟩ := fun U v => World.cell?_setCell_other U _ _ v (by simp)
    have s40 : ∀ (U : World) (v : Value), (U.setCell ⟨L, 4, none⟩ v).cell? ⟨L, 0, none⟩ = U.cell? ⟨L, 0, none⟩ := fun U v => World.cell?_setCell_other U _ _ v (by simp)
    by_cases hlt : m < ys.length
    · have hq : l.length = m + 1 := by rw [hll.out]; omega
      rw [hq] at k2
      have g1 : (m : Int) < ((m + 1 : Nat) : Int) := by omega
      have g2 : (m : Int) < (m : Int) + 1 := by omega
      have HQ := hide hq
      clear hq
      go_wp2
      go_region_held3 (fun w' => w'.cell? ⟨w.heap.size, 2, none⟩ = some (.slice a2 (m + 1) cap2) ∧ w'.cell? ⟨L, 0, none⟩ = some (.int .i64 m)) (go_keep) ((fail))
      go_wp2
      obtain ⟨g2, rfl⟩ : ∃ g2, a2 = some ⟨g2, 0, none⟩ := by
        rcases hav2 with rfl | h
        · rcases HKA.out.items.open with ⟨e, e2⟩ | ⟨g, c', cur, e, _⟩
          · have := HQ.out
            rw [e2] at this
            simp at this
          · cases e
        · exact h
      obtain ⟨U, hU⟩ : ∃ U, ((W.setCell ⟨L, 2, none⟩ (.slice (some ⟨g2, 0, none⟩) (m + 1) cap2)).setCell ⟨L, 4, none⟩ (.bool true)).drew = U := ⟨_, rfl⟩
      rw [hU]
      have hT : Turned W U L := by rw [← hU]; exact (((Turned.refl W L).set 2 _).set 4 _).drew
      have hUL : U.heap[L]? = some (.cells #[.int .i64 m, fv B, .slice (some ⟨g2, 0, none⟩) (m + 1) cap2, .int .i64 bar, .bool true] 28 (0, 0)) := by
        rw [← hU]
        show ((W.setCell ⟨L, 2, none⟩ _).setCell ⟨L, 4, none⟩ _).heap[L]? = _
        rw [setCell_block (setCell_block HL.out _)]
        rfl
      clear hU
      have hcells : Hid (∀ j, j < l.length → U.cell? ⟨g2, j, none⟩ = some (.int .i64 (l.getD j 0)) ∧ g2 ≠ L) := by
        rcases HKA.out.items.open with ⟨e, e2⟩ | ⟨g, c', cur, e, h1, h2, h3, h4, h5, h6⟩
        · cases e
        · cases e
          have hgL : g2 ≠ L := fun e => by rw [e, HL.out] at h2; simp at h2
          exact fun j hj => ⟨(World.cell?_of_block (hT.block g2 hgL)).trans (h6 j hj), hgL⟩
      have u0 : U.cell? ⟨L, 0, none⟩ = some (.int .i64 m) := by simp [World.cell?, hUL]
      have u2 : U.cell? ⟨L, 2, none⟩ = some (.slice (some ⟨g2, 0, none⟩) (m + 1) cap2) := by simp [World.cell?, hUL]
      have u3 : U.cell? ⟨L, 3, none⟩ = some (.int .i64 bar) := by simp [World.cell?, hUL]
      have f3 : U.frozen? ⟨L, 3, none⟩ = false := by simp [World.frozen?, hUL]
      have f2 : U.frozen? ⟨L, 2, none⟩ = false := by simp [World.frozen?, hUL]
      obtain ⟨z, hz⟩ : ∃ z, l.getD m 0 = z := ⟨_, rfl⟩
      have ug : U.cell? ⟨g2, m, none⟩ = some (.int .i64 z) := by rw [← hz]; exact (hcells.out m (by rw [HQ.out]; omega)).1
      have hgL : g2 ≠ L := (hcells.out m (by rw [HQ.out]; omega)).2
      have hgL' : L ≠ g2 := fun e => hgL e.symm
      have HZ := hide hz
      have HUL := hide hUL
      have HT := hide hT
      have i0 : (0 : Int) ≤ (m : Int) := by omega
      have r30 : ∀ (V : World) (v : Value), (V.setCell ⟨L, 3, none⟩ v).cell? ⟨L, 0, none⟩ = V.cell? ⟨L, 0, none⟩ := fun V v => World.cell?_setCell_other V _ _ v (by simp)
      have r32 : ∀ (V : World) (v : Value), (V.setCell ⟨L, 3, none⟩ v).cell? ⟨L, 2, none⟩ = V.cell? ⟨L, 2, none⟩ := fun V v => World.cell?_setCell_other V _ _ v (by simp)
      have r3g : ∀ (V : World) (v : Value), (V.setCell ⟨L, 3, none⟩ v).cell? ⟨g2, m, none⟩ = V.cell? ⟨g2, m, none⟩ := fun V v => World.cell?_setCell_far V _ _ v hgL'
      clear hz hUL hT
      go_region_held3 (fun w' => w'.cell? ⟨L, 2, none⟩ = some (.slice (some ⟨g2, 0, none⟩) (m + 1) cap2) ∧ w'.cell? ⟨L, 0, none⟩ = some (.int .i64 m) ∧ w'.cell? ⟨g2, m, none⟩ = some (.int .i64 z)) (go_keep) ((fail))
      go_wp2
      obtain ⟨V, hV⟩ : ∃ V, (U.setCell ⟨L, 3, none⟩ (.int .i64 z)).drew = V := ⟨_, rfl⟩
      rw [hV]
      have hVL : V.heap[L]? = some (.cells #[.int .i64 m, fv B, .slice (some ⟨g2, 0, none⟩) (m + 1) cap2, .int .i64 z, .bool true] 28 (0, 0)) := by
        rw [← hV]
        show (U.setCell ⟨L, 3, none⟩ _).heap[L]? = _
        rw [setCell_block HUL.out]
        rfl
      have v0 : V.cell? ⟨L, 0, none⟩ = some (.int .i64 m) := by simp [World.cell?, hVL]
      have v2 : V.cell? ⟨L, 2, none⟩ = some (.slice (some ⟨g2, 0, none⟩) (m + 1) cap2) := by simp [World.cell?, hVL]
      have vf2 : V.frozen? ⟨L, 2, none⟩ = false := by simp [World.frozen?, hVL]
      have HVT : Hid (Turned W V L) := by rw [← hV]; exact (HT.out.set 3 _).drew
      have HVL := hide hVL
      clear hV hVL u0 u2 u3 f3 f2 ug r30 r32 r3g
      have i1 : m ≤ cap2 := by rw [HQ.out] at hvl2; omega
      have i2 : (m : Int) ≤ (cap2 : Int) := by omega
      have HE : Hid (Turned W (V.setCell ⟨L, 2, none⟩ (.slice (some ⟨g2, 0, none⟩) m cap2)).drew L) := (HVT.out.set 2 _).drew
      have HEL : Hid ((V.setCell ⟨L, 2, none⟩ (.slice (some ⟨g2, 0, none⟩) m cap2)).drew.heap[L]? = some (.cells #[.int .i64 m, fv B, .slice (some ⟨g2, 0, none⟩) m cap2, .int .i64 z, .bool true] 28 (0, 0))) := by
        show (V.setCell ⟨L, 2, none⟩ _).heap[L]? = _
        rw [setCell_block HVL.out]
        rfl
      have HEI : Hid (Items (V.setCell ⟨L, 2, none⟩ (.slice (some ⟨g2, 0, none⟩) m cap2)).drew n0 (.slice (some ⟨g2, 0, none⟩) m cap2) ((sorted desc ys).take m)) := by
        have h1 : Items W n0 (.slice (some ⟨g2, 0, none⟩) l.length cap2) l := HKA.out.items
        have h2 := World.ownsRow.kept h1 HE.out.grown (.inr (fun e => hgL (by simpa [Value.ownBlock] using e)))
        have h3 := Items.cut h2 rfl m (by rw [HQ.out]; omega)
        rw [HKO.out, List.take_take, Nat.min_eq_left (by omega)] at h3
        exact h3
      have HZ2 : Hid (z = (sorted desc ys)[m]?.getD 0) := by
        show z = _
        rw [← HZ.out, HKO.out]
        simp [List.getD_eq_getElem?_getD]
      have HW := hide (fill_end hn hLl (by omega) hB2 HE.out HK.out HEL.out HEI.out)
      refine wp_region_noPanic ?_
      go_region_with (fail)
      all_goals (try refine NoPanic.normal ?_)
      all_goals go_wp2
      all_goals (
        obtain ⟨e1, e2, e3, e4⟩ := HW.out
        refine ⟨by simp, .inl ⟨_, _, rfl, run_takeDeferred e1, ?_⟩⟩
        exact ⟨_, results_none rfl _ _ _, rfl, e2, _, e3, by rw [← HZ2.out]; exact e4⟩)
    · have hq : l.length = ys.length := by rw [hll.out]; omega
      rw [hq] at k2
      have g1 : ¬ (m : Int) < (ys.length : Int) := by omega
      have g2 : (ys.length : Int) ≤ (m : Int) := by omega
      have HQ := hide hq
      clear hq
      have HE : Hid (Turned W ((W.setCell ⟨L, 2, none⟩ (.slice a2 ys.length cap2)).setCell ⟨L, 4, none⟩ (.bool false)).drew L) := (((Turned.refl W L).set 2 _).set 4 _).drew
      have HEL : Hid (((W.setCell ⟨L, 2, none⟩ (.slice a2 ys.length cap2)).setCell ⟨L, 4, none⟩ (.bool false)).drew.heap[L]? = some (.cells #[.int .i64 m, fv B, .slice a2 ys.length cap2, .int .i64 bar, .bool false] 28 (0, 0))) := by
        show ((W.setCell ⟨L, 2, none⟩ _).setCell ⟨L, 4, none⟩ _).heap[L]? = _
        rw [setCell_block (setCell_block HL.out _)]
        rfl
      have HEI : Hid (Items ((W.setCell ⟨L, 2, none⟩ (.slice a2 ys.length cap2)).setCell ⟨L, 4, none⟩ (.bool false)).drew n0 (.slice a2 ys.length cap2) ((sorted desc ys).take m)) := by
        have h1 : Items W n0 (.slice a2 l.length cap2) l := HKA.out.items
        have h2 := World.ownsRow.kept h1 HE.out.grown (.inr (fun e => by
          rcases h1.open with ⟨e1, _⟩ | ⟨g, c', cur, e1, _, h3, _⟩
          · rw [e1] at e; cases e
          · rw [e1] at e
            have e' : g = L := by simpa [Value.ownBlock] using e
            rw [e', HL.out] at h3
            simp at h3))
        have h3 : l = (sorted desc ys).take m := by
          rw [HKO.out, List.take_of_length_le (by rw [sorted_length]; omega), List.take_of_length_le (by rw [sorted_length]; omega)]
        have h4 : Items ((W.setCell ⟨L, 2, none⟩ (.slice a2 ys.length cap2)).setCell ⟨L, 4, none⟩ (.bool false)).drew n0 (.slice a2 l.length cap2) l := h2
        rw [HQ.out] at h4
        rw [← h3]
        exact h4
      have HW := hide (fill_end hn hLl (by omega) hB2 HE.out HK.out HEL.out HEI.out)
      go_wp2
      go_region_held3 (fun w' => w'.cell? ⟨w.heap.size, 2, none⟩ = some (.slice a2 ys.length cap2) ∧ w'.cell? ⟨L, 0, none⟩ = some (.int .i64 m)) (go_keep) ((fail))
      go_wp2
      obtain ⟨e1, e2, e3, e4⟩ := HW.out
      refine ⟨by simp, .inl ⟨_, _, rfl, run_takeDeferred e1, ?_⟩⟩
      exact ⟨_, results_none rfl _ _ _, rfl, e2, _, e3, e4⟩
end Go.Proofs.Ybulkexnbe
