import Derived.Test.YbulkexnbeFmtTreeA
import Derived.Deep.RegionHeld3
namespace Go.Proofs.YbulkexnbeFmt
open Go.RowKit Go.Maps Go.WideElems Go.WideMaps Go.Extern.Stop Go.Stop Go.Extern

theorem qcells {w : World} {bq n k : Nat} {pn : Nat → ByteArray} (h : Row w bq (n * 9) (Qc pn)) (hk : k < n) :
    w.cell? ⟨bq, k * 9, none⟩ = some (.string (Nm.qn k)) ∧ w.cell? ⟨bq, k * 9 + 1, none⟩ = some (.string (pn k)) ∧ w.cell? ⟨bq, k * 9 + 2, none⟩ = some (.map none) ∧ w.cell? ⟨bq, k * 9 + 3, none⟩ = some (.map none) ∧
    w.cell? ⟨bq, k * 9 + 4, none⟩ = some (.pointer none) ∧ w.cell? ⟨bq, k * 9 + 5, none⟩ = some (.pointer none) ∧ w.cell? ⟨bq, k * 9 + 6, none⟩ = some (.pointer none) ∧ w.cell? ⟨bq, k * 9 + 7, none⟩ = some (.pointer none) ∧ w.cell? ⟨bq, k * 9 + 8, none⟩ = some (.pointer none) := by
  have f : ∀ j, j < 9 → (k * 9 + j) / 9 = k ∧ (k * 9 + j) % 9 = j := fun j hj => by omega
  have g : ∀ j, j < 9 → w.cell? ⟨bq, k * 9 + j, none⟩ = some (Qc pn (k * 9 + j)) := fun j hj => h.cell (k * 9 + j) (by omega)
  refine ⟨?_, ?_, ?_, ?_, ?_, ?_, ?_, ?_, ?_⟩
  · have := g 0 (by omega); rw [Qc, (f 0 (by omega)).1, (f 0 (by omega)).2] at this; exact this
  · rw [g 1 (by omega), Qc, (f 1 (by omega)).1, (f 1 (by omega)).2]; rfl
  · rw [g 2 (by omega), Qc, (f 2 (by omega)).2]; rfl
  · rw [g 3 (by omega), Qc, (f 3 (by omega)).2]; rfl
  · rw [g 4 (by omega), Qc, (f 4 (by omega)).2]; rfl
  · rw [g 5 (by omega), Qc, (f 5 (by omega)).2]; rfl
  · rw [g 6 (by omega), Qc, (f 6 (by omega)).2]; rfl
  · rw [g 7 (by omega), Qc, (f 7 (by omega)).2]; rfl
  · rw [g 8 (by omega), Qc, (f 8 (by omega)).2]; rfl

theorem qn_nonempty (k : Nat) : (Nm.qn k).toList.isEmpty = false := by
  rw [ByteArray.toList_eq]
  simp [Nm.qn, strOfNums]

/-- no queue j, 0 < j < m, hangs under k -/
def lf (P : Nat → Nat) : Nat → Nat → Bool
  | 0, _ => true
  | m + 1, k => lf P m k && !(decide (0 < m) && decide (P m = k))

/-- the state of NewTree between two rounds -/
structure St (w wr : World) (bq n bt bm bp bd bl : Nat) (pn : Nat → ByteArray) (k : Nat) (pf : Nat → Int) (lff : Nat → Bool) : Prop where
  tree : TreeAt wr bt bq bm bp bd bl n
  lt : bt < wr.heap.size
  idx : Idx wr bm k
  par : Row wr bp n (fun j => .int .i64 (pf j))
  dep : Row wr bd n (fun _ => .int .i64 0)
  leaf : Row wr bl n (fun j => .bool (lff j))
  q : Row wr bq (n * 9) (Qc pn)
  below : Below w.heap.size w wr

/-- block numbers: all of them new, and apart -/
structure Apart (w : World) (bq bt bm bp bd bl : Nat) : Prop where
  q : bq < w.heap.size
  base : w.heap.size ≤ bt ∧ w.heap.size ≤ bm ∧ w.heap.size ≤ bp ∧ w.heap.size ≤ bd ∧ w.heap.size ≤ bl
  apart : bt ≠ bm ∧ bt ≠ bp ∧ bt ≠ bd ∧ bt ≠ bl ∧ bm ≠ bp ∧ bm ≠ bd ∧ bm ≠ bl ∧ bp ≠ bd ∧ bp ≠ bl ∧ bd ≠ bl

theorem St.put {w wr w2 : World} {bq n bt bm bp bd bl : Nat} {pn : Nat → ByteArray} {k : Nat} {pf : Nat → Int} {lff : Nat → Bool} (h : St w wr bq n bt bm bp bd bl pn k pf lff) (hA : Apart w bq bt bm bp bd bl) {o1 o2 : Obj}
    (hg : ((wr.alloc o1).alloc o2).drew.drew.drew.grownBy w2 (some bm)) (hI : Idx w2 bm (k + 1)) : St w w2 bq n bt bm bp bd bl pn (k + 1) pf lff := by
  obtain ⟨hq, ⟨b1, b2, b3, b4, b5⟩, a1, a2, a3, a4, a5, a6, a7, a8, a9, a10⟩ := hA
  have hb : Below w.heap.size w ((wr.alloc o1).alloc o2).drew.drew.drew := (((h.below.alloc h.below.size _).alloc (by have := h.below.size; simp; omega) _).drew.drew.drew)
  have hT2 : TreeAt ((wr.alloc o1).alloc o2) bt bq bm bp bd bl n := (h.tree.grown h.lt (World.grownBy_alloc wr o1 none) (by simp)).grown (by simp; have := h.lt; omega) (World.grownBy_alloc _ o2 none) (by simp)
  have hT : TreeAt ((wr.alloc o1).alloc o2).drew.drew.drew bt bq bm bp bd bl n := ⟨hT2.c0, hT2.c1, hT2.c2, hT2.c3, hT2.c4⟩
  refine ⟨hT.grown (by have := h.lt; show bt < ((wr.alloc o1).alloc o2).heap.size; simp; omega) hg (by simp; omega), ?_, hI, ?_, ?_, ?_, ?_, ?_⟩
  · have h1 := hg.size
    have h2 : ((wr.alloc o1).alloc o2).heap.size = wr.heap.size + 2 := by simp
    have h3 : ((wr.alloc o1).alloc o2).drew.drew.drew.heap.size = ((wr.alloc o1).alloc o2).heap.size := rfl
    have := h.lt; omega
  · exact ((h.par.alloc o1).alloc o2).drew.drew.drew.grown hg (by simp; omega)
  · exact ((h.dep.alloc o1).alloc o2).drew.drew.drew.grown hg (by simp; omega)
  · exact ((h.leaf.alloc o1).alloc o2).drew.drew.drew.grown hg (by simp; omega)
  · exact ((h.q.alloc o1).alloc o2).drew.drew.drew.grown hg (by simp; omega)
  · exact hb.grown hg hb.size (fun j hj => by cases hj; exact b2)

theorem new_kept {wr w2 : World} {b : Nat} {x : Value} {xs : List Value} {t : TypeId} {o2 : Obj} (hg : ((wr.alloc (.cells (x :: xs).toArray t)).alloc o2).drew.drew.drew.grownBy w2 (some b)) (hne : wr.heap.size ≠ b) : w2.cell? ⟨wr.heap.size, 0, none⟩ = some x := by
  have h1 := hg.block wr.heap.size (by show wr.heap.size < ((wr.alloc _).alloc o2).heap.size; simp; omega) (by simp; omega)
  rw [World.cell?_of_block (a := ⟨wr.heap.size, 0, none⟩) h1]
  show ((wr.alloc (.cells (x :: xs).toArray t)).alloc o2).cell? ⟨wr.heap.size, 0, none⟩ = _
  rw [World.cell?_alloc_past _ _ _ (by simp), World.cell?_alloc_at _ _ _ _ rfl]
  simp

theorem St.leafSet {w wr : World} {bq n bt bm bp bd bl : Nat} {pn : Nat → ByteArray} {k : Nat} {pf : Nat → Int} {lff g : Nat → Bool} (h : St w wr bq n bt bm bp bd bl pn k pf lff) (hA : Apart w bq bt bm bp bd bl) {i : Nat} (hi : i < n) (b : Bool)
    (hg : ∀ j, j < n → g j = if j = i then b else lff j) : St w (wr.setCell ⟨bl, i, none⟩ (.bool b)) bq n bt bm bp bd bl pn k pf g := by
  obtain ⟨hq, ⟨b1, b2, b3, b4, b5⟩, a1, a2, a3, a4, a5, a6, a7, a8, a9, a10⟩ := hA
  refine ⟨h.tree.far (by simp; omega) _, by have := h.lt; simpa [World.setCell] using this, h.idx.far (by simp; omega) _, h.par.far (by simp; omega) _, h.dep.far (by simp; omega) _, ?_, h.q.far (by simp; omega) _, h.below.setCell b5 _⟩
  exact h.leaf.set hi (.bool b) (fun j hj => by rw [hg j hj]; split <;> rfl)

/-- the parents that are known behind m rounds -/
def pf (P : Nat → Nat) (m : Nat) (j : Nat) : Int := if j < m then (if j = 0 then -1 else (P j : Int)) else 0
theorem St.congr {w wr : World} {bq n bt bm bp bd bl : Nat} {pn : Nat → ByteArray} {k : Nat} {pf pf' : Nat → Int} {lff g : Nat → Bool} (h : St w wr bq n bt bm bp bd bl pn k pf lff) (h1 : ∀ j, j < n → pf' j = pf j) (h2 : ∀ j, j < n → g j = lff j) :
    St w wr bq n bt bm bp bd bl pn k pf' g := ⟨h.tree, h.lt, h.idx, h.par.congr (fun j hj => by rw [h1 j hj]), h.dep, h.leaf.congr (fun j hj => by rw [h2 j hj]), h.q, h.below⟩

theorem St.alloc {w wr : World} {bq n bt bm bp bd bl : Nat} {pn : Nat → ByteArray} {k : Nat} {pf : Nat → Int} {lff : Nat → Bool} (h : St w wr bq n bt bm bp bd bl pn k pf lff) (o : Obj) : St w (wr.alloc o) bq n bt bm bp bd bl pn k pf lff :=
  ⟨h.tree.grown h.lt (World.grownBy_alloc wr o none) (by simp), by have := h.lt; simp; omega, h.idx.alloc o, h.par.alloc o, h.dep.alloc o, h.leaf.alloc o, h.q.alloc o, h.below.alloc h.below.size o⟩
theorem St.drew {w wr : World} {bq n bt bm bp bd bl : Nat} {pn : Nat → ByteArray} {k : Nat} {pf : Nat → Int} {lff : Nat → Bool} (h : St w wr bq n bt bm bp bd bl pn k pf lff) : St w wr.drew bq n bt bm bp bd bl pn k pf lff :=
  ⟨⟨h.tree.c0, h.tree.c1, h.tree.c2, h.tree.c3, h.tree.c4⟩, h.lt, h.idx, h.par, h.dep, h.leaf, h.q, h.below.drew⟩
theorem St.parSet {w wr : World} {bq n bt bm bp bd bl : Nat} {pn : Nat → ByteArray} {k : Nat} {pf g : Nat → Int} {lff : Nat → Bool} (h : St w wr bq n bt bm bp bd bl pn k pf lff) (hA : Apart w bq bt bm bp bd bl) {i : Nat} (hi : i < n) (b : Int)
    (hg : ∀ j, j < n → g j = if j = i then b else pf j) : St w (wr.setCell ⟨bp, i, none⟩ (.int .i64 b)) bq n bt bm bp bd bl pn k g lff := by
  obtain ⟨hq, ⟨b1, b2, b3, b4, b5⟩, a1, a2, a3, a4, a5, a6, a7, a8, a9, a10⟩ := hA
  refine ⟨h.tree.far (by simp; omega) _, by have := h.lt; simpa [World.setCell] using this, h.idx.far (by simp; omega) _, ?_, h.dep.far (by simp; omega) _, h.leaf.far (by simp; omega) _, h.q.far (by simp; omega) _, h.below.setCell b3 _⟩
  exact h.par.set hi (.int .i64 b) (fun j hj => by rw [hg j hj]; split <;> rfl)
theorem pf_step (P : Nat → Nat) (m : Nat) (b : Int) (hb : b = if m = 0 then -1 else (P m : Int)) {n : Nat} : ∀ j, j < n → pf P (m + 1) j = if j = m then b else pf P m j := by
  intro j _
  unfold pf
  by_cases e : j = m
  · subst e; simp [hb]
  · by_cases e2 : j < m
    · simp [e, e2, show j < m + 1 by omega]
    · simp [e, e2, show ¬ j < m + 1 by omega]

theorem lf_step (P : Nat → Nat) (m : Nat) (hm : 0 < m) {n : Nat} : ∀ j, j < n → lf P (m + 1) j = if j = P m then false else lf P m j := by
  intro j _
  rw [lf]
  by_cases e : j = P m
  · simp [e, hm]
  · simp [e, hm, Ne.symm e]
theorem Idx.grown {w w' : World} {b k : Nat} {row : Option Nat} (h : Idx w b k) (hg : w.grownBy w' row) (hne : some b ≠ row) : Idx w' b k := World.ownsMap.kept h hg hne

set_option maxRecDepth 100000 in
set_option maxHeartbeats 8000000 in
theorem newTree_any (F : Interp) (w : World) (hF : F.answers w.tape) (bq n : Nat) (hn0 : 0 < n) (hn : n ≤ 65537) (P : Nat → Nat) (hP : ∀ k, 0 < k → k < n → P k < k) (pn : Nat → ByteArray) (hp0 : pn 0 = ⟨#[]⟩) (hpn : ∀ k, 0 < k → k < n → pn k = Nm.qn (P k))
    (hq : Row w bq (n * 9) (Qc pn)) :
    Calls Ybaf.prog 5 #[.slice (some ⟨bq, 0, none⟩) n n] w fun e w' => ∃ bt bm bp bd bl, e = .returned (.tuple #[.pointer (some ⟨bt, 0, none⟩), .nilIface]) ∧ TreeAt w' bt bq bm bp bd bl n ∧ Idx w' bm n ∧
      Row w' bl n (fun k => .bool (lf P n k)) ∧ Below w.heap.size w w' := by
  have hmk := run_make_row' (P := Ybaf.prog) 25 3 (.int .i64 0) 8 Ybaf.underlying25 info3 rfl .i64 .i64 n (by omega) (by omega)
  have hmb := run_make_row' (P := Ybaf.prog) 51 4 (.bool false) 1 Ybaf.underlying51 info4 rfl .i64 .i64 n (by omega) (by omega)
  have hmm := make_map n
  go_enter Ybaf.func5, Ybaf.ntmps5
  go_wp2
  go_cut [5] (fun t wc => ∃ bt bm bp bd bl, t = .pointer (some ⟨bt, 0, none⟩) ∧ Made w wc n bq bt bm bp bd bl)
  case first =>
    clear hq hP hpn hp0 hF
    go_region
    all_goals go_wp2
    all_goals go_meet
    all_goals
      refine ⟨_, _, _, _, _, rfl, made_of (tree_of _ _ _ _ _ _ _ _ (by simp)) ?_ ?_ ?_ ?_ (below5 _ _ _ _ _ _) ?_ ?_ ?_⟩
      all_goals first
        | exact (chain4 w _ _ _ _ _).1
        | exact (chain4 w _ _ _ _ _).2.1
        | exact (chain4 w _ _ _ _ _).2.2.1
        | exact (chain4 w _ _ _ _ _).2.2.2
        | (simp; done)
        | (simp; omega)
  case rest =>
    obtain ⟨bt, bm, bp, bd, bl, rfl, hM⟩ := hcut
    have hA : Apart w bq bt bm bp bd bl := ⟨hq.1, hM.base, hM.apart⟩
    have hS0 : St w wc bq n bt bm bp bd bl pn 0 (fun _ => 0) (fun j => decide (j < 0)) := ⟨hM.tree, hM.lt, hM.idx, hM.par, hM.dep, hM.leaf.congr (fun _ _ => by simp), hq.below hM.below hq.1, hM.below⟩
    have HP := hide hP
    have HPN := hide hpn
    clear hmk hmb hmm hM hq hP hpn
    go_wp2
    go_loopw [30] (fun i wr => ∃ k : Nat, k ≤ n ∧ i = .int .i64 k ∧ St w wr bq n bt bm bp bd bl pn k (fun _ => 0) (fun j => decide (j < k))) (fun i _ => n - (intOf i).toNat)
    case atStart => exact ⟨0, by omega, rfl, hS0⟩
    case round =>
      clear hS0
      obtain ⟨k, hk, rfl, hS⟩ := hrel
      by_cases hlt : k < n
      · obtain ⟨x0, x1, x2, x3, x4, x5, x6, x7, x8⟩ := qcells hS.q hlt
        obtain ⟨c0, c1, c2, c3, c4⟩ := hS.tree
        have hbt := hS.lt
        have hbl := hS.leaf.1
        have l1 := hS.leaf.cell k hlt
        have l2 := hS.leaf.frz k hlt
        have hq0 := qn_nonempty k
        have hmiss : ∀ W, Idx W bm k → (Instr.lookup 50 (.map (some bm)) (.string (Nm.qn k)) true).run Ybaf.prog W = .ok (.tuple #[.int .i64 0, .bool false]) W := fun W h => h.miss _ (by have := Nm.qn_size k; unfold maxLen; omega) (fun i hi e => by have := Nm.qn_inj k i (by omega) (by omega) e; omega)
        have hF1 : F.answers wr.tape := by rw [hS.below.tape]; exact hF
        obtain ⟨tx, htx⟩ := sp_int F ((wr.alloc (.cells #[.string (Nm.qn k), .string (pn k), .map none, .map none, .pointer none, .pointer none, .pointer none, .pointer none, .pointer none] 34)).alloc (.cells #[.iface 3 (.int .i64 k)] 20)).drew hF1 (wr.heap.size + 1) k ((World.cell?_alloc_at _ _ _ _ (by simp)).trans rfl)
        unfold fName at htx
        have HS := hide hS
        have HM := hide hmiss
        clear hS hmiss hF1
        go_wp2
        go_region_held3 (fun w' => w'.cell? ⟨bt, 1, none⟩ = some (.map (some bm)) ∧ w'.cell? ⟨wr.heap.size, 0, none⟩ = some (.string (Nm.qn k))) (go_keep) ((go_at_call 7; refine (check_ok _ _ _ _ _ hq0 ?_).mono ?_; (exact (HM.out _ ((HS.out.idx.alloc _).alloc _).drew.drew)); (rintro e w' ⟨rfl, rfl⟩)))
        obtain ⟨w2, hput, hI2, hg2⟩ := Idx.put (((HS.out.idx.alloc (.cells #[.string (Nm.qn k), .string (pn k), .map none, .map none, .pointer none, .pointer none, .pointer none, .pointer none, .pointer none] 34)).alloc (.cells #[.iface 3 (.int .i64 k)] 20)).drew.drew.drew) (by omega)
        have HS2 := hide (HS.out.put hA hg2 hI2)
        have HI2 := hide hI2
        have d4 := HS2.out.tree.c4
        have d1 := HS2.out.tree.c1
        have d0 : w2.cell? ⟨wr.heap.size, 0, none⟩ = some (.string (Nm.qn k)) := new_kept hg2 (by have := HS.out.idx.lt; omega)
        have d5 := HS2.out.leaf.cell k hlt
        have d6 := HS2.out.leaf.frz k hlt
        clear hI2 hg2
        go_wp2
        go_region_held3 (fun w' => w'.cell? ⟨bt, 1, none⟩ = some (.map (some bm)) ∧ w'.cell? ⟨wr.heap.size, 0, none⟩ = some (.string (Nm.qn k))) (go_keep) (fail)
        go_wp2
        go_roundw
        case rel => exact ⟨k + 1, by omega, by go_num, HS2.out.leafSet hA hlt true (fun j hj => by
          by_cases e : j = k
          · subst e; simp
          · rw [if_neg e]
            by_cases e2 : j < k
            · simp [e2, show j < k + 1 by omega]
            · simp [e2, show ¬ j < k + 1 by omega])⟩
        case measure => simp [intOf]; omega
      · obtain rfl : k = n := by omega
        clear hlt hk
        have hS1 : St w wr bq k bt bm bp bd bl pn k (pf P 0) (lf P 0) := hS.congr (fun j _ => by simp [pf]) (fun j hj => by simp [lf, hj])
        clear hS
        go_wp2
        go_loopw [9, 65] (fun r i wr => ∃ m : Nat, m ≤ k ∧ i = .int .i64 m ∧ r = .int .i64 (if m = 0 then -1 else 0) ∧ St w wr bq k bt bm bp bd bl pn k (pf P m) (lf P m)) (fun _ i _ => k - (intOf i).toNat)
        case atStart => exact ⟨0, by omega, rfl, rfl, hS1⟩
        case round =>
          clear hS1
          obtain ⟨m, hm, rfl, rfl, hS⟩ := hrel
          by_cases hlt : m < k
          · obtain ⟨x0, x1, x2, x3, x4, x5, x6, x7, x8⟩ := qcells hS.q hlt
            obtain ⟨c0, c1, c2, c3, c4⟩ := hS.tree
            have hbt := hS.lt
            have hbl := hS.leaf.1
            have hbp := hS.par.1
            have p1 := hS.par.cell m hlt
            have p2 := hS.par.frz m hlt
            by_cases h0 : m = 0
            · subst h0
              rw [hp0] at x1
              have HS := hide hS
              clear hS
              simp only [if_true]
              go_wp2
              go_roundw
              case rel => exact ⟨1, by omega, rfl, rfl, ((HS.out.parSet hA hlt (-1) (pf_step P 0 (-1) (by simp))).congr (fun _ _ => rfl) (fun j _ => by simp [lf])).alloc _⟩
              case measure => simp [intOf]; omega
            · have hPm := HP.out m (by omega) hlt
              rw [HPN.out m (by omega) hlt] at x1
              have hq0 := qn_nonempty (P m)
              have l2 := hS.leaf.frz (P m) (by omega)
              obtain ⟨lv, l1⟩ : ∃ lv, wr.cell? ⟨bl, P m, none⟩ = some (.bool lv) := ⟨_, hS.leaf.cell (P m) (by omega)⟩
              have hlk := Idx.hit ((hS.idx.alloc (.cells #[.string (Nm.qn m), .string (Nm.qn (P m)), .map none, .map none, .pointer none, .pointer none, .pointer none, .pointer none, .pointer none] 34)).drew) (P m) (by omega) (by omega)
              have HS := hide hS
              clear hS
              simp only [h0, if_false]
              have hap := hA.apart
              have e1 := fun (o : Nat) (v : Value) => far_cell o v l1 (show bp ≠ bl from hap.2.2.2.2.2.2.2.2.1)
              go_wp2
              go_region_held3 (fun w' => w'.cell? ⟨bt, 1, none⟩ = some (.map (some bm)) ∧ w'.cell? ⟨wr.heap.size, 1, none⟩ = some (.string (Nm.qn (P m)))) (go_keep) (fail)
              go_wp2
              go_roundw
              case rel => exact ⟨m + 1, by omega, by go_num, by simp, (((HS.out.parSet hA hlt (P m : Int) (pf_step P m _ (by simp [h0]))).leafSet hA (i := P m) (by omega) false (lf_step P m (by omega))).alloc _).drew⟩
              case measure => simp [intOf]; omega
          · obtain rfl : m = k := by omega
            have hap := hA.apart
            have hPar : Par (pf P m) m := ⟨by simp [pf, hn0], fun j h1 h2 => ⟨P j, by simp [pf, h2]; omega, HP.out j h1 h2⟩⟩
            have HS := hide hS
            clear hS
            simp only [show ¬ m = 0 by omega, if_false]
            go_wp2_with (go_at_call 9; go_must (refine (depths_any _ bt bq bm bp bd bl m HS.out.tree hn0 hn _ hPar HS.out.par HS.out.dep HS.out.lt (Ne.symm hap.2.2.1) (Ne.symm hap.2.2.2.2.2.2.2.1)).mono ?_); rintro e w' ⟨rfl, hg⟩)
            go_ret2
            refine ⟨bt, bm, bp, bd, bl, rfl, HS.out.tree.grown HS.out.lt hg (by simp; omega), Idx.grown HS.out.idx hg (by simp; omega), HS.out.leaf.grown hg (by simp; omega), HS.out.below.grown hg HS.out.below.size (fun j hj => by cases hj; exact hA.base.2.2.2.1)⟩
end Go.Proofs.YbulkexnbeFmt
