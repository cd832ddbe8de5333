import Derived.Test.YbulkexnbeFmtDepths
import Derived.Deep.DeepCutAuto
import Derived.Deep.DrawnRows
namespace Go.Proofs.YbulkexnbeFmt
open Go.RowKit Go.Maps Go.WideElems Go.WideMaps

theorem info4 : (Ybaf.prog.info? 4).map (fun i => (i.zero, i.size, i.bytes)) = some (some (.bool false), 1, 1) := by kernel_rfl
theorem make_map (n : Nat) (w : World) : (Instr.makeMap 50 (some (.int .i64 n))).run Ybaf.prog w = .ok (.map (some w.heap.size)) (w.alloc (.map #[] 0)) := by
  simp [Instr.makeMap, run_underlying Ybaf.underlying50, asInt, asIntOf]

/-- what NewTree has made, ahead of its loops: the tree, its empty index, its three rows, all new and apart -/
structure Made (w wc : World) (n bq bt bm bp bd bl : Nat) : Prop where
  tree : TreeAt wc bt bq bm bp bd bl n
  idx : Idx wc bm 0
  par : Row wc bp n (fun _ => .int .i64 0)
  dep : Row wc bd n (fun _ => .int .i64 0)
  leaf : Row wc bl n (fun _ => .bool false)
  below : Below w.heap.size w wc
  lt : bt < wc.heap.size
  base : w.heap.size ≤ bt ∧ w.heap.size ≤ bm ∧ w.heap.size ≤ bp ∧ w.heap.size ≤ bd ∧ w.heap.size ≤ bl
  apart : bt ≠ bm ∧ bt ≠ bp ∧ bt ≠ bd ∧ bt ≠ bl ∧ bm ≠ bp ∧ bm ≠ bd ∧ bm ≠ bl ∧ bp ≠ bd ∧ bp ≠ bl ∧ bd ≠ bl

theorem tree_of (w : World) (n bt bq bm bp bd bl : Nat) (hb : bt = w.heap.size) :
    TreeAt (w.alloc (.cells #[.slice (some ⟨bq, 0, none⟩) n n, .map (some bm), .slice (some ⟨bp, 0, none⟩) n n, .slice (some ⟨bd, 0, none⟩) n n, .slice (some ⟨bl, 0, none⟩) n n] 53)).drew bt bq bm bp bd bl n :=
  ⟨(World.cell?_alloc_at _ _ _ _ hb).trans rfl, (World.cell?_alloc_at _ _ _ _ hb).trans rfl, (World.cell?_alloc_at _ _ _ _ hb).trans rfl, (World.cell?_alloc_at _ _ _ _ hb).trans rfl, (World.cell?_alloc_at _ _ _ _ hb).trans rfl⟩

theorem Row.of_block {w : World} {b n : Nat} {c : Array Value} {t : TypeId} {f : Nat → Value} (h : w.heap[b]? = some (.cells c t)) (hc : ∀ k, k < n → c[k]? = some (f k)) : Row w b n f := by
  have hb : b < w.heap.size := (Array.getElem?_eq_some_iff.1 h).1
  refine ⟨hb, fun k hk => ⟨?_, ?_⟩⟩
  · simp [World.cell?, h, hc k hk]
  · simp [World.frozen?, h]

theorem Idx.of_block {w : World} {b : Nat} (h : w.heap[b]? = some (.map #[] 0)) : Idx w b 0 := by
  obtain ⟨es, clock, h1, F, h2, h3⟩ := World.ownsMap_made w Ybaf.prog 9 (plainElem (H := Unit) Ybaf.prog 3)
  have e : (w.alloc (.map #[] 0)).heap[w.heap.size]? = some (.map #[] 0) := by
    show (w.heap.push _)[w.heap.size]? = _
    simp
  rw [e] at h1
  cases h1
  exact ⟨_, _, h, F, h2, h3⟩

theorem chain4 (w : World) (a b c d t : Obj) :
    (((((w.alloc a).alloc b).alloc c).alloc d).alloc t).drew.heap[w.heap.size]? = some a ∧ (((((w.alloc a).alloc b).alloc c).alloc d).alloc t).drew.heap[w.heap.size + 1]? = some b ∧
    (((((w.alloc a).alloc b).alloc c).alloc d).alloc t).drew.heap[w.heap.size + 1 + 1]? = some c ∧ (((((w.alloc a).alloc b).alloc c).alloc d).alloc t).drew.heap[w.heap.size + 1 + 1 + 1]? = some d := by
  have e : (((((w.alloc a).alloc b).alloc c).alloc d).alloc t).drew.heap = ((((w.heap.push a).push b).push c).push d).push t := rfl
  rw [e]
  simp only [Array.getElem?_push, Array.size_push]
  refine ⟨?_, ?_, ?_, ?_⟩
  · rw [if_neg (by omega), if_neg (by omega), if_neg (by omega), if_neg (by omega), if_pos trivial]
  · rw [if_neg (by omega), if_neg (by omega), if_neg (by omega), if_pos trivial]
  · rw [if_neg (by omega), if_neg (by omega), if_pos trivial]
  · rw [if_neg (by omega), if_pos trivial]

theorem made_of {w W : World} {n bq bt bm bp bd bl : Nat} (hT : TreeAt W bt bq bm bp bd bl n) (h1 : W.heap[bm]? = some (.map #[] 0)) (h2 : W.heap[bp]? = some (.cells (madeCells #[.int .i64 0] n) 3))
    (h3 : W.heap[bd]? = some (.cells (madeCells #[.int .i64 0] n) 3)) (h4 : W.heap[bl]? = some (.cells (madeCells #[.bool false] n) 4)) (hb : Below w.heap.size w W) (hlt : bt < W.heap.size)
    (base : w.heap.size ≤ bt ∧ w.heap.size ≤ bm ∧ w.heap.size ≤ bp ∧ w.heap.size ≤ bd ∧ w.heap.size ≤ bl)
    (apart : bt ≠ bm ∧ bt ≠ bp ∧ bt ≠ bd ∧ bt ≠ bl ∧ bm ≠ bp ∧ bm ≠ bd ∧ bm ≠ bl ∧ bp ≠ bd ∧ bp ≠ bl ∧ bd ≠ bl) : Made w W n bq bt bm bp bd bl :=
  ⟨hT, Idx.of_block h1, Row.of_block h2 (fun k hk => made1 _ n k hk), Row.of_block h3 (fun k hk => made1 _ n k hk), Row.of_block h4 (fun k hk => made1 _ n k hk), hb, hlt, base, apart⟩

theorem below5 (w : World) (a b c d t : Obj) : Below w.heap.size w (((((w.alloc a).alloc b).alloc c).alloc d).alloc t).drew :=
  ((((((Below.refl _ _).alloc (Nat.le_refl _) _).alloc (by simp) _).alloc (by simp; omega) _).alloc (by simp; omega) _).alloc (by simp; omega) _).drew

/-- the cells of the list of queues: names, parents' names, and nothing else -/
def Qc (pn : Nat → ByteArray) (k : Nat) : Value :=
  if k % 9 = 0 then .string (Nm.qn (k / 9)) else if k % 9 = 1 then .string (pn (k / 9)) else if k % 9 = 2 then .map none else if k % 9 = 3 then .map none else .pointer none

set_option maxHeartbeats 400000 in
/-- checkName at a name that is neither empty nor there -/
theorem check_ok (path s kind : ByteArray) (bm : Nat) (w : World) (hs : s.toList.isEmpty = false)
    (hlk : (Instr.lookup 50 (.map (some bm)) (.string s) true).run Ybaf.prog w = .ok (.tuple #[.int .i64 0, .bool false]) w) :
    Calls Ybaf.prog 7 #[.string path, .string s, .map (some bm), .string kind] w fun e w' => e = .returned .nilIface ∧ w' = w := by
  go_enter Ybaf.func7, Ybaf.ntmps7
  go_wp2
  go_ret
  exact ⟨rfl, rfl⟩

end Go.Proofs.YbulkexnbeFmt
