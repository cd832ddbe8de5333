import Derived.Test.YbulkexnbeInsert
import Derived.Deep.RegionHeld3
import Derived.Deep.Cut
namespace Go.Proofs.Ybulkexnbe
open Go.RowKit Go.Lib
set_option linter.unusedVariables false

/-- the keep at block K, its items the list l in order, no more than k of them -/
structure KeepAt (w : World) (N K B k : Nat) (desc : Bool) (v : Value) (l : List Int) : Prop where
  blk : w.heap[K]? = some (.cells #[.int .i64 k, fv B, v] 37 (0, 0))
  cb : w.cell? ⟨B, 0, none⟩ = some (.bool desc)
  items : Items w N v l
  base : N ≤ K
  bx : B < N
  order : l.Pairwise (Le desc)
  short : l.length ≤ k
  pos : 1 ≤ k
  small : k ≤ 512

theorem KeepAt.c0 {w : World} {N K B k : Nat} {desc : Bool} {v : Value} {l : List Int} (h : KeepAt w N K B k desc v l) : w.cell? ⟨K, 0, none⟩ = some (.int .i64 k) := by simp [World.cell?, h.blk]
theorem KeepAt.c1 {w : World} {N K B k : Nat} {desc : Bool} {v : Value} {l : List Int} (h : KeepAt w N K B k desc v l) : w.cell? ⟨K, 1, none⟩ = some (fv B) := by simp [World.cell?, h.blk]
theorem KeepAt.c2 {w : World} {N K B k : Nat} {desc : Bool} {v : Value} {l : List Int} (h : KeepAt w N K B k desc v l) : w.cell? ⟨K, 2, none⟩ = some v := by simp [World.cell?, h.blk]
theorem KeepAt.f2 {w : World} {N K B k : Nat} {desc : Bool} {v : Value} {l : List Int} (h : KeepAt w N K B k desc v l) : w.frozen? ⟨K, 2, none⟩ = false := by simp [World.frozen?, h.blk]
theorem KeepAt.lt {w : World} {N K B k : Nat} {desc : Bool} {v : Value} {l : List Int} (h : KeepAt w N K B k desc v l) : K < w.heap.size := (Array.getElem?_eq_some_iff.1 h.blk).1
/-- a row of numbers lies in another block than a struct -/
theorem own_ne {w : World} {N K : Nat} {v : Value} {l : List Int} {arr : Array Value} {fz : Nat × Nat} (h : Items w N v l) (hK : w.heap[K]? = some (.cells arr 37 fz)) : v.ownBlock ≠ some K := by
  rcases h.open with ⟨rfl, _⟩ | ⟨g, cap, cur, rfl, _, hh, _⟩
  · intro e; cases e
  · intro e
    have e' : g = K := by simpa [Value.ownBlock] using e
    rw [e', hK] at hh
    simp at hh

theorem offered_full {desc : Bool} {k : Nat} {l : List Int} {x : Int} (h : l.length = k) (h2 : 0 ≤ cf desc x (l.getD (k - 1) 0)) : offered desc k l x = l := if_pos ⟨h, .inr h2⟩
theorem offered_room {desc : Bool} {k : Nat} {l : List Int} {x : Int} (h : l.length ≠ k) : offered desc k l x = (ordIns desc x l).take k := if_neg (fun e => h e.1)
theorem offered_in {desc : Bool} {k : Nat} {l : List Int} {x : Int} (hk : 1 ≤ k) (h2 : cf desc x (l.getD (k - 1) 0) < 0) : offered desc k l x = (ordIns desc x l).take k := if_neg (fun e => by rcases e.2 with e | e <;> omega)

theorem wrap_small (q : Nat) (h : q + 1 ≤ 512) : IntKind.i64.wrap (q : Int) = (q : Int) := by
  rw [IntKind.wrap_i64]
  omega

set_option maxRecDepth 100000 in
set_option maxHeartbeats 2000000 in
/-- full, and the item comes before none -/
theorem offer_full (w : World) (N K B k : Nat) (desc : Bool) (v : Value) (l : List Int) (x : Int) (h : KeepAt w N K B k desc v l) (hl : l.length = k) (hx : 0 ≤ cf desc x (l.getD (k - 1) 0)) :
    Calls Yba.prog 13 #[.pointer (some ⟨K, 0, none⟩), .int .i64 x] w fun e w' => e = .returned (.tuple #[]) ∧ Below w.heap.size w w' := by
  rcases h.items.open with ⟨rfl, rfl⟩ | ⟨g, cap, cur, rfl, hg, hh, hlc, hm, hs, hc⟩
  · have := h.pos
    simp at hl
    omega
  have hpos := h.pos
  have hsm := h.small
  obtain ⟨q, rfl⟩ : ∃ q, k = q + 1 := ⟨k - 1, by omega⟩
  have c0 : w.cell? ⟨K, 0, none⟩ = some (.int .i64 ((q : Int) + 1)) := by rw [h.c0]; rfl
  have c1 := h.c1
  have c2 : w.cell? ⟨K, 2, none⟩ = some (.slice (some ⟨g, 0, none⟩) (q + 1) cap) := by rw [h.c2, hl]
  have hcb := h.cb
  have hcell := hc q (by omega)
  rw [show q + 1 - 1 = q by omega] at hx
  obtain ⟨z, hz⟩ : ∃ z, l.getD q 0 = z := ⟨_, rfl⟩
  rw [hz] at hx hcell
  obtain ⟨c, hcc⟩ : ∃ c, cf desc x z = c := ⟨_, rfl⟩
  rw [hcc] at hx
  have HCC := hide hcc
  have eg := eg5
  have hk0 : ((q : Int) + 1 == 0) = false := by simp; omega
  have hw1 : IntKind.i64.wrap ((q : Int) + 1 - 1) = (q : Int) := by rw [show (q : Int) + 1 - 1 = (q : Int) by omega]; exact wrap_small q hsm
  have hw2 : IntKind.i64.wrap (q : Int) = (q : Int) := wrap_small q hsm
  have hb1 : (0 : Int) ≤ (q : Int) := by omega
  have hb2 : (q : Int) < ((q + 1 : Nat) : Int) := by omega
  have hb3 : (q : Int) < (q : Int) + 1 := by omega
  clear hcc hz h hh hc hs hl hlc
  go_enter Yba.func13, Yba.ntmps13
  go_wp2
  go_region_held3 (fun w' => w'.cell? ⟨K, 0, none⟩ = some (.int .i64 ((q : Int) + 1)) ∧ w'.cell? ⟨K, 1, none⟩ = some (fv B) ∧ w'.cell? ⟨K, 2, none⟩ = some (.slice (some ⟨g, 0, none⟩) (q + 1) cap) ∧ w'.cell? ⟨g, q, none⟩ = some (.int .i64 z)) (go_keep)
    ((first | (go_at_call 5; go_must (refine (cmpf_is _ _ B desc _ (by first | exact hcb | simpa using hcb)).mono ?_); rw [HCC.out]; rintro e w1 ⟨rfl, rfl⟩)))
  go_wp2
  exact bodyPost_ret (results_none rfl _ _ _) rfl ⟨rfl, (Below.refl _ _).drew⟩

/-- two goals on the same walk: an item goes in: the list is short, or the item comes before its last -/
def Goes (desc : Bool) (k : Nat) (l : List Int) (x : Int) : Prop := l.length < k ∨ (l.length = k ∧ cf desc x (l.getD (k - 1) 0) < 0)
end Go.Proofs.Ybulkexnbe
