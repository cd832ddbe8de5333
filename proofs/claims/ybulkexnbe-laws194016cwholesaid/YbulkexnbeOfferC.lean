import Derived.Test.YbulkexnbeOfferB
import Derived.Deep.RegionWith
namespace Go.Proofs.Ybulkexnbe
open Go.RowKit Go.Lib
set_option linter.unusedVariables false

set_option maxRecDepth 100000 in
set_option maxHeartbeats 4000000 in
/-- full, and the item comes before the last -/
theorem offer_in (w : World) (N K B k : Nat) (desc : Bool) (v : Value) (l : List Int) (x : Int) (h : KeepAt w N K B k desc v l) (hl : l.length = k) (hx : cf desc x (l.getD (k - 1) 0) < 0) :
    Calls Yba.prog 13 #[.pointer (some ⟨K, 0, none⟩), .int .i64 x] w fun e w' => e = .returned (.tuple #[]) ∧ ∃ v', KeepAt w' N K B k desc v' (offered desc k l x) ∧ Off w w' K v := by
  have hpos := h.pos
  rcases h.items.open with ⟨rfl, rfl⟩ | ⟨g, cap, cur, rfl, hg, hh, hlc, hm, hs, hc⟩
  · simp at hl
    omega
  have HF : Hid (offered desc k l x = (ordIns desc x l).take k) := offered_in hpos hx
  have hsm := h.small
  have hlk := h.lt
  obtain ⟨q, rfl⟩ : ∃ q, k = q + 1 := ⟨k - 1, by omega⟩
  have HK := hide h
  have c0 : w.cell? ⟨K, 0, none⟩ = some (.int .i64 ((q : Int) + 1)) := by rw [h.c0]; rfl
  have c1 := h.c1
  have c2 : w.cell? ⟨K, 2, none⟩ = some (.slice (some ⟨g, 0, none⟩) (q + 1) cap) := by rw [h.c2, hl]
  have hcb := h.cb
  have hcell := hc q (by omega)
  rw [show q + 1 - 1 = q by omega] at hx
  obtain ⟨z, hz⟩ : ∃ z, l.getD q 0 = z := ⟨_, rfl⟩
  rw [hz] at hx hcell
  obtain ⟨c, hcc⟩ : ∃ c, cf desc x z = c := ⟨_, rfl⟩
  rw [hcc] at hx
  have HCC := hide hcc
  have eg := eg5
  have hk0 : ((q : Int) + 1 == 0) = false := by simp; omega
  have hw1 : IntKind.i64.wrap ((q : Int) + 1 - 1) = (q : Int) := by rw [show (q : Int) + 1 - 1 = (q : Int) by omega]; exact wrap_small q hsm
  have hw2 : IntKind.i64.wrap (q : Int) = (q : Int) := wrap_small q hsm
  have hb1 : (0 : Int) ≤ (q : Int) := by omega
  have hb2 : (q : Int) < ((q + 1 : Nat) : Int) := by omega
  have hb3 : (q : Int) < (q : Int) + 1 := by omega
  have HSr : Hid (∀ n, Calls Yba.prog 16 #[.slice (some ⟨g, 0, none⟩) (q + 1) cap, .int .i64 x, fv B] (w.drewN n) fun e w' => Found e (l.countP fun y => decide (cf desc y x < 0)) ∧ w' = w.drewN n) := fun n => by
    have := keep_search x h n
    rwa [hl] at this
  obtain ⟨i, hi⟩ : ∃ i, l.countP (fun y => decide (cf desc y x < 0)) = i := ⟨_, rfl⟩
  have hil : i ≤ l.length := by rw [← hi]; exact List.countP_le_length
  have HO : Hid (l.take i ++ x :: l.drop i = ordIns desc x l) := by show _ = _; rw [ordIns_at desc x l h.order, hi]
  have HLn : Hid ((l.take i ++ x :: l.drop i).length = q + 1 + 1) := by show _ = _; rw [ins_length l i x hil, hl]
  rw [hi] at HSr
  have HX : Hid (∀ n, Calls Yba.prog 17 #[.slice (some ⟨g, 0, none⟩) (q + 1) cap, .int .i64 i, .slice (some ⟨w.heap.size, 0, none⟩) 1 1] ((w.drewN n).alloc (.cells #[.int .i64 x] 3)) fun e w' =>
      ∃ v', e = .returned v' ∧ Items w' N v' (l.take i ++ x :: l.drop i) ∧ ((w.drewN n).alloc (.cells #[.int .i64 x] 3)).grownBy w' (Value.slice (some ⟨g, 0, none⟩) l.length cap).ownBlock) := fun n => by
    have := keep_insert x h n i hil
    rwa [hl] at this ⊢
  have HS : Hid (Calls Yba.prog 16 #[.slice (some ⟨g, 0, none⟩) (q + 1) cap, .int .i64 x, fv B] w.drew.drew fun e w' => Found e i ∧ w' = w.drew.drew) := HSr.out 2
  have HX2 : Hid (Calls Yba.prog 17 #[.slice (some ⟨g, 0, none⟩) (q + 1) cap, .int .i64 i, .slice (some ⟨w.heap.size, 0, none⟩) 1 1] (w.drew.drew.alloc (.cells #[.int .i64 x] 3)) fun e w' =>
      ∃ v', e = .returned v' ∧ Items w' N v' (l.take i ++ x :: l.drop i) ∧ ((w.drewN 2).alloc (.cells #[.int .i64 x] 3)).grownBy w' (Value.slice (some ⟨g, 0, none⟩) l.length cap).ownBlock) := HX.out 2
  have HKW : Hid (((w.drewN 2).alloc (.cells #[.int .i64 x] 3)).heap[K]? = some (.cells #[.int .i64 ((q + 1 : Nat) : Int), fv B, .slice (some ⟨g, 0, none⟩) l.length cap] 37 (0, 0))) := (Below.heap_alloc (w.drewN 2) _ K hlk).trans HK.out.blk
  have HgK : Hid ((some K : Option Nat) ≠ (Value.slice (some ⟨g, 0, none⟩) l.length cap).ownBlock) := fun e => own_ne HK.out.items HK.out.blk e.symm
  have HL := hide hl
  clear hcc hz h hh hc hs hl hlc hi
  go_enter Yba.func13, Yba.ntmps13
  go_wp2
  go_region_held3 (fun w' => w'.cell? ⟨K, 0, none⟩ = some (.int .i64 ((q : Int) + 1)) ∧ w'.cell? ⟨K, 1, none⟩ = some (fv B) ∧ w'.cell? ⟨K, 2, none⟩ = some (.slice (some ⟨g, 0, none⟩) (q + 1) cap) ∧ w'.cell? ⟨g, q, none⟩ = some (.int .i64 z)) (go_keep)
    ((first | (go_at_call 5; go_must (refine (cmpf_is _ _ B desc _ (by first | exact hcb | simpa using hcb)).mono ?_); rw [HCC.out]; rintro e w1 ⟨rfl, rfl⟩)))
  go_wp2
  have d1 : w.drew.cell? ⟨K, 1, none⟩ = some (fv B) := c1
  have d2 : w.drew.cell? ⟨K, 2, none⟩ = some (.slice (some ⟨g, 0, none⟩) (q + 1) cap) := c2
  go_region_held3 (fun w' => w'.cell? ⟨K, 1, none⟩ = some (fv B) ∧ w'.cell? ⟨K, 2, none⟩ = some (.slice (some ⟨g, 0, none⟩) (q + 1) cap)) (go_keep)
    ((first | (go_at_call 16; go_must (refine HS.out.mono ?_); rintro e w1 ⟨⟨f, rfl⟩, rfl⟩)))
  go_wp2_with (first | (go_at_call 17; go_must (refine HX2.out.mono ?_); rintro e w2 ⟨v2, rfl, hI, hG⟩; obtain ⟨g2, cap2, rfl, hlc2, hm2, e0, e2, ef, hb2, hl2⟩ := after_ins hI HLn.out hG HKW.out HgK.out; have HI2 := hide hI; have HG := hide hG; have HB2 := hide hb2; clear hI hG hb2))
  obtain ⟨w3, hw3⟩ : ∃ w3, w2.setCell ⟨K, 2, none⟩ (.slice (some ⟨g2, 0, none⟩) (q + 1 + 1) cap2) = w3 := ⟨_, rfl⟩
  have HB3 : Hid (w3.heap[K]? = some (.cells #[.int .i64 ((q + 1 : Nat) : Int), fv B, .slice (some ⟨g2, 0, none⟩) (q + 1 + 1) cap2] 37 (0, 0))) := by rw [← hw3]; exact set2_block HB2.out _
  have a0 : w3.cell? ⟨K, 0, none⟩ = some (.int .i64 ((q : Int) + 1)) := by simp [World.cell?, HB3.out]
  have a2 : w3.cell? ⟨K, 2, none⟩ = some (.slice (some ⟨g2, 0, none⟩) (q + 1 + 1) cap2) := by simp [World.cell?, HB3.out]
  have a3 : w3.frozen? ⟨K, 2, none⟩ = false := by simp [World.frozen?, HB3.out]
  have HW3 := hide hw3
  rw [hw3]
  clear hw3 e0 e2 ef c0 c1 c2 hcb hcell d1 d2 eg
  have m1 : min ((q : Int) + 1 + 1) ((q : Int) + 1) = (q : Int) + 1 := by omega
  have m2 : (0 : Int) ≤ (q : Int) + 1 := by omega
  have m3 : (q : Int) + 1 ≤ (cap2 : Int) := by omega
  have m4 : ((q : Int) + 1).toNat = q + 1 := by omega
  have HE := hide (offer_end (E := (w3.setCell ⟨K, 2, none⟩ (.slice (some ⟨g2, 0, none⟩) (q + 1) cap2)).drew) (m := q + 1) (n := 2) (L := l.take i ++ x :: l.drop i) (w2 := w2) (g2 := g2) (cap2 := cap2) HK.out (by rw [HLn.out]; exact HI2.out) HG.out (by rw [HLn.out]; omega) HO.out (by rw [← HW3.out]; rfl) (by rw [← HW3.out]; rfl) (by rw [← HW3.out]; rfl) (by rw [← HW3.out]; simp [World.setCell, World.drew])
    (fun b hb => by rw [← HW3.out]; exact (Below.heap_setCell _ _ _ b hb).trans (Below.heap_setCell _ _ _ b hb)) (set2_block HB3.out _) HF.out)
  refine wp_region_noPanic ?_
  go_region_with (fail)
  all_goals (try refine NoPanic.normal ?_)
  all_goals go_wp2
  all_goals (
    go_end0
    exact ⟨rfl, HE.out⟩)

theorem Off.of_below {w w' : World} {K : Nat} {v : Value} (h : Below w.heap.size w w') : Off w w' K v := ⟨h.os, h.tape, h.output, h.size, fun b hb _ _ => h.block b hb⟩

/-- what offer does -/
theorem offer_is (w : World) (N K B k : Nat) (desc : Bool) (v : Value) (l : List Int) (x : Int) (h : KeepAt w N K B k desc v l) :
    Calls Yba.prog 13 #[.pointer (some ⟨K, 0, none⟩), .int .i64 x] w fun e w' => e = .returned (.tuple #[]) ∧ ∃ v', KeepAt w' N K B k desc v' (offered desc k l x) ∧ Off w w' K v := by
  by_cases hl : l.length = k
  · by_cases hx : cf desc x (l.getD (k - 1) 0) < 0
    · exact offer_in w N K B k desc v l x h hl hx
    · refine (offer_full w N K B k desc v l x h hl (by omega)).mono ?_
      rintro e w' ⟨rfl, hb⟩
      refine ⟨rfl, v, ?_, Off.of_below hb⟩
      rw [offered_full hl (by omega)]
      have h1 := h.lt
      have h2 := h.base
      have h3 := h.bx
      refine ⟨(hb.block K h1).trans h.blk, (hb.cell (p := ⟨B, 0, none⟩) (by show B < _; omega)).trans h.cb, ?_, h.base, h.bx, h.order, h.short, h.pos, h.small⟩
      exact World.ownsRow.kept h.items (w' := w') (row := none) ⟨hb.os, hb.tape, hb.output, hb.size, fun q hq _ => hb.block q hq⟩ (by
        rcases h.items.open with ⟨rfl, _⟩ | ⟨g, cap, cur, rfl, _⟩
        · exact .inl rfl
        · exact .inr (fun e => by cases e))
  · obtain ⟨a, cap, rfl, _⟩ := h.items.shape
    exact offer_short w N K B k cap a desc l x h (by have := h.short; omega)
end Go.Proofs.Ybulkexnbe
