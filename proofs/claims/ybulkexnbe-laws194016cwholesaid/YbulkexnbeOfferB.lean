import Derived.Test.YbulkexnbeOfferA
import Derived.BigQuiet
import Derived.Deep.QuietTactic
namespace Go.Proofs.Ybulkexnbe
open Go.RowKit Go.Lib
set_option linter.unusedVariables false

theorem Items.drew {w : World} {N : Nat} {v : Value} {l : List Int} (h : Items w N v l) : Items w.drew N v l := h
theorem Items.alloc {w : World} {N : Nat} {v : Value} {l : List Int} (h : Items w N v l) (o : Obj) : Items (w.alloc o) N v l := World.ownsRow.alloc h o
theorem Items.cut {w : World} {N g n cap : Nat} {l : List Int} (h : Items w N (.slice (some ⟨g, 0, none⟩) n cap) l) (hn : n = l.length) (m : Nat) (hm : m ≤ l.length) : Items w N (.slice (some ⟨g, 0, none⟩) m cap) (l.take m) := by
  subst hn
  rcases h.open with ⟨h, _⟩ | ⟨g', cap', cur, e, hg, hh, hlc, hmx, hs, hc⟩
  · cases h
  · cases e
    have hlen : (l.take m).length = m := by simp; omega
    have := items_of (l := l.take m) hh hg (by omega) hmx hs (fun j hj => by
      rw [hlen] at hj
      rw [hc j (by omega)]
      simp [List.getD_eq_getElem?_getD, hj])
    rwa [hlen] at this

/-- a slice that heads a row: its first none -/
theorem Items.nothing {w : World} {N n cap : Nat} {a : Option Addr} {l : List Int} (h : Items w N (.slice a n cap) l) : Items w N (.slice a 0 cap) [] := by
  rcases h.open with ⟨e, rfl⟩ | ⟨g, cap', cur, e, hg, hh, hlc, hm, hs, hc⟩
  · cases e
    exact h
  · cases e
    exact Items.cut h rfl 0 (by omega)

theorem Items.shape {w : World} {N : Nat} {v : Value} {l : List Int} (h : Items w N v l) : ∃ a cap, v = .slice a l.length cap ∧ l.length ≤ cap ∧ cap ≤ maxLen ∧ (a = Option.none ∨ ∃ g, a = some ⟨g, 0, Option.none⟩) := by
  rcases h.open with ⟨rfl, rfl⟩ | ⟨g, cap', cur, rfl, hg, hh, hlc, hm, hs, hc⟩
  · exact ⟨_, _, rfl, by simp, by simp, .inl rfl⟩
  · exact ⟨_, _, rfl, hlc, hm, .inr ⟨g, rfl⟩⟩

/-- what stands behind offer: all blocks but the keep's and its items' as they were -/
structure Off (w w' : World) (K : Nat) (v : Value) : Prop where
  os : w'.os = w.os
  tape : w'.tape = w.tape
  output : w'.output = w.output
  size : w.heap.size ≤ w'.heap.size
  kept : ∀ b, b < w.heap.size → b ≠ K → some b ≠ v.ownBlock → w'.heap[b]? = w.heap[b]?

theorem set2_block {w : World} {K : Nat} {a b c : Value} (h : w.heap[K]? = some (.cells #[a, b, c] 37 (0, 0))) (v : Value) : (w.setCell ⟨K, 2, none⟩ v).heap[K]? = some (.cells #[a, b, v] 37 (0, 0)) := by
  rw [setCell_block h]; rfl
theorem Items.set_far {w : World} {N K : Nat} {v : Value} {l : List Int} (h : Items w N v l) (hK : v.ownBlock ≠ some K) (x : Value) : Items (w.setCell ⟨K, 2, none⟩ x) N v l :=
  World.ownsRow.kept h (w' := w.setCell ⟨K, 2, none⟩ x) (row := some K) ⟨rfl, rfl, rfl, by simp [World.setCell], fun q _ hq => Below.heap_setCell w _ x q (fun e => hq (by rw [e]))⟩ (.inr hK)

/-- what the walk wants of the world behind Insert -/
theorem after_ins {W w2 : World} {N K B k n : Nat} {v v2 : Value} {L : List Int} {row : Option Nat} (hI : Items w2 N v2 L) (hL : L.length = n + 1) (hG : W.grownBy w2 row) (hK : W.heap[K]? = some (.cells #[.int .i64 k, fv B, v] 37 (0, 0))) (hr : some K ≠ row) :
    ∃ g2 cap2, v2 = .slice (some ⟨g2, 0, none⟩) (n + 1) cap2 ∧ n + 1 ≤ cap2 ∧ cap2 ≤ maxLen ∧ w2.cell? ⟨K, 0, none⟩ = some (.int .i64 k) ∧ w2.cell? ⟨K, 2, none⟩ = some v ∧ w2.frozen? ⟨K, 2, none⟩ = false ∧ w2.heap[K]? = some (.cells #[.int .i64 k, fv B, v] 37 (0, 0)) ∧ K < w2.heap.size := by
  have hlt := (Array.getElem?_eq_some_iff.1 hK).1
  have hb : w2.heap[K]? = some (.cells #[.int .i64 k, fv B, v] 37 (0, 0)) := (hG.block K hlt hr).trans hK
  rcases hI.open with ⟨_, rfl⟩ | ⟨g2, cap2, cur, rfl, _, _, hlc, hm, _⟩
  · simp at hL
  · exact ⟨g2, cap2, by rw [hL], by omega, hm, by simp [World.cell?, hb], by simp [World.cell?, hb], by simp [World.frozen?, hb], hb, (Array.getElem?_eq_some_iff.1 hb).1⟩

/-- the search over the keep's items, in a world that has drawn -/
theorem keep_search {w : World} {N K B k cap : Nat} {a : Option Addr} {desc : Bool} {l : List Int} (x : Int) (h : KeepAt w N K B k desc (.slice a l.length cap) l) (n : Nat) :
    Calls Yba.prog 16 #[.slice a l.length cap, .int .i64 x, fv B] (w.drewN n) fun e w' => Found e (l.countP fun y => decide (cf desc y x < 0)) ∧ w' = w.drewN n := by
  have hsm := h.small
  have hsh := h.short
  rcases h.items.open with ⟨e, rfl⟩ | ⟨g', cap', cur, e, hg, hh, hlc, hm, hs, hc⟩
  · exact search_empty a cap B x (w.drewN n)
  · cases e
    exact search_is g' 0 cap B l x desc (w.drewN n) (by omega) h.order h.cb (fun j hj => by rw [Nat.zero_add]; exact hc j hj)

/-- the insertion, in a world that has drawn and laid the item -/
theorem keep_insert {w : World} {N K B k cap : Nat} {a : Option Addr} {desc : Bool} {l : List Int} (x : Int) (h : KeepAt w N K B k desc (.slice a l.length cap) l) (n i : Nat) (hi : i ≤ l.length) :
    Calls Yba.prog 17 #[.slice a l.length cap, .int .i64 i, .slice (some ⟨w.heap.size, 0, none⟩) 1 1] ((w.drewN n).alloc (.cells #[.int .i64 x] 3)) fun e w' =>
      ∃ v', e = .returned v' ∧ Items w' N v' (l.take i ++ x :: l.drop i) ∧ ((w.drewN n).alloc (.cells #[.int .i64 x] 3)).grownBy w' (Value.slice a l.length cap).ownBlock := by
  have hsm := h.small
  have hsh := h.short
  have hb := h.base
  have hlk := h.lt
  refine ins_is _ N _ l i w.heap.size x (Items.alloc (w := w.drewN n) h.items _) (by simp; omega) hi (by omega) (by show (w.heap.push _)[w.heap.size]? = _; simp) fun e => ?_
  rcases h.items.open with ⟨e1, _⟩ | ⟨g', cap', cur, e1, hg, hh, _⟩
  · rw [e1] at e; cases e
  · have h1 := (Array.getElem?_eq_some_iff.1 hh).1
    rw [e1] at e
    have : g' = w.heap.size := by simpa [Value.ownBlock] using e
    omega

/-- what offer leaves -/
theorem offer_end {w w2 E : World} {N K B k m n cap2 g2 : Nat} {desc : Bool} {a : Option Addr} {cap : Nat} {l L : List Int} {x : Int} (h : KeepAt w N K B k desc (.slice a l.length cap) l)
    (hI : Items w2 N (.slice (some ⟨g2, 0, none⟩) L.length cap2) L) (hG : ((w.drewN n).alloc (.cells #[.int .i64 x] 3)).grownBy w2 (Value.slice a l.length cap).ownBlock) (hm : m = min L.length k) (hL : L = ordIns desc x l)
    (hos : E.os = w2.os) (htp : E.tape = w2.tape) (hou : E.output = w2.output) (hsz : E.heap.size = w2.heap.size) (hE : ∀ b, b ≠ K → E.heap[b]? = w2.heap[b]?)
    (hK : E.heap[K]? = some (.cells #[.int .i64 k, fv B, .slice (some ⟨g2, 0, none⟩) m cap2] 37 (0, 0))) (ho : offered desc k l x = (ordIns desc x l).take k) :
    ∃ v', KeepAt E N K B k desc v' (offered desc k l x) ∧ Off w E K (.slice a l.length cap) := by
  have hbx := h.bx
  have hbs := h.base
  have hlk := h.lt
  have hAll : ∀ b, b < w.heap.size → some b ≠ (Value.slice a l.length cap).ownBlock → w2.heap[b]? = w.heap[b]? := fun b hb hr =>
    (hG.block b (by simp; omega) hr).trans (Below.heap_alloc (w.drewN n) _ b hb)
  have hrow : ∀ b, b < N → some b ≠ (Value.slice a l.length cap).ownBlock := fun b hb e => by
    rcases h.items.open with ⟨e1, _⟩ | ⟨g', cap', cur, e1, hg, hh, _⟩
    · rw [e1] at e; cases e
    · rw [e1] at e
      have e' : b = g' := by simpa [Value.ownBlock] using e
      omega
  have hKr : some K ≠ (Value.slice a l.length cap).ownBlock := fun e => own_ne h.items h.blk e.symm
  have hoff : Off w E K (.slice a l.length cap) := by
    have hs2 := hG.size
    simp at hs2
    have hs3 : (w.drewN n).heap.size = w.heap.size := rfl
    exact ⟨hos.trans hG.os, htp.trans hG.tape, hou.trans hG.output, by omega, fun b hb hbK hr => (hE b hbK).trans (hAll b hb hr)⟩
  have hgK : g2 ≠ K := by
    intro e
    have hb : w2.heap[K]? = some (.cells #[.int .i64 k, fv B, .slice a l.length cap] 37 (0, 0)) := (hAll K hlk hKr).trans h.blk
    exact own_ne hI hb (by rw [e]; rfl)
  have hI2 : Items E N (.slice (some ⟨g2, 0, none⟩) L.length cap2) L :=
    World.ownsRow.kept hI (w' := E) (row := some K) ⟨hos, htp, hou, by omega, fun q _ hq => hE q (fun e => hq (by rw [e]))⟩ (.inr (fun e => hgK (by simpa [Value.ownBlock] using e)))
  have hI3 := Items.cut hI2 rfl m (by omega)
  have hT : L.take m = offered desc k l x := by
    rw [ho, hL, hm, hL]
    by_cases e : (ordIns desc x l).length ≤ k
    · rw [Nat.min_eq_left e, List.take_length, List.take_of_length_le e]
    · rw [Nat.min_eq_right (by omega)]
  rw [hT] at hI3
  refine ⟨_, ⟨hK, ?_, hI3, h.base, h.bx, ?_, ?_, h.pos, h.small⟩, hoff⟩
  · exact (World.cell?_of_block ((hE B (by omega)).trans (hAll B (by omega) (hrow B (by omega))))).trans h.cb
  · rw [ho]; exact take_pairwise (ordIns_sorted desc x l h.order) k
  · rw [ho, List.length_take]; omega

set_option maxRecDepth 100000 in
set_option maxHeartbeats 4000000 in
/-- the list is short -/
theorem offer_short (w : World) (N K B k cap : Nat) (a : Option Addr) (desc : Bool) (l : List Int) (x : Int) (h : KeepAt w N K B k desc (.slice a l.length cap) l) (hl : l.length < k) :
    Calls Yba.prog 13 #[.pointer (some ⟨K, 0, none⟩), .int .i64 x] w fun e w' => e = .returned (.tuple #[]) ∧ ∃ v', KeepAt w' N K B k desc v' (offered desc k l x) ∧ Off w w' K (.slice a l.length cap) := by
  have c0 := h.c0
  have c1 := h.c1
  have c2 := h.c2
  have hsm := h.small
  have hlk := h.lt
  have HK := hide h
  have HSr : Hid (∀ n, Calls Yba.prog 16 #[.slice a l.length cap, .int .i64 x, fv B] (w.drewN n) fun e w' => Found e (l.countP fun y => decide (cf desc y x < 0)) ∧ w' = w.drewN n) := fun n => keep_search x h n
  obtain ⟨i, hi⟩ : ∃ i, l.countP (fun y => decide (cf desc y x < 0)) = i := ⟨_, rfl⟩
  have hil : i ≤ l.length := by rw [← hi]; exact List.countP_le_length
  have HO : Hid (l.take i ++ x :: l.drop i = ordIns desc x l) := by show _ = _; rw [ordIns_at desc x l h.order, hi]
  have HF : Hid (offered desc k l x = (ordIns desc x l).take k) := offered_room (by omega)
  rw [hi] at HSr
  have hk0 : ((l.length : Int) == (k : Int)) = false := by simp; omega
  have hk1 : (l.length == k) = false := by simp; omega
  have hk2 : ¬ ((l.length : Int) = (k : Int)) := by omega
  have hk3 : ¬ (l.length = k) := by omega
  clear h hi
  go_enter Yba.func13, Yba.ntmps13
  go_wp2
  go_quiet (fail)
  go_wp2
  have HS : Hid (Calls Yba.prog 16 #[.slice a l.length cap, .int .i64 x, fv B] (w.drewN nq).drew fun e w' => Found e i ∧ w' = (w.drewN nq).drew) := HSr.out (nq + 1)
  have d1 : (w.drewN nq).cell? ⟨K, 1, none⟩ = some (fv B) := c1
  have d2 : (w.drewN nq).cell? ⟨K, 2, none⟩ = some (.slice a l.length cap) := c2
  go_region_held3 (fun w' => w'.cell? ⟨K, 1, none⟩ = some (fv B) ∧ w'.cell? ⟨K, 2, none⟩ = some (.slice a l.length cap)) (go_keep)
    ((first | (go_at_call 16; go_must (refine HS.out.mono ?_); rintro e w1 ⟨⟨f, rfl⟩, rfl⟩)))
  have HX := hide (keep_insert x HK.out (nq + 1) i hil)
  have HLn : Hid ((l.take i ++ x :: l.drop i).length = l.length + 1) := ins_length l i x hil
  have HKW : Hid (((w.drewN (nq + 1)).alloc (.cells #[.int .i64 x] 3)).heap[K]? = some (.cells #[.int .i64 k, fv B, .slice a l.length cap] 37 (0, 0))) := (Below.heap_alloc (w.drewN (nq + 1)) _ K hlk).trans HK.out.blk
  have HgK : Hid ((some K : Option Nat) ≠ (Value.slice a l.length cap).ownBlock) := fun e => own_ne HK.out.items HK.out.blk e.symm
  go_wp2_with (first | (go_at_call 17; go_must (refine HX.out.mono ?_); rintro e w2 ⟨v2, rfl, hI, hG⟩; obtain ⟨g2, cap2, rfl, hlc2, hm2, e0, e2, ef, hb2, hl2⟩ := after_ins hI HLn.out hG HKW.out HgK.out; have HI2 := hide hI; have HG := hide hG; have HB2 := hide hb2; clear hI hG hb2))
  obtain ⟨w3, hw3⟩ : ∃ w3, w2.setCell ⟨K, 2, none⟩ (.slice (some ⟨g2, 0, none⟩) (l.length + 1) cap2) = w3 := ⟨_, rfl⟩
  have HB3 : Hid (w3.heap[K]? = some (.cells #[.int .i64 k, fv B, .slice (some ⟨g2, 0, none⟩) (l.length + 1) cap2] 37 (0, 0))) := by rw [← hw3]; exact set2_block HB2.out _
  have a0 : w3.cell? ⟨K, 0, none⟩ = some (.int .i64 k) := by simp [World.cell?, HB3.out]
  have a2 : w3.cell? ⟨K, 2, none⟩ = some (.slice (some ⟨g2, 0, none⟩) (l.length + 1) cap2) := by simp [World.cell?, HB3.out]
  have a3 : w3.frozen? ⟨K, 2, none⟩ = false := by simp [World.frozen?, HB3.out]
  have HW3 := hide hw3
  rw [hw3]
  clear hw3 e0 e2 ef
  have s0 : ∀ (U : World) (v : Value), (U.setCell ⟨K, 2, none⟩ v).cell? ⟨K, 0, none⟩ = U.cell? ⟨K, 0, none⟩ := fun U v => World.cell?_setCell_other U _ _ v (by simp)
  have s2 : ∀ (v : Value), (w3.setCell ⟨K, 2, none⟩ v).cell? ⟨K, 2, none⟩ = some v := fun v => World.cell?_setCell_same' w3 _ v (by rw [a2]; rfl)
  have m1 : min ((l.length : Int) + 1) (k : Int) = (l.length : Int) + 1 := by omega
  have m2 : (0 : Int) ≤ (l.length : Int) + 1 := by omega
  have m3 : (l.length : Int) + 1 ≤ (cap2 : Int) := by omega
  have m4 : ((l.length : Int) + 1).toNat = l.length + 1 := by omega
  go_region_held3 (fun w' => w'.cell? ⟨K, 0, none⟩ = some (.int .i64 k) ∧ w'.cell? ⟨K, 2, none⟩ = some (.slice (some ⟨g2, 0, none⟩) (l.length + 1) cap2)) (go_keep) ((fail))
  go_wp2
  go_end0
  refine ⟨rfl, offer_end (m := l.length + 1) (n := nq + 1) (L := l.take i ++ x :: l.drop i) (w2 := w2) (g2 := g2) (cap2 := cap2) HK.out (by rw [HLn.out]; exact HI2.out) HG.out (by rw [HLn.out]; omega) HO.out ?_ ?_ ?_ ?_ ?_ ?_ HF.out⟩
  · rw [← HW3.out]; rfl
  · rw [← HW3.out]; rfl
  · rw [← HW3.out]; rfl
  · rw [← HW3.out]; simp [World.setCell, World.drew]
  · intro b hb
    rw [← HW3.out]
    exact (Below.heap_setCell _ _ _ b hb).trans (Below.heap_setCell _ _ _ b hb)
  · exact set2_block HB3.out _
end Go.Proofs.Ybulkexnbe
