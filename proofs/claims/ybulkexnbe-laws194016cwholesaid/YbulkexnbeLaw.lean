import Derived.Test.YbulkexnbeLawB
namespace Go.Proofs.Ybulkexnbe
open Go.RowKit Go.Lib Go.Shelf
set_option linter.unusedVariables false

theorem below_drewN {n : Nat} {w U : World} (h : Below n w U) (q : Nat) : Below n w (U.drewN q) := ⟨h.os, h.tape, h.output, h.size, h.block⟩

/-- what the last tests ask, where something is left out -/
theorem tail_out {w U : World} {n0 N L m : Nat} {desc : Bool} {xa : Option Addr} {xcap : Nat} {xs : List Int} {ao : Option Addr} {ai : Option Addr} {ci : Nat} {bar : Int} {sa : Option Addr} {sc : Nat} (h : Mid w U n0 N L m desc xa xcap xs ao ai ci bar) (hi : Items U N (.slice sa xs.length sc) (sorted desc xs)) (hl : xs.length ≤ 1048576) (hlt : m < xs.length) :
    ∃ z g, sa = some ⟨g, 0, none⟩ ∧ m ≤ sc ∧ ∀ q, (U.drewN q).cell? ⟨L, 0, none⟩ = some (.int .i64 m) ∧ (U.drewN q).cell? ⟨L, 2, none⟩ = some (.slice ai m ci) ∧ (U.drewN q).cell? ⟨L, 3, none⟩ = some (.int .i64 z) ∧ (U.drewN q).cell? ⟨L, 4, none⟩ = some (.bool true) ∧ (U.drewN q).cell? ⟨g, m, none⟩ = some (.int .i64 z) ∧
      Calls Yba.prog 11 #[.slice ai m ci, .slice (some ⟨g, 0, none⟩) m sc] (U.drewN q) fun e w' => e = .returned (.bool true) ∧ ∃ q', w' = (U.drewN q).drewN q' := by
  have hb := h.blk
  rw [Nat.min_eq_left (by omega), if_pos hlt, decide_eq_true hlt] at hb
  rcases hi.open with ⟨_, e⟩ | ⟨g, cap', cur, e, hg, hh, hlc, hmx, hs, hc⟩
  · have := sorted_length desc xs
    rw [e] at this
    simp at this
    omega
  · rw [sorted_length] at hlc e
    cases e
    refine ⟨(sorted desc xs).getD m 0, g, rfl, by omega, fun q => ⟨?_, ?_, ?_, ?_, hc m (by rw [sorted_length]; exact hlt), ?_⟩⟩
    · show U.cell? _ = _; simp [World.cell?, hb]
    · show U.cell? _ = _; simp [World.cell?, hb]
    · show U.cell? _ = _; simp [World.cell?, hb]
    · show U.cell? _ = _; simp [World.cell?, hb]
    · have hlen : ((sorted desc xs).take m).length = m := by rw [List.length_take, sorted_length]; omega
      have h1 := equal_is ai (some ⟨g, 0, none⟩) ci sc ((sorted desc xs).take m) (U.drewN q) (h.items.cells h.sz) (hi.cells.1.take m) (by omega)
      rwa [hlen] at h1

/-- what the last tests ask, where nothing is left out -/
theorem tail_all {w U : World} {n0 N L m : Nat} {desc : Bool} {xa : Option Addr} {xcap : Nat} {xs : List Int} {ao : Option Addr} {ai : Option Addr} {ci : Nat} {bar : Int} {sa : Option Addr} {sc : Nat} (h : Mid w U n0 N L m desc xa xcap xs ao ai ci bar) (hi : Items U N (.slice sa xs.length sc) (sorted desc xs)) (hl : xs.length ≤ 1048576) (hlt : ¬ m < xs.length) :
    ∀ q, (U.drewN q).cell? ⟨L, 0, none⟩ = some (.int .i64 m) ∧ (U.drewN q).cell? ⟨L, 2, none⟩ = some (.slice ai xs.length ci) ∧ (U.drewN q).cell? ⟨L, 3, none⟩ = some (.int .i64 bar) ∧ (U.drewN q).cell? ⟨L, 4, none⟩ = some (.bool false) ∧
      Calls Yba.prog 11 #[.slice ai xs.length ci, .slice sa xs.length sc] (U.drewN q) fun e w' => e = .returned (.bool true) ∧ ∃ q', w' = (U.drewN q).drewN q' := by
  have hb := h.blk
  rw [Nat.min_eq_right (by omega), if_neg hlt, decide_eq_false hlt] at hb
  refine fun q => ⟨?_, ?_, ?_, ?_, ?_⟩
  · show U.cell? _ = _; simp [World.cell?, hb]
  · show U.cell? _ = _; simp [World.cell?, hb]
  · show U.cell? _ = _; simp [World.cell?, hb]
  · show U.cell? _ = _; simp [World.cell?, hb]
  · have ht : (sorted desc xs).take m = sorted desc xs := List.take_of_length_le (by rw [sorted_length]; omega)
    have h2 := h.items.cells h.sz
    rw [ht] at h2
    have h1 := equal_is ai sa ci sc (sorted desc xs) (U.drewN q) h2 hi.cells.1 (by rw [sorted_length]; exact hl)
    rwa [sorted_length] at h1


set_option maxRecDepth 100000 in
set_option maxHeartbeats 4000000 in
theorem law_main (most : Int) (desc : Bool) (xa : Option Addr) (xcap : Nat) (xs : List Int) (ia : Option Addr) (icap : Nat) (is : List Int) (bar : Int) (bnd : Bool) (w : World) (h0 : 0 ≤ most) (h1 : most < 65536) (hx : Cells w xa xs) (hi : Cells w ia is) (hxl : xs.length ≤ 1048576) (hil : is.length ≤ 1048576) :
    Calls Yba.prog 3 #[.int .u16 most, .bool desc, .slice xa xs.length xcap, .slice ia is.length icap, .int .i64 bar, .bool bnd] w fun e w' => e = .returned (.bool true) ∧ Below w.heap.size w w' := by
  obtain ⟨m, hm⟩ : ∃ m : Nat, most % 512 = m := ⟨(most % 512).toNat, by omega⟩
  have hm5 : m < 512 := by omega
  have HC1 := hide (step1 w desc xa xcap xs hx hxl)
  have HX := hide hx
  have HI := hide hi
  have q1 : ¬ ((1048576 : Int) < (xs.length : Int)) := by omega
  have q2 : ¬ ((1048576 : Int) < (is.length : Int)) := by omega
  have q3 : (xs.length : Int) ≤ 1048576 := by omega
  have q4 : (is.length : Int) ≤ 1048576 := by omega
  have t1 : most.tmod 512 = (m : Int) := by rw [Int.tmod_eq_emod_of_nonneg h0]; exact hm
  clear hx hi
  cases desc
  · by_cases hlt : m < xs.length
    · go_enter Yba.func3, Yba.ntmps3
      go_wp2_with (first
        | (go_at_call 4; refine HC1.out.mono ?_; rintro e w1 ⟨ao, oc, rfl, s1⟩; clear HC1; have HC2 := hide (step2 w w1 _ xa xcap xs ao ia icap is s1 HI.out hil))
        | (go_at_call 4; refine HC2.out.mono ?_; rintro e w2 ⟨ai, ci, rfl, s2, i2⟩; clear HC2; have HF := hide (step3 w w2 _ m _ xa xcap xs ao ai ci is bar bnd s2 i2 hxl hm5))
        | (go_at_call 8; go_must (refine HF.out.mono ?_); rintro e w4 ⟨rfl, aj, cj, s4⟩; clear HF; have k4 := s4.base.cs; have HC4 := hide (step4 _ _ _ _ _ _ _ _ _ _ _ _ _ s4 hxl))
        | (go_at_call 4; refine HC4.out.mono ?_; rintro e w5 ⟨sa, sc, rfl, s5, i5⟩; clear HC4; have HSo := hide (step5 _ _ _ _ _ _ _ _ _ _ _ _ _ _ _ _ s5 i5 hxl))
        | (go_at_call 9; go_must (refine HSo.out.mono ?_); rintro e w6 ⟨rfl, s6, i6⟩; clear HSo; have k6 := s6.base.cb; have k7 := s6.base.cs))
      obtain ⟨z, gs, rfl, hms, T⟩ := tail_out s6 i6 hxl hlt
      have HT := hide T
      clear T
      refine (equal_is xa ao xcap oc xs w6 (s6.base.cx.cells s6.base.le) (s6.base.co.cells s6.base.le) hxl).mono ?_
      rintro e w8 ⟨rfl, q, rfl⟩
      obtain ⟨l0, l2, l3, l4, lz, _⟩ := HT.out q
      obtain ⟨m0, m2, m3, m4, mz⟩ : w6.cell? ⟨w2.heap.size, 0, none⟩ = some (.int .i64 m) ∧ w6.cell? ⟨w2.heap.size, 2, none⟩ = some (.slice aj m cj) ∧ w6.cell? ⟨w2.heap.size, 3, none⟩ = some (.int .i64 z) ∧ w6.cell? ⟨w2.heap.size, 4, none⟩ = some (.bool true) ∧ w6.cell? ⟨gs, m, none⟩ = some (.int .i64 z) := ⟨l0, l2, l3, l4, lz⟩
      have g1 : (m : Int) < (xs.length : Int) := by omega
      have g2 : (0 : Int) ≤ (m : Int) := by omega
      have g3 : (m : Int) ≤ (sc : Int) := by omega
      have HQ : Hid (Calls Yba.prog 11 #[.slice aj m cj, .slice (some ⟨gs, 0, none⟩) m sc] (w6.drewN q).drew fun e w' => e = .returned (.bool true) ∧ ∃ q', w' = (w6.drewN q).drew.drewN q') := (HT.out (q + 1)).2.2.2.2.2
      go_wp2
      go_region_held3 (fun w' => w'.cell? ⟨w2.heap.size, 2, none⟩ = some (.slice aj m cj) ∧ w'.cell? ⟨w2.heap.size, 3, none⟩ = some (.int .i64 z) ∧ w'.cell? ⟨w2.heap.size, 4, none⟩ = some (.bool true) ∧ w'.cell? ⟨gs, m, none⟩ = some (.int .i64 z)) (go_keep)
        ((first | (go_at_call 11; go_must (refine HQ.out.mono ?_); rintro e w9 ⟨rfl, q', rfl⟩)))
      go_wp2
      go_ret
      exact ⟨rfl, below_drewN s6.base.bel _⟩
    · go_enter Yba.func3, Yba.ntmps3
      go_wp2_with (first
        | (go_at_call 4; refine HC1.out.mono ?_; rintro e w1 ⟨ao, oc, rfl, s1⟩; clear HC1; have HC2 := hide (step2 w w1 _ xa xcap xs ao ia icap is s1 HI.out hil))
        | (go_at_call 4; refine HC2.out.mono ?_; rintro e w2 ⟨ai, ci, rfl, s2, i2⟩; clear HC2; have HF := hide (step3 w w2 _ m _ xa xcap xs ao ai ci is bar bnd s2 i2 hxl hm5))
        | (go_at_call 8; go_must (refine HF.out.mono ?_); rintro e w4 ⟨rfl, aj, cj, s4⟩; clear HF; have k4 := s4.base.cs; have HC4 := hide (step4 _ _ _ _ _ _ _ _ _ _ _ _ _ s4 hxl))
        | (go_at_call 4; refine HC4.out.mono ?_; rintro e w5 ⟨sa, sc, rfl, s5, i5⟩; clear HC4; have HSo := hide (step5 _ _ _ _ _ _ _ _ _ _ _ _ _ _ _ _ s5 i5 hxl))
        | (go_at_call 9; go_must (refine HSo.out.mono ?_); rintro e w6 ⟨rfl, s6, i6⟩; clear HSo; have k6 := s6.base.cb; have k7 := s6.base.cs))
      have HT := hide (tail_all s6 i6 hxl hlt)
      refine (equal_is xa ao xcap oc xs w6 (s6.base.cx.cells s6.base.le) (s6.base.co.cells s6.base.le) hxl).mono ?_
      rintro e w8 ⟨rfl, q, rfl⟩
      obtain ⟨l0, l2, l3, l4, _⟩ := HT.out q
      obtain ⟨m0, m2, m3, m4⟩ : w6.cell? ⟨w2.heap.size, 0, none⟩ = some (.int .i64 m) ∧ w6.cell? ⟨w2.heap.size, 2, none⟩ = some (.slice aj xs.length cj) ∧ w6.cell? ⟨w2.heap.size, 3, none⟩ = some (.int .i64 bar) ∧ w6.cell? ⟨w2.heap.size, 4, none⟩ = some (.bool false) := ⟨l0, l2, l3, l4⟩
      have g1 : ¬ ((m : Int) < (xs.length : Int)) := by omega
      have g2 : (xs.length : Int) ≤ (m : Int) := by omega
      have HQ := hide (HT.out q).2.2.2.2
      go_wp2_with (first | (go_at_call 11; go_must (refine HQ.out.mono ?_); rintro e w9 ⟨rfl, q', rfl⟩))
      go_ret
      exact ⟨rfl, below_drewN s6.base.bel _⟩
  · by_cases hlt : m < xs.length
    · go_enter Yba.func3, Yba.ntmps3
      go_wp2_with (first
        | (go_at_call 4; refine HC1.out.mono ?_; rintro e w1 ⟨ao, oc, rfl, s1⟩; clear HC1; have HC2 := hide (step2 w w1 _ xa xcap xs ao ia icap is s1 HI.out hil))
        | (go_at_call 4; refine HC2.out.mono ?_; rintro e w2 ⟨ai, ci, rfl, s2, i2⟩; clear HC2; have HF := hide (step3 w w2 _ m _ xa xcap xs ao ai ci is bar bnd s2 i2 hxl hm5))
        | (go_at_call 8; go_must (refine HF.out.mono ?_); rintro e w4 ⟨rfl, aj, cj, s4⟩; clear HF; have k4 := s4.base.cs; have HC4 := hide (step4 _ _ _ _ _ _ _ _ _ _ _ _ _ s4 hxl))
        | (go_at_call 4; refine HC4.out.mono ?_; rintro e w5 ⟨sa, sc, rfl, s5, i5⟩; clear HC4; have HSo := hide (step5 _ _ _ _ _ _ _ _ _ _ _ _ _ _ _ _ s5 i5 hxl))
        | (go_at_call 9; go_must (refine HSo.out.mono ?_); rintro e w6 ⟨rfl, s6, i6⟩; clear HSo; have k6 := s6.base.cb; have HRe := hide (step6 _ _ _ _ _ _ _ _ _ _ _ _ _ _ _ _ s6 i6 hxl))
        | (go_at_call 10; go_must (refine HRe.out.mono ?_); rintro e w7 ⟨rfl, s7, i7⟩; clear HRe; have k7 := s7.base.cs))
      obtain ⟨z, gs, rfl, hms, T⟩ := tail_out s7 i7 hxl hlt
      have HT := hide T
      clear T
      refine (equal_is xa ao xcap oc xs w7 (s7.base.cx.cells s7.base.le) (s7.base.co.cells s7.base.le) hxl).mono ?_
      rintro e w8 ⟨rfl, q, rfl⟩
      obtain ⟨l0, l2, l3, l4, lz, _⟩ := HT.out q
      obtain ⟨m0, m2, m3, m4, mz⟩ : w7.cell? ⟨w2.heap.size, 0, none⟩ = some (.int .i64 m) ∧ w7.cell? ⟨w2.heap.size, 2, none⟩ = some (.slice aj m cj) ∧ w7.cell? ⟨w2.heap.size, 3, none⟩ = some (.int .i64 z) ∧ w7.cell? ⟨w2.heap.size, 4, none⟩ = some (.bool true) ∧ w7.cell? ⟨gs, m, none⟩ = some (.int .i64 z) := ⟨l0, l2, l3, l4, lz⟩
      have g1 : (m : Int) < (xs.length : Int) := by omega
      have g2 : (0 : Int) ≤ (m : Int) := by omega
      have g3 : (m : Int) ≤ (sc : Int) := by omega
      have HQ : Hid (Calls Yba.prog 11 #[.slice aj m cj, .slice (some ⟨gs, 0, none⟩) m sc] (w7.drewN q).drew fun e w' => e = .returned (.bool true) ∧ ∃ q', w' = (w7.drewN q).drew.drewN q') := (HT.out (q + 1)).2.2.2.2.2
      go_wp2
      go_region_held3 (fun w' => w'.cell? ⟨w2.heap.size, 2, none⟩ = some (.slice aj m cj) ∧ w'.cell? ⟨w2.heap.size, 3, none⟩ = some (.int .i64 z) ∧ w'.cell? ⟨w2.heap.size, 4, none⟩ = some (.bool true) ∧ w'.cell? ⟨gs, m, none⟩ = some (.int .i64 z)) (go_keep)
        ((first | (go_at_call 11; go_must (refine HQ.out.mono ?_); rintro e w9 ⟨rfl, q', rfl⟩)))
      go_wp2
      go_ret
      exact ⟨rfl, below_drewN s7.base.bel _⟩
    · go_enter Yba.func3, Yba.ntmps3
      go_wp2_with (first
        | (go_at_call 4; refine HC1.out.mono ?_; rintro e w1 ⟨ao, oc, rfl, s1⟩; clear HC1; have HC2 := hide (step2 w w1 _ xa xcap xs ao ia icap is s1 HI.out hil))
        | (go_at_call 4; refine HC2.out.mono ?_; rintro e w2 ⟨ai, ci, rfl, s2, i2⟩; clear HC2; have HF := hide (step3 w w2 _ m _ xa xcap xs ao ai ci is bar bnd s2 i2 hxl hm5))
        | (go_at_call 8; go_must (refine HF.out.mono ?_); rintro e w4 ⟨rfl, aj, cj, s4⟩; clear HF; have k4 := s4.base.cs; have HC4 := hide (step4 _ _ _ _ _ _ _ _ _ _ _ _ _ s4 hxl))
        | (go_at_call 4; refine HC4.out.mono ?_; rintro e w5 ⟨sa, sc, rfl, s5, i5⟩; clear HC4; have HSo := hide (step5 _ _ _ _ _ _ _ _ _ _ _ _ _ _ _ _ s5 i5 hxl))
        | (go_at_call 9; go_must (refine HSo.out.mono ?_); rintro e w6 ⟨rfl, s6, i6⟩; clear HSo; have k6 := s6.base.cb; have HRe := hide (step6 _ _ _ _ _ _ _ _ _ _ _ _ _ _ _ _ s6 i6 hxl))
        | (go_at_call 10; go_must (refine HRe.out.mono ?_); rintro e w7 ⟨rfl, s7, i7⟩; clear HRe; have k7 := s7.base.cs))
      have HT := hide (tail_all s7 i7 hxl hlt)
      refine (equal_is xa ao xcap oc xs w7 (s7.base.cx.cells s7.base.le) (s7.base.co.cells s7.base.le) hxl).mono ?_
      rintro e w8 ⟨rfl, q, rfl⟩
      obtain ⟨l0, l2, l3, l4, _⟩ := HT.out q
      obtain ⟨m0, m2, m3, m4⟩ : w7.cell? ⟨w2.heap.size, 0, none⟩ = some (.int .i64 m) ∧ w7.cell? ⟨w2.heap.size, 2, none⟩ = some (.slice aj xs.length cj) ∧ w7.cell? ⟨w2.heap.size, 3, none⟩ = some (.int .i64 bar) ∧ w7.cell? ⟨w2.heap.size, 4, none⟩ = some (.bool false) := ⟨l0, l2, l3, l4⟩
      have g1 : ¬ ((m : Int) < (xs.length : Int)) := by omega
      have g2 : (xs.length : Int) ≤ (m : Int) := by omega
      have HQ := hide (HT.out q).2.2.2.2
      go_wp2_with (first | (go_at_call 11; go_must (refine HQ.out.mono ?_); rintro e w9 ⟨rfl, q', rfl⟩))
      go_ret
      exact ⟨rfl, below_drewN s7.base.bel _⟩

set_option maxRecDepth 100000 in
set_option maxHeartbeats 2000000 in
/-- a slice too long -/
theorem law_long (most : Int) (desc : Bool) (xa : Option Addr) (n xcap : Nat) (ia : Option Addr) (k icap : Nat) (bar : Int) (bnd : Bool) (w : World) (h : 1048576 < n ∨ (n ≤ 1048576 ∧ 1048576 < k)) :
    Calls Yba.prog 3 #[.int .u16 most, .bool desc, .slice xa n xcap, .slice ia k icap, .int .i64 bar, .bool bnd] w fun e w' => e = .returned (.bool true) ∧ Below w.heap.size w w' := by
  have hb : Hid (Below w.heap.size w ((w.alloc (.cells #[.bool desc] 4)).alloc (.cells #[.slice xa n xcap] 23))) := ((Below.refl _ w).alloc (Nat.le_refl _) _).alloc (by simp) _
  rcases h with h | ⟨h, h'⟩
  · have q1 : (1048576 : Int) < (n : Int) := by omega
    go_enter Yba.func3, Yba.ntmps3
    go_wp2
    go_ret
    exact ⟨rfl, hb.out⟩
  · have q1 : ¬ ((1048576 : Int) < (n : Int)) := by omega
    have q2 : (1048576 : Int) < (k : Int) := by omega
    have q3 : (n : Int) ≤ 1048576 := by omega
    go_enter Yba.func3, Yba.ntmps3
    go_wp2
    go_ret
    exact ⟨rfl, hb.out⟩

/-- the law, at every input -/
theorem law_any (most : Int) (desc : Bool) (xa : Option Addr) (xcap : Nat) (xs : List Int) (ia : Option Addr) (icap : Nat) (is : List Int) (bar : Int) (bnd : Bool) (w : World) (h0 : 0 ≤ most) (h1 : most < 65536) (hx : Cells w xa xs) (hi : Cells w ia is) :
    Calls Yba.prog 3 #[.int .u16 most, .bool desc, .slice xa xs.length xcap, .slice ia is.length icap, .int .i64 bar, .bool bnd] w fun e w' => e = .returned (.bool true) ∧ Below w.heap.size w w' := by
  by_cases h2 : xs.length ≤ 1048576
  · by_cases h3 : is.length ≤ 1048576
    · exact law_main most desc xa xcap xs ia icap is bar bnd w h0 h1 hx hi h2 h3
    · exact law_long _ _ _ _ _ _ _ _ _ _ _ (.inr ⟨h2, by omega⟩)
  · exact law_long _ _ _ _ _ _ _ _ _ _ _ (.inl (by omega))
end Go.Proofs.Ybulkexnbe
