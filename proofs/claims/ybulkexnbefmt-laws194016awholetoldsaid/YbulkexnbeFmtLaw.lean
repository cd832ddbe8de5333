import Derived.Test.YbulkexnbeFmtTree
import Derived.Deep.DeepCutAuto
import Derived.Deep.RegionHeld3
import Derived.Deep.DeepMust
namespace Go.Proofs.YbulkexnbeFmt
open Go.RowKit Go.Maps Go.WideElems Go.WideMaps Go.Extern.Stop Go.Stop Go.Extern

theorem info9 : (Ybaf.prog.info? 9).map (fun i => (i.zero, i.size, i.bytes)) = some (some (.string ⟨#[]⟩), 1, 16) := by kernel_rfl
theorem info34 : (Ybaf.prog.info? 34).map (fun i => (i.zero, i.size, i.bytes)) = some (some (.agg #[.string ⟨#[]⟩, .string ⟨#[]⟩, .map none, .map none, .pointer none, .pointer none, .pointer none, .pointer none, .pointer none]), 9, 88) := by kernel_rfl

theorem make_qs (n : Nat) (hn : n ≤ 65537) (w : World) : (Instr.makeSlice 24 (.int .i64 n) (.int .i64 n)).run Ybaf.prog w = .ok (.slice (some ⟨w.heap.size, 0, none⟩) n n)
    (w.alloc (.cells (madeCells #[.string ⟨#[]⟩, .string ⟨#[]⟩, .map none, .map none, .pointer none, .pointer none, .pointer none, .pointer none, .pointer none] (n * 9)) 34)) := by
  obtain ⟨i, hi, hz, hs, hb⟩ := info_parts info34
  have hr := run_make (P := Ybaf.prog) w 24 34 i _ Ybaf.underlying24 hi hz .i64 .i64 n n (by omega) (Int.le_refl _) (by rw [hb]; omega) (by omega)
  simp only [Int.toNat_natCast, hs] at hr
  exact hr

/-- the list of queues behind k rounds -/
def Qk (pn : Nat → ByteArray) (k : Nat) (c : Nat) : Value :=
  if c % 9 = 0 then .string (if c / 9 < k then Nm.qn (c / 9) else ⟨#[]⟩) else if c % 9 = 1 then .string (if c / 9 < k then pn (c / 9) else ⟨#[]⟩) else if c % 9 = 2 then .map none else if c % 9 = 3 then .map none else .pointer none
theorem Qk_all (pn : Nat → ByteArray) (n c : Nat) (h : c < n * 9) : Qc pn c = Qk pn n c := by
  unfold Qc Qk
  have : c / 9 < n := by omega
  simp [this]
theorem Qk_zero (pn : Nat → ByteArray) (c : Nat) : #[Value.string ⟨#[]⟩, .string ⟨#[]⟩, .map none, .map none, .pointer none, .pointer none, .pointer none, .pointer none, .pointer none][c % 9]! = Qk pn 0 c := by
  unfold Qk
  have h : c % 9 < 9 := Nat.mod_lt _ (by omega)
  generalize c % 9 = r at h
  have : r = 0 ∨ r = 1 ∨ r = 2 ∨ r = 3 ∨ r = 4 ∨ r = 5 ∨ r = 6 ∨ r = 7 ∨ r = 8 := by omega
  rcases this with e | e | e | e | e | e | e | e | e <;> subst e <;> simp

theorem cell_lt {w : World} {a : Addr} {v : Value} (h : w.cell? a = some v) : a.block < w.heap.size := by
  rcases Nat.lt_or_ge a.block w.heap.size with hb | hb
  · exact hb
  · simp [World.cell?, Array.getElem?_eq_none hb] at h

theorem near_cell {w : World} {b o p : Nat} {x : Value} (v : Value) (h : w.cell? ⟨b, p, none⟩ = some x) (hne : o ≠ p) : (w.setCell ⟨b, o, none⟩ v).cell? ⟨b, p, none⟩ = some x := by
  rw [World.cell?_setCell_other _ _ _ _ (fun h' => hne (by cases h'; rfl))]; exact h

/-- the parent of queue j -/
def P (zs : List Int) (j : Nat) : Nat := (zs.getD (j - 1) 0).toNat % j
def pn (zs : List Int) (j : Nat) : ByteArray := if j = 0 then ⟨#[]⟩ else Nm.qn (P zs j)
def pp (zs : List Int) (k j : Nat) : Int := if j = 0 then -1 else if j < k then (P zs j : Int) else 0

/-- the law's first loop, behind k rounds -/
structure L1 (w wr : World) (n : Nat) (zs : List Int) (k : Nat) : Prop where
  names : Row wr w.heap.size n (fun j => .string (if j < k then Nm.qn j else ⟨#[]⟩))
  qs : Row wr (w.heap.size + 1) (n * 9) (Qk (pn zs) k)
  par : Row wr (w.heap.size + 1 + 1) n (fun j => .int .i64 (pp zs k j))
  below : Below w.heap.size w wr

theorem L1.step {w wr w1 : World} {n k : Nat} {zs : List Int} (h : L1 w wr n zs k) (hb : Below wr.heap.size wr w1) : L1 w w1 n zs k :=
  ⟨h.names.below hb h.names.1, h.qs.below hb h.qs.1, h.par.below hb h.par.1, h.below.trans (hb.mono h.below.size)⟩

theorem L1.start (w : World) (n : Nat) (zs : List Int) : L1 w (((w.alloc (.cells (madeCells #[.string ⟨#[]⟩] n) 9)).alloc (.cells (madeCells #[.string ⟨#[]⟩, .string ⟨#[]⟩, .map none, .map none, .pointer none, .pointer none, .pointer none, .pointer none, .pointer none] (n * 9)) 34)).alloc (.cells ((madeCells #[.int .i64 0] n).setIfInBounds 0 (.int .i64 (-1))) 3)) n zs 0 := by
  refine ⟨?_, ?_, ?_, ((((Below.refl _ _).alloc (Nat.le_refl _) _).alloc (by simp) _).alloc (by simp; omega) _)⟩
  · refine ((Row.new w _ 9 n _ (fun k hk => ?_)).alloc _).alloc _
    rw [made1 _ n k hk]; simp
  · have := (Row.new (w.alloc (.cells (madeCells #[.string ⟨#[]⟩] n) 9)) (madeCells #[.string ⟨#[]⟩, .string ⟨#[]⟩, .map none, .map none, .pointer none, .pointer none, .pointer none, .pointer none, .pointer none] (n * 9)) 34 (n * 9) (Qk (pn zs) 0) (fun k hk => by rw [made9 _ _ _ _ _ _ _ _ _ _ k hk, Qk_zero])).alloc (.cells ((madeCells #[.int .i64 0] n).setIfInBounds 0 (.int .i64 (-1))) 3)
    simpa using this
  · have := Row.new ((w.alloc (.cells (madeCells #[.string ⟨#[]⟩] n) 9)).alloc (.cells (madeCells #[.string ⟨#[]⟩, .string ⟨#[]⟩, .map none, .map none, .pointer none, .pointer none, .pointer none, .pointer none, .pointer none] (n * 9)) 34)) ((madeCells #[.int .i64 0] n).setIfInBounds 0 (.int .i64 (-1))) 3 n (fun j => .int .i64 (pp zs 0 j)) (fun k hk => by
      rw [Array.getElem?_setIfInBounds]
      by_cases e : 0 = k
      · subst e; simp [size_madeCells, hk, pp]
      · rw [if_neg e, made1 _ n k hk]; simp [pp, Ne.symm e])
    simpa using this

theorem Qk_next (zs : List Int) (k c : Nat) (hk : 0 < k) : Qk (pn zs) (k + 1) c = if c = k * 9 + 1 then .string (Nm.qn (P zs k)) else if c = k * 9 then .string (Nm.qn k) else Qk (pn zs) k c := by
  by_cases h1 : c = k * 9 + 1
  · subst h1
    have e1 : (k * 9 + 1) % 9 = 1 := by omega
    have e2 : (k * 9 + 1) / 9 = k := by omega
    simp [Qk, e1, e2, pn, show ¬ k = 0 by omega]
  · by_cases h2 : c = k * 9
    · subst h2
      simp [Qk]
    · rw [if_neg h1, if_neg h2]
      unfold Qk
      by_cases h3 : c % 9 = 0
      · have : (c / 9 < k + 1) = (c / 9 < k) := by apply propext; omega
        simp [h3, this]
      · by_cases h4 : c % 9 = 1
        · have : (c / 9 < k + 1) = (c / 9 < k) := by apply propext; omega
          simp [h4, this]
        · simp [h3, h4]
theorem Qk_one (zs : List Int) (c : Nat) : Qk (pn zs) 1 c = if c = 0 then .string (Nm.qn 0) else Qk (pn zs) 0 c := by
  by_cases h2 : c = 0
  · subst h2; simp [Qk]
  · rw [if_neg h2]
    unfold Qk
    by_cases h3 : c % 9 = 0
    · have : ¬ c / 9 < 1 := by omega
      simp [h3, this]
    · by_cases h4 : c % 9 = 1
      · by_cases h5 : c / 9 < 1
        · have : c / 9 = 0 := by omega
          simp [h4, this, pn]
        · simp [h4, h5]
      · simp [h3, h4]

theorem L1.nextPos {w w1 : World} {n k : Nat} {zs : List Int} (h : L1 w w1 n zs k) (hk : k < n) (h0 : 0 < k) :
    L1 w ((((w1.setCell ⟨w.heap.size, k, none⟩ (.string (Nm.qn k))).setCell ⟨w.heap.size + 1, k * 9, none⟩ (.string (Nm.qn k))).setCell ⟨w.heap.size + 1 + 1, k, none⟩ (.int .i64 (P zs k))).setCell ⟨w.heap.size + 1, k * 9 + 1, none⟩ (.string (Nm.qn (P zs k)))) n zs (k + 1) := by
  refine ⟨?_, ?_, ?_, (((h.below.setCell (by simp) _).setCell (by simp) _).setCell (by simp; omega) _).setCell (by simp) _⟩
  · refine (((h.names.set hk (.string (Nm.qn k)) (g := fun j => .string (if j < k + 1 then Nm.qn j else ⟨#[]⟩)) (fun j _ => ?_)).far (by simp) _).far (by simp; omega) _).far (by simp) _
    by_cases e : j = k
    · subst e; simp
    · rw [if_neg e]
      have : (j < k + 1) = (j < k) := by apply propext; omega
      simp [this]
  · refine (((h.qs.far (a := ⟨w.heap.size, k, none⟩) (by simp) _).set (k := k * 9) (by omega) (.string (Nm.qn k)) (g := fun c => if c = k * 9 then .string (Nm.qn k) else Qk (pn zs) k c) (fun j _ => rfl)).far (a := ⟨w.heap.size + 1 + 1, k, none⟩) (by simp) _).set (k := k * 9 + 1) (by omega) _ (fun j _ => ?_)
    rw [Qk_next zs k j h0]
  · refine (((h.par.far (a := ⟨w.heap.size, k, none⟩) (by simp; omega) _).far (a := ⟨w.heap.size + 1, k * 9, none⟩) (by simp) _).set hk (.int .i64 (P zs k)) (fun j _ => ?_)).far (by simp) _
    by_cases e : j = k
    · subst e; simp [pp, show ¬ j = 0 by omega]
    · rw [if_neg e]
      have : (j < k + 1) = (j < k) := by apply propext; omega
      simp [pp, this]
theorem L1.nextZero {w w1 : World} {n : Nat} {zs : List Int} (h : L1 w w1 n zs 0) (hk : 0 < n) :
    L1 w ((w1.setCell ⟨w.heap.size, 0, none⟩ (.string (Nm.qn 0))).setCell ⟨w.heap.size + 1, 0, none⟩ (.string (Nm.qn 0))) n zs 1 := by
  refine ⟨?_, ?_, ?_, (h.below.setCell (by simp) _).setCell (by simp) _⟩
  · refine (h.names.set hk (.string (Nm.qn 0)) (g := fun j => .string (if j < 1 then Nm.qn j else ⟨#[]⟩)) (fun j _ => ?_)).far (by simp) _
    by_cases e : j = 0
    · subst e; simp
    · rw [if_neg e]; simp [show ¬ j < 1 by omega]
  · refine (h.qs.far (a := ⟨w.heap.size, 0, none⟩) (by simp) _).set (k := 0) (by omega) (.string (Nm.qn 0)) (fun j _ => ?_)
    rw [Qk_one]
  · refine ((h.par.far (a := ⟨w.heap.size, 0, none⟩) (by simp; omega) _).far (a := ⟨w.heap.size + 1, 0, none⟩) (by simp) _).congr (fun j _ => ?_)
    by_cases e : j = 0
    · subst e; simp [pp]
    · simp [pp, e, show ¬ j < 1 by omega]

theorem ta43 (b : Nat) (w : World) : (Instr.typeAssert (.iface 43 (.pointer (some ⟨b, 0, none⟩))) 38 43 true).run Ybaf.prog w = .ok (.tuple #[.pointer (some ⟨b, 0, none⟩), .bool true]) w := by kernel_rfl

theorem lf_no (P : Nat → Nat) {j m k : Nat} (h0 : 0 < m) (hm : m < k) (h : P m = j) : lf P k j = false := by
  induction k with
  | zero => omega
  | succ k ih =>
    rw [lf]
    by_cases e : m = k
    · subst e; simp [h, h0]
    · rw [ih (by omega)]; simp

set_option maxRecDepth 100000 in
set_option maxHeartbeats 2000000 in
theorem law_any (F : Interp) (w : World) (hF : F.answers w.tape) (a0 : Option Addr) (b off len cap : Nat) (zs : List Int) (arg raw : ByteArray) (sel : Int) (hsel : 0 ≤ sel ∧ sel ≤ 255) (hraw : raw.size ≤ maxLen)
    (ha : 0 < len → a0 = some ⟨b, off, none⟩) (hc : ∀ j, j < len → w.cell? ⟨b, off + j, none⟩ = some (.int .u32 (zs.getD j 0))) (hz : ∀ j, 0 ≤ zs.getD j 0 ∧ zs.getD j 0 ≤ 4294967295) (hlen : len ≤ 65536) :
    Calls Ybaf.prog 3 #[.slice a0 len cap, .string arg, .string raw, .int .u8 sel] w fun e w' => e = .returned (.bool true) ∧ Below w.heap.size w w' := by
  obtain ⟨n, hn⟩ : ∃ n, n = len + 1 := ⟨_, rfl⟩
  have h1 := run_make_row' (P := Ybaf.prog) 23 9 (.string ⟨#[]⟩) 16 Ybaf.underlying23 info9 rfl .i64 .i64 n (by omega) (by omega)
  have h2 := make_qs n (by omega)
  have h3 := run_make_row' (P := Ybaf.prog) 25 3 (.int .i64 0) 8 Ybaf.underlying25 info3 rfl .i64 .i64 n (by omega) (by omega)
  have hnn : (len : Int) + 1 = n := by omega
  have HN := hide hn
  clear hn
  have hm0 := made1 (.int .i64 0) n 0 (by have := HN.out; omega)
  go_enter Ybaf.func3, Ybaf.ntmps3
  go_wp2
  have hS0 : L1 w (((w.alloc (.cells (madeCells #[.string ⟨#[]⟩] n) 9)).alloc (.cells (madeCells #[.string ⟨#[]⟩, .string ⟨#[]⟩, .map none, .map none, .pointer none, .pointer none, .pointer none, .pointer none, .pointer none] (n * 9)) 34)).alloc (.cells ((madeCells #[.int .i64 0] n).setIfInBounds 0 (.int .i64 (-1))) 3)) n zs 0 := L1.start w n zs
  clear h1 h2 h3 hm0
  go_loopw [13] (fun i wr => ∃ k : Nat, k ≤ n ∧ i = .int .i64 k ∧ L1 w wr n zs k) (fun i _ => n - (intOf i).toNat)
  case atStart => exact ⟨0, by omega, rfl, hS0⟩
  case round =>
    clear hS0
    obtain ⟨k, hk, rfl, hS⟩ := hrel
    by_cases hlt : k < n
    · have hk6 : k ≤ 65536 := by have := HN.out; omega
      have HS := hide hS
      clear hS
      by_cases h0 : k = 0
      · subst h0
        go_wp2_with (go_at_call 4; go_must (refine (name_any 0 _ hk6).mono ?_); rintro e w1 ⟨rfl, hb1⟩; go_must (
          have HB1 := hide hb1
          have H1 := hide (HS.out.step hb1)
          have y1 := H1.out.names.cell 0 hlt
          have y2 := H1.out.names.frz 0 hlt
          have y3 := H1.out.qs.cell 0 (by omega)
          have y4 := H1.out.qs.frz 0 (by omega)
          clear hb1))
        go_roundw
        case rel => exact ⟨1, by omega, rfl, H1.out.nextZero hlt⟩
        case measure => simp [intOf]; omega
      · obtain rfl := ha (by have := HN.out; omega)
        have hk1 : 1 ≤ k := by omega
        have hkl : k - 1 < len := by have := HN.out; omega
        obtain ⟨z, hzz⟩ : ∃ z, zs.getD (k - 1) 0 = z := ⟨_, rfl⟩
        obtain ⟨p, hpp⟩ : ∃ p, P zs k = p := ⟨_, rfl⟩
        have hz1 : 0 ≤ z ∧ z ≤ 4294967295 := by rw [← hzz]; exact hz (k - 1)
        have hpk : p < k := by rw [← hpp]; exact Nat.mod_lt _ (by omega)
        have hzp : z % (k : Int) = p := by rw [← hpp, P, hzz, Int.natCast_emod, Int.toNat_of_nonneg hz1.1]
        have hcz := hc _ hkl
        have hbw : b < w.heap.size := cell_lt hcz
        rw [hzz] at hcz
        have HPP := hide hpp
        have HCZ := hide hcz
        clear hpp hcz hzz
        go_wp2_with (go_at_call 4; go_must (refine (name_any k _ hk6).mono ?_); rintro e w1 ⟨rfl, hb1⟩; go_must (
          have HB1 := hide hb1
          have H1 := hide (HS.out.step hb1)
          have y1 := H1.out.names.cell k hlt
          have y2 := H1.out.names.frz k hlt
          have y3 := H1.out.qs.cell (k * 9) (by omega)
          have y4 := H1.out.qs.frz (k * 9) (by omega)
          have y5 := H1.out.qs.cell (k * 9 + 1) (by omega)
          have y6 := H1.out.qs.frz (k * 9 + 1) (by omega)
          have y7 := H1.out.par.cell k hlt
          have y8 := H1.out.par.frz k hlt
          have y9 : w1.cell? ⟨b, off + (k - 1), none⟩ = some (.int .u32 z) := by rw [H1.out.below.cell (p := ⟨b, off + (k - 1), none⟩) hbw]; exact HCZ.out
          have e0 := fun (v1 v2 : Value) => far_cell (b := w.heap.size + 1) (k * 9) v2 (far_cell (b := w.heap.size) k v1 y9 (by omega)) (by omega)
          have e1 := fun (v1 v2 v3 : Value) => far_cell (b := w.heap.size + 1 + 1) k v3 (far_cell (b := w.heap.size + 1) (k * 9) v2 (near_cell v1 (H1.out.names.cell p (by omega)) (show k ≠ p by omega)) (by omega)) (by omega)
          simp only [hpk, if_true] at e1
          clear hb1))
        go_roundw
        case rel => exact ⟨k + 1, by omega, by go_num, by
          have := H1.out.nextPos hlt (by omega)
          rw [HPP.out] at this
          exact this⟩
        case measure => simp [intOf]; omega
    · obtain rfl : k = n := by omega
      clear hlt hk
      have hk0 : 0 < k := by have := HN.out; omega
      have hk7 : k ≤ 65537 := by have := HN.out; omega
      have HS := hide hS
      clear hS
      go_upto_if 91 with (go_at_call 5; go_must (refine (newTree_any F _ (by rw [HS.out.below.tape]; exact hF) (w.heap.size + 1) k hk0 hk7 (P zs) (fun j h1 _ => Nat.mod_lt _ h1) (pn zs) rfl (fun j h1 _ => by simp [pn, show ¬ j = 0 by omega]) (HS.out.qs.congr (fun c hc => Qk_all _ _ _ hc))).mono ?_); rintro e w1 ⟨bt, bm, bp, bd, bl, rfl, hT, hI, hL, hB⟩; go_must (
        have HT := hide hT
        have HI := hide hI
        have HL := hide hL
        have H1 := hide (HS.out.step hB)
        have HB := hide hB
        clear hT hI hL hB))
      go_upto_if 95 with fail
      go_cut [17] (fun v wc => wc = w1 ∧ ∃ s : ByteArray, v = .string s ∧ s.size ≤ maxLen)
      case first =>
        by_cases h4 : sel % 4 = 0
        · go_wp2
          go_meet
          exact ⟨rfl, raw, rfl, hraw⟩
        · obtain ⟨i, hi⟩ : ∃ i : Nat, sel % (k : Int) = i := ⟨(sel % (k : Int)).toNat, (Int.toNat_of_nonneg (Int.emod_nonneg _ (by omega))).symm⟩
          have hik : i < k := by have := Int.emod_lt_of_pos sel (show (0 : Int) < k by omega); omega
          have y1 := H1.out.names.cell i hik
          simp only [hik, if_true] at y1
          go_wp2
          go_meet
          exact ⟨rfl, Nm.qn i, rfl, by have := Nm.qn_size i; unfold maxLen; omega⟩
      case rest =>
        obtain ⟨hw, s, rfl, hs⟩ := hcut
        subst hw
        clear hsel hraw ha hc hz
        go_wp2
        go_loop [18, 19] (fun want i => ∃ j : Nat, j ≤ k ∧ i = .int .i64 j ∧ want = .int .i64 (-1) ∧ Hid (∀ i, i < j → s ≠ Nm.qn i)) (fun _ i => k - (intOf i).toNat)
        case atStart => exact ⟨0, by omega, rfl, rfl, fun i hi => by omega⟩
        case round =>
          obtain ⟨j, hj, rfl, rfl, HJ⟩ := hrel
          by_cases hlt : j < k
          · have y1 := H1.out.names.cell j hlt
            simp only [hlt, if_true] at y1
            by_cases hjs : s = Nm.qn j
            · subst hjs
              have hb : ((Nm.qn j).toList == (Nm.qn j).toList) = true := by simp
              go_wp2
              go_loop [20, 21] (fun l i => ∃ m : Nat, 1 ≤ m ∧ m ≤ k ∧ i = .int .i64 m ∧ l = .bool true ∧ Hid (lf (P zs) m j = true)) (fun _ i => k - (intOf i).toNat)
              case atStart => exact ⟨1, by omega, by omega, rfl, rfl, by show _ = _; simp [lf]⟩
              case round =>
                obtain ⟨m, hm1, hm2, rfl, rfl, HM⟩ := hrel
                by_cases hml : m < k
                · have y2 := H1.out.par.cell m hml
                  simp only [pp, show ¬ m = 0 by omega, hml, if_true, if_false] at y2
                  by_cases hpj : P zs m = j
                  · have hb2 : ((P zs m : Int) == (j : Int)) = true := by simp [hpj]
                    have hl0 : lf (P zs) k j = false := lf_no _ hm1 hml hpj
                    have c1 := HL.out.cell j hlt
                    rw [hl0] at c1
                    go_wp2_with (go_at_call 6; go_must (refine (leaf_not F _ (by rw [H1.out.below.tape]; exact hF) bt _ bm bp bd bl k HT.out arg _ j hlt (HI.out.hit j hlt (by omega)) c1).mono ?_); rintro e w2 ⟨b2, rfl, hc2, hB2⟩; have hta := ta43 b2 w2)
                    go_ret
                    exact ⟨rfl, H1.out.below.trans (hB2.mono H1.out.below.size)⟩
                  · have hb2 : ((P zs m : Int) == (j : Int)) = false := by simp; omega
                    go_wp2
                    go_round
                    case rel => exact ⟨m + 1, by omega, by omega, by go_num, rfl, by show _ = _; rw [lf, HM.out]; simp [hpj]⟩
                    case measure => simp [intOf]; omega
                · obtain rfl : m = k := by omega
                  have c1 := HL.out.cell j hlt
                  rw [HM.out] at c1
                  go_wp2_with (go_at_call 6; go_must (refine (leaf_hit _ bt _ bm bp bd bl m HT.out arg _ j hlt (HI.out.hit j hlt (by omega)) c1).mono ?_); rintro e w2 ⟨rfl, hB2⟩)
                  go_ret
                  exact ⟨rfl, H1.out.below.trans (hB2.mono H1.out.below.size)⟩
            · have hb : ((Nm.qn j).toList == s.toList) = false := by
                rw [beq_eq_false_iff_ne]
                intro e
                rw [ByteArray.toList_eq, ByteArray.toList_eq] at e
                exact hjs (by apply ByteArray.ext; exact (Array.toList_inj.1 e).symm)
              go_wp2
              go_round
              case rel => exact ⟨j + 1, by omega, by go_num, rfl, fun i hi => by
                by_cases e : i = j
                · subst e; exact hjs
                · exact HJ.out i (by omega)⟩
              case measure => simp [intOf]; omega
          · obtain rfl : j = k := by omega
            go_wp2_with (go_at_call 6; go_must (refine (leaf_miss F _ (by rw [H1.out.below.tape]; exact hF) bt _ bm bp bd bl j HT.out arg s (HI.out.miss s hs HJ.out)).mono ?_); rintro e w2 ⟨b2, rfl, hc2, hB2⟩; have hta := ta43 b2 w2)
            go_ret
            exact ⟨rfl, H1.out.below.trans (hB2.mono H1.out.below.size)⟩

set_option maxRecDepth 100000 in
/-- more than 65536 parents: the law looks at nothing -/
theorem law_long (w : World) (a0 : Option Addr) (len cap : Nat) (arg raw : ByteArray) (sel : Int) (hlen : 65536 < len) (hl : len ≤ maxLen) :
    Calls Ybaf.prog 3 #[.slice a0 len cap, .string arg, .string raw, .int .u8 sel] w fun e w' => e = .returned (.bool true) ∧ Below w.heap.size w w' := by
  unfold maxLen at hl
  go_enter Ybaf.func3, Ybaf.ntmps3
  go_wp2
  go_ret
  exact ⟨rfl, Below.refl _ _⟩
end Go.Proofs.YbulkexnbeFmt
