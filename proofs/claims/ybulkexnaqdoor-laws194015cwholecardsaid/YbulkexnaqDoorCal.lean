namespace Go.Proofs.YbulkexnaqDoor.Cal

def leapB (y : Int) : Bool := decide (y % 4 = 0 ∧ y ≠ 0 ∧ (y % 100 ≠ 0 ∨ y % 400 = 0))
def lp (y : Int) : Int := if y % 4 = 0 ∧ y ≠ 0 ∧ (y % 100 ≠ 0 ∨ y % 400 = 0) then 1 else 0
def dby (y : Int) : Int := if y = 0 then 0 else 365 * y + (y - 1) / 4 - (y - 1) / 100 + (y - 1) / 400
def dim (y m : Int) : Int := if m = 2 then 28 + lp y else if m = 4 ∨ m = 6 ∨ m = 9 ∨ m = 11 then 30 else 31
def cum (y m : Int) : Int :=
  if m = 1 then 0 else if m = 2 then 31 else
  (if m = 3 then 59 else if m = 4 then 90 else if m = 5 then 120 else if m = 6 then 151 else if m = 7 then 181 else
   if m = 8 then 212 else if m = 9 then 243 else if m = 10 then 273 else if m = 11 then 304 else if m = 12 then 334 else 365) + lp y

theorem lp_leapB (y : Int) : lp y = if leapB y then 1 else 0 := by unfold lp leapB; simp
theorem lp_01 (y : Int) : 0 ≤ lp y ∧ lp y ≤ 1 := by unfold lp; split <;> omega
theorem dby_succ (y : Int) (h : 0 ≤ y) : dby (y + 1) = dby y + 365 + lp y := by
  unfold dby lp
  rw [if_neg (by omega)]
  by_cases h0 : y = 0
  · subst h0; decide
  · rw [if_neg h0]
    split <;> omega
theorem dby_mono (a b : Int) (h0 : 0 ≤ a) (h : a ≤ b) : dby a ≤ dby b := by
  unfold dby; split <;> split <;> omega
theorem dby_lt (a b : Int) (h0 : 0 ≤ a) (h : a < b) : dby a < dby b := by
  unfold dby; split <;> split <;> omega
theorem dby_bd (a : Int) (h0 : 0 ≤ a) (h : a ≤ 10001) : 0 ≤ dby a ∧ dby a ≤ 3653000 := by
  unfold dby; split <;> omega
theorem dby_max : dby 10000 = 3652424 := by decide
theorem dim_bd (y m : Int) : 28 ≤ dim y m ∧ dim y m ≤ 31 := by
  have := lp_01 y
  unfold dim; split <;> (try split) <;> omega
theorem cum_succ (y m : Int) (h1 : 1 ≤ m) (h2 : m ≤ 12) : cum y (m + 1) = cum y m + dim y m := by
  have : m = 1 ∨ m = 2 ∨ m = 3 ∨ m = 4 ∨ m = 5 ∨ m = 6 ∨ m = 7 ∨ m = 8 ∨ m = 9 ∨ m = 10 ∨ m = 11 ∨ m = 12 := by omega
  rcases this with h | h | h | h | h | h | h | h | h | h | h | h <;> subst h <;> simp [cum, dim] <;> omega
theorem cum_1 (y : Int) : cum y 1 = 0 := by simp [cum]
theorem cum_13 (y : Int) : cum y 13 = 365 + lp y := by simp [cum]
theorem cum_bd (y m : Int) (h1 : 1 ≤ m) (h2 : m ≤ 13) : 0 ≤ cum y m ∧ cum y m ≤ 366 := by
  have := lp_01 y
  have : m = 1 ∨ m = 2 ∨ m = 3 ∨ m = 4 ∨ m = 5 ∨ m = 6 ∨ m = 7 ∨ m = 8 ∨ m = 9 ∨ m = 10 ∨ m = 11 ∨ m = 12 ∨ m = 13 := by omega
  rcases this with h | h | h | h | h | h | h | h | h | h | h | h | h <;> subst h <;> simp [cum] <;> omega
/-- a month ends at the year's end or before it -/
theorem cum_end (y m : Int) (h1 : 1 ≤ m) (h2 : m ≤ 12) : cum y m + dim y m ≤ 365 + lp y := by
  have := lp_01 y
  have : m = 1 ∨ m = 2 ∨ m = 3 ∨ m = 4 ∨ m = 5 ∨ m = 6 ∨ m = 7 ∨ m = 8 ∨ m = 9 ∨ m = 10 ∨ m = 11 ∨ m = 12 := by omega
  rcases this with h | h | h | h | h | h | h | h | h | h | h | h <;> subst h <;> simp [cum, dim] <;> omega
theorem cum_mono (y a b : Int) (h1 : 1 ≤ a) (h : a ≤ b) (h2 : b ≤ 13) : cum y a ≤ cum y b := by
  obtain ⟨k, hk⟩ : ∃ k : Nat, b = a + k := ⟨(b - a).toNat, by omega⟩
  subst hk
  clear h
  induction k with
  | zero => simp
  | succ k ih =>
    have := ih (by omega)
    have hs := cum_succ y (a + k) (by omega) (by omega)
    have hd := dim_bd y (a + k)
    rw [show a + ((k + 1 : Nat) : Int) = a + k + 1 by omega, hs]
    omega

theorem pow_bd (k : Nat) (h : k ≤ 6) : 1 ≤ (10 : Int) ^ k ∧ (10 : Int) ^ k ≤ 1000000 := by
  have : k = 0 ∨ k = 1 ∨ k = 2 ∨ k = 3 ∨ k = 4 ∨ k = 5 ∨ k = 6 := by omega
  rcases this with h | h | h | h | h | h | h <;> subst h <;> decide
/-- the fraction us, rounded half up to p places -/
def rnd (us p : Int) : Int := (us + 10 ^ (6 - p).toNat / 2) / 10 ^ (6 - p).toNat * 10 ^ (6 - p).toNat
theorem rnd_bd (us p : Int) (h0 : 0 ≤ us) (h1 : us ≤ 999999) (h2 : 0 ≤ p) : 0 ≤ rnd us p ∧ rnd us p ≤ 1000000 := by
  unfold rnd
  have : (6 - p).toNat = 0 ∨ (6 - p).toNat = 1 ∨ (6 - p).toNat = 2 ∨ (6 - p).toNat = 3 ∨ (6 - p).toNat = 4 ∨ (6 - p).toNat = 5 ∨ (6 - p).toNat = 6 := by omega
  rcases this with h | h | h | h | h | h | h <;> rw [h] <;> omega
/-- the moment: microseconds from the start of day 0 -/
def mom (y m d h i s u : Int) : Int := (dby y + (cum y m + d)) * 86400000000 + (((h * 60 + i) * 60 + s) * 1000000 + u)
theorem mom_bd (y m d h i s u : Int) (h0 : 0 ≤ y) (h1 : y ≤ 9999) (h2 : 1 ≤ m) (h3 : m ≤ 12) (h4 : 1 ≤ d) (h5 : d ≤ 31)
    (a0 : 0 ≤ h) (a1 : h ≤ 23) (a2 : 0 ≤ i) (a3 : i ≤ 59) (a4 : 0 ≤ s) (a5 : s ≤ 59) (a6 : 0 ≤ u) (a7 : u ≤ 999999) :
    86400000000 ≤ mom y m d h i s u ∧ mom y m d h i s u ≤ 390000000000000000 := by
  unfold mom
  have := dby_bd y h0 (by omega)
  have := cum_bd y m h2 (by omega)
  omega
theorem mom_div (y m d h i s u : Int) (a0 : 0 ≤ h) (a1 : h ≤ 23) (a2 : 0 ≤ i) (a3 : i ≤ 59) (a4 : 0 ≤ s) (a5 : s ≤ 59) (a6 : 0 ≤ u) (a7 : u ≤ 999999) :
    mom y m d h i s u / 86400000000 = dby y + (cum y m + d) := by unfold mom; omega
theorem mom_day_lo {y m d h i s u : Int} (h0 : 0 ≤ y) (h1 : y ≤ 9999) (h2 : 1 ≤ m) (h3 : m ≤ 12) (h4 : 1 ≤ d)
    (a0 : 0 ≤ h) (a1 : h ≤ 23) (a2 : 0 ≤ i) (a3 : i ≤ 59) (a4 : 0 ≤ s) (a5 : s ≤ 59) (a6 : 0 ≤ u) (a7 : u ≤ 999999) : 1 ≤ mom y m d h i s u / 86400000000 := by
  rw [mom_div y m d h i s u a0 a1 a2 a3 a4 a5 a6 a7]
  have := dby_bd y h0 (by omega)
  have := cum_bd y m h2 (by omega)
  omega
theorem mom_day_hi {y m d h i s u : Int} (h0 : 0 ≤ y) (h1 : y ≤ 9999) (h2 : 1 ≤ m) (h3 : m ≤ 12) (h5 : d ≤ dim y m)
    (a0 : 0 ≤ h) (a1 : h ≤ 23) (a2 : 0 ≤ i) (a3 : i ≤ 59) (a4 : 0 ≤ s) (a5 : s ≤ 59) (a6 : 0 ≤ u) (a7 : u ≤ 999999) : mom y m d h i s u / 86400000000 ≤ 3652424 := by
  rw [mom_div y m d h i s u a0 a1 a2 a3 a4 a5 a6 a7]
  have := cum_end y m h2 h3
  have := dby_succ y h0
  have h10 := dby_mono (y + 1) 10000 (by omega) (by omega)
  rw [dby_max] at h10
  omega
theorem mom_u (y m d h i s u r : Int) : mom y m d h i s u + (r - u) = mom y m d h i s r := by unfold mom; omega
theorem mom_s (y m d h i s u : Int) : mom y m d h i s u + (1000000 - u) = mom y m d h i (s + 1) 0 := by unfold mom; omega
theorem mom_i (y m d h i u : Int) : mom y m d h i 59 u + (1000000 - u) = mom y m d h (i + 1) 0 0 := by unfold mom; omega
theorem mom_h (y m d h u : Int) : mom y m d h 59 59 u + (1000000 - u) = mom y m d (h + 1) 0 0 0 := by unfold mom; omega
theorem mom_d (y m d u : Int) : mom y m d 23 59 59 u + (1000000 - u) = mom y m (d + 1) 0 0 0 0 := by unfold mom; omega
theorem mom_m (y m u : Int) (h1 : 1 ≤ m) (h2 : m ≤ 12) : mom y m (dim y m) 23 59 59 u + (1000000 - u) = mom y (m + 1) 1 0 0 0 0 := by
  have := cum_succ y m h1 h2
  unfold mom; omega
theorem mom_y (y u : Int) (h0 : 0 ≤ y) : mom y 12 (dim y 12) 23 59 59 u + (1000000 - u) = mom (y + 1) 1 1 0 0 0 0 := by
  have h1 := cum_succ y 12 (by omega) (by omega)
  have h2 : cum y (12 + 1) = 365 + lp y := cum_13 y
  have h3 := dby_succ y h0
  have h4 := cum_1 (y + 1)
  unfold mom; omega
theorem mom_over (u : Int) : 3652425 ≤ (mom 9999 12 (dim 9999 12) 23 59 59 u + (1000000 - u)) / 86400000000 := by
  rw [mom_y 9999 u (by omega)]
  decide
end Go.Proofs.YbulkexnaqDoor.Cal
