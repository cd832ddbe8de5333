import Derived.WalkKit
namespace Go.Proofs.YbulkexnbeFmt.Nm

/-- the decimal digits of m as bytes, none for 0; f: fuel -/
def dig : Nat → Nat → List Int
  | 0, _ => []
  | f + 1, m => if m = 0 then [] else dig f (m / 10) ++ [48 + ((m % 10 : Nat) : Int)]

theorem dig_zero (f : Nat) : dig f 0 = [] := by cases f <;> simp [dig]
theorem dig_fuel (f : Nat) : ∀ m, m < 10 ^ f → dig (f + 1) m = dig f m := by
  induction f with
  | zero => intro m h; have : m = 0 := by simpa using h
            subst this; simp [dig]
  | succ f ih =>
    intro m h
    by_cases h0 : m = 0
    · subst h0; simp [dig]
    · have := ih (m / 10) (by rw [Nat.pow_succ] at h; omega)
      rw [dig, if_neg h0, this, dig, if_neg h0]
theorem dig_step (m : Nat) (h : m < 10 ^ 24) (h0 : 0 < m) : dig 24 m = dig 24 (m / 10) ++ [48 + ((m % 10 : Nat) : Int)] := by
  rw [dig, if_neg (by omega), ← dig_fuel 23 (m / 10) (by omega)]

/-- what a row of digits is worth -/
def val (l : List Int) : Int := l.foldl (fun a d => a * 10 + (d - 48)) 0
theorem val_snoc (l : List Int) (d : Int) : val (l ++ [d]) = val l * 10 + (d - 48) := by simp [val, List.foldl_append]
theorem val_dig (f : Nat) : ∀ m, m < 10 ^ f → val (dig f m) = m := by
  induction f with
  | zero => intro m h; have : m = 0 := by simpa using h
            subst this; simp [dig, val]
  | succ f ih =>
    intro m h
    by_cases h0 : m = 0
    · subst h0; simp [dig, val]
    · rw [dig, if_neg h0, val_snoc, ih (m / 10) (by rw [Nat.pow_succ] at h; omega)]
      omega
theorem dig_bd (f : Nat) : ∀ m, ∀ d ∈ dig f m, 48 ≤ d ∧ d ≤ 57 := by
  induction f with
  | zero => intro m d h; simp [dig] at h
  | succ f ih =>
    intro m d h
    rw [dig] at h
    split at h
    · simp at h
    · rw [List.mem_append] at h
      rcases h with h | h
      · exact ih _ _ h
      · simp at h; omega
theorem dig_len (f : Nat) : ∀ m, (dig f m).length ≤ f := by
  induction f with
  | zero => intro m; simp [dig]
  | succ f ih =>
    intro m
    rw [dig]
    split
    · simp
    · have := ih (m / 10); simp; omega

/-- the digits of the name of queue i -/
def dl (i : Nat) : List Int := if i = 0 then [48] else dig 24 i
theorem val_dl (i : Nat) (h : i < 10 ^ 24) : val (dl i) = i := by
  unfold dl; split
  · next h0 => subst h0; rfl
  · exact val_dig 24 i h
theorem dl_bd (i : Nat) : ∀ d ∈ dl i, 48 ≤ d ∧ d ≤ 57 := by
  unfold dl; split
  · intro d h; simp at h; omega
  · exact dig_bd 24 i
theorem dl_len (i : Nat) : (dl i).length ≤ 24 := by
  unfold dl; split
  · simp
  · exact dig_len 24 i

/-- the name of queue i: a q and its digits -/
def qn (i : Nat) : ByteArray := strOfNums (113 :: dl i)
theorem qn_size (i : Nat) : (qn i).size ≤ 25 ∧ 1 ≤ (qn i).size := by
  unfold qn; rw [strOfNums_size]; have := dl_len i; simp; omega

theorem map_inj (l m : List Int) (hl : ∀ d ∈ l, 48 ≤ d ∧ d ≤ 57) (hm : ∀ d ∈ m, 48 ≤ d ∧ d ≤ 57)
    (h : l.map (fun n => UInt8.ofNat n.toNat) = m.map (fun n => UInt8.ofNat n.toNat)) : l = m := by
  induction l generalizing m with
  | nil => cases m <;> simp_all
  | cons a l ih =>
    cases m with
    | nil => simp at h
    | cons b m =>
      simp only [List.map_cons, List.cons.injEq] at h
      have ha := hl a (by simp)
      have hb := hm b (by simp)
      have e := congrArg UInt8.toNat h.1
      simp at e
      have : a = b := by omega
      rw [this, ih m (fun d hd => hl d (by simp [hd])) (fun d hd => hm d (by simp [hd])) h.2]

theorem qn_inj (i j : Nat) (hi : i < 10 ^ 24) (hj : j < 10 ^ 24) (h : qn i = qn j) : i = j := by
  have h1 := congrArg (fun b : ByteArray => b.data.toList) h
  simp only [qn, strOfNums_data, List.map_cons, List.cons.injEq, true_and] at h1
  have h2 := map_inj _ _ (dl_bd i) (dl_bd j) h1
  have h3 := congrArg val h2
  rw [val_dl i hi, val_dl j hj] at h3
  omega

/-- the buffer: 24 cells, the last of which hold the digits ds -/
def buf (ds : List Int) : Array Value := (List.replicate (24 - ds.length) (Value.int .u8 0) ++ ds.map (Value.int .u8)).toArray
theorem buf_set (ds : List Int) (d : Int) (h : ds.length < 24) : (buf ds).setIfInBounds (23 - ds.length) (Value.int .u8 d) = buf (d :: ds) := by
  unfold buf
  obtain ⟨n, hn⟩ : ∃ n, 24 - ds.length = n + 1 := ⟨23 - ds.length, by omega⟩
  have h2 : 24 - (d :: ds).length = n := by simp; omega
  have h3 : 23 - ds.length = n := by omega
  rw [hn, h2, h3]
  simp only [List.setIfInBounds_toArray]
  congr 1
  rw [List.replicate_succ', List.append_assoc, List.set_append]
  simp
theorem buf_nil : buf [] = (List.replicate 24 (Value.int .u8 0)).toArray := by simp [buf]
theorem buf_size (ds : List Int) (h : ds.length ≤ 24) : (buf ds).size = 24 := by simp [buf]; omega
theorem buf_get (ds : List Int) (i : Nat) (hi : i < ds.length) : (buf ds)[24 - ds.length + i]? = some (Value.int .u8 (ds.getD i 0)) := by
  unfold buf
  simp only [List.getElem?_toArray]
  rw [List.getElem?_append_right (by simp)]
  simp [List.getElem?_eq_getElem hi]
end Go.Proofs.YbulkexnbeFmt.Nm
