/- THE PLAIN LAW of 'the pool keeps the longest fitting suffix': lists of pairs (length, capacity); no Go in sight. -/
import GoSem.Claim
namespace Go.Proofs.Ybulkchai.Plain

abbrev Buf := Nat × Nat

/-- the capacities' sum -/
def csum : List Buf → Nat
  | [] => 0
  | b :: bs => b.2 + csum bs

/-- at most 64 buffers, at most 8 MiB in all -/
def good (bs : List Buf) : Bool := decide (csum bs ≤ 8388608) && decide (bs.length ≤ 64)

/-- the longest good suffix -/
def trim : List Buf → List Buf
  | [] => []
  | b :: bs => if good (b :: bs) then b :: bs else trim bs

theorem csum_append (xs ys : List Buf) : csum (xs ++ ys) = csum xs + csum ys := by
  induction xs with
  | nil => simp [csum]
  | cons x xs ih => simp [csum, ih]; omega

theorem csum_drop_le (xs : List Buf) (d : Nat) : csum (xs.drop d) ≤ csum xs := by
  have e : xs.take d ++ xs.drop d = xs := List.take_append_drop d xs
  have h := csum_append (xs.take d) (xs.drop d)
  rw [e] at h
  omega

theorem good_iff {bs : List Buf} : good bs = true ↔ csum bs ≤ 8388608 ∧ bs.length ≤ 64 := by simp [good]
theorem good_nil : good [] = true := by decide
theorem good_no {bs : List Buf} (h : 8388608 < csum bs ∨ 64 < bs.length) : good bs = false := by
  cases hg : good bs with
  | false => rfl
  | true => rw [good_iff] at hg; omega
theorem good_front {xs ys : List Buf} (h : good (xs ++ ys) = true) : good xs = true := by
  rw [good_iff] at *
  rw [csum_append, List.length_append] at h
  omega
theorem good_back {xs ys : List Buf} (h : good (xs ++ ys) = true) : good ys = true := by
  rw [good_iff] at *
  rw [csum_append, List.length_append] at h
  omega
theorem good_drop {xs : List Buf} (d : Nat) (h : good xs = true) : good (xs.drop d) = true := by
  have e : xs.take d ++ xs.drop d = xs := List.take_append_drop d xs
  rw [← e] at h
  exact good_back h

theorem trim_of_good {bs : List Buf} (h : good bs = true) : trim bs = bs := by
  cases bs with
  | nil => rfl
  | cons b bs => simp [trim, h]
theorem trim_cons_bad {b : Buf} {bs : List Buf} (h : good (b :: bs) = false) : trim (b :: bs) = trim bs := by simp [trim, h]
theorem good_trim (bs : List Buf) : good (trim bs) = true := by
  induction bs with
  | nil => exact good_nil
  | cons b bs ih =>
    cases h : good (b :: bs) with
    | true => rw [trim_of_good h]; exact h
    | false => rw [trim_cons_bad h]; exact ih

/-- one round of the loop that drops: the suffix that is left is bad, so it is not empty, and dropping one more leaves the answer as it was -/
theorem trim_drop_succ {bs : List Buf} {d : Nat} (h : good (bs.drop d) = false) : d < bs.length ∧ trim (bs.drop (d + 1)) = trim (bs.drop d) ∧ csum (bs.drop d) = (bs.getD d (0, 0)).2 + csum (bs.drop (d + 1)) := by
  have hd : d < bs.length := by
    rcases Nat.lt_or_ge d bs.length with h' | h'
    · exact h'
    · rw [List.drop_of_length_le h', good_nil] at h; cases h
  have e : bs.drop d = bs[d] :: bs.drop (d + 1) := by simp
  refine ⟨hd, ?_, ?_⟩
  · rw [e] at h ⊢
    rw [trim_cons_bad h]
  · rw [e]
    simp [csum, List.getD, hd]

/-- putting one more: the pool is trimmed again -/
theorem trim_snoc (bs : List Buf) (b : Buf) : trim (trim bs ++ [b]) = trim (bs ++ [b]) := by
  induction bs with
  | nil => rfl
  | cons x xs ih =>
    cases h : good (x :: xs) with
    | true => rw [trim_of_good h]
    | false =>
      rw [trim_cons_bad h, ih]
      have h' : good (x :: (xs ++ [b])) = false := by
        cases hg : good (x :: (xs ++ [b])) with
        | false => rfl
        | true => rw [← List.cons_append] at hg; rw [good_front hg] at h; cases h
      rw [List.cons_append, trim_cons_bad h']

/-- a good suffix that cannot be made longer is the answer -/
theorem trim_is {bs : List Buf} {s : Nat} (hs : s ≤ bs.length) (hg : good (bs.drop s) = true) (hm : s = 0 ∨ good (bs.drop (s - 1)) = false) : trim bs = bs.drop s := by
  induction bs generalizing s with
  | nil => simp at hs; subst hs; rfl
  | cons x xs ih =>
    cases s with
    | zero => rw [List.drop_zero] at *; exact trim_of_good hg
    | succ s =>
      have hb : good (x :: xs) = false := by
        cases hgx : good (x :: xs) with
        | false => rfl
        | true =>
          rcases hm with hm | hm
          · omega
          · rw [good_drop _ hgx] at hm; cases hm
      rw [trim_cons_bad hb]
      refine ih (s := s) (by simpa using hs) (by simpa using hg) ?_
      rcases hm with hm | hm
      · omega
      · cases s with
        | zero => exact Or.inl rfl
        | succ s => right; simpa using hm

theorem drop_pred {bs : List Buf} {s : Nat} (h0 : 0 < s) (hs : s ≤ bs.length) : bs.drop (s - 1) = (bs.getD (s - 1) (0, 0)) :: bs.drop s := by
  obtain ⟨t, rfl⟩ : ∃ t, s = t + 1 := ⟨s - 1, by omega⟩
  have ht : t < bs.length := by omega
  simp [List.getD, ht]

/-- the capacities that the script picks -/
def capOf (k : Nat) : Nat :=
  match k % 8 with
  | 0 => 0
  | 1 => 1
  | 2 => 16384
  | 3 => 1048576
  | 4 => 3145728
  | 5 => 5242880
  | 6 => 8388608
  | _ => 8388609
theorem capOf_le (k : Nat) : capOf k ≤ 8388609 := by
  unfold capOf
  split <;> omega

end Go.Proofs.Ybulkchai.Plain
