/- THE PLAIN LAW of Place: the least positive line on the way down; no Go in sight. -/
import GoSem.Claim
namespace Go.Proofs.Ybulkchcm.Plain

abbrev Pt := Int × Int

/-- one node on the way: a positive line that is less than the one in hand (or the first) is taken -/
def step (cur x : Pt) : Pt := if 0 < x.1 ∧ (cur.1 = 0 ∨ x.1 < cur.1) then x else cur
theorem step_yes {cur x : Pt} (h : 0 < x.1) (h' : cur.1 = 0 ∨ x.1 < cur.1) : step cur x = x := if_pos ⟨h, h'⟩
theorem step_no {cur x : Pt} (h : ¬ (0 < x.1 ∧ (cur.1 = 0 ∨ x.1 < cur.1))) : step cur x = cur := if_neg h

def best (cur : Pt) (xs : List Pt) : Pt := xs.foldl step cur
theorem best_nil (cur : Pt) : best cur [] = cur := rfl
theorem best_cons (cur x : Pt) (xs : List Pt) : best cur (x :: xs) = best (step cur x) xs := rfl
theorem best_append (cur : Pt) (xs ys : List Pt) : best cur (xs ++ ys) = best (best cur xs) ys := List.foldl_append

/-- a line below 0 is never left -/
theorem best_neg (cur : Pt) (h : cur.1 < 0) : ∀ xs : List Pt, best cur xs = cur := by
  intro xs
  induction xs with
  | nil => rfl
  | cons x xs ih => rw [best_cons, step_no (by omega)]; exact ih

/-- the chain's places by index, and what hangs below its last node -/
def pts (f : Nat → Int × Int × Bool) : Nat → List Pt
  | 0 => []
  | k + 1 => pts f k ++ [((f k).1, (f k).2.1)]
def tail (f : Nat → Int × Int × Bool) (len : Nat) : List Pt := if (f (len - 1)).2.2 then [(0, 0)] else []
/-- from index 'len - d' on -/
def vis (f : Nat → Int × Int × Bool) (len : Nat) : Nat → List Pt
  | 0 => if len = 0 then [] else tail f len
  | d + 1 => ((f (len - (d + 1))).1, (f (len - (d + 1))).2.1) :: vis f len d

theorem best_tail (f : Nat → Int × Int × Bool) (len : Nat) (cur : Pt) : best cur (tail f len) = cur := by
  unfold tail
  split
  · rw [best_cons, step_no (by simp), best_nil]
  · rfl

theorem pts_vis (f : Nat → Int × Int × Bool) (len : Nat) (hl : 0 < len) : ∀ d, d ≤ len → pts f (len - d) ++ vis f len d = pts f len ++ tail f len := by
  intro d
  induction d with
  | zero => intro _; simp [vis, Nat.ne_of_gt hl]
  | succ d ih =>
    intro hd
    rw [← ih (by omega), vis]
    have e : len - d = (len - (d + 1)) + 1 := by omega
    rw [e, pts]
    simp

theorem best_vis (f : Nat → Int × Int × Bool) (len : Nat) (cur : Pt) : best cur (vis f len len) = best cur (pts f len) := by
  rcases Nat.eq_zero_or_pos len with rfl | hl
  · rfl
  · have := pts_vis f len hl len (Nat.le_refl _)
    rw [Nat.sub_self, pts, List.nil_append] at this
    rw [this, best_append, best_tail]

theorem vis_last (f : Nat → Int × Int × Bool) (len : Nat) (hl : 0 < len) (b : Bool) (hb : (f (len - 1)).2.2 = b) : vis f len 0 = if b then [(0, 0)] else [] := by
  simp [vis, Nat.ne_of_gt hl, tail, hb]

/-- the model's loop: 'found' says that the line in hand is not 0; it is never negative -/
theorem best_pos (c : Int) (f : Nat → Int × Int × Bool) : ∀ k, 0 ≤ (best (0, c) (pts f k)).1 := by
  intro k
  induction k with
  | zero => simp [pts, best]
  | succ k ih =>
    rw [pts, best_append, best_cons, best_nil]
    unfold step
    split
    · rename_i h; omega
    · exact ih
theorem best_succ (c : Int) (f : Nat → Int × Int × Bool) (k : Nat) : best (0, c) (pts f (k + 1)) = step (best (0, c) (pts f k)) ((f k).1, (f k).2.1) := by
  rw [pts, best_append, best_cons, best_nil]

end Go.Proofs.Ybulkchcm.Plain
