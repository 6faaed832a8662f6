/- THE INVARIANT of LawS4155AKeeps's loops, and what each step does to it. -/
import Derived.Test.YbulkchaiPut
namespace Go.Proofs.Ybulkchai
open Go.RowKit Plain

def lensOf (L : List Buf) : List Value := L.map fun b => .int .i64 (b.1 : Nat)
def capsOf (L : List Buf) : List Value := L.map fun b => .int .i64 (b.2 : Nat)

/-- the pool holds 'trim Lb', the slice vl the lengths of Ll, the slice vc the capacities of Lc; all in blocks of their own behind pb; below B nothing has turned -/
structure Inv (pb bk B : Nat) (w0 w : World) (vl vc : Value) (Lb Ll Lc : List Buf) : Prop where
  pool : ∃ vb, w.heap[pb]? = some (poolAt 0 vb (csum (trim Lb))) ∧ w.ownsRow (pb + 1) 23 1 vb (trim Lb).length ((trim Lb).map (enc bk)) ∧ ∀ k, vb.ownBlock = some k → vl.ownBlock ≠ some k ∧ vc.ownBlock ≠ some k
  lens : w.ownsRow (pb + 1) 3 1 vl Ll.length (lensOf Ll)
  caps : w.ownsRow (pb + 1) 3 1 vc Lc.length (capsOf Lc)
  sep : ∀ k, vl.ownBlock = some k → vc.ownBlock ≠ some k
  bel : Below B w0 w
  hB : B ≤ pb

theorem Inv.size {pb bk B : Nat} {w0 w : World} {vl vc : Value} {Lb Ll Lc : List Buf} (h : Inv pb bk B w0 w vl vc Lb Ll Lc) : pb < w.heap.size := by
  obtain ⟨vb, h1, _⟩ := h.pool
  exact lt_of_block h1

theorem Inv.alloc {pb bk B : Nat} {w0 w : World} {vl vc : Value} {Lb Ll Lc : List Buf} (h : Inv pb bk B w0 w vl vc Lb Ll Lc) (o : Obj) : Inv pb bk B w0 (w.alloc o) vl vc Lb Ll Lc := by
  have hs := h.size
  have hB := h.hB
  obtain ⟨vb, h1, h2, h3⟩ := h.pool
  exact ⟨⟨vb, by rw [Below.heap_alloc _ _ _ hs]; exact h1, h2.alloc o, h3⟩, h.lens.alloc o, h.caps.alloc o, h.sep, h.bel.alloc (by omega) o, h.hB⟩

theorem Inv.put {pb bk B : Nat} {w0 w w' : World} {vl vc vb v' : Value} {Lb Ll Lc : List Buf} {x : Buf} (h : Inv pb bk B w0 w vl vc Lb Ll Lc)
    (hvb : w.heap[pb]? = some (poolAt 0 vb (csum (trim Lb)))) (hsep : ∀ k, vb.ownBlock = some k → pb + 1 ≤ k ∧ vl.ownBlock ≠ some k ∧ vc.ownBlock ≠ some k)
    (h1 : w'.heap[pb]? = some (poolAt 0 v' (csum (trim (trim Lb ++ [x]))))) (h2 : w'.ownsRow (pb + 1) 23 1 v' (trim (trim Lb ++ [x])).length ((trim (trim Lb ++ [x])).map (enc bk)))
    (h3 : vb.ownBlock = v'.ownBlock ∨ ∀ k, v'.ownBlock = some k → w.heap.size ≤ k) (h4 : Turn (fun k => k = pb ∨ vb.ownBlock = some k) w w') : Inv pb bk B w0 w' vl vc (Lb ++ [x]) Ll Lc := by
  have hs := h.size
  have hB := h.hB
  rw [trim_snoc] at h1 h2
  refine ⟨⟨v', h1, h2, ?_⟩, h4.owns h.lens ?_, h4.owns h.caps ?_, h.sep, Turn.below h.bel (by omega) h4 ?_, h.hB⟩
  · intro k hk
    rcases h3 with h3 | h3
    · exact (hsep k (h3.trans hk)).2
    · have := h3 k hk
      exact ⟨fun e => by have := (h.lens.lt k e).2; omega, fun e => by have := (h.caps.lt k e).2; omega⟩
  · rintro k hk (rfl | e)
    · have := (h.lens.lt _ hk).1; omega
    · exact (hsep k e).2.1 hk
  · rintro k hk (rfl | e)
    · have := (h.caps.lt _ hk).1; omega
    · exact (hsep k e).2.2 hk
  · rintro i hi (rfl | e)
    · omega
    · have := (hsep i e).1; omega

theorem Inv.pushLen {pb bk B g cap n : Nat} {w0 w w' : World} {vl vc : Value} {Lb Ll Lc : List Buf} {x : Buf} (h : Inv pb bk B w0 w vl vc Lb Ll Lc) (hn : n = Ll.length)
    (h1 : w'.ownsRow (pb + 1) 3 1 (.slice (some ⟨g, 0, none⟩) (n + 1) cap) (n + 1) (lensOf Ll ++ [.int .i64 (x.1 : Nat)])) (h2 : w.grownBy w' vl.ownBlock) (h3 : vl.ownBlock = some g ∨ w.heap.size ≤ g) :
    Inv pb bk B w0 w' (.slice (some ⟨g, 0, none⟩) (n + 1) cap) vc Lb (Ll ++ [x]) Lc := by
  have hs := h.size
  have hB := h.hB
  subst hn
  obtain ⟨vb, p1, p2, p3⟩ := h.pool
  have hl := h.lens.lt
  have hc := h.caps.lt
  have T : Turn (fun k => vl.ownBlock = some k) w w' := (Turn.refl _ _).grown h2 (fun _ _ h => h)
  refine ⟨⟨vb, T.at p1 (fun e => by have := (hl _ e).1; omega), T.owns p2 (fun k hk e => (p3 k hk).1 e), ?_⟩, ?_, T.owns h.caps (fun k hk e => h.sep k e hk), ?_, Turn.below h.bel (by omega) T (fun i hi e => by have := (hl i e).1; omega), h.hB⟩
  · intro k hk
    refine ⟨?_, (p3 k hk).2⟩
    intro e
    simp [Value.ownBlock] at e
    subst e
    rcases h3 with h3 | h3
    · exact (p3 g hk).1 h3
    · have := (p2.lt g hk).2; omega
  · simpa [lensOf] using h1
  · intro k hk
    simp [Value.ownBlock] at hk
    subst hk
    rcases h3 with h3 | h3
    · exact h.sep g h3
    · intro e; have := (hc g e).2; omega

theorem Inv.pushCap {pb bk B g cap n : Nat} {w0 w w' : World} {vl vc : Value} {Lb Ll Lc : List Buf} {x : Buf} (h : Inv pb bk B w0 w vl vc Lb Ll Lc) (hn : n = Lc.length)
    (h1 : w'.ownsRow (pb + 1) 3 1 (.slice (some ⟨g, 0, none⟩) (n + 1) cap) (n + 1) (capsOf Lc ++ [.int .i64 (x.2 : Nat)])) (h2 : w.grownBy w' vc.ownBlock) (h3 : vc.ownBlock = some g ∨ w.heap.size ≤ g) :
    Inv pb bk B w0 w' vl (.slice (some ⟨g, 0, none⟩) (n + 1) cap) Lb Ll (Lc ++ [x]) := by
  have hs := h.size
  have hB := h.hB
  subst hn
  obtain ⟨vb, p1, p2, p3⟩ := h.pool
  have hl := h.lens.lt
  have hc := h.caps.lt
  have T : Turn (fun k => vc.ownBlock = some k) w w' := (Turn.refl _ _).grown h2 (fun _ _ h => h)
  refine ⟨⟨vb, T.at p1 (fun e => by have := (hc _ e).1; omega), T.owns p2 (fun k hk e => (p3 k hk).2 e), ?_⟩, T.owns h.lens (fun k hk e => h.sep k hk e), ?_, ?_, Turn.below h.bel (by omega) T (fun i hi e => by have := (hc i e).1; omega), h.hB⟩
  · intro k hk
    refine ⟨(p3 k hk).1, ?_⟩
    intro e
    simp [Value.ownBlock] at e
    subst e
    rcases h3 with h3 | h3
    · exact (p3 g hk).2 h3
    · have := (p2.lt g hk).2; omega
  · simpa [capsOf] using h1
  · intro k hk e
    simp [Value.ownBlock] at e
    subst e
    rcases h3 with h3 | h3
    · exact h.sep g hk h3
    · have := (hl g hk).2; omega

/-- the start: an empty pool, two nil slices -/
theorem Inv.start {bk B : Nat} {w0 w : World} (hb : Below B w0 w) (hB : B ≤ w.heap.size) :
    Inv w.heap.size bk B w0 (w.alloc (.cells #[.int .i32 0, .int .u32 0, .slice none 0 0, .int .i64 0] 34)) (.slice none 0 0) (.slice none 0 0) [] [] [] := by
  refine ⟨⟨.slice none 0 0, heap_alloc_new w _, World.ownsRow_nil _ _ _ _, by intro k hk; simp [Value.ownBlock] at hk⟩, World.ownsRow_nil _ _ _ _, World.ownsRow_nil _ _ _ _, by intro k hk; simp [Value.ownBlock] at hk, hb.alloc hB _, hB⟩

/-- the shape of a slice that owns one-cell elements, and its cells -/
theorem owns_shape {w : World} {base : Nat} {e : TypeId} {v : Value} {n : Nat} {xs : List Value} (h : w.ownsRow base e 1 v n xs) :
    ∃ ao cap, v = .slice ao n cap ∧ n ≤ cap ∧ cap ≤ 9223372036854775807 ∧ ∀ j u, xs[j]? = some u → ∃ g, ao = some ⟨g, 0, none⟩ ∧ w.cell? ⟨g, j, none⟩ = some u := by
  rcases h.2 with ⟨rfl, rfl⟩ | ⟨g, cap, cur, rfl, _, hg, h1, h2, h3, h4⟩
  · obtain rfl : xs = [] := List.eq_nil_of_length_eq_zero (by simpa using h.1)
    exact ⟨none, 0, rfl, Nat.le_refl _, by omega, by intro j u hj; simp at hj⟩
  · refine ⟨some ⟨g, 0, none⟩, cap, rfl, h1, by unfold maxLen at h2; omega, fun j u hj => ⟨g, rfl, ?_⟩⟩
    refine cell_of_cells hg ?_
    rw [← h4, Nat.mul_one, List.getElem?_take] at hj
    split at hj
    · simpa using hj
    · cases hj

theorem get_lens {L : List Buf} {j : Nat} (h : j < L.length) : (lensOf L)[j]? = some (.int .i64 ((L.getD j (0, 0)).1 : Nat)) := by simp [lensOf, List.getD, h]
theorem get_caps {L : List Buf} {j : Nat} (h : j < L.length) : (capsOf L)[j]? = some (.int .i64 ((L.getD j (0, 0)).2 : Nat)) := by simp [capsOf, List.getD, h]
theorem get_encs {bk : Nat} {L : List Buf} {j : Nat} (h : j < L.length) : (L.map (enc bk))[j]? = some (.slice (some ⟨bk, 0, none⟩) (L.getD j (0, 0)).1 (L.getD j (0, 0)).2) := by simp [enc, List.getD, h]

/-- the script's list of puts -/
def reps (x : Nat × Nat × Nat) : List Buf := List.replicate (x.2.2 % 8 + 1) (min x.2.1 (capOf x.1), capOf x.1)
def script (f : Nat → Nat × Nat × Nat) : Nat → List Buf
  | 0 => []
  | k + 1 => script f k ++ reps (f k)
theorem script_len (f : Nat → Nat × Nat × Nat) (k : Nat) : (script f k).length ≤ 8 * k := by
  induction k with
  | zero => simp [script]
  | succ k ih => simp [script, reps]; omega
theorem script_caps (f : Nat → Nat × Nat × Nat) (k : Nat) : ∀ x ∈ script f k, x.1 ≤ x.2 ∧ x.2 ≤ 8388609 := by
  induction k with
  | zero => simp [script]
  | succ k ih =>
    intro x hx
    simp only [script, List.mem_append] at hx
    rcases hx with hx | hx
    · exact ih x hx
    · rw [List.eq_of_mem_replicate hx]
      exact ⟨Nat.min_le_right _ _, capOf_le _⟩

end Go.Proofs.Ybulkchai
