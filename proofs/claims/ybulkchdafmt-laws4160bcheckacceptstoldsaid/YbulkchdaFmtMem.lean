/- THE ROW IN MEMORY: its block, its cells' own row; what a walk of it may turn; blocks of the caller's own. -/
import Derived.Test.YbulkchdaFmtTurn
import Derived.Deep.Draws
namespace Go.Proofs.YbulkchdaFmt
open Go.RowKit

/-- a row's state: its cells, the place, building or checking, the lookups (its base is 0 and no constraint has failed) -/
structure RSt where
  xs : List Nat
  pos : Nat
  build : Bool
  lk : Nat

def u32s (xs : List Nat) : List Value := xs.map fun x => .int .u32 (x : Nat)
abbrev rowObj (v : Value) (st : RSt) : Obj := .cells #[v, .int .i64 (st.pos : Nat), .bool st.build, .int .i64 0, .int .i64 (st.lk : Nat), .nilIface] 29 (0, 0)

structure RowAt (w : World) (rb : Nat) (v : Value) (st : RSt) : Prop where
  blk : w.heap[rb]? = some (rowObj v st)
  own : w.ownsRow 0 22 1 v st.xs.length (u32s st.xs)
  ne : v.ownBlock ≠ some rb
  bnd : ∀ x ∈ st.xs, x < 2147483647
  len : st.xs.length ≤ 1000
  posb : st.pos ≤ 1000
  lkb : st.lk ≤ 1000

/-- what has turned since w lies in the row's two blocks, or is new -/
structure Fr (rb : Nat) (v v' : Value) (w w' : World) : Prop where
  os : w'.os = w.os
  tape : w'.tape = w.tape
  output : w'.output = w.output
  size : w.heap.size ≤ w'.heap.size
  keep : ∀ k, k < w.heap.size → k ≠ rb → v.ownBlock ≠ some k → w'.heap[k]? = w.heap[k]? ∧ v'.ownBlock ≠ some k

theorem Fr.refl (rb : Nat) (v : Value) (w : World) : Fr rb v v w w := ⟨rfl, rfl, rfl, Nat.le_refl _, fun _ _ _ h => ⟨rfl, h⟩⟩
theorem Fr.trans {rb : Nat} {v v1 v2 : Value} {w w1 w2 : World} (h : Fr rb v v1 w w1) (k : Fr rb v1 v2 w1 w2) : Fr rb v v2 w w2 :=
  ⟨k.os.trans h.os, k.tape.trans h.tape, k.output.trans h.output, Nat.le_trans h.size k.size, fun i hi h1 h2 => by
    obtain ⟨a, b⟩ := h.keep i hi h1 h2
    obtain ⟨c, d⟩ := k.keep i (Nat.lt_of_lt_of_le hi h.size) h1 b
    exact ⟨c.trans a, d⟩⟩
theorem Fr.drew {rb : Nat} {v v' : Value} {w w' : World} (h : Fr rb v v' w w') : Fr rb v v' w w'.drew := ⟨h.os, h.tape, h.output, h.size, h.keep⟩
theorem Fr.drewN {rb : Nat} {v v' : Value} {w w' : World} (h : Fr rb v v' w w') (n : Nat) : Fr rb v v' w (w'.drewN n) := ⟨h.os, h.tape, h.output, h.size, h.keep⟩
theorem Fr.alloc {rb : Nat} {v v' : Value} {w w' : World} (h : Fr rb v v' w w') (o : Obj) : Fr rb v v' w (w'.alloc o) :=
  ⟨h.os, h.tape, h.output, by have := h.size; simp; omega, fun i hi h1 h2 => by
    obtain ⟨a, b⟩ := h.keep i hi h1 h2
    exact ⟨(Below.heap_alloc _ _ _ (Nat.lt_of_lt_of_le hi h.size)).trans a, b⟩⟩
/-- a store into a new block -/
theorem Fr.setNew {rb : Nat} {v v' : Value} {w w' : World} {p : Addr} (h : Fr rb v v' w w') (hp : w.heap.size ≤ p.block) (u : Value) : Fr rb v v' w (w'.setCell p u) :=
  ⟨h.os, h.tape, h.output, by have := h.size; simpa [World.setCell] using this, fun i hi h1 h2 => by
    obtain ⟨a, b⟩ := h.keep i hi h1 h2
    exact ⟨(Below.heap_setCell _ _ _ _ (by omega)).trans a, b⟩⟩
/-- a store into the row's block -/
theorem Fr.setRow {rb i : Nat} {v v' : Value} {w w' : World} (h : Fr rb v v' w w') (u : Value) : Fr rb v v' w (w'.setCell ⟨rb, i, none⟩ u) :=
  ⟨h.os, h.tape, h.output, by have := h.size; simpa [World.setCell] using this, fun k hi h1 h2 => by
    obtain ⟨a, b⟩ := h.keep k hi h1 h2
    exact ⟨(Below.heap_setCell _ _ _ _ h1).trans a, b⟩⟩
theorem Fr.below {rb B : Nat} {v v' : Value} {a w w' : World} (hb : Below B a w) (hB : B ≤ w.heap.size) (h : Fr rb v v' w w') (hr : B ≤ rb) (hv : ∀ k, v.ownBlock = some k → B ≤ k) : Below B a w' :=
  hb.trans ⟨h.os, h.tape, h.output, h.size, fun i hi => (h.keep i (by omega) (by omega) (fun e => by have := hv i e; omega)).1⟩

/-- a block of the caller's own: it is neither of the row's two -/
structure Loc (w : World) (rb : Nat) (v : Value) (k : Nat) (o : Obj) : Prop where
  blk : w.heap[k]? = some o
  ne : k ≠ rb
  own : v.ownBlock ≠ some k
theorem Loc.lt {w : World} {rb k : Nat} {v : Value} {o : Obj} (h : Loc w rb v k o) : k < w.heap.size := lt_of_block h.blk
theorem Loc.fr {w w' : World} {rb k : Nat} {v v' : Value} {o : Obj} (h : Loc w rb v k o) (f : Fr rb v v' w w') : Loc w' rb v' k o := by
  obtain ⟨a, b⟩ := f.keep k h.lt h.ne h.own
  exact ⟨a.trans h.blk, h.ne, b⟩
theorem Loc.alloc {w : World} {rb k : Nat} {v : Value} {o : Obj} (h : Loc w rb v k o) (o' : Obj) : Loc (w.alloc o') rb v k o :=
  ⟨(Below.heap_alloc _ _ _ h.lt).trans h.blk, h.ne, h.own⟩
theorem Loc.drew {w : World} {rb k : Nat} {v : Value} {o : Obj} (h : Loc w rb v k o) : Loc w.drew rb v k o := ⟨h.blk, h.ne, h.own⟩
theorem Loc.drewN {w : World} {rb k : Nat} {v : Value} {o : Obj} (h : Loc w rb v k o) (n : Nat) : Loc (w.drewN n) rb v k o := ⟨h.blk, h.ne, h.own⟩
theorem Loc.set {w : World} {rb k i : Nat} {v : Value} {cs : Array Value} {t : TypeId} (h : Loc w rb v k (.cells cs t (0, 0))) (u : Value) : Loc (w.setCell ⟨k, i, none⟩ u) rb v k (.cells (cs.setIfInBounds i u) t (0, 0)) :=
  ⟨cells_setCell h.blk, h.ne, h.own⟩
theorem Loc.setOther {w : World} {rb k k' i : Nat} {v : Value} {o : Obj} (h : Loc w rb v k o) (hne : k ≠ k') (u : Value) : Loc (w.setCell ⟨k', i, none⟩ u) rb v k o :=
  ⟨(Below.heap_setCell _ _ _ _ hne).trans h.blk, h.ne, h.own⟩

theorem RowAt.lt {w : World} {rb : Nat} {v : Value} {st : RSt} (h : RowAt w rb v st) : rb < w.heap.size := lt_of_block h.blk
theorem RowAt.own_lt {w : World} {rb k : Nat} {v : Value} {st : RSt} (h : RowAt w rb v st) (hk : v.ownBlock = some k) : k < w.heap.size := (h.own.lt k hk).2
theorem RowAt.alloc {w : World} {rb : Nat} {v : Value} {st : RSt} (h : RowAt w rb v st) (o : Obj) : RowAt (w.alloc o) rb v st :=
  ⟨(Below.heap_alloc _ _ _ h.lt).trans h.blk, h.own.alloc o, h.ne, h.bnd, h.len, h.posb, h.lkb⟩
theorem RowAt.drew {w : World} {rb : Nat} {v : Value} {st : RSt} (h : RowAt w rb v st) : RowAt w.drew rb v st := ⟨h.blk, h.own, h.ne, h.bnd, h.len, h.posb, h.lkb⟩
theorem RowAt.drewN {w : World} {rb : Nat} {v : Value} {st : RSt} (h : RowAt w rb v st) (n : Nat) : RowAt (w.drewN n) rb v st := ⟨h.blk, h.own, h.ne, h.bnd, h.len, h.posb, h.lkb⟩
theorem RowAt.setOther {w : World} {rb k i : Nat} {v : Value} {st : RSt} (h : RowAt w rb v st) (h1 : k ≠ rb) (h2 : v.ownBlock ≠ some k) (u : Value) : RowAt (w.setCell ⟨k, i, none⟩ u) rb v st :=
  ⟨(Below.heap_setCell _ _ _ _ (fun e => h1 e.symm)).trans h.blk, ownsRow_setCell_other h.own h2 u, h.ne, h.bnd, h.len, h.posb, h.lkb⟩
/-- a new block is the caller's own -/
theorem Loc.new {w : World} {rb : Nat} {v : Value} {st : RSt} (h : RowAt w rb v st) (o : Obj) : Loc (w.alloc o) rb v w.heap.size o :=
  ⟨heap_alloc_new w o, by have := h.lt; omega, fun e => by have := h.own_lt e; omega⟩

/-! ### what a walk lays or reads -/
def RSt.emit (st : RSt) (em : List Nat) (k : Nat) : RSt := { xs := if st.build then st.xs ++ em else st.xs, pos := st.pos + em.length, build := st.build, lk := st.lk + k }
/-- building: the place is at the end, and there is room; checking: what is read next is 'em' -/
def RSt.can (st : RSt) (em : List Nat) (k : Nat) : Prop :=
  (if st.build then st.pos = st.xs.length else ∃ t, st.xs.drop st.pos = em ++ t) ∧ st.pos + em.length ≤ 1000 ∧ st.lk + k ≤ 1000 ∧ ∀ x ∈ em, x < 2147483647

theorem RSt.emit_emit (st : RSt) (e1 e2 : List Nat) (k1 k2 : Nat) : (st.emit e1 k1).emit e2 k2 = st.emit (e1 ++ e2) (k1 + k2) := by
  unfold RSt.emit
  cases h : st.build <;> simp [Nat.add_assoc]
theorem RSt.can_left {st : RSt} {e1 e2 : List Nat} {k1 k2 : Nat} (h : st.can (e1 ++ e2) (k1 + k2)) : st.can e1 k1 := by
  unfold RSt.can at *
  obtain ⟨h1, h2, h3, h4⟩ := h
  rw [List.length_append] at h2
  refine ⟨?_, by omega, by omega, fun x hx => h4 x (List.mem_append_left _ hx)⟩
  cases hb : st.build
  · rw [hb] at h1
    obtain ⟨t, ht⟩ := h1
    exact ⟨e2 ++ t, by rw [ht]; simp⟩
  · rw [hb] at h1
    exact h1
theorem RSt.can_right {st : RSt} {e1 e2 : List Nat} {k1 k2 : Nat} (h : st.can (e1 ++ e2) (k1 + k2)) : (st.emit e1 k1).can e2 k2 := by
  unfold RSt.can at *
  obtain ⟨h1, h2, h3, h4⟩ := h
  rw [List.length_append] at h2
  refine ⟨?_, by simp [RSt.emit]; omega, by simp [RSt.emit]; omega, fun x hx => h4 x (List.mem_append_right _ hx)⟩
  cases hb : st.build
  · rw [hb] at h1
    obtain ⟨t, ht⟩ := h1
    simp only [RSt.emit, hb]
    refine ⟨t, ?_⟩
    show List.drop (st.pos + e1.length) st.xs = e2 ++ t
    rw [← List.drop_drop, ht, List.append_assoc]
    simp
  · rw [hb] at h1
    simp only [RSt.emit, hb]
    simp at h1
    simp [h1]

end Go.Proofs.YbulkchdaFmt
