/- Equality of [16]word values; two more moves in a drawn region; what the two laws keep. -/
import Derived.Test.YbulkchdaFmtZz
import Derived.ChangeKeysEq
namespace Go.Proofs.YbulkchdaFmt
open Go.RowKit Bits

theorem part32 (V : Nat → Nat) {k : Nat} (h : k < 16) (w : World) : (part 32 (wcells V) (k * 2)).run Ybaf.prog w = .ok (wh (V k)) w := by
  have hx : (wcells V).extract (k * 2) (k * 2 + 2) = #[.int .u32 (hi (V k) : Nat), .int .u32 (lo (V k) : Nat)] := by
    apply Array.ext_getElem?
    intro i
    rw [Array.getElem?_extract, wcells_size]
    rcases Nat.lt_or_ge i 2 with h2 | h2
    · rcases (show i = 0 ∨ i = 1 by omega) with rfl | rfl
      · rw [if_pos (by omega), Nat.add_zero, wcells_hi V h]; rfl
      · rw [if_pos (by omega), wcells_lo V h]; rfl
    · rw [if_neg (by omega)]
      exact (Array.getElem?_eq_none (by simpa using h2)).symm
  have hi : (Ybaf.prog.info? 32).map (·.size) = some 2 := by kernel_rfl
  cases hq : Ybaf.prog.info? 32 with
  | none => simp [hq] at hi
  | some i =>
    have hs : i.size = 2 := by simpa [hq] using hi
    unfold part
    simp [Sem.run_bind, isAgg, run_underlying Ybaf.underlying32 w, sizeOf, typeInfo, hq, hs, hx]

set_option maxRecDepth 100000 in
theorem eq_word (a d : Nat) (w : World) : (Op.equalIn (d + 2) 32 (wh a) (wh a)).run Ybaf.prog w = .ok true w := by
  go_simp
theorem eq_items (V : Nat → Nat) (d : Nat) (w : World) : ∀ is : List Nat, (∀ i ∈ is, i < 16) → (Op.eqItems (d + 2) 32 2 (wcells V) (wcells V) is).run Ybaf.prog w = .ok true w
  | [], _ => by simp [Op.eqItems]
  | i :: is, h => by
    have hi := h i (by simp)
    simp only [Op.eqItems, Sem.run_bind, part32 V hi, Result.andThen_ok, eq_word]
    simpa using eq_items V d w is fun j hj => h j (by simp [hj])
theorem eq_words (V : Nat → Nat) (w : World) : (Op.equalIn 10000 33 (.agg (wcells V)) (.agg (wcells V))).run Ybaf.prog w = .ok true w := by
  have hc : Ybaf.prog.cellsOf 32 = 2 := by kernel_rfl
  have hi : (Ybaf.prog.info? 32).isSome = true := by kernel_rfl
  obtain ⟨i, hi⟩ := Option.isSome_iff_exists.1 hi
  rw [show (10000 : Nat) = 9999 + 1 from rfl, run_equalIn_array w 9999 _ _ Ybaf.underlying33 hi, hc]
  exact eq_items V 9997 w _ fun j hj => by simpa using hj
theorem eqGuard33 : Ybaf.prog.eqGuardType Ybaf.prog.depth 33 = false := by kernel_rfl

section
variable {P : Program} {ops : Array Oper} {Q : Exit → Act → World → Prop} {md : Region.Mode} {S : Bool → World → Prop} {c : Nat}
theorem yields_load_row {T : World → Prop} {o : Oper} {a : Act} (hw : Region.wanted o (yielded ops a.tmps) = true) (ty : TypeId) (x : Operand) (ho : o.op = .load ty x) (g : Nat) (hx : a.eval x = .pointer (some ⟨g, 0, none⟩))
    (t : TypeId) (cs : Array Value) (fr : Nat × Nat) (d : TypeDesc) (hT : ∀ w, T w → w.heap[g]? = some (.cells cs t fr)) (hu : P.underlying ty = some d) (hd : (match d with | .struct _ | .array _ _ => true | _ => false) = true) (hi : (P.info? ty).map (·.size) = some cs.size) :
    YieldsIf P ops T o (.agg cs) a := by
  refine .inl ⟨hw, fun w h => ?_⟩
  unfold execOp
  simp only [ho, hx, Instr.loadAt, Instr.sureAddr, Sem.run_bind, Sem.run_pure, Result.andThen_ok, run_loadVar_row w g t ty cs fr d (hT w h) hu hd hi]
/-- one of two may come up -/
theorem wpAnyC_two {i j : Nat} {o o' : Oper} {fuel : Nat} {listed : Array Bool} {a : Act} {w : World} (hr : Region.ready md ops listed = [i, j]) (ho : ops[i]? = some o) (ho' : ops[j]? = some o')
    (hwt : Region.wanted o (yielded ops a.tmps) = true) (hwt' : Region.wanted o' (yielded ops a.tmps) = true)
    (h : ∀ K : Act → World → Prop, (∀ a' w', S ((listed.setIfInBounds i true).getD c true) w' → wpAnyC P md ops Q S c fuel (listed.setIfInBounds i true) a' w' → K a' w') → o.wp P a w K Q)
    (h' : ∀ K : Act → World → Prop, (∀ a' w', S ((listed.setIfInBounds j true).getD c true) w' → wpAnyC P md ops Q S c fuel (listed.setIfInBounds j true) a' w' → K a' w') → o'.wp P a w K Q) : wpAnyC P md ops Q S c (fuel + 1) listed a w := by
  refine ⟨fun h0 => absurd (hr ▸ h0) (by simp), fun k hk => ?_⟩
  rw [hr] at hk
  unfold wpOp
  rcases (show k = i ∨ k = j by simpa using hk) with rfl | rfl
  · simp only [ho, hwt, if_true]
    exact .inl (h _ fun _ _ h1 h2 => ⟨h1, h2⟩)
  · simp only [ho', hwt', if_true]
    exact .inl (h' _ fun _ _ h1 h2 => ⟨h1, h2⟩)
end

/-- what lies in memory in law 3: the arguments' boxes, the row; the caller's memory is as it was -/
structure LAt (w0 w : World) (rb : Nat) (v : Value) (st : RSt) (I M : Nat → Nat) : Prop where
  row : RowAt w rb v st
  A : Loc w rb v w0.heap.size (nO I)
  B : Loc w rb v (w0.heap.size + 1) (nO M)
  bel : Below w0.heap.size w0 w
  low : w0.heap.size ≤ rb
  olow : ∀ k, v.ownBlock = some k → w0.heap.size ≤ k
theorem LAt.size {w0 w : World} {rb : Nat} {v : Value} {st : RSt} {I M : Nat → Nat} (h : LAt w0 w rb v st I M) : w0.heap.size ≤ w.heap.size := h.bel.size
theorem LAt.alloc {w0 w : World} {rb : Nat} {v : Value} {st : RSt} {I M : Nat → Nat} (h : LAt w0 w rb v st I M) (o : Obj) : LAt w0 (w.alloc o) rb v st I M :=
  ⟨h.row.alloc o, h.A.alloc o, h.B.alloc o, h.bel.alloc h.size o, h.low, h.olow⟩
theorem LAt.drew {w0 w : World} {rb : Nat} {v : Value} {st : RSt} {I M : Nat → Nat} (h : LAt w0 w rb v st I M) : LAt w0 w.drew rb v st I M :=
  ⟨h.row.drew, h.A.drew, h.B.drew, h.bel.drew, h.low, h.olow⟩
theorem LAt.below {w0 w w' : World} {rb : Nat} {v : Value} {st : RSt} {I M : Nat → Nat} (h : LAt w0 w rb v st I M) (b : Below w.heap.size w w') : LAt w0 w' rb v st I M :=
  ⟨h.row.below b, h.A.below b, h.B.below b, h.bel.trans (b.mono h.size), h.low, h.olow⟩
theorem LAt.setRow {w0 w : World} {rb g : Nat} {v : Value} {st : RSt} {I M : Nat → Nat} {o : Obj} (h : LAt w0 w rb v st I M) (hg : Loc w rb v g o) (h1 : w0.heap.size + 1 < g) (cs : Array Value) : LAt w0 (w.setRow g cs) rb v st I M :=
  ⟨h.row.setRowOther hg.ne hg.own cs, h.A.setRowOther (by omega) cs, h.B.setRowOther (by omega) cs, below_setRow h.bel (by omega) cs, h.low, h.olow⟩
theorem LAt.fr {w0 w w' : World} {rb : Nat} {v v' : Value} {st st' : RSt} {I M : Nat → Nat} (h : LAt w0 w rb v st I M) (r : RowAt w' rb v' st') (f : Fr rb v v' w w') : LAt w0 w' rb v' st' I M :=
  ⟨r, h.A.fr f, h.B.fr f, Fr.below h.bel h.size f h.low h.olow, h.low, fun k hk => by
    rcases Nat.lt_or_ge k w0.heap.size with h1 | h1
    · exact absurd hk (f.keep k (by have := h.size; omega) (by have := h.low; omega) (fun e => by have := h.olow k e; omega)).2
    · exact h1⟩
theorem LAt.range {w0 w : World} {rb : Nat} {v : Value} {st : RSt} {I M : Nat → Nat} (h : LAt w0 w rb v st I M) (hg : w0.rangeAt 0 0 gl) : w.rangeAt 0 0 gl := fun j u hu => by
  rw [h.bel.cell (by have := gl_lt hg; exact this)]
  exact hg j u hu
end Go.Proofs.YbulkchdaFmt
