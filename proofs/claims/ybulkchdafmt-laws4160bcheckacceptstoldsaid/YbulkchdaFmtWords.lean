/- wordsOf, (*row).words, (*row).put, (*row).end, zzs4160bround. -/
import Derived.Test.YbulkchdaFmtArr
namespace Go.Proofs.YbulkchdaFmt
open Go.RowKit Bits

theorem n_index (V : Nat → Nat) {k : Nat} (h : k < 16) (w : World) : (Instr.index 23 (.agg (ncells V)) (.int .i64 (k : Nat))).run Ybaf.prog w = .ok (.int .u32 (V k : Nat)) w := by
  have hk := ncells_get V h
  have hi : (Ybaf.prog.info? 22).map (·.size) = some 1 := by kernel_rfl
  cases hq : Ybaf.prog.info? 22 with
  | none => simp [hq] at hi
  | some i =>
    have hs : i.size = 1 := by simpa [hq] using hi
    unfold Instr.index part
    simp [Sem.run_bind, asIntOf, run_underlying Ybaf.underlying23 w, sizeOf, typeInfo, hq, hs, hk]
    intro h'
    omega
theorem w_index (V : Nat → Nat) {k : Nat} (h : k < 16) (w : World) : (Instr.index 33 (.agg (wcells V)) (.int .i64 (k : Nat))).run Ybaf.prog w = .ok (wh (V k)) w := by
  have hx : (wcells V).extract (k * 2) (k * 2 + 2) = #[.int .u32 (Go.Proofs.YbulkchdaFmt.hi (V k) : Nat), .int .u32 (lo (V k) : Nat)] := by
    apply Array.ext_getElem?
    intro i
    rw [Array.getElem?_extract, wcells_size]
    rcases Nat.lt_or_ge i 2 with h2 | h2
    · rcases (show i = 0 ∨ i = 1 by omega) with rfl | rfl
      · rw [if_pos (by omega), Nat.add_zero, wcells_hi V h]; rfl
      · rw [if_pos (by omega), wcells_lo V h]; rfl
    · rw [if_neg (by omega)]
      exact (Array.getElem?_eq_none (by simpa using h2)).symm
  have hi : (Ybaf.prog.info? 32).map (·.size) = some 2 := by kernel_rfl
  cases hq : Ybaf.prog.info? 32 with
  | none => simp [hq] at hi
  | some i =>
    have hs : i.size = 2 := by simpa [hq] using hi
    unfold Instr.index part
    simp [Sem.run_bind, asIntOf, run_underlying Ybaf.underlying33 w, sizeOf, typeInfo, hq, hs, hx]
    intro h'
    omega
theorem blk2 (w : World) (A B : Obj) : ((w.alloc A).alloc B).heap[w.heap.size]? = some A := heap_alloc2_old w A B
theorem blk3 (w : World) (A B C : Obj) : (((w.alloc A).alloc B).alloc C).heap[w.heap.size]? = some A := by
  exact (Below.heap_alloc _ _ _ (by simp only [World.size_alloc]; omega)).trans (blk2 w A B)
theorem info23 (V : Nat → Nat) : (Ybaf.prog.info? 23).map (·.size) = some (ncells V).size := by rw [ncells_size]; kernel_rfl
theorem info33 (V : Nat → Nat) : (Ybaf.prog.info? 33).map (·.size) = some (wcells V).size := by rw [wcells_size]; kernel_rfl

theorem RowAt.below {w w' : World} {rb : Nat} {v : Value} {st : RSt} (h : RowAt w rb v st) (b : Below w.heap.size w w') : RowAt w' rb v st :=
  ⟨(b.block _ h.lt).trans h.blk, h.own.kept (row := none) ⟨b.os, b.tape, b.output, b.size, fun k hk _ => b.block k hk⟩ (by cases hv : v.ownBlock <;> simp), h.ne, h.bnd, h.len, h.posb, h.lkb⟩
theorem Loc.below {w w' : World} {rb k : Nat} {v : Value} {o : Obj} (h : Loc w rb v k o) (b : Below w.heap.size w w') : Loc w' rb v k o := ⟨(b.block _ h.lt).trans h.blk, h.ne, h.own⟩
theorem Fr.ofBelow {w w' : World} (rb : Nat) (v : Value) (b : Below w.heap.size w w') : Fr rb v v w w' := ⟨b.os, b.tape, b.output, b.size, fun k hk _ h => ⟨b.block k hk, h⟩⟩
/-- the first k words -/
def upto (V : Nat → Nat) (k : Nat) : Nat → Nat := fun i => if i < k then V i else 0
theorem upto_succ (V : Nat → Nat) (k : Nat) : upd (upto V k) k (V k) = upto V (k + 1) := by
  funext i
  unfold upd upto
  by_cases h : i = k
  · subst h; rw [if_pos rfl, if_pos (by omega)]
  · rw [if_neg h]
    by_cases h2 : i < k
    · rw [if_pos h2, if_pos (by omega)]
    · rw [if_neg h2, if_neg (by omega)]
theorem upto_all (V : Nat → Nat) : wcells (upto V 16) = wcells V := wcells_congr fun _ hi => if_pos hi
theorem below_setRow {B g : Nat} {a w : World} (h : Below B a w) (hg : B ≤ g) (cs : Array Value) : Below B a (w.setRow g cs) :=
  ⟨h.os, h.tape, h.output, by simpa using h.size, fun k hk => (setRow_other w g k cs (by omega)).trans (h.block k hk)⟩
theorem wcells_all (V : Nat → Nat) : (wcells V).all (·.oneCell') = true := Array.all_eq_true_iff_forall_mem.2 fun x hx => wcells_one V x (by simpa using hx)
abbrev wO (V : Nat → Nat) : Obj := .cells (wcells V) 33 (0, 0)
theorem wO_set {w : World} {b k : Nat} {V : Nat → Nat} (h : w.heap[b]? = some (wO V)) (hk : k < 16) (u : Nat) :
    ((w.setCell ⟨b, k * 2, none⟩ (.int .u32 (hi u : Nat))).setCell ⟨b, k * 2 + 1, none⟩ (.int .u32 (lo u : Nat))).heap[b]? = some (wO (upd V k u)) := by
  unfold wO
  rw [← wcells_set _ _ hk]
  exact cells_setCell (cells_setCell h)

set_option maxHeartbeats 1000000 in
set_option maxRecDepth 100000 in
theorem wordsOf_any (V : Nat → Nat) (hV : ∀ i, V i < 4294967296) (w : World) : Calls Ybaf.prog 6 #[.agg (ncells V)] w fun e w' => e = .returned (.agg (wcells V)) ∧ Below w.heap.size w w' := by
  obtain ⟨w3, hw3⟩ : ∃ w3, w3 = ((w.alloc (.cells (ncells V) 23)).alloc (wO (upto V 0))).alloc (wO (upto V 0)) := ⟨_, rfl⟩
  have b3 : Below w.heap.size w w3 := by
    rw [hw3]
    exact (((Below.refl _ _).alloc (by omega) _).alloc (by simp only [World.size_alloc]; omega) _).alloc (by simp only [World.size_alloc]; omega) _
  have r3 : w3.heap[w.heap.size + 1]? = some (wO (upto V 0)) := by
    have := blk2 (w.alloc (.cells (ncells V) 23)) (wO (upto V 0)) (wO (upto V 0))
    rw [World.size_alloc] at this
    rw [hw3]; exact this
  have s3 : w3.heap[w.heap.size + 1 + 1]? = some (wO (upto V 0)) := by
    have := heap_alloc_new ((w.alloc (.cells (ncells V) 23)).alloc (wO (upto V 0))) (wO (upto V 0))
    rw [World.size_alloc, World.size_alloc] at this
    rw [hw3]; exact this
  have hz : upto V 0 = fun _ => 0 := by funext i; simp [upto]
  unfold wO at hw3
  rw [hz, wcells_zero] at hw3
  have HW := hide hw3
  clear hw3
  go_enter Ybaf.func6, Ybaf.ntmps6
  go_wp2_with (refine wpList_load_row (by rfl) 23 (.tmp 1) rfl w.heap.size rfl 23 (ncells V) (0, 0) _ (blk3 w _ _ _) Ybaf.underlying23 rfl (info23 V) ?_)
  rw [← HW.out]
  go_loopw [7] (fun iv wr => ∃ k : Nat, k ≤ 16 ∧ iv = .int .i64 k ∧ Below w.heap.size w wr ∧ wr.heap[w.heap.size + 1]? = some (wO (upto V 0)) ∧ wr.heap[w.heap.size + 1 + 1]? = some (wO (upto V k))) (fun iv _ => 16 - (intOf iv).toNat)
  case atStart => exact ⟨0, by omega, rfl, b3, r3, s3⟩
  case round =>
    obtain ⟨k, hk, rfl, B, R, S⟩ := hrel
    have HB := hide B
    have HR := hide R
    have HS := hide S
    clear b3 r3 s3 HW hz
    by_cases hlt : k < 16
    · obtain ⟨SI, hSI⟩ : ∃ SI : Int, SI = (V k : Nat) := ⟨_, rfl⟩
      have hidx : ∀ w, (Instr.index 23 (.agg (ncells V)) (.int .i64 (k : Nat))).run Ybaf.prog w = .ok (.int .u32 SI) w := fun w => by rw [hSI]; exact n_index V hlt w
      have hVk := hV k
      have e1 : SI / 65536 = (hi (V k) : Nat) := by unfold hi; omega
      have e2 : bits .and .u32 SI 65535 = (lo (V k) : Nat) := by
        rw [hSI, show (65535 : Int) = ((65535 : Nat) : Int) by rfl, u32_and_nat (V k) 65535 hVk (by omega), show (65535 : Nat) = 2 ^ 16 - 1 by decide, Nat.and_two_pow_sub_one_eq_mod]
        rfl
      have s0 : 0 ≤ SI := by omega
      have s1 : SI < 4294967296 := by omega
      have k0 : wr.cell? ⟨w.heap.size + 1 + 1, k * 2, none⟩ = some (.int .u32 (hi (upto V k k) : Nat)) := cell_of_cells S (wcells_hi _ hlt)
      have k1 : wr.cell? ⟨w.heap.size + 1 + 1, k * 2 + 1, none⟩ = some (.int .u32 (lo (upto V k k) : Nat)) := cell_of_cells S (wcells_lo _ hlt)
      have f0 := free_of_cells (i := k * 2) S
      have f1 := free_of_cells (i := k * 2 + 1) S
      clear hSI hVk hV B R S
      go_wp2
      go_roundw
      case rel =>
        refine ⟨k + 1, by omega, by go_num, (HB.out.setCell (p := ⟨w.heap.size + 1 + 1, k * 2, none⟩) (by dsimp only; omega) _).setCell (p := ⟨w.heap.size + 1 + 1, k * 2 + 1, none⟩) (by dsimp only; omega) _, ?_, ?_⟩
        · rw [Below.heap_setCell _ _ _ _ (by dsimp only; omega), Below.heap_setCell _ _ _ _ (by dsimp only; omega)]; exact HR.out
        · rw [← upto_succ]; exact wO_set HS.out hlt _
      case measure => simp [intOf]; omega
    · obtain rfl : k = 16 := by omega
      have hrow : (wr.setRow (w.heap.size + 1) (wcells (upto V 16))).heap[w.heap.size + 1]? = some (wO (upto V 16)) := setRow_heap _ _ _ _ _ _ HR.out
      go_wp2_with (first | (refine wpList_load_row (by rfl) 33 (.tmp 3) rfl _ rfl 33 (wcells (upto V 16)) (0, 0) _ HS.out Ybaf.underlying33 rfl (info33 _) ?_) | (refine wpList_store_row (by rfl) 33 (.tmp 2) (.tmp 19) rfl _ _ rfl rfl 33 (wcells (upto V 0)) HR.out (info33 _) (by rw [wcells_size, wcells_size]) (wcells_all _) ?_))
      refine bodyPost_ret (v := .agg (wcells (upto V 16))) (results_cell_row Ybaf.results6 _ _ (w.heap.size + 1) 33 _ (0, 0) _ rfl hrow Ybaf.underlying33 rfl (info33 _)) rfl ⟨by rw [upto_all], below_setRow HB.out (by omega) _⟩
end Go.Proofs.YbulkchdaFmt
