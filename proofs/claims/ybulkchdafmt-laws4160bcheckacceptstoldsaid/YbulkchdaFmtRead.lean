/- (*row).words and (*row).end, walked once. -/
import Derived.Test.YbulkchdaFmtLaw3
namespace Go.Proofs.YbulkchdaFmt
open Go.RowKit Bits

set_option maxHeartbeats 1000000 in
set_option maxRecDepth 100000 in
theorem words_any (rb : Nat) (v : Value) (st : RSt) (V : Nat → Nat) (w : World) (h : RowAt w rb v st)
    (hd : ∀ k, k < 16 → st.xs[st.pos + 2 * k]? = some (hi (V k)) ∧ st.xs[st.pos + 2 * k + 1]? = some (lo (V k))) :
    Calls Ybaf.prog 9 #[.pointer (some ⟨rb, 0, none⟩)] w fun e w' => e = .returned (.agg (wcells V)) ∧ RowAt w' rb v { st with pos := st.pos + 32 } ∧ Fr rb v v w w' := by
  obtain ⟨w2, hw2⟩ : ∃ w2, w2 = (w.alloc (wO fun _ => 0)).alloc (wO fun _ => 0) := ⟨_, rfl⟩
  have R2 : RowAt w2 rb v { st with pos := st.pos + 2 * 0 } := by rw [hw2]; exact (h.alloc _).alloc _
  have F2 : Fr rb v v w w2 := by rw [hw2]; exact ((Fr.refl _ _ _).alloc _).alloc _
  have L0 : Loc w2 rb v w.heap.size (wO fun _ => 0) := by rw [hw2]; exact (Loc.new h _).alloc _
  have hz : upto V 0 = fun _ => 0 := by funext i; simp [upto]
  have L1 : Loc w2 rb v (w.heap.size + 1) (wO (upto V 0)) := by rw [hw2, hz]; exact Loc.newAt (h.alloc _) (by simp) _
  have hw2' : w2 = (w.alloc (.cells #[.int .u32 0, .int .u32 0, .int .u32 0, .int .u32 0, .int .u32 0, .int .u32 0, .int .u32 0, .int .u32 0, .int .u32 0, .int .u32 0, .int .u32 0, .int .u32 0, .int .u32 0, .int .u32 0, .int .u32 0, .int .u32 0, .int .u32 0, .int .u32 0, .int .u32 0, .int .u32 0, .int .u32 0, .int .u32 0, .int .u32 0, .int .u32 0, .int .u32 0, .int .u32 0, .int .u32 0, .int .u32 0, .int .u32 0, .int .u32 0, .int .u32 0, .int .u32 0] 33)).alloc (.cells #[.int .u32 0, .int .u32 0, .int .u32 0, .int .u32 0, .int .u32 0, .int .u32 0, .int .u32 0, .int .u32 0, .int .u32 0, .int .u32 0, .int .u32 0, .int .u32 0, .int .u32 0, .int .u32 0, .int .u32 0, .int .u32 0, .int .u32 0, .int .u32 0, .int .u32 0, .int .u32 0, .int .u32 0, .int .u32 0, .int .u32 0, .int .u32 0, .int .u32 0, .int .u32 0, .int .u32 0, .int .u32 0, .int .u32 0, .int .u32 0, .int .u32 0, .int .u32 0] 33) := by rw [← wcells_zero]; exact hw2
  have HW := hide hw2'
  clear hw2 hw2' hz h
  go_enter Ybaf.func9, Ybaf.ntmps9
  go_wp2_with fail
  rw [← HW.out]
  clear HW
  go_loopw [5] (fun iv wr => ∃ k : Nat, k ≤ 16 ∧ iv = .int .i64 k ∧ RowAt wr rb v { st with pos := st.pos + 2 * k } ∧ Fr rb v v w wr ∧ Loc wr rb v w.heap.size (wO fun _ => 0) ∧ Loc wr rb v (w.heap.size + 1) (wO (upto V k))) (fun iv _ => 16 - (intOf iv).toNat)
  case atStart => exact ⟨0, by omega, rfl, R2, F2, L0, L1⟩
  case round =>
    clear R2 F2 L0 L1
    obtain ⟨k, hk, rfl, R, F, L0, L1⟩ := hrel
    have HR := hide R
    have HF := hide F
    have H0 := hide L0
    have H1 := hide L1
    clear R F L0 L1
    by_cases hlt : k < 16
    · obtain ⟨g1, g2⟩ := hd k hlt
      have HG1 := hide g1
      have HG2 := hide g2
      clear g1 g2 hd
      go_wp2_with fail
      refine (read_any rb v _ (hi (V k)) wr HR.out HG1.out).mono ?_
      rintro e w1 ⟨rfl, R1, F1⟩
      have HR1 := hide R1
      have HF1 := hide F1
      clear R1 F1
      go_wp2_with fail
      refine (read_any rb v _ (lo (V k)) w1 HR1.out HG2.out).mono ?_
      rintro e w2 ⟨rfl, R2, F2⟩
      have HR2 := hide R2
      have HF2 := hide F2
      have J0 := hide ((H0.out.fr HF1.out).fr F2)
      have J1 := hide ((H1.out.fr HF1.out).fr F2)
      clear R2 F2
      have k0 : w2.cell? ⟨w.heap.size + 1, k * 2, none⟩ = some (.int .u32 (hi (upto V k k) : Nat)) := cell_of_cells J1.out.blk (wcells_hi _ hlt)
      have k1 : w2.cell? ⟨w.heap.size + 1, k * 2 + 1, none⟩ = some (.int .u32 (lo (upto V k k) : Nat)) := cell_of_cells J1.out.blk (wcells_lo _ hlt)
      have f0 := free_of_cells (i := k * 2) J1.out.blk
      have f1 := free_of_cells (i := k * 2 + 1) J1.out.blk
      go_wp2_with fail
      go_roundw
      case rel =>
        refine ⟨k + 1, by omega, by go_num, ((HR2.out.setOther J1.out.ne J1.out.own _).setOther J1.out.ne J1.out.own _).cast ?_, (((HF.out.trans HF1.out).trans HF2.out).setNew (p := ⟨w.heap.size + 1, k * 2, none⟩) (by dsimp only; omega) _).setNew (p := ⟨w.heap.size + 1, k * 2 + 1, none⟩) (by dsimp only; omega) _,
          (J0.out.setOther (by omega) _).setOther (by omega) _, ?_⟩
        · simp only [RSt.mk.injEq, true_and, and_true]; omega
        · rw [← upto_succ]; exact J1.out.setW hlt _
      case measure => simp [intOf]; omega
    · obtain rfl : k = 16 := by omega
      have hrow := (H0.out.setRow (cs' := wcells (upto V 16))).blk
      clear hd
      go_wp2_with (first | (refine wpList_load_row (by rfl) 33 (.tmp 3) rfl _ rfl 33 (wcells (upto V 16)) (0, 0) _ H1.out.blk Ybaf.underlying33 rfl (info33 _) ?_) | (refine wpList_store_row (by rfl) 33 (.tmp 2) (.tmp 16) rfl _ _ rfl rfl 33 _ H0.out.blk (info33 _) (by rw [wcells_size, wcells_size]) (wcells_all _) ?_))
      exact bodyPost_ret (v := .agg (wcells (upto V 16))) (results_cell_row Ybaf.results9 _ _ w.heap.size 33 _ (0, 0) _ rfl hrow Ybaf.underlying33 rfl (info33 _)) rfl ⟨by rw [upto_all], HR.out.setRowOther H0.out.ne H0.out.own _, HF.out.setRowNew (Nat.le_refl _) _⟩

set_option maxHeartbeats 1000000 in
set_option maxRecDepth 100000 in
theorem end_any (rb : Nat) (v : Value) (st : RSt) (w : World) (h : RowAt w rb v st) (hp : st.pos = st.xs.length) :
    Calls Ybaf.prog 10 #[.pointer (some ⟨rb, 0, none⟩)] w fun e w' => e = .returned .nilIface ∧ ∃ n, w' = w.drewN n := by
  obtain ⟨p, cap, rfl⟩ := h.slice
  have k0 : w.cell? ⟨rb, 0, none⟩ = some (.slice p st.xs.length cap) := cell_of_cells h.blk rfl
  have k1 : w.cell? ⟨rb, 1, none⟩ = some (.int .i64 (st.xs.length : Nat)) := by rw [← hp]; exact cell_of_cells h.blk rfl
  have k5 : w.cell? ⟨rb, 5, none⟩ = some .nilIface := cell_of_cells h.blk rfl
  clear h hp
  generalize st.xs.length = n at *
  go_enter Ybaf.func10, Ybaf.ntmps10
  go_wp2_with fail
  go_quiet (fail)
  go_wp2
  go_ret
  exact ⟨rfl, _, rfl⟩
end Go.Proofs.YbulkchdaFmt
