/- (*row).read, (*row).cell, (*row).carry and (*row).xor, each walked once. -/
import Derived.Test.YbulkchdaFmtElem
import Derived.Test.YbulkchdaFmtMem
import Derived.RegionTactic
import Derived.BigRegion
import Derived.Deep.QuietTactic
import Derived.BigQuiet
import Derived.Outline
namespace Go.Proofs.YbulkchdaFmt
open Go.RowKit Bits

theorem Ybaf.info22 : (Ybaf.prog.info? 22).map (fun i => (i.zero, i.size, i.bytes)) = some (some (.int .u32 0), 1, 4) := by kernel_rfl

theorem RowAt.shape {w : World} {rb x : Nat} {v : Value} {st : RSt} (h : RowAt w rb v st) (hx : st.xs[st.pos]? = some x) :
    ∃ g cap, v = .slice (some ⟨g, 0, none⟩) st.xs.length cap ∧ g ≠ rb ∧ cap ≤ 9223372036854775807 ∧ st.xs.length ≤ cap ∧ w.cell? ⟨g, st.pos, none⟩ = some (.int .u32 (x : Nat)) := by
  have hl := (List.getElem?_eq_some_iff.1 hx).1
  rcases h.own.2 with ⟨_, h0⟩ | ⟨g, cap, cur, rfl, _, hg, h1, h2, h3, h4⟩
  · omega
  · refine ⟨g, cap, rfl, fun e => h.ne (by simp [Value.ownBlock, e]), by unfold maxLen at h2; omega, h1, ?_⟩
    refine cell_of_cells hg ?_
    have : (u32s st.xs)[st.pos]? = some (.int .u32 (x : Nat)) := by simp [u32s, hx]
    rw [← h4, Nat.mul_one, List.getElem?_take_of_lt hl] at this
    simpa using this

set_option maxHeartbeats 1000000 in
set_option maxRecDepth 100000 in
theorem read_any (rb : Nat) (v : Value) (st : RSt) (x : Nat) (w : World) (h : RowAt w rb v st) (hx : st.xs[st.pos]? = some x) :
    Calls Ybaf.prog 13 #[.pointer (some ⟨rb, 0, none⟩)] w fun e w' => e = .returned (.int .u32 (x : Nat)) ∧ RowAt w' rb v { st with pos := st.pos + 1 } ∧ Fr rb v v w w' := by
  obtain ⟨g, cap, hv, hg, hcm, hnc, hcell⟩ := h.shape hx
  have hl := (List.getElem?_eq_some_iff.1 hx).1
  have hxb := h.bnd x (List.mem_of_getElem? hx)
  have hlen := h.len
  obtain ⟨w1, hw1⟩ : ∃ w1, w1 = w.setCell ⟨rb, 1, none⟩ (.int .i64 ((st.pos : Int) + 1)) := ⟨_, rfl⟩
  have R1 : RowAt w1 rb v { st with pos := st.pos + 1 } := by
    rw [hw1]
    exact ⟨cells_setCell h.blk, ownsRow_setCell_other h.own h.ne _, h.ne, h.bnd, h.len, by simp only; omega, h.lkb⟩
  have F1 : Fr rb v v w w1 := by rw [hw1]; exact (Fr.refl rb v w).setRow _
  have c1 : w.cell? ⟨rb, 1, none⟩ = some (.int .i64 (st.pos : Nat)) := cell_of_cells h.blk rfl
  have f1 := free_of_cells (i := 1) h.blk
  have d1 : w1.cell? ⟨rb, 1, none⟩ = some (.int .i64 ((st.pos : Int) + 1)) := cell_of_cells R1.blk rfl
  have d0 : w1.cell? ⟨rb, 0, none⟩ = some (.slice (some ⟨g, 0, none⟩) st.xs.length cap) := by rw [← hv]; exact cell_of_cells R1.blk rfl
  have hcell1 : w1.cell? ⟨g, st.pos, none⟩ = some (.int .u32 (x : Nat)) := by
    rw [hw1, World.cell?_setCell_other _ _ _ _ (by simp only [ne_eq, Addr.mk.injEq]; intro e; exact hg e.1.symm)]; exact hcell
  have HR := hide R1
  have HF := hide F1
  have Hw := hide hw1
  clear h hx R1 F1 hw1 hcell hv
  obtain ⟨xs, pos, bl, lk⟩ := st
  simp only at *
  have x1 : (x : Int) < 2147483647 := by omega
  clear hxb hcm hnc
  have x0 : (0 : Int) ≤ (x : Int) := by omega
  generalize (x : Int) = X at *
  generalize xs.length = n at *
  have hdec : decide ((n : Int) < (pos : Int) + 1) = false := by simp; omega
  go_enter Ybaf.func13, Ybaf.ntmps13
  go_wp2_with fail
  rw [← Hw.out]
  go_quiet (fail)
  go_wp2_with fail
  go_quiet (fail)
  go_wp2
  go_ret
  exact ⟨rfl, HR.out.drewN _, HF.out.drewN _⟩

/-- the row behind an append of one cell, before it is read -/
theorem RowAt.push {w w' : World} {rb g cap x : Nat} {v : Value} {st : RSt} {o : Obj} (h : RowAt w rb v st) (hx : x < 2147483647) (hl : st.xs.length + 1 ≤ 1000)
    (own : w'.ownsRow 0 22 1 (.slice (some ⟨g, 0, none⟩) (st.xs.length + 1) cap) (st.xs.length + 1) (u32s st.xs ++ [.int .u32 (x : Nat)])) (gr : (w.alloc o).grownBy w' v.ownBlock) (sep : v.ownBlock = some g ∨ (w.alloc o).heap.size ≤ g) :
    RowAt (w'.setCell ⟨rb, 0, none⟩ (.slice (some ⟨g, 0, none⟩) (st.xs.length + 1) cap)) rb (.slice (some ⟨g, 0, none⟩) (st.xs.length + 1) cap) { st with xs := st.xs ++ [x] } ∧
      Fr rb v (.slice (some ⟨g, 0, none⟩) (st.xs.length + 1) cap) w (w'.setCell ⟨rb, 0, none⟩ (.slice (some ⟨g, 0, none⟩) (st.xs.length + 1) cap)) ∧
      w'.cell? ⟨rb, 0, none⟩ = some v ∧ w'.frozen? ⟨rb, 0, none⟩ = false := by
  have hlt := h.lt
  have hsz : (w.alloc o).heap.size = w.heap.size + 1 := by simp
  have hg : g ≠ rb := by
    rcases sep with e | e
    · intro e'; exact h.ne (by rw [e, e'])
    · omega
  have hblk : w'.heap[rb]? = some (rowObj v st) := by
    rw [gr.block rb (by omega) (fun e => h.ne e.symm), Below.heap_alloc _ _ _ hlt]; exact h.blk
  refine ⟨⟨?_, ?_, by simp [Value.ownBlock, hg], ?_, by simp; omega, h.posb, h.lkb⟩, ?_, cell_of_cells hblk rfl, free_of_cells hblk⟩
  · have := cells_setCell (i := 0) (u := .slice (some ⟨g, 0, none⟩) (st.xs.length + 1) cap) hblk
    exact this
  · have := ownsRow_setCell_other own (a := ⟨rb, 0, none⟩) (by simp [Value.ownBlock, hg]) (.slice (some ⟨g, 0, none⟩) (st.xs.length + 1) cap)
    simpa [u32s] using this
  · intro y hy
    rcases List.mem_append.1 hy with hy | hy
    · exact h.bnd y hy
    · rw [List.mem_singleton.1 hy]; exact hx
  · have F : Fr rb v (.slice (some ⟨g, 0, none⟩) (st.xs.length + 1) cap) w w' := by
      refine ⟨gr.os, gr.tape, gr.output, by have := gr.size; omega, fun k hk h1 h2 => ⟨?_, ?_⟩⟩
      · rw [gr.block k (by omega) (fun e => h2 e.symm)]
        exact Below.heap_alloc _ _ _ hk
      · simp [Value.ownBlock]
        rintro rfl
        rcases sep with e | e
        · exact h2 e
        · omega
    exact F.setRow _

set_option maxHeartbeats 1000000 in
set_option maxRecDepth 100000 in
theorem cell_any (rb : Nat) (v : Value) (st : RSt) (x : Nat) (w : World) (h : RowAt w rb v st) (hc : st.can [x] 0) :
    Calls Ybaf.prog 22 #[.pointer (some ⟨rb, 0, none⟩), .int .u32 (x : Nat)] w fun e w' => e = .returned (.int .u32 (x : Nat)) ∧ ∃ v', RowAt w' rb v' (st.emit [x] 0) ∧ Fr rb v v' w w' := by
  obtain ⟨hcan, hp, _, hxb⟩ := hc
  have hx := hxb x (by simp)
  simp only [List.length_singleton] at hp
  clear hxb
  cases hb : st.build
  · rw [hb] at hcan
    obtain ⟨t, ht⟩ := hcan
    have hget : st.xs[st.pos]? = some x := by
      have : (st.xs.drop st.pos)[0]? = some x := by rw [ht]; rfl
      simpa using this
    have he : st.emit [x] 0 = { st with pos := st.pos + 1 } := by simp [RSt.emit, hb]
    rw [he]
    have c2 : w.cell? ⟨rb, 2, none⟩ = some (.bool false) := by rw [← hb]; exact cell_of_cells h.blk rfl
    clear ht he
    go_enter Ybaf.func22, Ybaf.ntmps22
    go_wp2_with fail
    refine (read_any rb v st x w h hget).mono ?_
    rintro e w1 ⟨rfl, R1, F1⟩
    have HR := hide R1
    have HF := hide F1
    clear R1 F1 h hget c2
    go_wp2
    go_ret
    exact ⟨rfl, v, HR.out, HF.out⟩
  · rw [hb] at hcan
    simp only [if_true] at hcan
    have hl : st.xs.length + 1 ≤ 1000 := by omega
    have c2 : w.cell? ⟨rb, 2, none⟩ = some (.bool true) := by rw [← hb]; exact cell_of_cells h.blk rfl
    have c0 : w.cell? ⟨rb, 0, none⟩ = some v := cell_of_cells h.blk rfl
    have he : st.emit [x] 0 = { xs := st.xs ++ [x], pos := st.pos + 1, build := st.build, lk := st.lk } := by simp [RSt.emit, hb]
    have HE := hide he
    have HC := hide hcan
    have hrl := h.lt
    obtain ⟨i0, hi0, hz0, hz1, hz2⟩ := info_parts Ybaf.info22
    clear he hcan
    go_enter Ybaf.func22, Ybaf.ntmps22
    go_wp2_with (at_builtin; refine wpList_append_sep _ rfl (.tmp 13) (.tmp 15) 25 rfl 0 22 i0 (.int .u32 0) 1 4 Ybaf.underlying25 hi0 hz0 hz1 hz2 rfl (by decide) v _ _ rfl (h.own.alloc _) ⟨w.heap.size, 0, none⟩ 1 1 [.int .u32 (x : Nat)] rfl rfl one_new (one_cell rfl) (by unfold maxLen; omega) (by omega) (Nat.zero_le _) (by decide) ?_)
    intro g cap w1 own1 gr1 sep1
    obtain ⟨R1, F1, k0, j0⟩ := h.push hx hl own1 gr1 (by simpa using sep1)
    have hz1' : w.heap.size < w1.heap.size := by have := gr1.size; simp at this; omega
    have HR := hide R1
    have HF := hide F1
    clear own1 gr1 sep1 R1 F1 h c0 c2
    go_wp2_with fail
    refine (read_any rb _ _ x _ HR.out (by have := HC.out; simp [this])).mono ?_
    rintro e w2 ⟨rfl, R2, F2⟩
    have HR2 := hide R2
    have HF2 := hide F2
    clear R2 F2
    go_wp2
    go_ret
    exact ⟨rfl, _, by rw [HE.out]; exact HR2.out, HF.out.trans HF2.out⟩

end Go.Proofs.YbulkchdaFmt
