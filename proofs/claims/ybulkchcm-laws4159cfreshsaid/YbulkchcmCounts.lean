/- columnCounts of a fresh candidate, walked. -/
import Derived.Test.YbulkchcmFreshParts
import Derived.LoopTactic
namespace Go.Proofs.Ybulkchcm.Cand
open Go.RowKit

theorem hide {p : Prop} (h : p) : Hid p := h

set_option maxHeartbeats 1000000 in
set_option maxRecDepth 100000 in
/-- of a childless list or section: no rows -/
theorem counts_none (b m : Nat) (ty txt : ByteArray) (f0 : Int) (w : World) (hb : w.heap[b]? = some (.cells (candCells m txt f0 (-1)) 55 (0, 0)))
    (h0 : w.cell? ⟨m, 0, none⟩ = some (.string ty)) (h12 : w.cell? ⟨m, 12, none⟩ = some (.slice none 0 0)) (hne : m ≠ b) (h : isL ty = true ∨ isS ty = true) :
    Calls Yba.prog 16 #[.pointer (some ⟨b, 0, none⟩)] w fun e w' => e = .returned (.tuple #[.int .i64 9223372036854775807, .int .i64 0]) ∧
      w'.heap[b]? = some (.cells (candCells m txt 9223372036854775807 0) 55 (0, 0)) ∧ Turn (fun k => k = b) w w' := by
  have c0 : w.cell? ⟨b, 0, none⟩ = some (.pointer (some ⟨m, 0, none⟩)) := cell_of_cells hb rfl
  have c5 : w.cell? ⟨b, 5, none⟩ = some (.int .i64 f0) := cell_of_cells hb rfl
  have c6 : w.cell? ⟨b, 6, none⟩ = some (.int .i64 (-1)) := cell_of_cells hb rfl
  have f5 := free_of_cells (i := 5) hb
  have f6 := free_of_cells (i := 6) hb
  have hne' : ¬ b = m := fun e => hne e.symm
  have H := hide h
  have HB := hide hb
  clear h hb
  have hml := World.block_lt_of_cell? w ⟨m, 0, none⟩ h0
  obtain ⟨w1, hw1⟩ : ∃ w1, w1 = (w.setCell ⟨b, 5, none⟩ (.int .i64 9223372036854775807)).setCell ⟨b, 6, none⟩ (.int .i64 0) := ⟨_, rfl⟩
  have HB1 : Hid (w1.heap[b]? = some (.cells (candCells m txt 9223372036854775807 0) 55 (0, 0))) := by rw [hw1]; exact cells_setCell (cells_setCell HB.out)
  have T1 : Turn (fun k => k = b) w w1 := by rw [hw1]; exact ((Turn.refl _ _).set _).set _
  have hblk := T1.block m hml hne
  have n0 : w1.cell? ⟨m, 0, none⟩ = some (.string ty) := (World.cell?_of_block (w := w) (a := ⟨m, 0, none⟩) hblk).trans h0
  have n12 : w1.cell? ⟨m, 12, none⟩ = some (.slice none 0 0) := (World.cell?_of_block (w := w) (a := ⟨m, 12, none⟩) hblk).trans h12
  have Hw1 := hide hw1
  clear hw1 hblk
  go_enter Yba.func16, Yba.ntmps16
  go_wp2_with fail
  rw [← Hw1.out]
  have d5 : w1.cell? ⟨b, 5, none⟩ = some (.int .i64 9223372036854775807) := cell_of_cells HB1.out rfl
  have d6 : w1.cell? ⟨b, 6, none⟩ = some (.int .i64 0) := cell_of_cells HB1.out rfl
  clear Hw1 c0 c5 c6 f5 f6 h0 h12 HB
  refine (entries_none m ty w1 n0 n12 H.out).mono ?_
  rintro e w' ⟨rfl, rfl⟩
  go_wp2_with fail
  go_loopw [24] (fun iv wr => iv = .int .i64 0 ∧ wr = w1) (fun _ _ => 0)
  case atStart => exact ⟨rfl, rfl⟩
  case round =>
    obtain ⟨rfl, rfl⟩ := hrel
    go_wp2_with fail
    go_region
    go_wp2
    go_ret2
    exact ⟨rfl, HB1.out, T1.drew⟩

set_option maxHeartbeats 1000000 in
set_option maxRecDepth 100000 in
/-- of a single value: one row of one column -/
theorem counts_one (b m : Nat) (ty txt : ByteArray) (f0 : Int) (w : World) (hb : w.heap[b]? = some (.cells (candCells m txt f0 (-1)) 55 (0, 0)))
    (h0 : w.cell? ⟨m, 0, none⟩ = some (.string ty)) (hne : m ≠ b) (hl : isL ty = false) (hs : isS ty = false) :
    Calls Yba.prog 16 #[.pointer (some ⟨b, 0, none⟩)] w fun e w' => e = .returned (.tuple #[.int .i64 1, .int .i64 1]) ∧
      w'.heap[b]? = some (.cells (candCells m txt 1 1) 55 (0, 0)) ∧ Turn (fun k => k = b) w w' := by
  have c0 : w.cell? ⟨b, 0, none⟩ = some (.pointer (some ⟨m, 0, none⟩)) := cell_of_cells hb rfl
  have c5 : w.cell? ⟨b, 5, none⟩ = some (.int .i64 f0) := cell_of_cells hb rfl
  have c6 : w.cell? ⟨b, 6, none⟩ = some (.int .i64 (-1)) := cell_of_cells hb rfl
  have f5 := free_of_cells (i := 5) hb
  have f6 := free_of_cells (i := 6) hb
  have hne' : ¬ b = m := fun e => hne e.symm
  have HB := hide hb
  clear hb
  have hml := World.block_lt_of_cell? w ⟨m, 0, none⟩ h0
  obtain ⟨w1, hw1⟩ : ∃ w1, w1 = (w.setCell ⟨b, 5, none⟩ (.int .i64 9223372036854775807)).setCell ⟨b, 6, none⟩ (.int .i64 0) := ⟨_, rfl⟩
  have HB1 : Hid (w1.heap[b]? = some (.cells (candCells m txt 9223372036854775807 0) 55 (0, 0))) := by rw [hw1]; exact cells_setCell (cells_setCell HB.out)
  have T1 : Turn (fun k => k = b) w w1 := by rw [hw1]; exact ((Turn.refl _ _).set _).set _
  have hblk := T1.block m hml hne
  have n0 : w1.cell? ⟨m, 0, none⟩ = some (.string ty) := (World.cell?_of_block (w := w) (a := ⟨m, 0, none⟩) hblk).trans h0
  have Hw1 := hide hw1
  clear hw1 hblk
  go_enter Yba.func16, Yba.ntmps16
  go_wp2_with fail
  rw [← Hw1.out]
  have d5 : w1.cell? ⟨b, 5, none⟩ = some (.int .i64 9223372036854775807) := cell_of_cells HB1.out rfl
  have d6 : w1.cell? ⟨b, 6, none⟩ = some (.int .i64 0) := cell_of_cells HB1.out rfl
  clear Hw1 c0 c5 c6 f5 f6 h0 HB
  refine (entries_one m ty w1 n0 hl hs).mono ?_
  rintro e w2 ⟨rfl, hw2⟩
  have hb2 : w2.heap[b]? = some (.cells (candCells m txt 9223372036854775807 0) 55 (0, 0)) := by rw [← hw2, Below.heap_alloc _ _ _ (lt_of_block HB1.out)]; exact HB1.out
  have T2 : Turn (fun k => k = b) w w2 := by rw [← hw2]; exact T1.alloc _
  have hz1 := T1.size
  have e2 : w2.cell? ⟨w1.heap.size, 0, none⟩ = some (.pointer (some ⟨m, 0, none⟩)) := by rw [← hw2]; exact cell_of_cells (heap_alloc_new w1 _) rfl
  have m2 : w2.cell? ⟨m, 0, none⟩ = some (.string ty) := by rw [← hw2, World.cell?_of_block (w := w1) (Below.heap_alloc _ _ _ (by simp only at hml ⊢; omega))]; exact n0
  have he2 := World.block_lt_of_cell? w2 _ e2
  simp only at he2 hml
  clear hw2 d5 d6 n0
  have hbz : b < w1.heap.size := lt_of_block HB1.out
  go_wp2_with fail
  go_loopw [24] (fun iv wr => ∃ k : Nat, k ≤ 1 ∧ iv = .int .i64 k ∧ wr.heap[b]? = some (.cells (candCells m txt (if k = 0 then 9223372036854775807 else 1) k) 55 (0, 0)) ∧ Turn (fun k => k = b) w2 wr) (fun iv _ => 1 - (intOf iv).toNat)
  case atStart => exact ⟨0, by omega, rfl, hb2, Turn.refl _ _⟩
  case round =>
    obtain ⟨k, hk, rfl, hbr, hT⟩ := hrel
    have er : wr.cell? ⟨w1.heap.size, 0, none⟩ = some (.pointer (some ⟨m, 0, none⟩)) := (World.cell?_of_block (w := w2) (a := ⟨w1.heap.size, 0, none⟩) (hT.block _ he2 (by simp only; omega))).trans e2
    have mr : wr.cell? ⟨m, 0, none⟩ = some (.string ty) := (World.cell?_of_block (w := w2) (a := ⟨m, 0, none⟩) (hT.block m (by have := T2.size; omega) hne)).trans m2
    rcases (show k = 0 ∨ k = 1 from by omega) with h | h
    · subst h
      have HBR := hide hbr
      clear hbr
      go_wp2_with fail
      refine (entries_one m ty wr mr hl hs).mono ?_
      rintro e w3 ⟨rfl, hw3⟩
      have hb3 : w3.heap[b]? = some (.cells (candCells m txt 9223372036854775807 0) 55 (0, 0)) := by rw [← hw3, Below.heap_alloc _ _ _ (lt_of_block HBR.out)]; exact HBR.out
      have T3 : Turn (fun k => k = b) w2 w3 := by rw [← hw3]; exact hT.alloc _
      have d5 : w3.cell? ⟨b, 5, none⟩ = some (.int .i64 9223372036854775807) := cell_of_cells hb3 rfl
      have d6 : w3.cell? ⟨b, 6, none⟩ = some (.int .i64 0) := cell_of_cells hb3 rfl
      have f5 := free_of_cells (i := 5) hb3
      have f6 := free_of_cells (i := 6) hb3
      have HB3 := hide hb3
      clear hw3 hb3 er mr e2 m2 HBR hb2
      go_wp2_with fail
      go_region
      go_wp2
      go_roundw
      case rel => exact ⟨1, by omega, rfl, cells_setCell (cells_setCell HB3.out), ((T3.set _).set _).drew⟩
      case measure => simp [intOf]
    · subst h
      have d5 : wr.cell? ⟨b, 5, none⟩ = some (.int .i64 1) := cell_of_cells hbr rfl
      have d6 : wr.cell? ⟨b, 6, none⟩ = some (.int .i64 1) := cell_of_cells hbr rfl
      have HBR := hide hbr
      clear hbr e2 m2 er mr
      go_wp2_with fail
      go_region
      go_wp2
      go_ret2
      exact ⟨rfl, HBR.out, (T2.trans hT (fun _ _ h => h)).drew⟩

end Go.Proofs.Ybulkchcm.Cand
