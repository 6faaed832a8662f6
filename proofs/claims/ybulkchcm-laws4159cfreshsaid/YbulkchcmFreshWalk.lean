/- THE WALK of rules.LawS4159CFresh. -/
import Derived.Test.YbulkchcmCounts
import Derived.LaidEqlPtr
namespace Go.Proofs.Ybulkchcm.Cand
open Go.RowKit

abbrev nodeC (ty : ByteArray) : Array Value :=
  #[.string ty, .string ⟨#[]⟩, .int .i64 0, .int .i64 0, .int .i64 0, .float .f64 0, .string ⟨#[]⟩, .bool false, .int .u8 0, .bool false, .int .i32 0, .pointer none, .slice none 0 0, .map none]

/-- either way of columnCounts of a fresh candidate, in one form -/
theorem counts_fresh (b m : Nat) (ty txt : ByteArray) (w : World) (hb : w.heap[b]? = some (.cells (candCells m txt 0 (-1)) 55 (0, 0)))
    (h0 : w.cell? ⟨m, 0, none⟩ = some (.string ty)) (h12 : w.cell? ⟨m, 12, none⟩ = some (.slice none 0 0)) (hne : m ≠ b) :
    Calls Yba.prog 16 #[.pointer (some ⟨b, 0, none⟩)] w fun e w' => e = .returned (.tuple #[.int .i64 (expF ty), .int .i64 (expM ty)]) ∧
      w'.heap[b]? = some (.cells (candCells m txt (expF ty) (expM ty)) 55 (0, 0)) ∧ Turn (fun k => k = b) w w' := by
  by_cases h : isL ty = true ∨ isS ty = true
  · have e1 : expF ty = 9223372036854775807 := by
      unfold expF
      rcases h with h | h <;> simp [h]
    have e2 : expM ty = 0 := by
      unfold expM
      rcases h with h | h <;> simp [h]
    rw [e1, e2]
    exact counts_none b m ty txt 0 w hb h0 h12 hne h
  · have hl : isL ty = false := by
      cases hl : isL ty with
      | false => rfl
      | true => exact absurd (Or.inl hl) h
    have hs : isS ty = false := by
      cases hs : isS ty with
      | false => rfl
      | true => exact absurd (Or.inr hs) h
    have e1 : expF ty = 1 := by simp [expF, hl, hs]
    have e2 : expM ty = 1 := by simp [expM, hl, hs]
    rw [e1, e2]
    exact counts_one b m ty txt 0 w hb h0 hne hl hs

theorem expM_pos (ty : ByteArray) : 0 ≤ expM ty := by
  unfold expM
  split <;> omega

set_option maxHeartbeats 1000000 in
set_option maxRecDepth 100000 in
theorem walk_fresh (s : Nat) (t : ByteArray) (w : World) (hs : s ≤ 255) :
    Calls Yba.prog 6 #[.int .u8 s, .string t] w fun e w' => e = .returned (.bool true) ∧ Below w.heap.size w w' := by
  obtain ⟨ti, hti⟩ : ∃ i, Yba.prog.info? 33 = some i := Option.isSome_iff_exists.1 (by kernel_rfl)
  have heq := fun wx : World => run_eql_ptr_same (P := Yba.prog) wx ⟨w.heap.size, 0, none⟩ Yba.underlying25 hti
  go_enter Yba.func6, Yba.ntmps6
  go_wp2_with (first | (go_at_call 13; refine (ctype_any s hs t _).mono ?_; rintro e w' ⟨rfl, rfl⟩) | (go_at_call 14; refine (new_any w.heap.size ⟨#[]⟩ _ (by simp)).mono ?_; rintro e w1 ⟨rfl, rfl⟩) | (go_at_call 15; refine (expect_any _ _).mono ?_; rintro e w' ⟨rfl, rfl⟩))
  generalize ctOf s t = ty
  obtain ⟨w3, hw3⟩ : ∃ w3, w3 = (((w.alloc (.cells (nodeC ty) 33)).alloc (.cells (candCells w.heap.size ⟨#[]⟩ 0 (-1)) 55)).alloc (.cells (candCells w.heap.size ⟨#[]⟩ 0 (-1)) 55)).drew := ⟨_, rfl⟩
  have hb3 : w3.heap[w.heap.size + 1 + 1]? = some (.cells (candCells w.heap.size ⟨#[]⟩ 0 (-1)) 55 (0, 0)) := by
    rw [hw3]
    show (((w.alloc (.cells (nodeC ty) 33)).alloc (.cells (candCells w.heap.size ⟨#[]⟩ 0 (-1)) 55)).alloc (.cells (candCells w.heap.size ⟨#[]⟩ 0 (-1)) 55)).heap[w.heap.size + 1 + 1]? = _
    have := heap_alloc_new ((w.alloc (.cells (nodeC ty) 33)).alloc (.cells (candCells w.heap.size ⟨#[]⟩ 0 (-1)) 55)) (.cells (candCells w.heap.size ⟨#[]⟩ 0 (-1)) 55)
    simpa using this
  have hm3 : w3.heap[w.heap.size]? = some (.cells (nodeC ty) 33 (0, 0)) := by
    rw [hw3]
    exact ((Below.heap_alloc _ _ _ (by simp; omega)).trans (Below.heap_alloc _ _ _ (by simp))).trans (heap_alloc_new w _)
  have B3 : Below w.heap.size w w3 := by
    rw [hw3]
    exact ((((Below.refl _ _).alloc (Nat.le_refl _) _).alloc (by simp) _).alloc (by simp; omega) _).drew
  rw [← hw3]
  clear hw3
  refine (counts_fresh (w.heap.size + 1 + 1) w.heap.size ty ⟨#[]⟩ w3 hb3 (cell_of_cells hm3 rfl) (cell_of_cells hm3 rfl) (by omega)).mono ?_
  rintro e w4 ⟨rfl, hb4, T4⟩
  have hm4 := T4.at hm3 (by omega)
  have B4 : Below w.heap.size w w4 := Turn.below B3 B3.size T4 (by intro i hi; omega)
  have c5 : w4.cell? ⟨w.heap.size + 1 + 1, 5, none⟩ = some (.int .i64 (expF ty)) := cell_of_cells hb4 rfl
  have c6 : w4.cell? ⟨w.heap.size + 1 + 1, 6, none⟩ = some (.int .i64 (expM ty)) := cell_of_cells hb4 rfl
  have c0 : w4.cell? ⟨w.heap.size + 1 + 1, 0, none⟩ = some (.pointer (some ⟨w.heap.size, 0, none⟩)) := cell_of_cells hb4 rfl
  have n0 : w4.cell? ⟨w.heap.size, 0, none⟩ = some (.string ty) := cell_of_cells hm4 rfl
  have HB := hide B4
  have hp := expM_pos ty
  clear hb3 hm3 B3 hb4 T4 hm4 B4
  generalize expF ty = F at *
  generalize expM ty = M at *
  go_wp2_with fail
  refine (counts_cached (w.heap.size + 1 + 1) F M w4 c5 c6 hp).mono ?_
  rintro e w5 ⟨rfl, rfl⟩
  go_wp2
  go_ret
  exact ⟨by simp, HB.out.drew⟩
end Go.Proofs.Ybulkchcm.Cand
