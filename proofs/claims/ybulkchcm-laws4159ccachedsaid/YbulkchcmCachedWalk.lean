/- THE WALK of rules.LawS4159CCached. -/
import Derived.Test.YbulkchcmCand
namespace Go.Proofs.Ybulkchcm.Cand
open Go.RowKit

/-- a cell of the block that was laid last, a draw on -/
theorem cell_last {W : World} {cs : Array Value} {t : TypeId} {s i : Nat} {v : Value} (hs : s = W.heap.size) (hv : cs[i]? = some v) : (W.alloc (.cells cs t)).drew.cell? ⟨s, i, none⟩ = some v := by
  subst hs
  exact cell_of_cells (heap_alloc_new W (.cells cs t)) hv

set_option maxHeartbeats 1000000 in
set_option maxRecDepth 100000 in
theorem walk_cached (fw ms : Int) (s : Nat) (t : ByteArray) (w : World) (hs : s ≤ 255) (hm : -9223372036854775808 ≤ ms ∧ ms ≤ 9223372036854775807) :
    Calls Yba.prog 7 #[.int .i64 fw, .int .i64 ms, .int .u8 s, .string t] w fun e w' => e = .returned (.bool true) ∧ Below w.heap.size w w' := by
  by_cases hneg : ms < 0
  · go_enter Yba.func7, Yba.ntmps7
    go_wp2_with (first | (go_at_call 13; refine (ctype_any s hs t _).mono ?_; rintro e w' ⟨rfl, rfl⟩) | (go_at_call 14; refine (new_any w.heap.size ⟨#[]⟩ _ (by simp)).mono ?_; rintro e w1 ⟨rfl, rfl⟩))
    refine (counts_cached (w.heap.size + 1 + 1) fw (-(ms + 1)) _ (cell_last (by simp) rfl) (cell_last (by simp) rfl) (by omega)).mono ?_
    rintro e w1 ⟨rfl, rfl⟩
    go_wp2
    go_ret
    refine ⟨by simp, ?_⟩
    exact ((((((Below.refl _ _).alloc (Nat.le_refl _) _).alloc (by simp) _).alloc (by simp; omega) _).drew).drew)
  · go_enter Yba.func7, Yba.ntmps7
    go_wp2_with (first | (go_at_call 13; refine (ctype_any s hs t _).mono ?_; rintro e w' ⟨rfl, rfl⟩) | (go_at_call 14; refine (new_any w.heap.size ⟨#[]⟩ _ (by simp)).mono ?_; rintro e w1 ⟨rfl, rfl⟩))
    refine (counts_cached (w.heap.size + 1 + 1) fw ms _ (cell_last (by simp) rfl) (cell_last (by simp) rfl) (by omega)).mono ?_
    rintro e w1 ⟨rfl, rfl⟩
    go_wp2
    go_ret
    refine ⟨by simp, ?_⟩
    exact ((((((Below.refl _ _).alloc (Nat.le_refl _) _).alloc (by simp) _).alloc (by simp; omega) _).drew).drew)
end Go.Proofs.Ybulkchcm.Cand
