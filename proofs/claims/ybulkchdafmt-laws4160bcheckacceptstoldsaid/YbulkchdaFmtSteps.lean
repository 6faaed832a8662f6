/- The stations of a row in law 4, and what each call does between them. -/
import Derived.Test.YbulkchdaFmtPut
namespace Go.Proofs.YbulkchdaFmt
open Go.RowKit Bits

/-- the round's words; the built row -/
def RX (I M : Nat → Nat) : Nat → Nat := rto I M 8
def allc (I M : Nat → Nat) : List Nat := wl I 16 ++ (wl M 16 ++ rems I M 8)
def inc (I M : Nat → Nat) : List Nat := wl I 16 ++ wl M 16
theorem allc_len (I M : Nat → Nat) : (allc I M).length = 384 := by unfold allc; rw [List.length_append, List.length_append, wl_len, wl_len, rems_len]
theorem inc_len (I M : Nat → Nat) : (inc I M).length = 64 := by unfold inc; rw [List.length_append, wl_len, wl_len]
theorem RX_lt {I : Nat → Nat} (hI : ∀ i, I i < 4294967296) (M : Nat → Nat) : ∀ i, RX I M i < 4294967296 := rto_lt hI 8
theorem allc_bnd {I M : Nat → Nat} (hI : ∀ i, I i < 4294967296) (hM : ∀ i, M i < 4294967296) : ∀ x ∈ allc I M, x < 2147483647 := by
  intro x hx
  rcases List.mem_append.1 hx with h | h
  · have := wl_bnd hI 16 x h; omega
  · rcases List.mem_append.1 h with h | h
    · have := wl_bnd hM 16 x h; omega
    · have := rems_bnd hI 8 x h; omega

def sA (I : Nat → Nat) : RSt := ⟨wl I 16, 0, true, 0⟩
def sB (I M : Nat → Nat) : RSt := ⟨inc I M, 0, true, 0⟩
def sC (I M : Nat → Nat) : RSt := ⟨inc I M, 32, true, 0⟩
def sD (I M : Nat → Nat) : RSt := ⟨inc I M, 64, true, 0⟩
def sE (I M : Nat → Nat) : RSt := ⟨allc I M, 384, true, 128⟩
def sF (I M : Nat → Nat) : RSt := ⟨allc I M, 0, false, 0⟩
def sG (I M : Nat → Nat) : RSt := ⟨allc I M, 32, false, 0⟩
def sH (I M : Nat → Nat) : RSt := ⟨allc I M, 64, false, 0⟩
def sI (I M : Nat → Nat) : RSt := ⟨allc I M, 384, false, 128⟩

theorem first16 {xs t : List Nat} {V : Nat → Nat} (h : xs = wl V 16 ++ t) : ∀ k, k < 16 → xs[0 + 2 * k]? = some (hi (V k)) ∧ xs[0 + 2 * k + 1]? = some (lo (V k)) := by
  intro k hk
  obtain ⟨a, b⟩ := wl_get V 16 k hk
  rw [h, Nat.zero_add, List.getElem?_append_left (by rw [wl_len]; omega), List.getElem?_append_left (by rw [wl_len]; omega)]
  exact ⟨a, b⟩
theorem second16 {xs t : List Nat} {U V : Nat → Nat} (h : xs = wl U 16 ++ (wl V 16 ++ t)) : ∀ k, k < 16 → xs[32 + 2 * k]? = some (hi (V k)) ∧ xs[32 + 2 * k + 1]? = some (lo (V k)) := by
  intro k hk
  obtain ⟨a, b⟩ := wl_get V 16 k hk
  refine ⟨?_, ?_⟩
  · rw [h, List.getElem?_append_right (by rw [wl_len]; omega), wl_len, show 32 + 2 * k - 2 * 16 = 2 * k by omega, List.getElem?_append_left (by rw [wl_len]; omega)]
    exact a
  · rw [h, List.getElem?_append_right (by rw [wl_len]; omega), wl_len, show 32 + 2 * k + 1 - 2 * 16 = 2 * k + 1 by omega, List.getElem?_append_left (by rw [wl_len]; omega)]
    exact b

section
variable (I M : Nat → Nat) (hI : ∀ i, I i < 4294967296) (hM : ∀ i, M i < 4294967296) (rb : Nat) (v : Value) (w : World)
theorem put1 (h : RowAt w rb v st0) (hI : ∀ i, I i < 4294967296) : Calls Ybaf.prog 8 #[.pointer (some ⟨rb, 0, none⟩), .agg (ncells I)] w fun e w' => e = .returned (.tuple #[]) ∧ ∃ v', RowAt w' rb v' (sA I) ∧ Fr rb v v' w w' := by
  refine (put_any rb v st0 I w h hI (by decide)).mono ?_
  rintro e w' ⟨rfl, v', R, F⟩
  exact ⟨rfl, v', R.cast (by simp [st0, sA]), F⟩
theorem put2 (h : RowAt w rb v (sA I)) (hM : ∀ i, M i < 4294967296) : Calls Ybaf.prog 8 #[.pointer (some ⟨rb, 0, none⟩), .agg (ncells M)] w fun e w' => e = .returned (.tuple #[]) ∧ ∃ v', RowAt w' rb v' (sB I M) ∧ Fr rb v v' w w' := by
  refine (put_any rb v (sA I) M w h hM (by show (wl I 16).length + 32 ≤ 1000; rw [wl_len]; omega)).mono ?_
  rintro e w' ⟨rfl, v', R, F⟩
  exact ⟨rfl, v', R.cast (by simp [sA, sB, inc]), F⟩
theorem words1 (h : RowAt w rb v (sB I M)) : Calls Ybaf.prog 9 #[.pointer (some ⟨rb, 0, none⟩)] w fun e w' => e = .returned (.agg (wcells I)) ∧ RowAt w' rb v (sC I M) ∧ Fr rb v v w w' := by
  refine (words_any rb v (sB I M) I w h (first16 (show inc I M = wl I 16 ++ wl M 16 from rfl))).mono ?_
  rintro e w' ⟨rfl, R, F⟩
  exact ⟨rfl, R.cast (by simp [sB, sC]), F⟩
theorem words2 (h : RowAt w rb v (sC I M)) : Calls Ybaf.prog 9 #[.pointer (some ⟨rb, 0, none⟩)] w fun e w' => e = .returned (.agg (wcells M)) ∧ RowAt w' rb v (sD I M) ∧ Fr rb v v w w' := by
  refine (words_any rb v (sC I M) M w h (second16 (t := []) (show inc I M = wl I 16 ++ (wl M 16 ++ []) by rw [List.append_nil]; rfl))).mono ?_
  rintro e w' ⟨rfl, R, F⟩
  exact ⟨rfl, R.cast (by simp [sC, sD]), F⟩
theorem words3 (h : RowAt w rb v (sF I M)) : Calls Ybaf.prog 9 #[.pointer (some ⟨rb, 0, none⟩)] w fun e w' => e = .returned (.agg (wcells I)) ∧ RowAt w' rb v (sG I M) ∧ Fr rb v v w w' := by
  refine (words_any rb v (sF I M) I w h (first16 (show allc I M = wl I 16 ++ (wl M 16 ++ rems I M 8) from rfl))).mono ?_
  rintro e w' ⟨rfl, R, F⟩
  exact ⟨rfl, R.cast (by simp [sF, sG]), F⟩
theorem words4 (h : RowAt w rb v (sG I M)) : Calls Ybaf.prog 9 #[.pointer (some ⟨rb, 0, none⟩)] w fun e w' => e = .returned (.agg (wcells M)) ∧ RowAt w' rb v (sH I M) ∧ Fr rb v v w w' := by
  refine (words_any rb v (sG I M) M w h (second16 (show allc I M = wl I 16 ++ (wl M 16 ++ rems I M 8) from rfl))).mono ?_
  rintro e w' ⟨rfl, R, F⟩
  exact ⟨rfl, R.cast (by simp [sG, sH]), F⟩
theorem round1 (h : RowAt w rb v (sD I M)) (hI : ∀ i, I i < 4294967296) (hM : ∀ i, M i < 4294967296) (hg : w.rangeAt 0 0 gl) :
    Calls Ybaf.prog 5 #[.pointer (some ⟨rb, 0, none⟩), .agg (wcells I), .agg (wcells M)] w fun e w' => e = .returned (.agg (wcells (RX I M))) ∧ ∃ v', RowAt w' rb v' (sE I M) ∧ Fr rb v v' w w' := by
  have hc : (sD I M).can (rems I M 8) 128 := by
    refine ⟨?_, ?_, by simp [sD], fun x hx => by have := rems_bnd hI 8 x hx; omega⟩
    · simp [sD, inc_len]
    · rw [rems_len]; simp [sD]
  refine (round_any rb v (sD I M) I M w h hI hM hg hc).mono ?_
  rintro e w' ⟨rfl, v', R, F⟩
  refine ⟨rfl, v', R.cast ?_, F⟩
  simp [RSt.emit, sD, sE, allc, inc, rems_len]
theorem round2 (h : RowAt w rb v (sH I M)) (hI : ∀ i, I i < 4294967296) (hM : ∀ i, M i < 4294967296) (hg : w.rangeAt 0 0 gl) :
    Calls Ybaf.prog 5 #[.pointer (some ⟨rb, 0, none⟩), .agg (wcells I), .agg (wcells M)] w fun e w' => e = .returned (.agg (wcells (RX I M))) ∧ ∃ v', RowAt w' rb v' (sI I M) ∧ Fr rb v v' w w' := by
  have hc : (sH I M).can (rems I M 8) 128 := by
    refine ⟨?_, ?_, by simp [sH], fun x hx => by have := rems_bnd hI 8 x hx; omega⟩
    · simp only [sH, Bool.false_eq_true, if_false]
      refine ⟨[], ?_⟩
      unfold allc
      rw [← List.append_assoc, List.append_nil, List.drop_append_of_le_length (by rw [List.length_append, wl_len, wl_len]; decide), List.drop_of_length_le (by rw [List.length_append, wl_len, wl_len]; decide), List.nil_append]
    · rw [rems_len]; simp [sH]
  refine (round_any rb v (sH I M) I M w h hI hM hg hc).mono ?_
  rintro e w' ⟨rfl, v', R, F⟩
  refine ⟨rfl, v', R.cast ?_, F⟩
  simp [RSt.emit, sH, sI, rems_len]
theorem zz1 (hI : ∀ i, I i < 4294967296) (hM : ∀ i, M i < 4294967296) : Calls Ybaf.prog 7 #[.agg (ncells I), .agg (ncells M)] w fun e w' => e = .returned (.agg (ncells (RX I M))) ∧ Below w.heap.size w w' := zz_any I M hI hM w
theorem end1 (h : RowAt w rb v (sI I M)) : Calls Ybaf.prog 10 #[.pointer (some ⟨rb, 0, none⟩)] w fun e w' => e = .returned .nilIface ∧ ∃ n, w' = w.drewN n :=
  end_any rb v (sI I M) w h (allc_len I M).symm
end
end Go.Proofs.YbulkchdaFmt
