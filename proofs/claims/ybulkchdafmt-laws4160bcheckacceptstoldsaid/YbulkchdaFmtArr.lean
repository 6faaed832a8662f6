/- ARRAYS OF 16 WORDS AND OF 16 NUMBERS, as cells; the round and its table, plain. -/
import Derived.Test.YbulkchdaFmtG
import Derived.Deep.MidRow
namespace Go.Proofs.YbulkchdaFmt
open Go.RowKit Bits

/-- one place turned -/
def upd (V : Nat → Nat) (k u : Nat) : Nat → Nat := fun i => if i = k then u else V i
theorem upd_same (V : Nat → Nat) (k u : Nat) : upd V k u k = u := if_pos rfl
theorem upd_other (V : Nat → Nat) {k i : Nat} (u : Nat) (h : i ≠ k) : upd V k u i = V i := if_neg h
theorem upd_lt {V : Nat → Nat} (h : ∀ i, V i < 4294967296) (k : Nat) {u : Nat} (hu : u < 4294967296) : ∀ i, upd V k u i < 4294967296 := fun i => by
  unfold upd; split; exact hu; exact h i

/-- [16]word, as cells -/
def wcell (V : Nat → Nat) (i : Nat) : Value := .int .u32 ((if i % 2 = 0 then hi (V (i / 2)) else lo (V (i / 2)) : Nat) : Int)
def wcells (V : Nat → Nat) : Array Value := (Array.range 32).map (wcell V)
theorem wcells_size (V : Nat → Nat) : (wcells V).size = 32 := by simp [wcells]
theorem wcells_get (V : Nat → Nat) {i : Nat} (h : i < 32) : (wcells V)[i]? = some (wcell V i) := by simp [wcells, h]
theorem wcells_hi (V : Nat → Nat) {k : Nat} (h : k < 16) : (wcells V)[k * 2]? = some (.int .u32 (hi (V k) : Nat)) := by
  rw [wcells_get V (by omega)]
  unfold wcell
  rw [if_pos (by omega), show k * 2 / 2 = k by omega]
theorem wcells_lo (V : Nat → Nat) {k : Nat} (h : k < 16) : (wcells V)[k * 2 + 1]? = some (.int .u32 (lo (V k) : Nat)) := by
  rw [wcells_get V (by omega)]
  unfold wcell
  rw [if_neg (by omega), show (k * 2 + 1) / 2 = k by omega]
theorem wcells_set (V : Nat → Nat) {k : Nat} (u : Nat) (h : k < 16) : ((wcells V).setIfInBounds (k * 2) (.int .u32 (hi u : Nat))).setIfInBounds (k * 2 + 1) (.int .u32 (lo u : Nat)) = wcells (upd V k u) := by
  apply Array.ext_getElem?
  intro i
  rw [Array.getElem?_setIfInBounds, Array.getElem?_setIfInBounds]
  simp only [Array.size_setIfInBounds, wcells_size]
  by_cases hi32 : i < 32
  · rw [wcells_get _ hi32, wcells_get _ hi32]
    unfold wcell upd
    by_cases h1 : k * 2 + 1 = i
    · subst h1
      rw [if_pos rfl, if_pos hi32, if_neg (by omega), show (k * 2 + 1) / 2 = k by omega, if_pos rfl]
    · rw [if_neg h1]
      by_cases h2 : k * 2 = i
      · subst h2
        rw [if_pos rfl, if_pos hi32, if_pos (by omega), show k * 2 / 2 = k by omega, if_pos rfl]
      · rw [if_neg h2, if_neg (show ¬ i / 2 = k by omega)]
  · rw [if_neg (by omega), if_neg (by omega), Array.getElem?_eq_none (by rw [wcells_size]; omega), Array.getElem?_eq_none (by rw [wcells_size]; omega)]
theorem wcells_congr {V V' : Nat → Nat} (h : ∀ i, i < 16 → V i = V' i) : wcells V = wcells V' := by
  apply Array.ext_getElem?
  intro i
  by_cases hi32 : i < 32
  · rw [wcells_get _ hi32, wcells_get _ hi32]
    unfold wcell
    rw [h (i / 2) (by omega)]
  · rw [Array.getElem?_eq_none (by rw [wcells_size]; omega), Array.getElem?_eq_none (by rw [wcells_size]; omega)]
theorem wcells_one (V : Nat → Nat) : ∀ x ∈ (wcells V).toList, x.oneCell' = true := by
  intro x hx
  simp only [wcells, Array.toList_map, List.mem_map] at hx
  obtain ⟨i, _, rfl⟩ := hx
  rfl
theorem wcells_zero : wcells (fun _ => 0) = #[.int .u32 0, .int .u32 0, .int .u32 0, .int .u32 0, .int .u32 0, .int .u32 0, .int .u32 0, .int .u32 0, .int .u32 0, .int .u32 0, .int .u32 0, .int .u32 0, .int .u32 0, .int .u32 0, .int .u32 0, .int .u32 0, .int .u32 0, .int .u32 0, .int .u32 0, .int .u32 0, .int .u32 0, .int .u32 0, .int .u32 0, .int .u32 0, .int .u32 0, .int .u32 0, .int .u32 0, .int .u32 0, .int .u32 0, .int .u32 0, .int .u32 0, .int .u32 0] := by kernel_rfl

/-- [16]uint32, as cells -/
def ncells (V : Nat → Nat) : Array Value := (Array.range 16).map fun i => .int .u32 (V i : Nat)
theorem ncells_size (V : Nat → Nat) : (ncells V).size = 16 := by simp [ncells]
theorem ncells_get (V : Nat → Nat) {i : Nat} (h : i < 16) : (ncells V)[i]? = some (.int .u32 (V i : Nat)) := by simp [ncells, h]
theorem ncells_set (V : Nat → Nat) {k : Nat} (u : Nat) (h : k < 16) : (ncells V).setIfInBounds k (.int .u32 (u : Nat)) = ncells (upd V k u) := by
  apply Array.ext_getElem?
  intro i
  rw [Array.getElem?_setIfInBounds]
  simp only [ncells_size]
  by_cases hi16 : i < 16
  · rw [ncells_get _ hi16, ncells_get _ hi16]
    unfold upd
    by_cases h1 : k = i
    · subst h1
      rw [if_pos rfl, if_pos hi16, if_pos rfl]
    · rw [if_neg h1, if_neg (fun e => h1 e.symm)]
  · rw [if_neg (by omega), Array.getElem?_eq_none (by rw [ncells_size]; omega), Array.getElem?_eq_none (by rw [ncells_size]; omega)]

theorem ncells_zero : ncells (fun _ => 0) = #[.int .u32 0, .int .u32 0, .int .u32 0, .int .u32 0, .int .u32 0, .int .u32 0, .int .u32 0, .int .u32 0, .int .u32 0, .int .u32 0, .int .u32 0, .int .u32 0, .int .u32 0, .int .u32 0, .int .u32 0, .int .u32 0] := by kernel_rfl

/-- the table of a round -/
def gtab : List (List Nat) := [[0, 4, 8, 12], [1, 5, 9, 13], [2, 6, 10, 14], [3, 7, 11, 15], [0, 5, 10, 15], [1, 6, 11, 12], [2, 7, 8, 13], [3, 4, 9, 14]]
def ix (j q : Nat) : Nat := (gtab.getD j []).getD q 0
def gl : List Value := [.int .i64 0, .int .i64 4, .int .i64 8, .int .i64 12, .int .i64 1, .int .i64 5, .int .i64 9, .int .i64 13, .int .i64 2, .int .i64 6, .int .i64 10, .int .i64 14, .int .i64 3, .int .i64 7, .int .i64 11, .int .i64 15, .int .i64 0, .int .i64 5, .int .i64 10, .int .i64 15, .int .i64 1, .int .i64 6, .int .i64 11, .int .i64 12, .int .i64 2, .int .i64 7, .int .i64 8, .int .i64 13, .int .i64 3, .int .i64 4, .int .i64 9, .int .i64 14]
theorem eight {j : Nat} (h : j < 8) : j = 0 ∨ j = 1 ∨ j = 2 ∨ j = 3 ∨ j = 4 ∨ j = 5 ∨ j = 6 ∨ j = 7 := by omega
theorem ix_spec {j : Nat} (h : j < 8) : ix j 0 < 16 ∧ ix j 1 < 16 ∧ ix j 2 < 16 ∧ ix j 3 < 16 ∧ ix j 0 ≠ ix j 1 ∧ ix j 0 ≠ ix j 2 ∧ ix j 0 ≠ ix j 3 ∧ ix j 1 ≠ ix j 2 ∧ ix j 1 ≠ ix j 3 ∧ ix j 2 ≠ ix j 3 := by
  rcases eight h with rfl | rfl | rfl | rfl | rfl | rfl | rfl | rfl <;> decide
theorem gl_index {j : Nat} (h : j < 8) (w : World) : (Instr.index 42 (.agg gl.toArray) (.int .i64 (j : Nat))).run Ybaf.prog w = .ok (.agg #[.int .i64 (ix j 0 : Nat), .int .i64 (ix j 1 : Nat), .int .i64 (ix j 2 : Nat), .int .i64 (ix j 3 : Nat)]) w := by
  rcases eight h with rfl | rfl | rfl | rfl | rfl | rfl | rfl | rfl <;> kernel_rfl
theorem gl_get {j q : Nat} (hj : j < 8) (hq : q < 4) : gl[j * 4 + q]? = some (.int .i64 (ix j q : Nat)) := by
  rcases eight hj with rfl | rfl | rfl | rfl | rfl | rfl | rfl | rfl <;> rcases (show q = 0 ∨ q = 1 ∨ q = 2 ∨ q = 3 by omega) with rfl | rfl | rfl | rfl <;> rfl

/-- one application of the mixing function in a round -/
def rstep (V M : Nat → Nat) (j : Nat) : Nat → Nat :=
  let m := mix (V (ix j 0)) (V (ix j 1)) (V (ix j 2)) (V (ix j 3)) (M (2 * j)) (M (2 * j + 1))
  upd (upd (upd (upd V (ix j 0) m.a) (ix j 1) m.b) (ix j 2) m.c) (ix j 3) m.d
def rto (V M : Nat → Nat) : Nat → Nat → Nat
  | 0 => V
  | k + 1 => rstep (rto V M k) M k
def rem (V M : Nat → Nat) (j : Nat) : List Nat := emMix (V (ix j 0)) (V (ix j 1)) (V (ix j 2)) (V (ix j 3)) (M (2 * j)) (M (2 * j + 1))
def rems (V M : Nat → Nat) : Nat → List Nat
  | 0 => []
  | k + 1 => rems V M k ++ rem (rto V M k) M k
theorem mix_lt {a b c d x y : Nat} (hb : b < 4294967296) (hd : d < 4294967296) : (mix a b c d x y).a < 4294967296 ∧ (mix a b c d x y).b < 4294967296 ∧ (mix a b c d x y).c < 4294967296 ∧ (mix a b c d x y).d < 4294967296 := by
  have m : ∀ n : Nat, n % 4294967296 < 4294967296 := fun n => Nat.mod_lt _ (by omega)
  have r : ∀ n k : Nat, n < 4294967296 → k ≤ 32 → rotr n k < 4294967296 := fun n k => rotr_lt n k
  have h1 := r _ 16 (xor_lt d _ 32 hd (m (a + b + x))) (by omega)
  have h2 := r _ 12 (xor_lt b _ 32 hb (m (c + rotr (d ^^^ ((a + b + x) % 4294967296)) 16))) (by omega)
  refine ⟨m _, ?_, m _, ?_⟩
  · exact r _ 7 (xor_lt _ _ 32 h2 (m _)) (by omega)
  · exact r _ 8 (xor_lt _ _ 32 h1 (m _)) (by omega)
theorem rstep_lt {V M : Nat → Nat} (hV : ∀ i, V i < 4294967296) (j : Nat) : ∀ i, rstep V M j i < 4294967296 := by
  obtain ⟨h1, h2, h3, h4⟩ := mix_lt (a := V (ix j 0)) (c := V (ix j 2)) (x := M (2 * j)) (y := M (2 * j + 1)) (hV (ix j 1)) (hV (ix j 3))
  exact upd_lt (upd_lt (upd_lt (upd_lt hV _ h1) _ h2) _ h3) _ h4
theorem rto_lt {V M : Nat → Nat} (hV : ∀ i, V i < 4294967296) : ∀ k i, rto V M k i < 4294967296
  | 0 => hV
  | k + 1 => rstep_lt (rto_lt hV k) k
theorem rems_len (V M : Nat → Nat) : ∀ k, (rems V M k).length = 40 * k
  | 0 => rfl
  | k + 1 => by rw [rems, List.length_append, rems_len V M k, rem, emMix_len]; omega
end Go.Proofs.YbulkchdaFmt
