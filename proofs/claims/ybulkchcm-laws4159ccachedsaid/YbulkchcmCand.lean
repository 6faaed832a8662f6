/- The functions on the roads of LawS4159CCached and LawS4159CFresh, each walked once. -/
import Derived.Test.YbulkchcmRows
import Derived.Test.YbulkchcmTurn
import Derived.WalkKit
import Derived.WalkSpells
import Derived.RegionTactic
import Derived.BigRegion
namespace Go.Proofs.Ybulkchcm.Cand
open Go.RowKit

def bVL : ByteArray := ⟨#[86, 97, 108, 117, 101, 76, 105, 115, 116]⟩
def bSL : ByteArray := ⟨#[83, 101, 99, 116, 105, 111, 110, 76, 105, 115, 116]⟩
def bWN : ByteArray := ⟨#[83, 101, 99, 116, 105, 111, 110, 87, 105, 116, 104, 78, 97, 109, 101, 115]⟩
def bIS : ByteArray := ⟨#[73, 110, 116, 101, 114, 109, 101, 100, 105, 97, 116, 101, 83, 101, 99, 116, 105, 111, 110]⟩
def bWT : ByteArray := ⟨#[83, 101, 99, 116, 105, 111, 110, 87, 105, 116, 104, 84, 101, 120, 116, 115]⟩
def bI : ByteArray := ⟨#[73, 110, 116, 101, 103, 101, 114]⟩
def bT : ByteArray := ⟨#[84, 101, 120, 116]⟩
def ctOf (k : Nat) (t : ByteArray) : ByteArray := match k % 8 with | 0 => bVL | 1 => bSL | 2 => bWN | 3 => bIS | 4 => bWT | 5 => bI | 6 => bT | _ => t

theorem ctype_any (k : Nat) (hk : k ≤ 255) (t : ByteArray) (w : World) : Calls Yba.prog 13 #[.int .u8 k, .string t] w fun e w' => e = .returned (.string (ctOf k t)) ∧ w = w' := by
  obtain ⟨q, r, hr, rfl⟩ : ∃ q r, r < 8 ∧ k = 8 * q + r := ⟨k / 8, k % 8, by omega, by omega⟩
  have hm : ((8 * q + r : Nat) : Int) % 8 = r := by omega
  have hc : ctOf (8 * q + r) t = ctOf r t := by unfold ctOf; rw [show (8 * q + r) % 8 = r % 8 by omega]
  rw [hc]
  clear hc
  have h0 : 0 ≤ ((8 * q + r : Nat) : Int) := by omega
  have h255 : ((8 * q + r : Nat) : Int) ≤ 255 := by omega
  generalize ((8 * q + r : Nat) : Int) = K at *
  clear hk
  rcases (show r = 0 ∨ r = 1 ∨ r = 2 ∨ r = 3 ∨ r = 4 ∨ r = 5 ∨ r = 6 ∨ r = 7 from by omega) with h | h | h | h | h | h | h | h
  all_goals
    subst h
    go_enter Yba.func13, Yba.ntmps13
    go_wp2
    go_ret
    exact ⟨rfl, rfl⟩

/-- the candidate that newCandidate makes of node m whose text is txt, with its counts in hand -/
abbrev candCells (m : Nat) (txt : ByteArray) (fewest most : Int) : Array Value :=
  #[.pointer (some ⟨m, 0, none⟩), .pointer none, .int .i64 (-1), .int .i64 (-1), .map none, .int .i64 fewest, .int .i64 most, .string ⟨#[115, 116, 97, 114, 116]⟩, .slice none 0 0, .slice none 0 0, .string txt,
    .string ⟨#[101, 110, 100]⟩, .slice none 0 0, .slice none 0 0, .string txt, .pointer none]

set_option maxRecDepth 100000 in
theorem new_any (m : Nat) (txt : ByteArray) (w : World) (h6 : w.cell? ⟨m, 6, none⟩ = some (.string txt)) :
    Calls Yba.prog 14 #[.pointer (some ⟨m, 0, none⟩)] w fun e w' => e = .returned (.agg (candCells m txt 0 (-1))) ∧ w' = (w.alloc (.cells (candCells m txt 0 (-1)) 55)).drew := by
  have hm := World.block_lt_of_cell? w ⟨m, 6, none⟩ h6
  simp only at hm
  go_enter Yba.func14, Yba.ntmps14
  go_wp2
  go_region
  go_wp2
  exact bodyPost_ret (v := .agg (candCells m txt 0 (-1))) (by simp [results, Yba.results14, go_sem]) rfl ⟨rfl, rfl⟩

set_option maxRecDepth 100000 in
/-- counted already: what is stored -/
theorem counts_cached (b : Nat) (f m : Int) (w : World) (h5 : w.cell? ⟨b, 5, none⟩ = some (.int .i64 f)) (h6 : w.cell? ⟨b, 6, none⟩ = some (.int .i64 m)) (hm : 0 ≤ m) :
    Calls Yba.prog 16 #[.pointer (some ⟨b, 0, none⟩)] w fun e w' => e = .returned (.tuple #[.int .i64 f, .int .i64 m]) ∧ w' = w.drew := by
  have hd : decide (m < 0) = false := by simp; omega
  go_enter Yba.func16, Yba.ntmps16
  go_wp2
  go_region
  go_wp2
  go_ret2
  exact ⟨rfl, rfl⟩

end Go.Proofs.Ybulkchcm.Cand
