/- IsList, IsSection, Entries, zzs4159cexpect and columnCounts of a fresh candidate, each walked once. -/
import Derived.Test.YbulkchcmCand
namespace Go.Proofs.Ybulkchcm.Cand
open Go.RowKit

abbrev lVL : List UInt8 := [86, 97, 108, 117, 101, 76, 105, 115, 116]
abbrev lSL : List UInt8 := [83, 101, 99, 116, 105, 111, 110, 76, 105, 115, 116]
abbrev lWN : List UInt8 := [83, 101, 99, 116, 105, 111, 110, 87, 105, 116, 104, 78, 97, 109, 101, 115]
abbrev lIS : List UInt8 := [73, 110, 116, 101, 114, 109, 101, 100, 105, 97, 116, 101, 83, 101, 99, 116, 105, 111, 110]
abbrev lWT : List UInt8 := [83, 101, 99, 116, 105, 111, 110, 87, 105, 116, 104, 84, 101, 120, 116, 115]

def isL (ty : ByteArray) : Bool := (ty.toList == lSL) || (ty.toList == lVL)
def isS (ty : ByteArray) : Bool := (ty.toList == lWN) || (ty.toList == lIS) || (ty.toList == lWT)

set_option maxRecDepth 100000 in
theorem isList_any (ty : ByteArray) (w : World) : Calls Yba.prog 18 #[.string ty] w fun e w' => e = .returned (.bool (isL ty)) ∧ w = w' := by
  cases h1 : (ty.toList == lSL)
  · have e : isL ty = (ty.toList == lVL) := by simp [isL, h1]
    rw [e]
    clear e
    go_enter Yba.func18, Yba.ntmps18
    go_wp2
    go_ret
    exact ⟨rfl, rfl⟩
  · have e : isL ty = true := by simp [isL, h1]
    rw [e]
    clear e
    go_enter Yba.func18, Yba.ntmps18
    go_wp2
    go_ret
    exact ⟨rfl, rfl⟩

set_option maxRecDepth 100000 in
theorem isSection_any (ty : ByteArray) (w : World) : Calls Yba.prog 19 #[.string ty] w fun e w' => e = .returned (.bool (isS ty)) ∧ w = w' := by
  cases h1 : (ty.toList == lWN)
  · cases h2 : (ty.toList == lIS)
    · have e : isS ty = (ty.toList == lWT) := by simp [isS, h1, h2]
      rw [e]
      clear e
      go_enter Yba.func19, Yba.ntmps19
      go_wp2
      go_ret
      exact ⟨rfl, rfl⟩
    · have e : isS ty = true := by simp [isS, h2]
      rw [e]
      clear e
      go_enter Yba.func19, Yba.ntmps19
      go_wp2
      go_ret
      exact ⟨rfl, rfl⟩
  · have e : isS ty = true := by simp [isS, h1]
    rw [e]
    clear e
    go_enter Yba.func19, Yba.ntmps19
    go_wp2
    go_ret
    exact ⟨rfl, rfl⟩

/-- a childless list or section has no entries -/
theorem entries_none (m : Nat) (ty : ByteArray) (w : World) (h0 : w.cell? ⟨m, 0, none⟩ = some (.string ty)) (h12 : w.cell? ⟨m, 12, none⟩ = some (.slice none 0 0)) (h : isL ty = true ∨ isS ty = true) :
    Calls Yba.prog 17 #[.pointer (some ⟨m, 0, none⟩)] w fun e w' => e = .returned (.slice none 0 0) ∧ w = w' := by
  cases hl : isL ty
  · have hs : isS ty = true := by
      rcases h with h | h
      · rw [hl] at h; cases h
      · exact h
    clear h
    go_enter Yba.func17, Yba.ntmps17
    go_wp2_with (first | (go_at_call 18; refine (isList_any _ _).mono ?_; rintro e w' ⟨rfl, rfl⟩) | (go_at_call 19; refine (isSection_any _ _).mono ?_; rintro e w' ⟨rfl, rfl⟩))
    go_ret
    exact ⟨rfl, rfl⟩
  · clear h
    go_enter Yba.func17, Yba.ntmps17
    go_wp2_with (first | (go_at_call 18; refine (isList_any _ _).mono ?_; rintro e w' ⟨rfl, rfl⟩) | (go_at_call 19; refine (isSection_any _ _).mono ?_; rintro e w' ⟨rfl, rfl⟩))
    go_ret
    exact ⟨rfl, rfl⟩

/-- a single value is its own one entry -/
theorem entries_one (m : Nat) (ty : ByteArray) (w : World) (h0 : w.cell? ⟨m, 0, none⟩ = some (.string ty)) (hl : isL ty = false) (hs : isS ty = false) :
    Calls Yba.prog 17 #[.pointer (some ⟨m, 0, none⟩)] w fun e w' => e = .returned (.slice (some ⟨w.heap.size, 0, none⟩) 1 1) ∧ w.alloc (.cells #[.pointer (some ⟨m, 0, none⟩)] 25) = w' := by
  go_enter Yba.func17, Yba.ntmps17
  go_wp2_with (first | (go_at_call 18; refine (isList_any _ _).mono ?_; rintro e w' ⟨rfl, rfl⟩) | (go_at_call 19; refine (isSection_any _ _).mono ?_; rintro e w' ⟨rfl, rfl⟩))
  go_ret
  exact ⟨rfl, rfl⟩

/-- the model's two numbers -/
def expF (ty : ByteArray) : Int := if isL ty || isS ty then 9223372036854775807 else 1
def expM (ty : ByteArray) : Int := if isL ty || isS ty then 0 else 1

set_option maxRecDepth 100000 in
theorem expect_any (ty : ByteArray) (w : World) : Calls Yba.prog 15 #[.string ty] w fun e w' => e = .returned (.tuple #[.int .i64 (expF ty), .int .i64 (expM ty)]) ∧ w = w' := by
  cases h1 : (ty.toList == lVL)
  · cases h2 : (ty.toList == lSL)
    · cases h3 : (ty.toList == lWN)
      · cases h4 : (ty.toList == lIS)
        · cases h5 : (ty.toList == lWT)
          · have e1 : expF ty = 1 := by simp [expF, isL, isS, h1, h2, h3, h4, h5]
            have e2 : expM ty = 1 := by simp [expM, isL, isS, h1, h2, h3, h4, h5]
            rw [e1, e2]
            clear e1 e2
            go_enter Yba.func15, Yba.ntmps15
            go_wp2
            go_ret2
            exact ⟨rfl, rfl⟩
          · have e1 : expF ty = 9223372036854775807 := by simp [expF, isS, h5]
            have e2 : expM ty = 0 := by simp [expM, isS, h5]
            rw [e1, e2]
            clear e1 e2
            go_enter Yba.func15, Yba.ntmps15
            go_wp2
            go_ret2
            exact ⟨rfl, rfl⟩
        · have e1 : expF ty = 9223372036854775807 := by simp [expF, isS, h4]
          have e2 : expM ty = 0 := by simp [expM, isS, h4]
          rw [e1, e2]
          clear e1 e2
          go_enter Yba.func15, Yba.ntmps15
          go_wp2
          go_ret2
          exact ⟨rfl, rfl⟩
      · have e1 : expF ty = 9223372036854775807 := by simp [expF, isS, h3]
        have e2 : expM ty = 0 := by simp [expM, isS, h3]
        rw [e1, e2]
        clear e1 e2
        go_enter Yba.func15, Yba.ntmps15
        go_wp2
        go_ret2
        exact ⟨rfl, rfl⟩
    · have e1 : expF ty = 9223372036854775807 := by simp [expF, isL, h2]
      have e2 : expM ty = 0 := by simp [expM, isL, h2]
      rw [e1, e2]
      clear e1 e2
      go_enter Yba.func15, Yba.ntmps15
      go_wp2
      go_ret2
      exact ⟨rfl, rfl⟩
  · have e1 : expF ty = 9223372036854775807 := by simp [expF, isL, h1]
    have e2 : expM ty = 0 := by simp [expM, isL, h1]
    rw [e1, e2]
    clear e1 e2
    go_enter Yba.func15, Yba.ntmps15
    go_wp2
    go_ret2
    exact ⟨rfl, rfl⟩

end Go.Proofs.Ybulkchcm.Cand
