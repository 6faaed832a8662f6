/-
  resp.isSpace and resp.zzs4155bmodel: one contract each, over one plain Bool function 'sp'.
-/
import Derived.Test.YbulkchaiRows
import Derived.WalkKit
import Derived.WalkSpells
namespace Go.Proofs.Ybulkchai.Space
open Go.RowKit

/-- the six white-space bytes -/
def sp (c : Int) : Bool := decide (c = 32 ∨ (9 ≤ c ∧ c ≤ 13))

theorem sp_yes {c : Int} (h : c = 32 ∨ (9 ≤ c ∧ c ≤ 13)) : sp c = true := by simp [sp, h]
theorem sp_no {c : Int} (h : ¬ (c = 32 ∨ (9 ≤ c ∧ c ≤ 13))) : sp c = false := by simp [sp, h]

theorem isSpace_any (c : Int) (w : World) :
    Calls Yba.prog 8 #[.int .u8 c] w fun e w' => e = .returned (.bool (sp c)) ∧ w = w' := by
  by_cases h : c = 32 ∨ (9 ≤ c ∧ c ≤ 13)
  · rw [sp_yes h]
    rcases (show c = 32 ∨ c = 9 ∨ c = 10 ∨ c = 11 ∨ c = 12 ∨ c = 13 from by omega) with h | h | h | h | h | h
    all_goals
      subst h
      go_enter Yba.func8, Yba.ntmps8
      go_wp2
      go_ret
      exact ⟨rfl, rfl⟩
  · rw [sp_no h]
    have h0 : (c == 32) = false := beq_eq_false_iff_ne.2 (by omega)
    have h1 : (c == 9) = false := beq_eq_false_iff_ne.2 (by omega)
    have h2 : (c == 10) = false := beq_eq_false_iff_ne.2 (by omega)
    have h3 : (c == 11) = false := beq_eq_false_iff_ne.2 (by omega)
    have h4 : (c == 12) = false := beq_eq_false_iff_ne.2 (by omega)
    have h5 : (c == 13) = false := beq_eq_false_iff_ne.2 (by omega)
    clear h
    go_enter Yba.func8, Yba.ntmps8
    go_wp2
    go_ret
    exact ⟨rfl, rfl⟩

theorem model_any (c : Int) (w : World) :
    Calls Yba.prog 9 #[.int .u8 c] w fun e w' => e = .returned (.bool (sp c)) ∧ w = w' := by
  by_cases h : c = 32
  · subst h
    go_enter Yba.func9, Yba.ntmps9
    go_wp2
    go_ret
    exact ⟨rfl, rfl⟩
  · have h0 : (c == 32) = false := beq_eq_false_iff_ne.2 (by omega)
    by_cases h1 : 9 ≤ c
    · by_cases h2 : c ≤ 13
      · rw [sp_yes (by omega)]
        go_enter Yba.func9, Yba.ntmps9
        go_wp2
        go_ret
        exact ⟨rfl, rfl⟩
      · rw [sp_no (by omega)]
        have h3 : decide (c ≤ 13) = false := by simpa using h2
        go_enter Yba.func9, Yba.ntmps9
        go_wp2
        go_ret
        exact ⟨rfl, rfl⟩
    · rw [sp_no (by omega)]
      have h3 : decide (9 ≤ c) = false := by simpa using h1
      go_enter Yba.func9, Yba.ntmps9
      go_wp2
      go_ret
      exact ⟨rfl, rfl⟩
end Go.Proofs.Ybulkchai.Space
