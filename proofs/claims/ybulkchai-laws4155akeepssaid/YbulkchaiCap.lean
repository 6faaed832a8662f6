/- claimed.zzs4155acap, walked once. -/
import Derived.Test.YbulkchaiRows
import Derived.Test.YbulkchaiPlain
import Derived.WalkKit
import Derived.WalkSpells
namespace Go.Proofs.Ybulkchai
open Go.RowKit Plain

theorem cap_any (k : Nat) (hk : k ≤ 255) (w : World) : Calls Yba.prog 6 #[.int .u8 k] w fun e w' => e = .returned (.int .i64 (capOf k)) ∧ w = w' := by
  obtain ⟨q, r, hr, rfl⟩ : ∃ q r, r < 8 ∧ k = 8 * q + r := ⟨k / 8, k % 8, by omega, by omega⟩
  have hm : ((8 * q + r : Nat) : Int).tmod 8 = r := by rw [Int.tmod_eq_emod_of_nonneg (by omega)]; omega
  have hc : capOf (8 * q + r) = capOf r := by unfold capOf; rw [show (8 * q + r) % 8 = r % 8 by omega]
  rw [hc]
  clear hc
  generalize ((8 * q + r : Nat) : Int) = K at *
  rcases (show r = 0 ∨ r = 1 ∨ r = 2 ∨ r = 3 ∨ r = 4 ∨ r = 5 ∨ r = 6 ∨ r = 7 from by omega) with h | h | h | h | h | h | h | h
  all_goals
    subst h
    go_enter Yba.func6, Yba.ntmps6
    go_wp2
    go_ret
    exact ⟨rfl, rfl⟩
end Go.Proofs.Ybulkchai
