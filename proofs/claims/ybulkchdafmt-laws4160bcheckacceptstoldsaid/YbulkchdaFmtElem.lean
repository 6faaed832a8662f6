/- The field's operations and the small functions on words, each walked once. -/
import Derived.Test.YbulkchdaFmtRows
import Derived.Test.YbulkchdaFmtBits
import Derived.WalkKit
import Derived.WalkSpells
namespace Go.Proofs.YbulkchdaFmt
open Go.RowKit Bits

theorem hide {p : Prop} (h : p) : Hid p := h
theorem ret_u32 {a b : Int} (h : a = b) : Ending.returned (.int .u32 a) = .returned (.int .u32 b) := by rw [h]

set_option maxRecDepth 100000 in
/-- elem.add of a sum below 2^32 -/
theorem eadd_int (a b : Int) (w : World) (h0 : 0 ≤ a) (h1 : 0 ≤ b) (h : a + b ≤ 4294967295) :
    Calls Ybaf.prog 20 #[.int .u32 a, .int .u32 b] w fun e w' => e = .returned (.int .u32 (if 2147483647 ≤ a + b then a + b - 2147483647 else a + b)) ∧ w = w' := by
  by_cases hc : 2147483647 ≤ a + b
  · rw [if_pos hc]
    go_enter Ybaf.func20, Ybaf.ntmps20
    go_wp2
    go_ret
    exact ⟨rfl, rfl⟩
  · rw [if_neg hc]
    go_enter Ybaf.func20, Ybaf.ntmps20
    go_wp2
    go_ret
    exact ⟨rfl, rfl⟩
theorem eadd_nat (a b : Nat) (w : World) (h : a + b < 2147483647) : Calls Ybaf.prog 20 #[.int .u32 a, .int .u32 b] w fun e w' => e = .returned (.int .u32 ((a + b : Nat) : Int)) ∧ w = w' := by
  refine (eadd_int a b w (by omega) (by omega) (by omega)).mono ?_
  rintro e w' ⟨rfl, rfl⟩
  exact ⟨ret_u32 (by rw [if_neg (by omega)]; omega), rfl⟩

set_option maxRecDepth 100000 in
theorem esub_nat (a b : Nat) (w : World) (ha : a < 2147483647) (hb : b ≤ 2147483647) : Calls Ybaf.prog 23 #[.int .u32 a, .int .u32 b] w fun e w' => e = .returned (.int .u32 (subM a b)) ∧ w = w' := by
  by_cases h : b ≤ a
  · rw [subM_le h]
    go_enter Ybaf.func23, Ybaf.ntmps23
    go_wp2_with (go_at_call 20; refine (eadd_int _ _ _ (by omega) (by omega) (by omega)).mono ?_; rintro e w' ⟨rfl, rfl⟩)
    all_goals
      go_ret
      exact ⟨ret_u32 (by omega), rfl⟩
  · have hs : subM a b = a + 2147483647 - b := if_neg h
    rw [hs]
    clear hs
    go_enter Ybaf.func23, Ybaf.ntmps23
    go_wp2_with (go_at_call 20; refine (eadd_int _ _ _ (by omega) (by omega) (by omega)).mono ?_; rintro e w' ⟨rfl, rfl⟩)
    all_goals
      go_ret
      exact ⟨ret_u32 (by omega), rfl⟩

set_option maxRecDepth 100000 in
theorem emul_nat (a b : Nat) (w : World) (ha : a < 2147483648) (hb : b < 2147483648) : Calls Ybaf.prog 24 #[.int .u32 a, .int .u32 b] w fun e w' => e = .returned (.int .u32 (red (a * b))) ∧ w = w' := by
  have hp : a * b < 4611686018427387904 := by
    have h1 : a ≤ 2147483647 := by omega
    have h2 : b ≤ 2147483647 := by omega
    have := Nat.mul_le_mul h1 h2
    omega
  have e0 : IntKind.u64.wrap ((a : Int) * (b : Int)) = ((a * b : Nat) : Int) := by rw [IntKind.wrap_u64, ← Int.natCast_mul]; omega
  have e1 : bits .and .u64 ((a * b : Nat) : Int) 2147483647 = ((a * b % 2147483648 : Nat) : Int) := by
    rw [show (2147483647 : Int) = ((2147483647 : Nat) : Int) by rfl, u64_and_nat _ _ (by omega) (by omega)]
    rw [show (2147483647 : Nat) = 2 ^ 31 - 1 by decide, Nat.and_two_pow_sub_one_eq_mod]
  have e2 : ((a * b : Nat) : Int) / 2147483648 = ((a * b / 2147483648 : Nat) : Int) := by omega
  generalize hP : a * b = p at *
  clear hP
  have h1 : p % 2147483648 ≤ 2147483647 := by omega
  have h2 : p / 2147483648 ≤ 2147483647 := by omega
  have hr : red p = if 2147483647 ≤ p % 2147483648 + p / 2147483648 then p % 2147483648 + p / 2147483648 - 2147483647 else p % 2147483648 + p / 2147483648 := rfl
  generalize p % 2147483648 = u at *
  generalize p / 2147483648 = v at *
  clear hp
  have u0 : (0 : Int) ≤ (u : Int) := by omega
  have v0 : (0 : Int) ≤ (v : Int) := by omega
  have u1 : (u : Int) ≤ 2147483647 := by omega
  have v1 : (v : Int) ≤ 2147483647 := by omega
  have HR := hide hr
  clear hr h1 h2
  obtain ⟨U, hU⟩ : ∃ U : Int, U = u := ⟨_, rfl⟩
  obtain ⟨V, hV⟩ : ∃ V : Int, V = v := ⟨_, rfl⟩
  obtain ⟨Z, hZ⟩ : ∃ Z : Int, Z = p := ⟨_, rfl⟩
  rw [← hU] at e1 u0 u1
  rw [← hV] at e2 v0 v1
  rw [← hZ] at e0 e1 e2
  have HU := hide hU
  have HV := hide hV
  clear hU hV hZ
  have a0 : (0 : Int) ≤ (a : Int) := by omega
  have b0 : (0 : Int) ≤ (b : Int) := by omega
  have a1 : (a : Int) ≤ 2147483647 := by omega
  have b1 : (b : Int) ≤ 2147483647 := by omega
  clear ha hb
  generalize (a : Int) = A at *
  generalize (b : Int) = B at *
  by_cases hc : 2147483647 ≤ U + V
  · go_enter Ybaf.func24, Ybaf.ntmps24
    go_wp2
    go_ret
    exact ⟨ret_u32 (by have h1 := HU.out; have h2 := HV.out; rw [HR.out, if_pos (by omega)]; omega), rfl⟩
  · go_enter Ybaf.func24, Ybaf.ntmps24
    go_wp2
    go_ret
    exact ⟨ret_u32 (by have h1 := HU.out; have h2 := HV.out; rw [HR.out, if_neg (by omega)]; omega), rfl⟩

set_option maxRecDepth 100000 in
theorem value_any (x : Nat) (w : World) (hx : x < 4294967296) :
    Calls Ybaf.prog 21 #[.agg #[.int .u32 (x / 65536 : Nat), .int .u32 (x % 65536 : Nat)]] w fun e w' => e = .returned (.int .u32 x) ∧ w.alloc (.cells #[.int .u32 (x / 65536 : Nat), .int .u32 (x % 65536 : Nat)] 32) = w' := by
  obtain ⟨h, hh⟩ : ∃ h, h = x / 65536 := ⟨_, rfl⟩
  obtain ⟨l, hl⟩ : ∃ l, l = x % 65536 := ⟨_, rfl⟩
  have HX := hide (show x = h * 65536 + l from by omega)
  have h1 : h ≤ 65535 := by omega
  have h2 : l ≤ 65535 := by omega
  rw [← hh, ← hl]
  clear hh hl hx
  go_enter Ybaf.func21, Ybaf.ntmps21
  go_wp2
  go_ret
  exact ⟨ret_u32 (by rw [HX.out]; omega), rfl⟩

set_option maxRecDepth 100000 in
theorem rotr_any (x k : Nat) (w : World) (hx : x < 4294967296) (hk : k = 16 ∨ k = 12 ∨ k = 8 ∨ k = 7) :
    Calls Ybaf.prog 12 #[.int .u32 x, .int .u64 k] w fun e w' => e = .returned (.int .u32 (rotr x k)) ∧ w = w' := by
  have hor := rotr_or x k hx (by omega)
  have h1 : x / 2 ^ k < 4294967296 := Nat.lt_of_le_of_lt (Nat.div_le_self _ _) hx
  have h2 : x * 2 ^ (32 - k) % 4294967296 < 4294967296 := Nat.mod_lt _ (by omega)
  have hb := u32_or_nat _ _ h1 h2
  rw [hor] at hb
  clear hor h1 h2
  rcases hk with rfl | rfl | rfl | rfl
  · have HB := hide (show bits .or .u32 ((x / 65536 : Nat) : Int) ((x * 65536 % 4294967296 : Nat) : Int) = (rotr x 16 : Nat) from hb)
    clear hb
    go_enter Ybaf.func12, Ybaf.ntmps12
    go_wp2
    go_ret
    refine ⟨ret_u32 ?_, rfl⟩
    rw [← HB.out]
    congr 1
  · have HB := hide (show bits .or .u32 ((x / 4096 : Nat) : Int) ((x * 1048576 % 4294967296 : Nat) : Int) = (rotr x 12 : Nat) from hb)
    clear hb
    go_enter Ybaf.func12, Ybaf.ntmps12
    go_wp2
    go_ret
    refine ⟨ret_u32 ?_, rfl⟩
    rw [← HB.out]
    congr 1
  · have HB := hide (show bits .or .u32 ((x / 256 : Nat) : Int) ((x * 16777216 % 4294967296 : Nat) : Int) = (rotr x 8 : Nat) from hb)
    clear hb
    go_enter Ybaf.func12, Ybaf.ntmps12
    go_wp2
    go_ret
    refine ⟨ret_u32 ?_, rfl⟩
    rw [← HB.out]
    congr 1
  · have HB := hide (show bits .or .u32 ((x / 128 : Nat) : Int) ((x * 33554432 % 4294967296 : Nat) : Int) = (rotr x 7 : Nat) from hb)
    clear hb
    go_enter Ybaf.func12, Ybaf.ntmps12
    go_wp2
    go_ret
    refine ⟨ret_u32 ?_, rfl⟩
    rw [← HB.out]
    congr 1

/-! the same at numbers as they come -/
theorem eaddI (A B : Int) (a b : Nat) (w : World) (hA : A = (a : Nat)) (hB : B = (b : Nat)) (h : a + b < 2147483647) : Calls Ybaf.prog 20 #[.int .u32 A, .int .u32 B] w fun e w' => e = .returned (.int .u32 ((a + b : Nat) : Int)) ∧ w = w' := by
  subst hA hB; exact eadd_nat a b w h
theorem esubI (A B : Int) (a b : Nat) (w : World) (hA : A = (a : Nat)) (hB : B = (b : Nat)) (ha : a < 2147483647) (hb : b ≤ 2147483647) : Calls Ybaf.prog 23 #[.int .u32 A, .int .u32 B] w fun e w' => e = .returned (.int .u32 (subM a b : Nat)) ∧ w = w' := by
  subst hA hB; exact esub_nat a b w ha hb
theorem emulI (A B : Int) (a b : Nat) (w : World) (hA : A = (a : Nat)) (hB : B = (b : Nat)) (ha : a < 2147483648) (hb : b < 2147483648) : Calls Ybaf.prog 24 #[.int .u32 A, .int .u32 B] w fun e w' => e = .returned (.int .u32 (red (a * b) : Nat)) ∧ w = w' := by
  subst hA hB; exact emul_nat a b w ha hb

end Go.Proofs.YbulkchdaFmt
