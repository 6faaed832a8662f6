/- THE PLAIN LAWS of 32-bit words in halves: rotations, sums, XORs, the mixing function, the round; no Go in sight. -/
import GoSem.Claim
import Derived.Laws.BitsAllLaws
namespace Go.Proofs.YbulkchdaFmt.Bits

/-- rotate right -/
def rotr (x k : Nat) : Nat := x / 2 ^ k + x % 2 ^ k * 2 ^ (32 - k)

theorem rotr_lt (x k : Nat) (hx : x < 4294967296) (hk : k ≤ 32) : rotr x k < 4294967296 := by
  unfold rotr
  have h1 : x / 2 ^ k < 2 ^ (32 - k) := by
    rw [Nat.div_lt_iff_lt_mul (Nat.two_pow_pos k), ← Nat.pow_add, show 32 - k + k = 32 by omega]; omega
  have h2 : x % 2 ^ k + 1 ≤ 2 ^ k := Nat.mod_lt _ (Nat.two_pow_pos k)
  have h3 := Nat.mul_le_mul_right (2 ^ (32 - k)) h2
  rw [← Nat.pow_add, show k + (32 - k) = 32 by omega, Nat.add_mul] at h3
  omega

/-- the or of the two shifts is the rotation -/
theorem rotr_or (x k : Nat) (hx : x < 4294967296) (hk : k ≤ 32) : x / 2 ^ k ||| x * 2 ^ (32 - k) % 4294967296 = rotr x k := by
  have h1 : x / 2 ^ k < 2 ^ (32 - k) := by
    rw [Nat.div_lt_iff_lt_mul (Nat.two_pow_pos k), ← Nat.pow_add, show 32 - k + k = 32 by omega]; omega
  have e : x * 2 ^ (32 - k) % 4294967296 = x % 2 ^ k * 2 ^ (32 - k) := by
    rw [show (4294967296 : Nat) = 2 ^ k * 2 ^ (32 - k) by rw [← Nat.pow_add, show k + (32 - k) = 32 by omega]]
    exact Nat.mul_mod_mul_right _ _ _
  rw [e, Nat.or_comm, nat_join (32 - k) _ _ (Nat.mul_mod_left _ _) h1]
  unfold rotr
  omega

theorem xor_lt (a b n : Nat) (ha : a < 2 ^ n) (hb : b < 2 ^ n) : a ^^^ b < 2 ^ n := Nat.xor_lt_two_pow ha hb
theorem xor_mod (a b n : Nat) : (a ^^^ b) % 2 ^ n = a % 2 ^ n ^^^ b % 2 ^ n := Nat.xor_mod_two_pow
theorem xor_div (a b n : Nat) : (a ^^^ b) / 2 ^ n = a / 2 ^ n ^^^ b / 2 ^ n := by
  simpa [Nat.shiftRight_eq_div_pow] using Nat.shiftRight_xor_distrib (a := a) (b := b) (i := n)

/-- M31's reduction of a product -/
def red (p : Nat) : Nat := if 2147483647 ≤ p % 2147483648 + p / 2147483648 then p % 2147483648 + p / 2147483648 - 2147483647 else p % 2147483648 + p / 2147483648
theorem red_small {p : Nat} (h : p < 2147483647) : red p = p := by unfold red; rw [if_neg (by omega)]; omega
theorem red_carry {c : Nat} (h : c ≤ 2) : red (65536 * c * 32768) = c := by unfold red; rw [if_neg (by omega)]; omega
theorem red_zero : red 0 = 0 := by decide
/-- M31's difference -/
def subM (a b : Nat) : Nat := if b ≤ a then a - b else a + 2147483647 - b
theorem subM_le {a b : Nat} (h : b ≤ a) : subM a b = a - b := if_pos h

/-- the carries of a sum in halves -/
theorem carry_lo (l s : Nat) (h : s % 65536 = l % 65536) : s % 65536 ≤ l ∧ l - s % 65536 = 65536 * (l / 65536) := by omega
theorem carry_hi (h l t : Nat) (ht : t = (h * 65536 + l) % 4294967296) : t / 65536 ≤ h + l / 65536 ∧ h + l / 65536 - t / 65536 = 65536 * ((h + l / 65536) / 65536) := by omega

/-- the eight cells of a XOR-rotation split at s -/
def emXor (a b s : Nat) : List Nat :=
  [a / 65536 / 2 ^ s, a % 65536 / 2 ^ s, b / 65536 / 2 ^ s, b % 65536 / 2 ^ s,
    a / 65536 % 2 ^ s ^^^ b / 65536 % 2 ^ s, a / 65536 / 2 ^ s ^^^ b / 65536 / 2 ^ s, a % 65536 % 2 ^ s ^^^ b % 65536 % 2 ^ s, a % 65536 / 2 ^ s ^^^ b % 65536 / 2 ^ s]
/-- the two cells of a sum -/
def emAdd (s : Nat) : List Nat := [s / 65536, s % 65536]

theorem halves_xor (a b : Nat) : (a ^^^ b) / 65536 = a / 65536 ^^^ b / 65536 ∧ (a ^^^ b) % 65536 = a % 65536 ^^^ b % 65536 := ⟨xor_div a b 16, xor_mod a b 16⟩

theorem rot16 (a b : Nat) (ha : a < 4294967296) (hb : b < 4294967296) :
    rotr (a ^^^ b) 16 / 65536 = (a % 65536 / 2 ^ 8 ^^^ b % 65536 / 2 ^ 8) * 256 + (a % 65536 % 2 ^ 8 ^^^ b % 65536 % 2 ^ 8) ∧
    rotr (a ^^^ b) 16 % 65536 = (a / 65536 / 2 ^ 8 ^^^ b / 65536 / 2 ^ 8) * 256 + (a / 65536 % 2 ^ 8 ^^^ b / 65536 % 2 ^ 8) := by
  have hx : a ^^^ b < 4294967296 := xor_lt a b 32 ha hb
  rw [← xor_div, ← xor_mod, ← xor_div, ← xor_mod, ← (halves_xor a b).1, ← (halves_xor a b).2]
  generalize a ^^^ b = X at *
  unfold rotr
  simp only [show (2 : Nat) ^ 16 = 65536 by decide, show (2 : Nat) ^ 8 = 256 by decide]
  omega
theorem md (q c r : Nat) (h : r < c) : (q * c + r) % c = r := by rw [Nat.mul_comm, Nat.mul_add_mod]; exact Nat.mod_eq_of_lt h
theorem dv (q c r : Nat) (h : r < c) : (q * c + r) / c = q := by rw [Nat.mul_comm, Nat.mul_add_div (by omega), Nat.div_eq_of_lt h]; rfl
theorem rotK (a b k : Nat) (hk : k = 12 ∨ k = 8 ∨ k = 7) (ha : a < 4294967296) (hb : b < 4294967296) :
    rotr (a ^^^ b) k / 65536 = (a % 65536 % 2 ^ k ^^^ b % 65536 % 2 ^ k) * 2 ^ (16 - k) + (a / 65536 / 2 ^ k ^^^ b / 65536 / 2 ^ k) ∧
    rotr (a ^^^ b) k % 65536 = (a / 65536 % 2 ^ k ^^^ b / 65536 % 2 ^ k) * 2 ^ (16 - k) + (a % 65536 / 2 ^ k ^^^ b % 65536 / 2 ^ k) := by
  have hx : a ^^^ b < 4294967296 := xor_lt a b 32 ha hb
  rw [← xor_div, ← xor_mod, ← xor_div, ← xor_mod, ← (halves_xor a b).1, ← (halves_xor a b).2]
  generalize a ^^^ b = X at *
  unfold rotr
  rcases hk with rfl | rfl | rfl
  · simp only [show (2 : Nat) ^ 12 = 4096 by decide, show (2 : Nat) ^ (32 - 12) = 1048576 by decide, show (2 : Nat) ^ (16 - 12) = 16 by decide]
    obtain ⟨h2, h1, l2, l1, b1, b2, b3, rfl⟩ : ∃ h2 h1 l2 l1, h1 < 4096 ∧ l2 < 16 ∧ l1 < 4096 ∧ X = h2 * 268435456 + h1 * 65536 + l2 * 4096 + l1 :=
      ⟨X / 65536 / 4096, X / 65536 % 4096, X % 65536 / 4096, X % 65536 % 4096, by omega, by omega, by omega, by omega⟩
    have e1 : (h2 * 268435456 + h1 * 65536 + l2 * 4096 + l1) / 4096 = h2 * 65536 + h1 * 16 + l2 := by omega
    have e2 : (h2 * 268435456 + h1 * 65536 + l2 * 4096 + l1) % 4096 = l1 := by omega
    have e3 : (h2 * 268435456 + h1 * 65536 + l2 * 4096 + l1) / 65536 = h2 * 4096 + h1 := by omega
    have e4 : (h2 * 268435456 + h1 * 65536 + l2 * 4096 + l1) % 65536 = l2 * 4096 + l1 := by omega
    have e5 := md l2 4096 l1 (by assumption)
    have e6 := dv l2 4096 l1 (by assumption)
    have e7 := md h2 4096 h1 (by assumption)
    have e8 := dv h2 4096 h1 (by assumption)
    rw [e1, e2, e3, e4, e5, e6, e7, e8]
    clear e1 e2 e3 e4 e5 e6 e7 e8
    omega
  · simp only [show (2 : Nat) ^ 8 = 256 by decide, show (2 : Nat) ^ (32 - 8) = 16777216 by decide]
    obtain ⟨h2, h1, l2, l1, b1, b2, b3, rfl⟩ : ∃ h2 h1 l2 l1, h1 < 256 ∧ l2 < 256 ∧ l1 < 256 ∧ X = h2 * 16777216 + h1 * 65536 + l2 * 256 + l1 :=
      ⟨X / 65536 / 256, X / 65536 % 256, X % 65536 / 256, X % 65536 % 256, by omega, by omega, by omega, by omega⟩
    have e1 : (h2 * 16777216 + h1 * 65536 + l2 * 256 + l1) / 256 = h2 * 65536 + h1 * 256 + l2 := by omega
    have e2 : (h2 * 16777216 + h1 * 65536 + l2 * 256 + l1) % 256 = l1 := by omega
    have e3 : (h2 * 16777216 + h1 * 65536 + l2 * 256 + l1) / 65536 = h2 * 256 + h1 := by omega
    have e4 : (h2 * 16777216 + h1 * 65536 + l2 * 256 + l1) % 65536 = l2 * 256 + l1 := by omega
    have e5 := md l2 256 l1 (by assumption)
    have e6 := dv l2 256 l1 (by assumption)
    have e7 := md h2 256 h1 (by assumption)
    have e8 := dv h2 256 h1 (by assumption)
    rw [e1, e2, e3, e4, e5, e6, e7, e8]
    clear e1 e2 e3 e4 e5 e6 e7 e8
    omega
  · simp only [show (2 : Nat) ^ 7 = 128 by decide, show (2 : Nat) ^ (32 - 7) = 33554432 by decide, show (2 : Nat) ^ (16 - 7) = 512 by decide]
    obtain ⟨h2, h1, l2, l1, b1, b2, b3, rfl⟩ : ∃ h2 h1 l2 l1, h1 < 128 ∧ l2 < 512 ∧ l1 < 128 ∧ X = h2 * 8388608 + h1 * 65536 + l2 * 128 + l1 :=
      ⟨X / 65536 / 128, X / 65536 % 128, X % 65536 / 128, X % 65536 % 128, by omega, by omega, by omega, by omega⟩
    have e1 : (h2 * 8388608 + h1 * 65536 + l2 * 128 + l1) / 128 = h2 * 65536 + h1 * 512 + l2 := by omega
    have e2 : (h2 * 8388608 + h1 * 65536 + l2 * 128 + l1) % 128 = l1 := by omega
    have e3 : (h2 * 8388608 + h1 * 65536 + l2 * 128 + l1) / 65536 = h2 * 128 + h1 := by omega
    have e4 : (h2 * 8388608 + h1 * 65536 + l2 * 128 + l1) % 65536 = l2 * 128 + l1 := by omega
    have e5 := md l2 128 l1 (by assumption)
    have e6 := dv l2 128 l1 (by assumption)
    have e7 := md h2 128 h1 (by assumption)
    have e8 := dv h2 128 h1 (by assumption)
    rw [e1, e2, e3, e4, e5, e6, e7, e8]
    clear e1 e2 e3 e4 e5 e6 e7 e8
    omega

/-- the mixing function -/
structure Q4 where
  a : Nat
  b : Nat
  c : Nat
  d : Nat
def mix (a b c d x y : Nat) : Q4 :=
  let a1 := (a + b + x) % 4294967296
  let d1 := rotr (d ^^^ a1) 16
  let c1 := (c + d1) % 4294967296
  let b1 := rotr (b ^^^ c1) 12
  let a2 := (a1 + b1 + y) % 4294967296
  let d2 := rotr (d1 ^^^ a2) 8
  let c2 := (c1 + d2) % 4294967296
  let b2 := rotr (b1 ^^^ c2) 7
  ⟨a2, b2, c2, d2⟩
/-- the cells that it lays -/
def emMix (a b c d x y : Nat) : List Nat :=
  let a1 := (a + b + x) % 4294967296
  let d1 := rotr (d ^^^ a1) 16
  let c1 := (c + d1) % 4294967296
  let b1 := rotr (b ^^^ c1) 12
  let a2 := (a1 + b1 + y) % 4294967296
  let d2 := rotr (d1 ^^^ a2) 8
  let c2 := (c1 + d2) % 4294967296
  emAdd a1 ++ emXor d a1 8 ++ emAdd c1 ++ emXor b c1 12 ++ emAdd a2 ++ emXor d1 a2 8 ++ emAdd c2 ++ emXor b1 c2 7
theorem emMix_len (a b c d x y : Nat) : (emMix a b c d x y).length = 40 := rfl

end Go.Proofs.YbulkchdaFmt.Bits
