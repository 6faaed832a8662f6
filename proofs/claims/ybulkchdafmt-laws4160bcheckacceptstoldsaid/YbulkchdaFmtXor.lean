/- (*row).carry and (*row).xor, each walked once. -/
import Derived.Test.YbulkchdaFmtCell
namespace Go.Proofs.YbulkchdaFmt
open Go.RowKit Bits

theorem carry_zero (c : Nat) (h : c ≤ 2) : red (red (c * subM c 1) * subM c 2) = 0 ∧ c * subM c 1 ≤ 2 ∧ red (c * subM c 1) ≤ 2 ∧ subM c 1 < 2147483648 ∧ subM c 2 < 2147483648 := by
  rcases (show c = 0 ∨ c = 1 ∨ c = 2 by omega) with rfl | rfl | rfl <;> decide

set_option maxRecDepth 100000 in
theorem carry_any (rb c : Nat) (C : Int) (w : World) (hC : C = (c : Nat)) (h : c ≤ 2) : Calls Ybaf.prog 25 #[.pointer (some ⟨rb, 0, none⟩), .int .u32 C] w fun e w' => e = .returned (.tuple #[]) ∧ w = w' := by
  obtain ⟨z, _, h2, h3, h4⟩ := carry_zero c h
  have HC := hide hC
  clear hC
  go_enter Ybaf.func25, Ybaf.ntmps25
  go_wp2_with fail
  refine (esubI _ _ c 1 _ HC.out rfl (by omega) (by omega)).mono ?_
  rintro e w' ⟨rfl, rfl⟩
  go_wp2_with fail
  refine (emulI _ _ c (subM c 1) _ HC.out rfl (by omega) h3).mono ?_
  rintro e w' ⟨rfl, rfl⟩
  go_wp2_with fail
  refine (esubI _ _ c 2 _ HC.out rfl (by omega) (by omega)).mono ?_
  rintro e w' ⟨rfl, rfl⟩
  go_wp2_with fail
  refine (emulI _ _ (red (c * subM c 1)) (subM c 2) _ rfl rfl (by omega) h4).mono ?_
  rw [z]
  rintro e w' ⟨rfl, rfl⟩
  go_wp2
  go_end0
  exact ⟨rfl, rfl⟩

/-- one lookup more -/
theorem RowAt.look {w : World} {rb : Nat} {v : Value} {st : RSt} {em : List Nat} (h : RowAt w rb v (st.emit em 0)) (hk : st.lk + 1 ≤ 1000) : RowAt (w.setCell ⟨rb, 4, none⟩ (.int .i64 ((st.lk : Int) + 1))) rb v (st.emit em 1) :=
  ⟨cells_setCell h.blk, ownsRow_setCell_other h.own h.ne _, h.ne, h.bnd, h.len, h.posb, by simp only [RSt.emit]; omega⟩

set_option maxHeartbeats 1000000 in
set_option maxRecDepth 100000 in
theorem xor_any (rb : Nat) (v : Value) (st : RSt) (x y k : Nat) (X Y K : Int) (w : World) (h : RowAt w rb v st) (hX : X = (x : Nat)) (hY : Y = (y : Nat)) (hK : K = (k : Nat)) (hk : k = 4 ∨ k = 7 ∨ k = 8 ∨ k = 9 ∨ k = 12) (hx : x < 2 ^ k) (hy : y < 2 ^ k) (hc : st.can [x ^^^ y] 1) :
    Calls Ybaf.prog 26 #[.pointer (some ⟨rb, 0, none⟩), .int .u32 X, .int .u32 Y, .int .u64 K] w fun e w' => e = .returned (.int .u32 (x ^^^ y : Nat)) ∧ ∃ v', RowAt w' rb v' (st.emit [x ^^^ y] 1) ∧ Fr rb v v' w w' := by
  have hx32 : x < 4294967296 := by rcases hk with rfl | rfl | rfl | rfl | rfl <;> omega
  have hy32 : y < 4294967296 := by rcases hk with rfl | rfl | rfl | rfl | rfl <;> omega
  have e1 : bits .xor .u32 X Y = ((x ^^^ y : Nat) : Int) := by rw [hX, hY]; exact u32_xor_nat x y hx32 hy32
  have hzb := hc.2.2.2 (x ^^^ y) (by simp)
  have hlk := hc.2.2.1
  have hc0 : st.can [x ^^^ y] 0 := ⟨hc.1, hc.2.1, by omega, hc.2.2.2⟩
  have X0 : 0 ≤ X := by omega
  have Y0 : 0 ≤ Y := by omega
  have XK : X < (2 ^ k : Nat) := by omega
  have YK : Y < (2 ^ k : Nat) := by omega
  have Z0 : (0 : Int) ≤ ((x ^^^ y : Nat) : Int) := by omega
  clear hX hY hx hy hx32 hy32 hc
  rcases hk with rfl | rfl | rfl | rfl | rfl
  all_goals
    subst hK
    simp only [Nat.reducePow] at XK YK
    go_enter Ybaf.func26, Ybaf.ntmps26
    go_wp2_with fail
    refine (cell_any rb v st (x ^^^ y) w h hc0).mono ?_
    rintro e w1 ⟨rfl, v1, R1, F1⟩
    have c4 : w1.cell? ⟨rb, 4, none⟩ = some (.int .i64 (st.lk : Nat)) := cell_of_cells R1.blk rfl
    have f4 := free_of_cells (i := 4) R1.blk
    have HR := hide (R1.look (by omega))
    have HF := hide (F1.setRow (i := 4) (.int .i64 ((st.lk : Int) + 1)))
    have hlk' : ((st.lk : Nat) : Int) ≤ 1000 := by omega
    clear R1 F1 h hc0 hlk hzb
    generalize hZ : ((x ^^^ y : Nat) : Int) = Z at *
    have HZ := hide hZ
    clear hZ
    go_wp2
    go_ret
    exact ⟨ret_u32 HZ.out.symm, v1, HR.out, HF.out⟩
end Go.Proofs.YbulkchdaFmt
