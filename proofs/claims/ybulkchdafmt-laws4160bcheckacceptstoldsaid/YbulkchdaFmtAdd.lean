/- (*row).add, walked once, for two or three words. -/
import Derived.Test.YbulkchdaFmtXor
import Derived.LoopTactic
namespace Go.Proofs.YbulkchdaFmt
open Go.RowKit Bits

theorem quiet_same {P : Program} {f : FuncId} {args : Array Value} {w : World} {n : Nat} {v : Value}
    (h : Calls P f args (w.drewN n) fun e w' => e = .returned v ∧ w.drewN n = w') : Calls P f args (w.drewN n) fun e w'' => e = .returned v ∧ ∃ m, w'' = w.drewN m :=
  h.mono fun _ _ ⟨he, hm⟩ => ⟨he, n, hm.symm⟩

theorem cellI (rb : Nat) (v : Value) (st : RSt) (X : Int) (x : Nat) (w : World) (hX : X = (x : Nat)) (h : RowAt w rb v st) (hc : st.can [x] 0) :
    Calls Ybaf.prog 22 #[.pointer (some ⟨rb, 0, none⟩), .int .u32 X] w fun e w' => e = .returned (.int .u32 (x : Nat)) ∧ ∃ v', RowAt w' rb v' (st.emit [x] 0) ∧ Fr rb v v' w w' := by
  subst hX; exact cell_any rb v st x w h hc

theorem valueI (p q : Nat) (w : World) (hp : p < 65536) (hq : q < 65536) :
    Calls Ybaf.prog 21 #[.agg #[.int .u32 (p : Nat), .int .u32 (q : Nat)]] w fun e w' => e = .returned (.int .u32 (p * 65536 + q : Nat)) ∧ w.alloc (.cells #[.int .u32 (p : Nat), .int .u32 (q : Nat)] 32) = w' := by
  have := value_any (p * 65536 + q) w (by omega)
  rw [dv p 65536 q hq, md p 65536 q hq] at this
  exact this

/-- sums over the first k words -/
def sumTo (f : Nat → Nat) : Nat → Nat
  | 0 => 0
  | k + 1 => sumTo f k + f k
theorem sumTo_le (f : Nat → Nat) (b : Nat) (h : ∀ i, f i ≤ b) : ∀ k, sumTo f k ≤ k * b
  | 0 => by simp [sumTo]
  | k + 1 => by have := sumTo_le f b h k; have := h k; rw [sumTo, Nat.add_mul]; omega
/-- the sum of the words, as 32 bits -/
def sumM (H L : Nat → Nat) (k : Nat) : Nat := (sumTo H k * 65536 + sumTo L k) % 4294967296
theorem sumM_succ (H L : Nat → Nat) (k : Nat) : sumM H L (k + 1) = (sumM H L k + (H k * 65536 + L k)) % 4294967296 := by
  unfold sumM
  rw [sumTo, sumTo]
  omega
theorem sumM_zero (H L : Nat → Nat) : sumM H L 0 = 0 := by simp [sumM, sumTo]
theorem sumM_lt (H L : Nat → Nat) (k : Nat) : sumM H L k < 4294967296 := Nat.mod_lt _ (by omega)

abbrev wordO (h l : Nat) : Obj := .cells #[.int .u32 (h : Nat), .int .u32 (l : Nat)] 32 (0, 0)
abbrev wordV (h l : Nat) : Value := .agg #[.int .u32 (h : Nat), .int .u32 (l : Nat)]

set_option maxHeartbeats 2000000 in
set_option maxRecDepth 100000 in
theorem add_any (rb tb n : Nat) (H L : Nat → Nat) (v : Value) (st : RSt) (tcs : Array Value) (w : World) (h : RowAt w rb v st) (hn : n ≤ 3) (hH : ∀ i, H i < 65536) (hL : ∀ i, L i < 65536)
    (ht : Loc w rb v tb (.cells tcs 32 (0, 0))) (htc : ∀ i, i < n → tcs[i * 2]? = some (.int .u32 (H i : Nat)) ∧ tcs[i * 2 + 1]? = some (.int .u32 (L i : Nat)))
    (hc : st.can (emAdd (sumM H L n)) 0) :
    Calls Ybaf.prog 15 #[.pointer (some ⟨rb, 0, none⟩), .slice (some ⟨tb, 0, none⟩) n n] w fun e w' => e = .returned (wordV (sumM H L n / 65536) (sumM H L n % 65536)) ∧ ∃ v', RowAt w' rb v' (st.emit (emAdd (sumM H L n)) 0) ∧ Fr rb v v' w w' := by
  have hHb := sumTo_le H 65535 (fun i => by have := hH i; omega)
  have hLb := sumTo_le L 65535 (fun i => by have := hL i; omega)
  go_enter Ybaf.func15, Ybaf.ntmps15
  go_wp2_with fail
  go_loopw [5, 6, 7, 14] (fun hv lv sv iv wr => ∃ k : Nat, k ≤ n ∧ iv = .int .i64 k ∧ hv = .int .u32 (sumTo H k : Nat) ∧ lv = .int .u32 (sumTo L k : Nat) ∧ sv = .int .u32 (sumM H L k : Nat) ∧
      RowAt wr rb v st ∧ Fr rb v v w wr ∧ Loc wr rb v tb (.cells tcs 32 (0, 0)) ∧ Loc wr rb v w.heap.size (wordO 0 0)) (fun _ _ _ iv _ => n - (intOf iv).toNat)
  case atStart => exact ⟨0, Nat.zero_le _, rfl, rfl, rfl, by rw [sumM_zero]; rfl, h.alloc _, (Fr.refl _ _ _).alloc _, ht.alloc _, Loc.new h _⟩
  case round =>
    obtain ⟨k, hk, rfl, rfl, rfl, rfl, R, F, L1, L2⟩ := hrel
    by_cases hlt : k < n
    · obtain ⟨t0, t1⟩ := htc k hlt
      have c0 : wr.cell? ⟨tb, k * 2, none⟩ = some (.int .u32 (H k : Nat)) := cell_of_cells L1.blk t0
      have c1 : wr.cell? ⟨tb, k * 2 + 1, none⟩ = some (.int .u32 (L k : Nat)) := cell_of_cells L1.blk t1
      have HS := hide (sumM_succ H L k)
      have HSH := hide (show sumTo H (k + 1) = sumTo H k + H k from rfl)
      have HSL := hide (show sumTo L (k + 1) = sumTo L k + L k from rfl)
      have b1 := hHb k
      have b2 := hLb k
      have b3 := hH k
      have b4 := hL k
      have HR := hide R
      have HF := hide F
      have HL1 := hide L1
      have HL2 := hide L2
      clear t0 t1 htc h ht hc R F L1 L2 hHb hLb hH hL
      generalize H k = p at *
      generalize L k = q at *
      go_wp2_with fail
      go_quiet ((go_at_call 20; exact quiet_same (eadd_nat _ _ _ (by omega))))
      go_wp2_with fail
      refine (valueI p q _ b3 b4).mono ?_
      rintro e w1 ⟨rfl, rfl⟩
      generalize hM : ((sumM H L k : Nat) : Int) = M at *
      have HM := hide hM
      have HV := hide (show ((p * 65536 + q : Nat) : Int) = (p : Int) * 65536 + q from by omega)
      clear hM
      go_wp2_with fail
      go_roundw
      case rel =>
        refine ⟨k + 1, by omega, by go_num, by rw [HSH.out]; go_num, by rw [HSL.out]; go_num, ?_, ((HR.out.alloc _).drewN _).alloc _, ((HF.out.alloc _).drewN _).alloc _, ((HL1.out.alloc _).drewN _).alloc _, ((HL2.out.alloc _).drewN _).alloc _⟩
        rw [HS.out]
        have h1 := HM.out
        congr 1
        omega
      case measure => simp [intOf]; omega
    · obtain rfl : k = n := by omega
      obtain ⟨S, hS⟩ : ∃ S, S = sumM H L k := ⟨_, rfl⟩
      obtain ⟨a, ha⟩ : ∃ a, a = S / 65536 := ⟨_, rfl⟩
      obtain ⟨b, hb⟩ : ∃ b, b = S % 65536 := ⟨_, rfl⟩
      have hSlt : S < 4294967296 := by rw [hS]; exact sumM_lt H L k
      have q1 := hHb k
      have q2 := hLb k
      have hcl := carry_lo (sumTo L k) S (by rw [hS]; unfold sumM; omega)
      have hch := carry_hi (sumTo H k) (sumTo L k) S hS
      rw [← hb] at hcl
      rw [← ha] at hch
      have hem : emAdd (sumM H L k) = [a] ++ [b] := by unfold emAdd; rw [← hS, ← ha, ← hb]; rfl
      have hres : wordV (sumM H L k / 65536) (sumM H L k % 65536) = wordV a b := by rw [← hS, ← ha, ← hb]
      rw [hem] at hc
      have hc1 : st.can [a] 0 := RSt.can_left (k1 := 0) (k2 := 0) hc
      have hc2 : (st.emit [a] 0).can [b] 0 := RSt.can_right (k1 := 0) (k2 := 0) hc
      have HEM := hide hem
      have HRES := hide hres
      rw [← hS]
      have hab : a ≤ 65535 ∧ b ≤ 65535 := by omega
      have hc12 : sumTo L k / 65536 ≤ 2 ∧ (sumTo H k + sumTo L k / 65536) / 65536 ≤ 2 := by omega
      generalize hSI : ((S : Nat) : Int) = SI at *
      have e1 : SI / 65536 = (a : Nat) := by omega
      have e2 : bits .and .u32 SI 65535 = (b : Nat) := by
        rw [← hSI, show (65535 : Int) = ((65535 : Nat) : Int) by rfl, u32_and_nat S 65535 hSlt (by omega), show (65535 : Nat) = 2 ^ 16 - 1 by decide, Nat.and_two_pow_sub_one_eq_mod, hb]
      have s0 : 0 ≤ SI := by omega
      have HC1 := hide hc1
      have HC2 := hide hc2
      have HR := hide R
      have HF := hide F
      have HL2 := hide L2
      clear hSI hem hres hc hc1 hc2 R F L1 L2 htc h ht hS ha hb hSlt hHb hLb hH hL hlt hk
      have q1' : sumTo H k ≤ 196605 := by omega
      have q2' : sumTo L k ≤ 196605 := by omega
      clear q1 q2
      generalize sumTo H k = hs at *
      generalize sumTo L k = ls at *
      obtain ⟨c1, hc1⟩ : ∃ c1, c1 = ls / 65536 := ⟨_, rfl⟩
      obtain ⟨c2, hc2⟩ : ∃ c2, c2 = (hs + ls / 65536) / 65536 := ⟨_, rfl⟩
      rw [← hc2, ← hc1] at hc12
      rw [← hc2, ← hc1] at hch
      rw [← hc1] at hcl
      clear hc1 hc2
      go_wp2_with fail
      refine (cell_any rb v st a wr HR.out HC1.out).mono ?_
      rintro e w1 ⟨rfl, v1, R1, F1⟩
      have HR1 := hide R1
      have HF1 := hide F1
      clear R1 F1
      go_wp2_with fail
      refine (cell_any rb v1 (st.emit [a] 0) b w1 HR1.out HC2.out).mono ?_
      rintro e w2 ⟨rfl, v2, R2, F2⟩
      have HR2 := hide R2
      have HF2 := hide F2
      have HLr := hide ((HL2.out.fr HF1.out).fr F2)
      clear R2 F2
      go_wp2_with fail
      refine (esub_nat ls b _ (by omega) (by omega)).mono ?_
      rw [subM_le hcl.1, hcl.2]
      rintro e w' ⟨rfl, rfl⟩
      go_wp2_with fail
      refine (emulI _ _ (65536 * c1) 32768 _ (by omega) rfl (by omega) (by omega)).mono ?_
      rw [red_carry hc12.1]
      rintro e w' ⟨rfl, rfl⟩
      go_wp2_with fail
      refine (carry_any rb c1 _ _ rfl hc12.1).mono ?_
      rintro e w' ⟨rfl, rfl⟩
      have hz2 := HLr.out.lt
      have k0 : w2.cell? ⟨w.heap.size, 0, none⟩ = some (.int .u32 0) := cell_of_cells HLr.out.blk rfl
      have k1 : w2.cell? ⟨w.heap.size, 1, none⟩ = some (.int .u32 0) := cell_of_cells HLr.out.blk rfl
      have j0 := free_of_cells (i := 0) HLr.out.blk
      have j1 := free_of_cells (i := 1) HLr.out.blk
      have HX := hide (show subM (hs + c1) a = 65536 * c2 from by rw [subM_le hch.1, hch.2])
      have HY := hide (red_carry hc12.2)
      have hc2 := hc12.2
      have hbb : hs + c1 < 2147483647 := by omega
      have ha' : a ≤ 2147483647 := by omega
      have hsb : subM (hs + c1) a < 2147483648 := by rw [HX.out]; omega
      clear hcl hch hc12 q1' q2' hab e1 e2 s0
      go_wp2_with fail
      go_quiet ((first | (go_at_call 20; exact quiet_same (eadd_nat hs c1 _ hbb)) | (go_at_call 23; exact quiet_same (esub_nat (hs + c1) a _ hbb ha')) | (go_at_call 24; exact quiet_same (emulI _ _ (subM (hs + c1) a) 32768 _ rfl rfl hsb (by decide))) | (go_at_call 25; exact quiet_same (carry_any rb c2 _ _ (by rw [HX.out, HY.out]) hc2))))
      go_wp2
      have LL := ((HLr.out.alloc (.cells #[.int .u32 (a : Nat), .int .u32 (b : Nat)] 32)).drewN nq)
      have LL' := (LL.set (i := 0) (.int .u32 (a : Nat))).set (i := 1) (.int .u32 (b : Nat))
      have m0 : ((((w2.alloc (.cells #[.int .u32 (a : Nat), .int .u32 (b : Nat)] 32)).drewN nq).setCell ⟨w.heap.size, 0, none⟩ (.int .u32 (a : Nat))).setCell ⟨w.heap.size, 1, none⟩ (.int .u32 (b : Nat))).cell? ⟨w.heap.size, 0, none⟩ = some (.int .u32 (a : Nat)) := cell_of_cells LL'.blk rfl
      have m1 : ((((w2.alloc (.cells #[.int .u32 (a : Nat), .int .u32 (b : Nat)] 32)).drewN nq).setCell ⟨w.heap.size, 0, none⟩ (.int .u32 (a : Nat))).setCell ⟨w.heap.size, 1, none⟩ (.int .u32 (b : Nat))).cell? ⟨w.heap.size, 1, none⟩ = some (.int .u32 (b : Nat)) := cell_of_cells LL'.blk rfl
      have RR := (((HR2.out.alloc (.cells #[.int .u32 (a : Nat), .int .u32 (b : Nat)] 32)).drewN nq).setOther (i := 0) LL.ne LL.own (.int .u32 (a : Nat))).setOther (i := 1) LL.ne LL.own (.int .u32 (b : Nat))
      have FF := ((((HF.out.trans HF1.out).trans HF2.out).alloc (.cells #[.int .u32 (a : Nat), .int .u32 (b : Nat)] 32)).drewN nq)
      have FF' := (FF.setNew (p := ⟨w.heap.size, 0, none⟩) (Nat.le_refl _) (.int .u32 (a : Nat))).setNew (p := ⟨w.heap.size, 1, none⟩) (Nat.le_refl _) (.int .u32 (b : Nat))
      rw [RSt.emit_emit] at RR
      refine bodyPost_ret (v := wordV a b) (by simp [results, Ybaf.results15, go_sem, m0, m1]) rfl ⟨by rw [HRES.out], v2, ?_, FF'⟩
      rw [HEM.out]
      exact RR
end Go.Proofs.YbulkchdaFmt
