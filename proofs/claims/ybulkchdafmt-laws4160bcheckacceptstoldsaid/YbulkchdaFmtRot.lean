/- (*row).xorRotate, walked at its four rotations. -/
import Derived.Test.YbulkchdaFmtAdd
namespace Go.Proofs.YbulkchdaFmt
open Go.RowKit Bits

/-- four cells, the first k of them set -/
abbrev quad (a b c d k : Nat) : Array Value := #[.int .u32 (if 0 < k then a else 0 : Nat), .int .u32 (if 1 < k then b else 0 : Nat), .int .u32 (if 2 < k then c else 0 : Nat), .int .u32 (if 3 < k then d else 0 : Nat)]

theorem RowAt.cast {w : World} {rb : Nat} {v : Value} {st st' : RSt} (h : RowAt w rb v st) (e : st = st') : RowAt w rb v st' := e ▸ h
theorem RSt.emit_nil (st : RSt) : st.emit [] 0 = st := by
  obtain ⟨xs, pos, b, lk⟩ := st
  cases b <;> simp [RSt.emit]
theorem Loc.there {w : World} {rb k i : Nat} {v : Value} {cs : Array Value} {t : TypeId} {u : Value} (h : Loc w rb v k (.cells cs t (0, 0))) (hu : cs[i]? = some u) : w.cell? ⟨k, i, none⟩ = some u ∧ w.frozen? ⟨k, i, none⟩ = false :=
  ⟨cell_of_cells h.blk hu, free_of_cells h.blk⟩
/-- the j-th of the cells to come may come when those before it have -/
theorem can_nth {st : RSt} {em : List Nat} (h : st.can em 0) (j : Nat) {x : Nat} (hx : em[j]? = some x) : (st.emit (em.take j) 0).can [x] 0 := by
  have hj := (List.getElem?_eq_some_iff.1 hx).1
  have e : em = em.take j ++ ([x] ++ em.drop (j + 1)) := by
    have h1 : em.drop j = x :: em.drop (j + 1) := by
      rw [List.drop_eq_getElem_cons hj]
      congr 1
      exact (List.getElem?_eq_some_iff.1 hx).2
    rw [List.singleton_append, ← h1, List.take_append_drop]
  rw [e] at h
  have h2 := RSt.can_right (k1 := 0) (k2 := 0) h
  exact RSt.can_left (k1 := 0) (k2 := 0) h2

set_option maxHeartbeats 4000000 in
set_option maxRecDepth 100000 in
theorem xr16 (rb : Nat) (v : Value) (st : RSt) (x0 x1 x2 x3 h0 h1 h2 h3 l0 l1 l2 l3 : Nat) (w : World) (h : RowAt w rb v st)
    (e0 : x0 = h0 * 256 + l0) (e1 : x1 = h1 * 256 + l1) (e2 : x2 = h2 * 256 + l2) (e3 : x3 = h3 * 256 + l3)
    (bh0 : h0 < 256) (bh1 : h1 < 256) (bh2 : h2 < 256) (bh3 : h3 < 256) (bl0 : l0 < 256) (bl1 : l1 < 256) (bl2 : l2 < 256) (bl3 : l3 < 256)
    (hc : st.can [h0, h1, h2, h3, l0 ^^^ l2, h0 ^^^ h2, l1 ^^^ l3, h1 ^^^ h3] 4) :
    Calls Ybaf.prog 16 #[.pointer (some ⟨rb, 0, none⟩), wordV x0 x1, wordV x2 x3, .int .u64 16] w fun e w' =>
      e = .returned (wordV ((h1 ^^^ h3) * 256 + (l1 ^^^ l3)) ((h0 ^^^ h2) * 256 + (l0 ^^^ l2))) ∧ ∃ v', RowAt w' rb v' (st.emit [h0, h1, h2, h3, l0 ^^^ l2, h0 ^^^ h2, l1 ^^^ l3, h1 ^^^ h3] 4) ∧ Fr rb v v' w w' := by
  have X0 := xor_lt h0 h2 8 bh0 bh2
  have X1 := xor_lt h1 h3 8 bh1 bh3
  have Y0 := xor_lt l0 l2 8 bl0 bl2
  have Y1 := xor_lt l1 l3 8 bl1 bl3
  have a0 : (x0 : Int) / 256 = (h0 : Nat) := by omega
  have a1 : (x1 : Int) / 256 = (h1 : Nat) := by omega
  have a2 : (x2 : Int) / 256 = (h2 : Nat) := by omega
  have a3 : (x3 : Int) / 256 = (h3 : Nat) := by omega
  have hcL := RSt.can_left (e1 := [h0, h1, h2, h3]) (e2 := [l0 ^^^ l2, h0 ^^^ h2, l1 ^^^ l3, h1 ^^^ h3]) (k1 := 0) (k2 := 4) hc
  have HCR := hide (RSt.can_right (e1 := [h0, h1, h2, h3]) (e2 := [l0 ^^^ l2, h0 ^^^ h2, l1 ^^^ l3, h1 ^^^ h3]) (k1 := 0) (k2 := 4) hc)
  have HCL := hide hcL
  have HE := hide (show [h0, h1, h2, h3, l0 ^^^ l2, h0 ^^^ h2, l1 ^^^ l3, h1 ^^^ h3] = [h0, h1, h2, h3] ++ [l0 ^^^ l2] ++ [h0 ^^^ h2] ++ [l1 ^^^ l3] ++ [h1 ^^^ h3] from rfl)
  have i0 : ∀ w, (Instr.index 60 (.agg #[.int .u32 (x0 : Nat), .int .u32 (x1 : Nat), .int .u32 (x2 : Nat), .int .u32 (x3 : Nat)]) (.int .i64 0)).run Ybaf.prog w = .ok (.int .u32 (x0 : Nat)) w := fun _ => by kernel_rfl
  have i1 : ∀ w, (Instr.index 60 (.agg #[.int .u32 (x0 : Nat), .int .u32 (x1 : Nat), .int .u32 (x2 : Nat), .int .u32 (x3 : Nat)]) (.int .i64 1)).run Ybaf.prog w = .ok (.int .u32 (x1 : Nat)) w := fun _ => by kernel_rfl
  have i2 : ∀ w, (Instr.index 60 (.agg #[.int .u32 (x0 : Nat), .int .u32 (x1 : Nat), .int .u32 (x2 : Nat), .int .u32 (x3 : Nat)]) (.int .i64 2)).run Ybaf.prog w = .ok (.int .u32 (x2 : Nat)) w := fun _ => by kernel_rfl
  have i3 : ∀ w, (Instr.index 60 (.agg #[.int .u32 (x0 : Nat), .int .u32 (x1 : Nat), .int .u32 (x2 : Nat), .int .u32 (x3 : Nat)]) (.int .i64 3)).run Ybaf.prog w = .ok (.int .u32 (x3 : Nat)) w := fun _ => by kernel_rfl
  clear hc hcL
  have E0 := hide e0
  have E1 := hide e1
  have E2 := hide e2
  have E3 := hide e3
  clear e0 e1 e2 e3
  obtain ⟨w5, hw5⟩ : ∃ w5, w5 = ((((w.alloc (.cells #[.int .u32 (x0 : Nat), .int .u32 (x1 : Nat)] 32)).alloc (.cells #[.int .u32 (x2 : Nat), .int .u32 (x3 : Nat)] 32)).alloc (.cells #[.int .u32 0, .int .u32 0] 32)).alloc (.cells #[.int .u32 0, .int .u32 0, .int .u32 0, .int .u32 0] 60)).alloc (.cells #[.int .u32 0, .int .u32 0, .int .u32 0, .int .u32 0] 60) := ⟨_, rfl⟩
  have HW5 := hide hw5
  have R5 : RowAt w5 rb v st := by rw [hw5]; exact ((((h.alloc _).alloc _).alloc _).alloc _).alloc _
  have F5 : Fr rb v v w w5 := by rw [hw5]; exact (((((Fr.refl _ _ _).alloc _).alloc _).alloc _).alloc _).alloc _
  have LR : Loc w5 rb v (w.heap.size + 1 + 1) (wordO 0 0) := by
    rw [hw5]
    have := Loc.new ((h.alloc (.cells #[.int .u32 (x0 : Nat), .int .u32 (x1 : Nat)] 32)).alloc (.cells #[.int .u32 (x2 : Nat), .int .u32 (x3 : Nat)] 32)) (wordO 0 0)
    rw [World.size_alloc, World.size_alloc] at this
    exact (this.alloc _).alloc _
  have LH : Loc w5 rb v (w.heap.size + 1 + 1 + 1) (.cells (quad h0 h1 h2 h3 0) 60 (0, 0)) := by
    rw [hw5]
    have := Loc.new (((h.alloc (.cells #[.int .u32 (x0 : Nat), .int .u32 (x1 : Nat)] 32)).alloc (.cells #[.int .u32 (x2 : Nat), .int .u32 (x3 : Nat)] 32)).alloc (wordO 0 0)) (.cells #[.int .u32 0, .int .u32 0, .int .u32 0, .int .u32 0] 60)
    rw [World.size_alloc, World.size_alloc, World.size_alloc] at this
    exact this.alloc _
  have LL : Loc w5 rb v (w.heap.size + 1 + 1 + 1 + 1) (.cells (quad l0 l1 l2 l3 0) 60 (0, 0)) := by
    rw [hw5]
    have := Loc.new ((((h.alloc (.cells #[.int .u32 (x0 : Nat), .int .u32 (x1 : Nat)] 32)).alloc (.cells #[.int .u32 (x2 : Nat), .int .u32 (x3 : Nat)] 32)).alloc (wordO 0 0)).alloc (.cells #[.int .u32 0, .int .u32 0, .int .u32 0, .int .u32 0] 60)) (.cells #[.int .u32 0, .int .u32 0, .int .u32 0, .int .u32 0] 60)
    rw [World.size_alloc, World.size_alloc, World.size_alloc, World.size_alloc] at this
    exact this
  clear hw5 h
  go_enter Ybaf.func16, Ybaf.ntmps16
  go_wp2_with fail
  rw [← HW5.out]
  clear HW5
  go_loopw [30] (fun iv wr => ∃ (k : Nat) (v' : Value), k ≤ 4 ∧ iv = .int .i64 k ∧ RowAt wr rb v' (st.emit ([h0, h1, h2, h3].take k) 0) ∧ Fr rb v v' w wr ∧ Loc wr rb v' (w.heap.size + 1 + 1) (wordO 0 0) ∧
      Loc wr rb v' (w.heap.size + 1 + 1 + 1) (.cells (quad h0 h1 h2 h3 k) 60 (0, 0)) ∧ Loc wr rb v' (w.heap.size + 1 + 1 + 1 + 1) (.cells (quad l0 l1 l2 l3 k) 60 (0, 0))) (fun iv _ => 4 - (intOf iv).toNat)
  case atStart => exact ⟨0, v, by omega, rfl, R5.cast (RSt.emit_nil st).symm, F5, LR, LH, LL⟩
  case round =>
    obtain ⟨k, v', hk, rfl, R, F, L1, L2, L3⟩ := hrel
    have HF := hide F
    have HL1 := hide L1
    have HL2 := hide L2
    have HL3 := hide L3
    have HR := hide R
    clear R5 F5 LR LH LL R F L1 L2 L3
    rcases (show k = 0 ∨ k = 1 ∨ k = 2 ∨ k = 3 ∨ k = 4 from by omega) with hk' | hk' | hk' | hk' | hk'
    · subst hk'
      have hcj : (st.emit ([h0, h1, h2, h3].take 0) 0).can [h0] 0 := can_nth HCL.out 0 (by rfl)
      have HCJ := hide hcj
      clear hcj
      go_wp2_with fail
      refine (cell_any rb v' _ h0 wr HR.out HCJ.out).mono ?_
      rintro e w1 ⟨rfl, v1, R1, F1⟩
      have HR1 := hide R1
      have HF1 := hide F1
      have M1 := HL1.out.fr F1
      have M2 := HL2.out.fr F1
      have M3 := HL3.out.fr F1
      have k2 := M2.there (i := 0) rfl
      have k3 := M3.there (i := 0) rfl
      have HM1 := hide M1
      have HM2 := hide M2
      have HM3 := hide M3
      clear R1 F1 M1 M2 M3
      obtain ⟨kc2, kf2⟩ := k2
      obtain ⟨kc3, kf3⟩ := k3
      go_wp2_with fail
      refine (emulI _ _ h0 256 _ rfl rfl (by omega) (by omega)).mono ?_
      rw [red_small (by omega)]
      rintro e w' ⟨rfl, rfl⟩
      go_wp2_with fail
      refine (esubI _ _ x0 (h0 * 256) _ rfl (by omega) (by have := E0.out; omega) (by omega)).mono ?_
      rw [subM_le (by have := E0.out; omega), show x0 - h0 * 256 = l0 from by have := E0.out; omega]
      rintro e w' ⟨rfl, rfl⟩
      go_wp2_with fail
      go_roundw
      case rel =>
        refine ⟨1, v1, by omega, rfl, ?_, ?_, ?_, ?_, ?_⟩
        · exact ((HR1.out.setOther HM2.out.ne HM2.out.own _).setOther HM3.out.ne HM3.out.own _).cast (by rw [RSt.emit_emit]; rfl)
        · exact ((HF.out.trans HF1.out).setNew (p := ⟨w.heap.size + 1 + 1 + 1, 0, none⟩) (by simp only; omega) _).setNew (p := ⟨w.heap.size + 1 + 1 + 1 + 1, 0, none⟩) (by simp only; omega) _
        · exact (HM1.out.setOther (by omega) _).setOther (by omega) _
        · exact (HM2.out.set _).setOther (by omega) _
        · exact (HM3.out.setOther (by omega) _).set _
      case measure => simp [intOf]
    · subst hk'
      have hcj : (st.emit ([h0, h1, h2, h3].take 1) 0).can [h1] 0 := can_nth HCL.out 1 (by rfl)
      have HCJ := hide hcj
      clear hcj
      go_wp2_with fail
      refine (cell_any rb v' _ h1 wr HR.out HCJ.out).mono ?_
      rintro e w1 ⟨rfl, v1, R1, F1⟩
      have HR1 := hide R1
      have HF1 := hide F1
      have M1 := HL1.out.fr F1
      have M2 := HL2.out.fr F1
      have M3 := HL3.out.fr F1
      have k2 := M2.there (i := 1) rfl
      have k3 := M3.there (i := 1) rfl
      have HM1 := hide M1
      have HM2 := hide M2
      have HM3 := hide M3
      clear R1 F1 M1 M2 M3
      obtain ⟨kc2, kf2⟩ := k2
      obtain ⟨kc3, kf3⟩ := k3
      go_wp2_with fail
      refine (emulI _ _ h1 256 _ rfl rfl (by omega) (by omega)).mono ?_
      rw [red_small (by omega)]
      rintro e w' ⟨rfl, rfl⟩
      go_wp2_with fail
      refine (esubI _ _ x1 (h1 * 256) _ rfl (by omega) (by have := E1.out; omega) (by omega)).mono ?_
      rw [subM_le (by have := E1.out; omega), show x1 - h1 * 256 = l1 from by have := E1.out; omega]
      rintro e w' ⟨rfl, rfl⟩
      go_wp2_with fail
      go_roundw
      case rel =>
        refine ⟨2, v1, by omega, rfl, ?_, ?_, ?_, ?_, ?_⟩
        · exact ((HR1.out.setOther HM2.out.ne HM2.out.own _).setOther HM3.out.ne HM3.out.own _).cast (by rw [RSt.emit_emit]; rfl)
        · exact ((HF.out.trans HF1.out).setNew (p := ⟨w.heap.size + 1 + 1 + 1, 1, none⟩) (by simp only; omega) _).setNew (p := ⟨w.heap.size + 1 + 1 + 1 + 1, 1, none⟩) (by simp only; omega) _
        · exact (HM1.out.setOther (by omega) _).setOther (by omega) _
        · exact (HM2.out.set _).setOther (by omega) _
        · exact (HM3.out.setOther (by omega) _).set _
      case measure => simp [intOf]
    · subst hk'
      have hcj : (st.emit ([h0, h1, h2, h3].take 2) 0).can [h2] 0 := can_nth HCL.out 2 (by rfl)
      have HCJ := hide hcj
      clear hcj
      go_wp2_with fail
      refine (cell_any rb v' _ h2 wr HR.out HCJ.out).mono ?_
      rintro e w1 ⟨rfl, v1, R1, F1⟩
      have HR1 := hide R1
      have HF1 := hide F1
      have M1 := HL1.out.fr F1
      have M2 := HL2.out.fr F1
      have M3 := HL3.out.fr F1
      have k2 := M2.there (i := 2) rfl
      have k3 := M3.there (i := 2) rfl
      have HM1 := hide M1
      have HM2 := hide M2
      have HM3 := hide M3
      clear R1 F1 M1 M2 M3
      obtain ⟨kc2, kf2⟩ := k2
      obtain ⟨kc3, kf3⟩ := k3
      go_wp2_with fail
      refine (emulI _ _ h2 256 _ rfl rfl (by omega) (by omega)).mono ?_
      rw [red_small (by omega)]
      rintro e w' ⟨rfl, rfl⟩
      go_wp2_with fail
      refine (esubI _ _ x2 (h2 * 256) _ rfl (by omega) (by have := E2.out; omega) (by omega)).mono ?_
      rw [subM_le (by have := E2.out; omega), show x2 - h2 * 256 = l2 from by have := E2.out; omega]
      rintro e w' ⟨rfl, rfl⟩
      go_wp2_with fail
      go_roundw
      case rel =>
        refine ⟨3, v1, by omega, rfl, ?_, ?_, ?_, ?_, ?_⟩
        · exact ((HR1.out.setOther HM2.out.ne HM2.out.own _).setOther HM3.out.ne HM3.out.own _).cast (by rw [RSt.emit_emit]; rfl)
        · exact ((HF.out.trans HF1.out).setNew (p := ⟨w.heap.size + 1 + 1 + 1, 2, none⟩) (by simp only; omega) _).setNew (p := ⟨w.heap.size + 1 + 1 + 1 + 1, 2, none⟩) (by simp only; omega) _
        · exact (HM1.out.setOther (by omega) _).setOther (by omega) _
        · exact (HM2.out.set _).setOther (by omega) _
        · exact (HM3.out.setOther (by omega) _).set _
      case measure => simp [intOf]
    · subst hk'
      have hcj : (st.emit ([h0, h1, h2, h3].take 3) 0).can [h3] 0 := can_nth HCL.out 3 (by rfl)
      have HCJ := hide hcj
      clear hcj
      go_wp2_with fail
      refine (cell_any rb v' _ h3 wr HR.out HCJ.out).mono ?_
      rintro e w1 ⟨rfl, v1, R1, F1⟩
      have HR1 := hide R1
      have HF1 := hide F1
      have M1 := HL1.out.fr F1
      have M2 := HL2.out.fr F1
      have M3 := HL3.out.fr F1
      have k2 := M2.there (i := 3) rfl
      have k3 := M3.there (i := 3) rfl
      have HM1 := hide M1
      have HM2 := hide M2
      have HM3 := hide M3
      clear R1 F1 M1 M2 M3
      obtain ⟨kc2, kf2⟩ := k2
      obtain ⟨kc3, kf3⟩ := k3
      go_wp2_with fail
      refine (emulI _ _ h3 256 _ rfl rfl (by omega) (by omega)).mono ?_
      rw [red_small (by omega)]
      rintro e w' ⟨rfl, rfl⟩
      go_wp2_with fail
      refine (esubI _ _ x3 (h3 * 256) _ rfl (by omega) (by have := E3.out; omega) (by omega)).mono ?_
      rw [subM_le (by have := E3.out; omega), show x3 - h3 * 256 = l3 from by have := E3.out; omega]
      rintro e w' ⟨rfl, rfl⟩
      go_wp2_with fail
      go_roundw
      case rel =>
        refine ⟨4, v1, by omega, rfl, ?_, ?_, ?_, ?_, ?_⟩
        · exact ((HR1.out.setOther HM2.out.ne HM2.out.own _).setOther HM3.out.ne HM3.out.own _).cast (by rw [RSt.emit_emit]; rfl)
        · exact ((HF.out.trans HF1.out).setNew (p := ⟨w.heap.size + 1 + 1 + 1, 3, none⟩) (by simp only; omega) _).setNew (p := ⟨w.heap.size + 1 + 1 + 1 + 1, 3, none⟩) (by simp only; omega) _
        · exact (HM1.out.setOther (by omega) _).setOther (by omega) _
        · exact (HM2.out.set _).setOther (by omega) _
        · exact (HM3.out.setOther (by omega) _).set _
      case measure => simp [intOf]
    · subst hk'
      obtain ⟨kh0, fh0⟩ := HL2.out.there (i := 0) rfl
      obtain ⟨kl0, fl0⟩ := HL3.out.there (i := 0) rfl
      obtain ⟨kh1, fh1⟩ := HL2.out.there (i := 1) rfl
      obtain ⟨kl1, fl1⟩ := HL3.out.there (i := 1) rfl
      obtain ⟨kh2, fh2⟩ := HL2.out.there (i := 2) rfl
      obtain ⟨kl2, fl2⟩ := HL3.out.there (i := 2) rfl
      obtain ⟨kh3, fh3⟩ := HL2.out.there (i := 3) rfl
      obtain ⟨kl3, fl3⟩ := HL3.out.there (i := 3) rfl
      simp only [quad, show (0:Nat) < 4 by decide, show (1:Nat) < 4 by decide, show (2:Nat) < 4 by decide, show (3:Nat) < 4 by decide, if_true] at kh0 kh1 kh2 kh3 kl0 kl1 kl2 kl3
      have HC1 := hide (RSt.can_left (e1 := [l0 ^^^ l2]) (e2 := [h0 ^^^ h2] ++ [l1 ^^^ l3] ++ [h1 ^^^ h3]) (k1 := 1) (k2 := 3) HCR.out)
      have HD1 := hide (RSt.can_right (e1 := [l0 ^^^ l2]) (e2 := [h0 ^^^ h2] ++ ([l1 ^^^ l3] ++ [h1 ^^^ h3])) (k1 := 1) (k2 := 3) HCR.out)
      have HC2 := hide (RSt.can_left (e1 := [h0 ^^^ h2]) (e2 := [l1 ^^^ l3] ++ [h1 ^^^ h3]) (k1 := 1) (k2 := 2) HD1.out)
      have HD2 := hide (RSt.can_right (e1 := [h0 ^^^ h2]) (e2 := [l1 ^^^ l3] ++ [h1 ^^^ h3]) (k1 := 1) (k2 := 2) HD1.out)
      have HC3 := hide (RSt.can_left (e1 := [l1 ^^^ l3]) (e2 := [h1 ^^^ h3]) (k1 := 1) (k2 := 1) HD2.out)
      have HC4 := hide (RSt.can_right (e1 := [l1 ^^^ l3]) (e2 := [h1 ^^^ h3]) (k1 := 1) (k2 := 1) HD2.out)
      clear E0 E1 E2 E3 a0 a1 a2 a3 i0 i1 i2 i3 HCL HCR HD1 HD2
      go_wp2_with fail
      refine (xor_any rb v' _ l0 l2 8 _ _ _ _ HR.out rfl rfl rfl (by decide) (show l0 < 256 by omega) (show l2 < 256 by omega) HC1.out).mono ?_
      rintro e w1 ⟨rfl, v1, R1, F1⟩
      have HR1 := hide R1
      have HF1 := hide F1
      have HL11 := hide (HL1.out.fr F1)
      have HL21 := hide (HL2.out.fr F1)
      have HL31 := hide (HL3.out.fr F1)
      clear R1 F1
      clear kh0 kh1 kh2 kh3 kl0 kl1 kl2 kl3 fh0 fh1 fh2 fh3 fl0 fl1 fl2 fl3
      obtain ⟨kh0, fh0⟩ := HL21.out.there (i := 0) rfl
      obtain ⟨kl0, fl0⟩ := HL31.out.there (i := 0) rfl
      obtain ⟨kh1, fh1⟩ := HL21.out.there (i := 1) rfl
      obtain ⟨kl1, fl1⟩ := HL31.out.there (i := 1) rfl
      obtain ⟨kh2, fh2⟩ := HL21.out.there (i := 2) rfl
      obtain ⟨kl2, fl2⟩ := HL31.out.there (i := 2) rfl
      obtain ⟨kh3, fh3⟩ := HL21.out.there (i := 3) rfl
      obtain ⟨kl3, fl3⟩ := HL31.out.there (i := 3) rfl
      simp only [quad, show (0:Nat) < 4 by decide, show (1:Nat) < 4 by decide, show (2:Nat) < 4 by decide, show (3:Nat) < 4 by decide, if_true] at kh0 kh1 kh2 kh3 kl0 kl1 kl2 kl3
      go_wp2_with fail
      refine (xor_any rb v1 _ h0 h2 8 _ _ _ _ HR1.out rfl rfl rfl (by decide) (show h0 < 256 by omega) (show h2 < 256 by omega) HC2.out).mono ?_
      rintro e w2 ⟨rfl, v2, R2, F2⟩
      have HR2 := hide R2
      have HF2 := hide F2
      have HL12 := hide (HL11.out.fr F2)
      have HL22 := hide (HL21.out.fr F2)
      have HL32 := hide (HL31.out.fr F2)
      clear R2 F2
      clear kh0 kh1 kh2 kh3 kl0 kl1 kl2 kl3 fh0 fh1 fh2 fh3 fl0 fl1 fl2 fl3
      obtain ⟨kh0, fh0⟩ := HL22.out.there (i := 0) rfl
      obtain ⟨kl0, fl0⟩ := HL32.out.there (i := 0) rfl
      obtain ⟨kh1, fh1⟩ := HL22.out.there (i := 1) rfl
      obtain ⟨kl1, fl1⟩ := HL32.out.there (i := 1) rfl
      obtain ⟨kh2, fh2⟩ := HL22.out.there (i := 2) rfl
      obtain ⟨kl2, fl2⟩ := HL32.out.there (i := 2) rfl
      obtain ⟨kh3, fh3⟩ := HL22.out.there (i := 3) rfl
      obtain ⟨kl3, fl3⟩ := HL32.out.there (i := 3) rfl
      simp only [quad, show (0:Nat) < 4 by decide, show (1:Nat) < 4 by decide, show (2:Nat) < 4 by decide, show (3:Nat) < 4 by decide, if_true] at kh0 kh1 kh2 kh3 kl0 kl1 kl2 kl3
      go_wp2_with fail
      refine (xor_any rb v2 _ l1 l3 8 _ _ _ _ HR2.out rfl rfl rfl (by decide) (show l1 < 256 by omega) (show l3 < 256 by omega) HC3.out).mono ?_
      rintro e w3 ⟨rfl, v3, R3, F3⟩
      have HR3 := hide R3
      have HF3 := hide F3
      have HL13 := hide (HL12.out.fr F3)
      have HL23 := hide (HL22.out.fr F3)
      have HL33 := hide (HL32.out.fr F3)
      clear R3 F3
      clear kh0 kh1 kh2 kh3 kl0 kl1 kl2 kl3 fh0 fh1 fh2 fh3 fl0 fl1 fl2 fl3
      obtain ⟨kh0, fh0⟩ := HL23.out.there (i := 0) rfl
      obtain ⟨kl0, fl0⟩ := HL33.out.there (i := 0) rfl
      obtain ⟨kh1, fh1⟩ := HL23.out.there (i := 1) rfl
      obtain ⟨kl1, fl1⟩ := HL33.out.there (i := 1) rfl
      obtain ⟨kh2, fh2⟩ := HL23.out.there (i := 2) rfl
      obtain ⟨kl2, fl2⟩ := HL33.out.there (i := 2) rfl
      obtain ⟨kh3, fh3⟩ := HL23.out.there (i := 3) rfl
      obtain ⟨kl3, fl3⟩ := HL33.out.there (i := 3) rfl
      simp only [quad, show (0:Nat) < 4 by decide, show (1:Nat) < 4 by decide, show (2:Nat) < 4 by decide, show (3:Nat) < 4 by decide, if_true] at kh0 kh1 kh2 kh3 kl0 kl1 kl2 kl3
      go_wp2_with fail
      refine (xor_any rb v3 _ h1 h3 8 _ _ _ _ HR3.out rfl rfl rfl (by decide) (show h1 < 256 by omega) (show h3 < 256 by omega) HC4.out).mono ?_
      rintro e w4 ⟨rfl, v4, R4, F4⟩
      have HR4 := hide R4
      have HF4 := hide F4
      have HL14 := hide (HL13.out.fr F4)
      have HL24 := hide (HL23.out.fr F4)
      have HL34 := hide (HL33.out.fr F4)
      clear R4 F4
      simp only [Nat.reducePow] at X0 X1 Y0 Y1
      have k0 : w4.cell? ⟨w.heap.size + 1 + 1, 0, none⟩ = some (.int .u32 0) := cell_of_cells HL14.out.blk rfl
      have k1 : w4.cell? ⟨w.heap.size + 1 + 1, 1, none⟩ = some (.int .u32 0) := cell_of_cells HL14.out.blk rfl
      have j0 := free_of_cells (i := 0) HL14.out.blk
      have j1 := free_of_cells (i := 1) HL14.out.blk
      clear bh0 bh1 bh2 bh3 bl0 bl1 bl2 bl3 kh0 kh1 kh2 kh3 kl0 kl1 kl2 kl3 fh0 fh1 fh2 fh3 fl0 fl1 fl2 fl3
      obtain ⟨A, hA⟩ : ∃ A, A = h1 ^^^ h3 := ⟨_, rfl⟩
      obtain ⟨B, hB⟩ : ∃ B, B = l1 ^^^ l3 := ⟨_, rfl⟩
      obtain ⟨C, hC⟩ : ∃ C, C = h0 ^^^ h2 := ⟨_, rfl⟩
      obtain ⟨D, hD⟩ : ∃ D, D = l0 ^^^ l2 := ⟨_, rfl⟩
      have hAb : A < 256 := by omega
      have hBb : B < 256 := by omega
      have hCb : C < 256 := by omega
      have hDb : D < 256 := by omega
      simp only [← hA, ← hB, ← hC, ← hD]
      have HA := hide hA
      have HB := hide hB
      have HCC := hide hC
      have HD := hide hD
      clear X0 X1 Y0 Y1 hA hB hC hD
      go_wp2_with fail
      refine (emulI _ _ A 256 _ rfl rfl (by omega) (by omega)).mono ?_
      rw [red_small (by omega)]
      rintro e w' ⟨rfl, rfl⟩
      go_wp2_with fail
      refine (eaddI _ _ (A * 256) B _ rfl rfl (by omega)).mono ?_
      rintro e w' ⟨rfl, rfl⟩
      go_wp2_with fail
      refine (emulI _ _ C 256 _ rfl rfl (by omega) (by omega)).mono ?_
      rw [red_small (by omega)]
      rintro e w' ⟨rfl, rfl⟩
      go_wp2_with fail
      refine (eaddI _ _ (C * 256) D _ rfl rfl (by omega)).mono ?_
      rintro e w' ⟨rfl, rfl⟩
      go_wp2
      have LL' := (HL14.out.set (i := 0) (.int .u32 ((A : Int) * 256 + (B : Int)))).set (i := 1) (.int .u32 ((C : Int) * 256 + (D : Int)))
      have m0 : ((w4.setCell ⟨w.heap.size + 1 + 1, 0, none⟩ (.int .u32 ((A : Int) * 256 + (B : Int)))).setCell ⟨w.heap.size + 1 + 1, 1, none⟩ (.int .u32 ((C : Int) * 256 + (D : Int)))).cell? ⟨w.heap.size + 1 + 1, 0, none⟩ = some (.int .u32 ((A : Int) * 256 + (B : Int))) := cell_of_cells LL'.blk rfl
      have m1 : ((w4.setCell ⟨w.heap.size + 1 + 1, 0, none⟩ (.int .u32 ((A : Int) * 256 + (B : Int)))).setCell ⟨w.heap.size + 1 + 1, 1, none⟩ (.int .u32 ((C : Int) * 256 + (D : Int)))).cell? ⟨w.heap.size + 1 + 1, 1, none⟩ = some (.int .u32 ((C : Int) * 256 + (D : Int))) := cell_of_cells LL'.blk rfl
      have RR := (HR4.out.setOther (i := 0) HL14.out.ne HL14.out.own (.int .u32 ((A : Int) * 256 + (B : Int)))).setOther (i := 1) HL14.out.ne HL14.out.own (.int .u32 ((C : Int) * 256 + (D : Int)))
      have FF := (((HF.out.trans HF1.out).trans HF2.out).trans HF3.out).trans HF4.out
      have FF' := (FF.setNew (p := ⟨w.heap.size + 1 + 1, 0, none⟩) (by simp only; omega) (.int .u32 ((A : Int) * 256 + (B : Int)))).setNew (p := ⟨w.heap.size + 1 + 1, 1, none⟩) (by simp only; omega) (.int .u32 ((C : Int) * 256 + (D : Int)))
      rw [RSt.emit_emit, RSt.emit_emit, RSt.emit_emit, RSt.emit_emit] at RR
      refine bodyPost_ret (v := .agg #[.int .u32 ((A : Int) * 256 + (B : Int)), .int .u32 ((C : Int) * 256 + (D : Int))]) (by simp [results, Ybaf.results16, go_sem, m0, m1]) rfl ⟨?_, v4, RR.cast rfl, FF'⟩
      rw [← HA.out, ← HB.out, ← HCC.out, ← HD.out]
      simp [wordV]

set_option maxHeartbeats 4000000 in
set_option maxRecDepth 100000 in
theorem xr12 (rb : Nat) (v : Value) (st : RSt) (x0 x1 x2 x3 h0 h1 h2 h3 l0 l1 l2 l3 : Nat) (w : World) (h : RowAt w rb v st)
    (e0 : x0 = h0 * 4096 + l0) (e1 : x1 = h1 * 4096 + l1) (e2 : x2 = h2 * 4096 + l2) (e3 : x3 = h3 * 4096 + l3)
    (bh0 : h0 < 16) (bh1 : h1 < 16) (bh2 : h2 < 16) (bh3 : h3 < 16) (bl0 : l0 < 4096) (bl1 : l1 < 4096) (bl2 : l2 < 4096) (bl3 : l3 < 4096)
    (hc : st.can [h0, h1, h2, h3, l0 ^^^ l2, h0 ^^^ h2, l1 ^^^ l3, h1 ^^^ h3] 4) :
    Calls Ybaf.prog 16 #[.pointer (some ⟨rb, 0, none⟩), wordV x0 x1, wordV x2 x3, .int .u64 12] w fun e w' =>
      e = .returned (wordV ((l1 ^^^ l3) * 16 + (h0 ^^^ h2)) ((l0 ^^^ l2) * 16 + (h1 ^^^ h3))) ∧ ∃ v', RowAt w' rb v' (st.emit [h0, h1, h2, h3, l0 ^^^ l2, h0 ^^^ h2, l1 ^^^ l3, h1 ^^^ h3] 4) ∧ Fr rb v v' w w' := by
  have X0 := xor_lt h0 h2 4 bh0 bh2
  have X1 := xor_lt h1 h3 4 bh1 bh3
  have Y0 := xor_lt l0 l2 12 bl0 bl2
  have Y1 := xor_lt l1 l3 12 bl1 bl3
  have a0 : (x0 : Int) / 4096 = (h0 : Nat) := by omega
  have a1 : (x1 : Int) / 4096 = (h1 : Nat) := by omega
  have a2 : (x2 : Int) / 4096 = (h2 : Nat) := by omega
  have a3 : (x3 : Int) / 4096 = (h3 : Nat) := by omega
  have hcL := RSt.can_left (e1 := [h0, h1, h2, h3]) (e2 := [l0 ^^^ l2, h0 ^^^ h2, l1 ^^^ l3, h1 ^^^ h3]) (k1 := 0) (k2 := 4) hc
  have HCR := hide (RSt.can_right (e1 := [h0, h1, h2, h3]) (e2 := [l0 ^^^ l2, h0 ^^^ h2, l1 ^^^ l3, h1 ^^^ h3]) (k1 := 0) (k2 := 4) hc)
  have HCL := hide hcL
  have HE := hide (show [h0, h1, h2, h3, l0 ^^^ l2, h0 ^^^ h2, l1 ^^^ l3, h1 ^^^ h3] = [h0, h1, h2, h3] ++ [l0 ^^^ l2] ++ [h0 ^^^ h2] ++ [l1 ^^^ l3] ++ [h1 ^^^ h3] from rfl)
  have i0 : ∀ w, (Instr.index 60 (.agg #[.int .u32 (x0 : Nat), .int .u32 (x1 : Nat), .int .u32 (x2 : Nat), .int .u32 (x3 : Nat)]) (.int .i64 0)).run Ybaf.prog w = .ok (.int .u32 (x0 : Nat)) w := fun _ => by kernel_rfl
  have i1 : ∀ w, (Instr.index 60 (.agg #[.int .u32 (x0 : Nat), .int .u32 (x1 : Nat), .int .u32 (x2 : Nat), .int .u32 (x3 : Nat)]) (.int .i64 1)).run Ybaf.prog w = .ok (.int .u32 (x1 : Nat)) w := fun _ => by kernel_rfl
  have i2 : ∀ w, (Instr.index 60 (.agg #[.int .u32 (x0 : Nat), .int .u32 (x1 : Nat), .int .u32 (x2 : Nat), .int .u32 (x3 : Nat)]) (.int .i64 2)).run Ybaf.prog w = .ok (.int .u32 (x2 : Nat)) w := fun _ => by kernel_rfl
  have i3 : ∀ w, (Instr.index 60 (.agg #[.int .u32 (x0 : Nat), .int .u32 (x1 : Nat), .int .u32 (x2 : Nat), .int .u32 (x3 : Nat)]) (.int .i64 3)).run Ybaf.prog w = .ok (.int .u32 (x3 : Nat)) w := fun _ => by kernel_rfl
  clear hc hcL
  have E0 := hide e0
  have E1 := hide e1
  have E2 := hide e2
  have E3 := hide e3
  clear e0 e1 e2 e3
  obtain ⟨w5, hw5⟩ : ∃ w5, w5 = ((((w.alloc (.cells #[.int .u32 (x0 : Nat), .int .u32 (x1 : Nat)] 32)).alloc (.cells #[.int .u32 (x2 : Nat), .int .u32 (x3 : Nat)] 32)).alloc (.cells #[.int .u32 0, .int .u32 0] 32)).alloc (.cells #[.int .u32 0, .int .u32 0, .int .u32 0, .int .u32 0] 60)).alloc (.cells #[.int .u32 0, .int .u32 0, .int .u32 0, .int .u32 0] 60) := ⟨_, rfl⟩
  have HW5 := hide hw5
  have R5 : RowAt w5 rb v st := by rw [hw5]; exact ((((h.alloc _).alloc _).alloc _).alloc _).alloc _
  have F5 : Fr rb v v w w5 := by rw [hw5]; exact (((((Fr.refl _ _ _).alloc _).alloc _).alloc _).alloc _).alloc _
  have LR : Loc w5 rb v (w.heap.size + 1 + 1) (wordO 0 0) := by
    rw [hw5]
    have := Loc.new ((h.alloc (.cells #[.int .u32 (x0 : Nat), .int .u32 (x1 : Nat)] 32)).alloc (.cells #[.int .u32 (x2 : Nat), .int .u32 (x3 : Nat)] 32)) (wordO 0 0)
    rw [World.size_alloc, World.size_alloc] at this
    exact (this.alloc _).alloc _
  have LH : Loc w5 rb v (w.heap.size + 1 + 1 + 1) (.cells (quad h0 h1 h2 h3 0) 60 (0, 0)) := by
    rw [hw5]
    have := Loc.new (((h.alloc (.cells #[.int .u32 (x0 : Nat), .int .u32 (x1 : Nat)] 32)).alloc (.cells #[.int .u32 (x2 : Nat), .int .u32 (x3 : Nat)] 32)).alloc (wordO 0 0)) (.cells #[.int .u32 0, .int .u32 0, .int .u32 0, .int .u32 0] 60)
    rw [World.size_alloc, World.size_alloc, World.size_alloc] at this
    exact this.alloc _
  have LL : Loc w5 rb v (w.heap.size + 1 + 1 + 1 + 1) (.cells (quad l0 l1 l2 l3 0) 60 (0, 0)) := by
    rw [hw5]
    have := Loc.new ((((h.alloc (.cells #[.int .u32 (x0 : Nat), .int .u32 (x1 : Nat)] 32)).alloc (.cells #[.int .u32 (x2 : Nat), .int .u32 (x3 : Nat)] 32)).alloc (wordO 0 0)).alloc (.cells #[.int .u32 0, .int .u32 0, .int .u32 0, .int .u32 0] 60)) (.cells #[.int .u32 0, .int .u32 0, .int .u32 0, .int .u32 0] 60)
    rw [World.size_alloc, World.size_alloc, World.size_alloc, World.size_alloc] at this
    exact this
  clear hw5 h
  go_enter Ybaf.func16, Ybaf.ntmps16
  go_wp2_with fail
  rw [← HW5.out]
  clear HW5
  go_loopw [30] (fun iv wr => ∃ (k : Nat) (v' : Value), k ≤ 4 ∧ iv = .int .i64 k ∧ RowAt wr rb v' (st.emit ([h0, h1, h2, h3].take k) 0) ∧ Fr rb v v' w wr ∧ Loc wr rb v' (w.heap.size + 1 + 1) (wordO 0 0) ∧
      Loc wr rb v' (w.heap.size + 1 + 1 + 1) (.cells (quad h0 h1 h2 h3 k) 60 (0, 0)) ∧ Loc wr rb v' (w.heap.size + 1 + 1 + 1 + 1) (.cells (quad l0 l1 l2 l3 k) 60 (0, 0))) (fun iv _ => 4 - (intOf iv).toNat)
  case atStart => exact ⟨0, v, by omega, rfl, R5.cast (RSt.emit_nil st).symm, F5, LR, LH, LL⟩
  case round =>
    obtain ⟨k, v', hk, rfl, R, F, L1, L2, L3⟩ := hrel
    have HF := hide F
    have HL1 := hide L1
    have HL2 := hide L2
    have HL3 := hide L3
    have HR := hide R
    clear R5 F5 LR LH LL R F L1 L2 L3
    rcases (show k = 0 ∨ k = 1 ∨ k = 2 ∨ k = 3 ∨ k = 4 from by omega) with hk' | hk' | hk' | hk' | hk'
    · subst hk'
      have hcj : (st.emit ([h0, h1, h2, h3].take 0) 0).can [h0] 0 := can_nth HCL.out 0 (by rfl)
      have HCJ := hide hcj
      clear hcj
      go_wp2_with fail
      refine (cell_any rb v' _ h0 wr HR.out HCJ.out).mono ?_
      rintro e w1 ⟨rfl, v1, R1, F1⟩
      have HR1 := hide R1
      have HF1 := hide F1
      have M1 := HL1.out.fr F1
      have M2 := HL2.out.fr F1
      have M3 := HL3.out.fr F1
      have k2 := M2.there (i := 0) rfl
      have k3 := M3.there (i := 0) rfl
      have HM1 := hide M1
      have HM2 := hide M2
      have HM3 := hide M3
      clear R1 F1 M1 M2 M3
      obtain ⟨kc2, kf2⟩ := k2
      obtain ⟨kc3, kf3⟩ := k3
      go_wp2_with fail
      refine (emulI _ _ h0 4096 _ rfl rfl (by omega) (by omega)).mono ?_
      rw [red_small (by omega)]
      rintro e w' ⟨rfl, rfl⟩
      go_wp2_with fail
      refine (esubI _ _ x0 (h0 * 4096) _ rfl (by omega) (by have := E0.out; omega) (by omega)).mono ?_
      rw [subM_le (by have := E0.out; omega), show x0 - h0 * 4096 = l0 from by have := E0.out; omega]
      rintro e w' ⟨rfl, rfl⟩
      go_wp2_with fail
      go_roundw
      case rel =>
        refine ⟨1, v1, by omega, rfl, ?_, ?_, ?_, ?_, ?_⟩
        · exact ((HR1.out.setOther HM2.out.ne HM2.out.own _).setOther HM3.out.ne HM3.out.own _).cast (by rw [RSt.emit_emit]; rfl)
        · exact ((HF.out.trans HF1.out).setNew (p := ⟨w.heap.size + 1 + 1 + 1, 0, none⟩) (by simp only; omega) _).setNew (p := ⟨w.heap.size + 1 + 1 + 1 + 1, 0, none⟩) (by simp only; omega) _
        · exact (HM1.out.setOther (by omega) _).setOther (by omega) _
        · exact (HM2.out.set _).setOther (by omega) _
        · exact (HM3.out.setOther (by omega) _).set _
      case measure => simp [intOf]
    · subst hk'
      have hcj : (st.emit ([h0, h1, h2, h3].take 1) 0).can [h1] 0 := can_nth HCL.out 1 (by rfl)
      have HCJ := hide hcj
      clear hcj
      go_wp2_with fail
      refine (cell_any rb v' _ h1 wr HR.out HCJ.out).mono ?_
      rintro e w1 ⟨rfl, v1, R1, F1⟩
      have HR1 := hide R1
      have HF1 := hide F1
      have M1 := HL1.out.fr F1
      have M2 := HL2.out.fr F1
      have M3 := HL3.out.fr F1
      have k2 := M2.there (i := 1) rfl
      have k3 := M3.there (i := 1) rfl
      have HM1 := hide M1
      have HM2 := hide M2
      have HM3 := hide M3
      clear R1 F1 M1 M2 M3
      obtain ⟨kc2, kf2⟩ := k2
      obtain ⟨kc3, kf3⟩ := k3
      go_wp2_with fail
      refine (emulI _ _ h1 4096 _ rfl rfl (by omega) (by omega)).mono ?_
      rw [red_small (by omega)]
      rintro e w' ⟨rfl, rfl⟩
      go_wp2_with fail
      refine (esubI _ _ x1 (h1 * 4096) _ rfl (by omega) (by have := E1.out; omega) (by omega)).mono ?_
      rw [subM_le (by have := E1.out; omega), show x1 - h1 * 4096 = l1 from by have := E1.out; omega]
      rintro e w' ⟨rfl, rfl⟩
      go_wp2_with fail
      go_roundw
      case rel =>
        refine ⟨2, v1, by omega, rfl, ?_, ?_, ?_, ?_, ?_⟩
        · exact ((HR1.out.setOther HM2.out.ne HM2.out.own _).setOther HM3.out.ne HM3.out.own _).cast (by rw [RSt.emit_emit]; rfl)
        · exact ((HF.out.trans HF1.out).setNew (p := ⟨w.heap.size + 1 + 1 + 1, 1, none⟩) (by simp only; omega) _).setNew (p := ⟨w.heap.size + 1 + 1 + 1 + 1, 1, none⟩) (by simp only; omega) _
        · exact (HM1.out.setOther (by omega) _).setOther (by omega) _
        · exact (HM2.out.set _).setOther (by omega) _
        · exact (HM3.out.setOther (by omega) _).set _
      case measure => simp [intOf]
    · subst hk'
      have hcj : (st.emit ([h0, h1, h2, h3].take 2) 0).can [h2] 0 := can_nth HCL.out 2 (by rfl)
      have HCJ := hide hcj
      clear hcj
      go_wp2_with fail
      refine (cell_any rb v' _ h2 wr HR.out HCJ.out).mono ?_
      rintro e w1 ⟨rfl, v1, R1, F1⟩
      have HR1 := hide R1
      have HF1 := hide F1
      have M1 := HL1.out.fr F1
      have M2 := HL2.out.fr F1
      have M3 := HL3.out.fr F1
      have k2 := M2.there (i := 2) rfl
      have k3 := M3.there (i := 2) rfl
      have HM1 := hide M1
      have HM2 := hide M2
      have HM3 := hide M3
      clear R1 F1 M1 M2 M3
      obtain ⟨kc2, kf2⟩ := k2
      obtain ⟨kc3, kf3⟩ := k3
      go_wp2_with fail
      refine (emulI _ _ h2 4096 _ rfl rfl (by omega) (by omega)).mono ?_
      rw [red_small (by omega)]
      rintro e w' ⟨rfl, rfl⟩
      go_wp2_with fail
      refine (esubI _ _ x2 (h2 * 4096) _ rfl (by omega) (by have := E2.out; omega) (by omega)).mono ?_
      rw [subM_le (by have := E2.out; omega), show x2 - h2 * 4096 = l2 from by have := E2.out; omega]
      rintro e w' ⟨rfl, rfl⟩
      go_wp2_with fail
      go_roundw
      case rel =>
        refine ⟨3, v1, by omega, rfl, ?_, ?_, ?_, ?_, ?_⟩
        · exact ((HR1.out.setOther HM2.out.ne HM2.out.own _).setOther HM3.out.ne HM3.out.own _).cast (by rw [RSt.emit_emit]; rfl)
        · exact ((HF.out.trans HF1.out).setNew (p := ⟨w.heap.size + 1 + 1 + 1, 2, none⟩) (by simp only; omega) _).setNew (p := ⟨w.heap.size + 1 + 1 + 1 + 1, 2, none⟩) (by simp only; omega) _
        · exact (HM1.out.setOther (by omega) _).setOther (by omega) _
        · exact (HM2.out.set _).setOther (by omega) _
        · exact (HM3.out.setOther (by omega) _).set _
      case measure => simp [intOf]
    · subst hk'
      have hcj : (st.emit ([h0, h1, h2, h3].take 3) 0).can [h3] 0 := can_nth HCL.out 3 (by rfl)
      have HCJ := hide hcj
      clear hcj
      go_wp2_with fail
      refine (cell_any rb v' _ h3 wr HR.out HCJ.out).mono ?_
      rintro e w1 ⟨rfl, v1, R1, F1⟩
      have HR1 := hide R1
      have HF1 := hide F1
      have M1 := HL1.out.fr F1
      have M2 := HL2.out.fr F1
      have M3 := HL3.out.fr F1
      have k2 := M2.there (i := 3) rfl
      have k3 := M3.there (i := 3) rfl
      have HM1 := hide M1
      have HM2 := hide M2
      have HM3 := hide M3
      clear R1 F1 M1 M2 M3
      obtain ⟨kc2, kf2⟩ := k2
      obtain ⟨kc3, kf3⟩ := k3
      go_wp2_with fail
      refine (emulI _ _ h3 4096 _ rfl rfl (by omega) (by omega)).mono ?_
      rw [red_small (by omega)]
      rintro e w' ⟨rfl, rfl⟩
      go_wp2_with fail
      refine (esubI _ _ x3 (h3 * 4096) _ rfl (by omega) (by have := E3.out; omega) (by omega)).mono ?_
      rw [subM_le (by have := E3.out; omega), show x3 - h3 * 4096 = l3 from by have := E3.out; omega]
      rintro e w' ⟨rfl, rfl⟩
      go_wp2_with fail
      go_roundw
      case rel =>
        refine ⟨4, v1, by omega, rfl, ?_, ?_, ?_, ?_, ?_⟩
        · exact ((HR1.out.setOther HM2.out.ne HM2.out.own _).setOther HM3.out.ne HM3.out.own _).cast (by rw [RSt.emit_emit]; rfl)
        · exact ((HF.out.trans HF1.out).setNew (p := ⟨w.heap.size + 1 + 1 + 1, 3, none⟩) (by simp only; omega) _).setNew (p := ⟨w.heap.size + 1 + 1 + 1 + 1, 3, none⟩) (by simp only; omega) _
        · exact (HM1.out.setOther (by omega) _).setOther (by omega) _
        · exact (HM2.out.set _).setOther (by omega) _
        · exact (HM3.out.setOther (by omega) _).set _
      case measure => simp [intOf]
    · subst hk'
      obtain ⟨kh0, fh0⟩ := HL2.out.there (i := 0) rfl
      obtain ⟨kl0, fl0⟩ := HL3.out.there (i := 0) rfl
      obtain ⟨kh1, fh1⟩ := HL2.out.there (i := 1) rfl
      obtain ⟨kl1, fl1⟩ := HL3.out.there (i := 1) rfl
      obtain ⟨kh2, fh2⟩ := HL2.out.there (i := 2) rfl
      obtain ⟨kl2, fl2⟩ := HL3.out.there (i := 2) rfl
      obtain ⟨kh3, fh3⟩ := HL2.out.there (i := 3) rfl
      obtain ⟨kl3, fl3⟩ := HL3.out.there (i := 3) rfl
      simp only [quad, show (0:Nat) < 4 by decide, show (1:Nat) < 4 by decide, show (2:Nat) < 4 by decide, show (3:Nat) < 4 by decide, if_true] at kh0 kh1 kh2 kh3 kl0 kl1 kl2 kl3
      have HC1 := hide (RSt.can_left (e1 := [l0 ^^^ l2]) (e2 := [h0 ^^^ h2] ++ [l1 ^^^ l3] ++ [h1 ^^^ h3]) (k1 := 1) (k2 := 3) HCR.out)
      have HD1 := hide (RSt.can_right (e1 := [l0 ^^^ l2]) (e2 := [h0 ^^^ h2] ++ ([l1 ^^^ l3] ++ [h1 ^^^ h3])) (k1 := 1) (k2 := 3) HCR.out)
      have HC2 := hide (RSt.can_left (e1 := [h0 ^^^ h2]) (e2 := [l1 ^^^ l3] ++ [h1 ^^^ h3]) (k1 := 1) (k2 := 2) HD1.out)
      have HD2 := hide (RSt.can_right (e1 := [h0 ^^^ h2]) (e2 := [l1 ^^^ l3] ++ [h1 ^^^ h3]) (k1 := 1) (k2 := 2) HD1.out)
      have HC3 := hide (RSt.can_left (e1 := [l1 ^^^ l3]) (e2 := [h1 ^^^ h3]) (k1 := 1) (k2 := 1) HD2.out)
      have HC4 := hide (RSt.can_right (e1 := [l1 ^^^ l3]) (e2 := [h1 ^^^ h3]) (k1 := 1) (k2 := 1) HD2.out)
      clear E0 E1 E2 E3 a0 a1 a2 a3 i0 i1 i2 i3 HCL HCR HD1 HD2
      go_wp2_with fail
      refine (xor_any rb v' _ l0 l2 12 _ _ _ _ HR.out rfl rfl rfl (by decide) (show l0 < 4096 by omega) (show l2 < 4096 by omega) HC1.out).mono ?_
      rintro e w1 ⟨rfl, v1, R1, F1⟩
      have HR1 := hide R1
      have HF1 := hide F1
      have HL11 := hide (HL1.out.fr F1)
      have HL21 := hide (HL2.out.fr F1)
      have HL31 := hide (HL3.out.fr F1)
      clear R1 F1
      clear kh0 kh1 kh2 kh3 kl0 kl1 kl2 kl3 fh0 fh1 fh2 fh3 fl0 fl1 fl2 fl3
      obtain ⟨kh0, fh0⟩ := HL21.out.there (i := 0) rfl
      obtain ⟨kl0, fl0⟩ := HL31.out.there (i := 0) rfl
      obtain ⟨kh1, fh1⟩ := HL21.out.there (i := 1) rfl
      obtain ⟨kl1, fl1⟩ := HL31.out.there (i := 1) rfl
      obtain ⟨kh2, fh2⟩ := HL21.out.there (i := 2) rfl
      obtain ⟨kl2, fl2⟩ := HL31.out.there (i := 2) rfl
      obtain ⟨kh3, fh3⟩ := HL21.out.there (i := 3) rfl
      obtain ⟨kl3, fl3⟩ := HL31.out.there (i := 3) rfl
      simp only [quad, show (0:Nat) < 4 by decide, show (1:Nat) < 4 by decide, show (2:Nat) < 4 by decide, show (3:Nat) < 4 by decide, if_true] at kh0 kh1 kh2 kh3 kl0 kl1 kl2 kl3
      go_wp2_with fail
      refine (xor_any rb v1 _ h0 h2 4 _ _ _ _ HR1.out rfl rfl rfl (by decide) (show h0 < 16 by omega) (show h2 < 16 by omega) HC2.out).mono ?_
      rintro e w2 ⟨rfl, v2, R2, F2⟩
      have HR2 := hide R2
      have HF2 := hide F2
      have HL12 := hide (HL11.out.fr F2)
      have HL22 := hide (HL21.out.fr F2)
      have HL32 := hide (HL31.out.fr F2)
      clear R2 F2
      clear kh0 kh1 kh2 kh3 kl0 kl1 kl2 kl3 fh0 fh1 fh2 fh3 fl0 fl1 fl2 fl3
      obtain ⟨kh0, fh0⟩ := HL22.out.there (i := 0) rfl
      obtain ⟨kl0, fl0⟩ := HL32.out.there (i := 0) rfl
      obtain ⟨kh1, fh1⟩ := HL22.out.there (i := 1) rfl
      obtain ⟨kl1, fl1⟩ := HL32.out.there (i := 1) rfl
      obtain ⟨kh2, fh2⟩ := HL22.out.there (i := 2) rfl
      obtain ⟨kl2, fl2⟩ := HL32.out.there (i := 2) rfl
      obtain ⟨kh3, fh3⟩ := HL22.out.there (i := 3) rfl
      obtain ⟨kl3, fl3⟩ := HL32.out.there (i := 3) rfl
      simp only [quad, show (0:Nat) < 4 by decide, show (1:Nat) < 4 by decide, show (2:Nat) < 4 by decide, show (3:Nat) < 4 by decide, if_true] at kh0 kh1 kh2 kh3 kl0 kl1 kl2 kl3
      go_wp2_with fail
      refine (xor_any rb v2 _ l1 l3 12 _ _ _ _ HR2.out rfl rfl rfl (by decide) (show l1 < 4096 by omega) (show l3 < 4096 by omega) HC3.out).mono ?_
      rintro e w3 ⟨rfl, v3, R3, F3⟩
      have HR3 := hide R3
      have HF3 := hide F3
      have HL13 := hide (HL12.out.fr F3)
      have HL23 := hide (HL22.out.fr F3)
      have HL33 := hide (HL32.out.fr F3)
      clear R3 F3
      clear kh0 kh1 kh2 kh3 kl0 kl1 kl2 kl3 fh0 fh1 fh2 fh3 fl0 fl1 fl2 fl3
      obtain ⟨kh0, fh0⟩ := HL23.out.there (i := 0) rfl
      obtain ⟨kl0, fl0⟩ := HL33.out.there (i := 0) rfl
      obtain ⟨kh1, fh1⟩ := HL23.out.there (i := 1) rfl
      obtain ⟨kl1, fl1⟩ := HL33.out.there (i := 1) rfl
      obtain ⟨kh2, fh2⟩ := HL23.out.there (i := 2) rfl
      obtain ⟨kl2, fl2⟩ := HL33.out.there (i := 2) rfl
      obtain ⟨kh3, fh3⟩ := HL23.out.there (i := 3) rfl
      obtain ⟨kl3, fl3⟩ := HL33.out.there (i := 3) rfl
      simp only [quad, show (0:Nat) < 4 by decide, show (1:Nat) < 4 by decide, show (2:Nat) < 4 by decide, show (3:Nat) < 4 by decide, if_true] at kh0 kh1 kh2 kh3 kl0 kl1 kl2 kl3
      go_wp2_with fail
      refine (xor_any rb v3 _ h1 h3 4 _ _ _ _ HR3.out rfl rfl rfl (by decide) (show h1 < 16 by omega) (show h3 < 16 by omega) HC4.out).mono ?_
      rintro e w4 ⟨rfl, v4, R4, F4⟩
      have HR4 := hide R4
      have HF4 := hide F4
      have HL14 := hide (HL13.out.fr F4)
      have HL24 := hide (HL23.out.fr F4)
      have HL34 := hide (HL33.out.fr F4)
      clear R4 F4
      simp only [Nat.reducePow] at X0 X1 Y0 Y1
      have k0 : w4.cell? ⟨w.heap.size + 1 + 1, 0, none⟩ = some (.int .u32 0) := cell_of_cells HL14.out.blk rfl
      have k1 : w4.cell? ⟨w.heap.size + 1 + 1, 1, none⟩ = some (.int .u32 0) := cell_of_cells HL14.out.blk rfl
      have j0 := free_of_cells (i := 0) HL14.out.blk
      have j1 := free_of_cells (i := 1) HL14.out.blk
      clear bh0 bh1 bh2 bh3 bl0 bl1 bl2 bl3 kh0 kh1 kh2 kh3 kl0 kl1 kl2 kl3 fh0 fh1 fh2 fh3 fl0 fl1 fl2 fl3
      obtain ⟨A, hA⟩ : ∃ A, A = l1 ^^^ l3 := ⟨_, rfl⟩
      obtain ⟨B, hB⟩ : ∃ B, B = h0 ^^^ h2 := ⟨_, rfl⟩
      obtain ⟨C, hC⟩ : ∃ C, C = l0 ^^^ l2 := ⟨_, rfl⟩
      obtain ⟨D, hD⟩ : ∃ D, D = h1 ^^^ h3 := ⟨_, rfl⟩
      have hAb : A < 4096 := by omega
      have hBb : B < 16 := by omega
      have hCb : C < 4096 := by omega
      have hDb : D < 16 := by omega
      simp only [← hA, ← hB, ← hC, ← hD]
      have HA := hide hA
      have HB := hide hB
      have HCC := hide hC
      have HD := hide hD
      clear X0 X1 Y0 Y1 hA hB hC hD
      go_wp2_with fail
      refine (emulI _ _ A 16 _ rfl rfl (by omega) (by omega)).mono ?_
      rw [red_small (by omega)]
      rintro e w' ⟨rfl, rfl⟩
      go_wp2_with fail
      refine (eaddI _ _ (A * 16) B _ rfl rfl (by omega)).mono ?_
      rintro e w' ⟨rfl, rfl⟩
      go_wp2_with fail
      refine (emulI _ _ C 16 _ rfl rfl (by omega) (by omega)).mono ?_
      rw [red_small (by omega)]
      rintro e w' ⟨rfl, rfl⟩
      go_wp2_with fail
      refine (eaddI _ _ (C * 16) D _ rfl rfl (by omega)).mono ?_
      rintro e w' ⟨rfl, rfl⟩
      go_wp2
      have LL' := (HL14.out.set (i := 0) (.int .u32 ((A : Int) * 16 + (B : Int)))).set (i := 1) (.int .u32 ((C : Int) * 16 + (D : Int)))
      have m0 : ((w4.setCell ⟨w.heap.size + 1 + 1, 0, none⟩ (.int .u32 ((A : Int) * 16 + (B : Int)))).setCell ⟨w.heap.size + 1 + 1, 1, none⟩ (.int .u32 ((C : Int) * 16 + (D : Int)))).cell? ⟨w.heap.size + 1 + 1, 0, none⟩ = some (.int .u32 ((A : Int) * 16 + (B : Int))) := cell_of_cells LL'.blk rfl
      have m1 : ((w4.setCell ⟨w.heap.size + 1 + 1, 0, none⟩ (.int .u32 ((A : Int) * 16 + (B : Int)))).setCell ⟨w.heap.size + 1 + 1, 1, none⟩ (.int .u32 ((C : Int) * 16 + (D : Int)))).cell? ⟨w.heap.size + 1 + 1, 1, none⟩ = some (.int .u32 ((C : Int) * 16 + (D : Int))) := cell_of_cells LL'.blk rfl
      have RR := (HR4.out.setOther (i := 0) HL14.out.ne HL14.out.own (.int .u32 ((A : Int) * 16 + (B : Int)))).setOther (i := 1) HL14.out.ne HL14.out.own (.int .u32 ((C : Int) * 16 + (D : Int)))
      have FF := (((HF.out.trans HF1.out).trans HF2.out).trans HF3.out).trans HF4.out
      have FF' := (FF.setNew (p := ⟨w.heap.size + 1 + 1, 0, none⟩) (by simp only; omega) (.int .u32 ((A : Int) * 16 + (B : Int)))).setNew (p := ⟨w.heap.size + 1 + 1, 1, none⟩) (by simp only; omega) (.int .u32 ((C : Int) * 16 + (D : Int)))
      rw [RSt.emit_emit, RSt.emit_emit, RSt.emit_emit, RSt.emit_emit] at RR
      refine bodyPost_ret (v := .agg #[.int .u32 ((A : Int) * 16 + (B : Int)), .int .u32 ((C : Int) * 16 + (D : Int))]) (by simp [results, Ybaf.results16, go_sem, m0, m1]) rfl ⟨?_, v4, RR.cast rfl, FF'⟩
      rw [← HA.out, ← HB.out, ← HCC.out, ← HD.out]
      simp [wordV]

set_option maxHeartbeats 4000000 in
set_option maxRecDepth 100000 in
theorem xr8 (rb : Nat) (v : Value) (st : RSt) (x0 x1 x2 x3 h0 h1 h2 h3 l0 l1 l2 l3 : Nat) (w : World) (h : RowAt w rb v st)
    (e0 : x0 = h0 * 256 + l0) (e1 : x1 = h1 * 256 + l1) (e2 : x2 = h2 * 256 + l2) (e3 : x3 = h3 * 256 + l3)
    (bh0 : h0 < 256) (bh1 : h1 < 256) (bh2 : h2 < 256) (bh3 : h3 < 256) (bl0 : l0 < 256) (bl1 : l1 < 256) (bl2 : l2 < 256) (bl3 : l3 < 256)
    (hc : st.can [h0, h1, h2, h3, l0 ^^^ l2, h0 ^^^ h2, l1 ^^^ l3, h1 ^^^ h3] 4) :
    Calls Ybaf.prog 16 #[.pointer (some ⟨rb, 0, none⟩), wordV x0 x1, wordV x2 x3, .int .u64 8] w fun e w' =>
      e = .returned (wordV ((l1 ^^^ l3) * 256 + (h0 ^^^ h2)) ((l0 ^^^ l2) * 256 + (h1 ^^^ h3))) ∧ ∃ v', RowAt w' rb v' (st.emit [h0, h1, h2, h3, l0 ^^^ l2, h0 ^^^ h2, l1 ^^^ l3, h1 ^^^ h3] 4) ∧ Fr rb v v' w w' := by
  have X0 := xor_lt h0 h2 8 bh0 bh2
  have X1 := xor_lt h1 h3 8 bh1 bh3
  have Y0 := xor_lt l0 l2 8 bl0 bl2
  have Y1 := xor_lt l1 l3 8 bl1 bl3
  have a0 : (x0 : Int) / 256 = (h0 : Nat) := by omega
  have a1 : (x1 : Int) / 256 = (h1 : Nat) := by omega
  have a2 : (x2 : Int) / 256 = (h2 : Nat) := by omega
  have a3 : (x3 : Int) / 256 = (h3 : Nat) := by omega
  have hcL := RSt.can_left (e1 := [h0, h1, h2, h3]) (e2 := [l0 ^^^ l2, h0 ^^^ h2, l1 ^^^ l3, h1 ^^^ h3]) (k1 := 0) (k2 := 4) hc
  have HCR := hide (RSt.can_right (e1 := [h0, h1, h2, h3]) (e2 := [l0 ^^^ l2, h0 ^^^ h2, l1 ^^^ l3, h1 ^^^ h3]) (k1 := 0) (k2 := 4) hc)
  have HCL := hide hcL
  have HE := hide (show [h0, h1, h2, h3, l0 ^^^ l2, h0 ^^^ h2, l1 ^^^ l3, h1 ^^^ h3] = [h0, h1, h2, h3] ++ [l0 ^^^ l2] ++ [h0 ^^^ h2] ++ [l1 ^^^ l3] ++ [h1 ^^^ h3] from rfl)
  have i0 : ∀ w, (Instr.index 60 (.agg #[.int .u32 (x0 : Nat), .int .u32 (x1 : Nat), .int .u32 (x2 : Nat), .int .u32 (x3 : Nat)]) (.int .i64 0)).run Ybaf.prog w = .ok (.int .u32 (x0 : Nat)) w := fun _ => by kernel_rfl
  have i1 : ∀ w, (Instr.index 60 (.agg #[.int .u32 (x0 : Nat), .int .u32 (x1 : Nat), .int .u32 (x2 : Nat), .int .u32 (x3 : Nat)]) (.int .i64 1)).run Ybaf.prog w = .ok (.int .u32 (x1 : Nat)) w := fun _ => by kernel_rfl
  have i2 : ∀ w, (Instr.index 60 (.agg #[.int .u32 (x0 : Nat), .int .u32 (x1 : Nat), .int .u32 (x2 : Nat), .int .u32 (x3 : Nat)]) (.int .i64 2)).run Ybaf.prog w = .ok (.int .u32 (x2 : Nat)) w := fun _ => by kernel_rfl
  have i3 : ∀ w, (Instr.index 60 (.agg #[.int .u32 (x0 : Nat), .int .u32 (x1 : Nat), .int .u32 (x2 : Nat), .int .u32 (x3 : Nat)]) (.int .i64 3)).run Ybaf.prog w = .ok (.int .u32 (x3 : Nat)) w := fun _ => by kernel_rfl
  clear hc hcL
  have E0 := hide e0
  have E1 := hide e1
  have E2 := hide e2
  have E3 := hide e3
  clear e0 e1 e2 e3
  obtain ⟨w5, hw5⟩ : ∃ w5, w5 = ((((w.alloc (.cells #[.int .u32 (x0 : Nat), .int .u32 (x1 : Nat)] 32)).alloc (.cells #[.int .u32 (x2 : Nat), .int .u32 (x3 : Nat)] 32)).alloc (.cells #[.int .u32 0, .int .u32 0] 32)).alloc (.cells #[.int .u32 0, .int .u32 0, .int .u32 0, .int .u32 0] 60)).alloc (.cells #[.int .u32 0, .int .u32 0, .int .u32 0, .int .u32 0] 60) := ⟨_, rfl⟩
  have HW5 := hide hw5
  have R5 : RowAt w5 rb v st := by rw [hw5]; exact ((((h.alloc _).alloc _).alloc _).alloc _).alloc _
  have F5 : Fr rb v v w w5 := by rw [hw5]; exact (((((Fr.refl _ _ _).alloc _).alloc _).alloc _).alloc _).alloc _
  have LR : Loc w5 rb v (w.heap.size + 1 + 1) (wordO 0 0) := by
    rw [hw5]
    have := Loc.new ((h.alloc (.cells #[.int .u32 (x0 : Nat), .int .u32 (x1 : Nat)] 32)).alloc (.cells #[.int .u32 (x2 : Nat), .int .u32 (x3 : Nat)] 32)) (wordO 0 0)
    rw [World.size_alloc, World.size_alloc] at this
    exact (this.alloc _).alloc _
  have LH : Loc w5 rb v (w.heap.size + 1 + 1 + 1) (.cells (quad h0 h1 h2 h3 0) 60 (0, 0)) := by
    rw [hw5]
    have := Loc.new (((h.alloc (.cells #[.int .u32 (x0 : Nat), .int .u32 (x1 : Nat)] 32)).alloc (.cells #[.int .u32 (x2 : Nat), .int .u32 (x3 : Nat)] 32)).alloc (wordO 0 0)) (.cells #[.int .u32 0, .int .u32 0, .int .u32 0, .int .u32 0] 60)
    rw [World.size_alloc, World.size_alloc, World.size_alloc] at this
    exact this.alloc _
  have LL : Loc w5 rb v (w.heap.size + 1 + 1 + 1 + 1) (.cells (quad l0 l1 l2 l3 0) 60 (0, 0)) := by
    rw [hw5]
    have := Loc.new ((((h.alloc (.cells #[.int .u32 (x0 : Nat), .int .u32 (x1 : Nat)] 32)).alloc (.cells #[.int .u32 (x2 : Nat), .int .u32 (x3 : Nat)] 32)).alloc (wordO 0 0)).alloc (.cells #[.int .u32 0, .int .u32 0, .int .u32 0, .int .u32 0] 60)) (.cells #[.int .u32 0, .int .u32 0, .int .u32 0, .int .u32 0] 60)
    rw [World.size_alloc, World.size_alloc, World.size_alloc, World.size_alloc] at this
    exact this
  clear hw5 h
  go_enter Ybaf.func16, Ybaf.ntmps16
  go_wp2_with fail
  rw [← HW5.out]
  clear HW5
  go_loopw [30] (fun iv wr => ∃ (k : Nat) (v' : Value), k ≤ 4 ∧ iv = .int .i64 k ∧ RowAt wr rb v' (st.emit ([h0, h1, h2, h3].take k) 0) ∧ Fr rb v v' w wr ∧ Loc wr rb v' (w.heap.size + 1 + 1) (wordO 0 0) ∧
      Loc wr rb v' (w.heap.size + 1 + 1 + 1) (.cells (quad h0 h1 h2 h3 k) 60 (0, 0)) ∧ Loc wr rb v' (w.heap.size + 1 + 1 + 1 + 1) (.cells (quad l0 l1 l2 l3 k) 60 (0, 0))) (fun iv _ => 4 - (intOf iv).toNat)
  case atStart => exact ⟨0, v, by omega, rfl, R5.cast (RSt.emit_nil st).symm, F5, LR, LH, LL⟩
  case round =>
    obtain ⟨k, v', hk, rfl, R, F, L1, L2, L3⟩ := hrel
    have HF := hide F
    have HL1 := hide L1
    have HL2 := hide L2
    have HL3 := hide L3
    have HR := hide R
    clear R5 F5 LR LH LL R F L1 L2 L3
    rcases (show k = 0 ∨ k = 1 ∨ k = 2 ∨ k = 3 ∨ k = 4 from by omega) with hk' | hk' | hk' | hk' | hk'
    · subst hk'
      have hcj : (st.emit ([h0, h1, h2, h3].take 0) 0).can [h0] 0 := can_nth HCL.out 0 (by rfl)
      have HCJ := hide hcj
      clear hcj
      go_wp2_with fail
      refine (cell_any rb v' _ h0 wr HR.out HCJ.out).mono ?_
      rintro e w1 ⟨rfl, v1, R1, F1⟩
      have HR1 := hide R1
      have HF1 := hide F1
      have M1 := HL1.out.fr F1
      have M2 := HL2.out.fr F1
      have M3 := HL3.out.fr F1
      have k2 := M2.there (i := 0) rfl
      have k3 := M3.there (i := 0) rfl
      have HM1 := hide M1
      have HM2 := hide M2
      have HM3 := hide M3
      clear R1 F1 M1 M2 M3
      obtain ⟨kc2, kf2⟩ := k2
      obtain ⟨kc3, kf3⟩ := k3
      go_wp2_with fail
      refine (emulI _ _ h0 256 _ rfl rfl (by omega) (by omega)).mono ?_
      rw [red_small (by omega)]
      rintro e w' ⟨rfl, rfl⟩
      go_wp2_with fail
      refine (esubI _ _ x0 (h0 * 256) _ rfl (by omega) (by have := E0.out; omega) (by omega)).mono ?_
      rw [subM_le (by have := E0.out; omega), show x0 - h0 * 256 = l0 from by have := E0.out; omega]
      rintro e w' ⟨rfl, rfl⟩
      go_wp2_with fail
      go_roundw
      case rel =>
        refine ⟨1, v1, by omega, rfl, ?_, ?_, ?_, ?_, ?_⟩
        · exact ((HR1.out.setOther HM2.out.ne HM2.out.own _).setOther HM3.out.ne HM3.out.own _).cast (by rw [RSt.emit_emit]; rfl)
        · exact ((HF.out.trans HF1.out).setNew (p := ⟨w.heap.size + 1 + 1 + 1, 0, none⟩) (by simp only; omega) _).setNew (p := ⟨w.heap.size + 1 + 1 + 1 + 1, 0, none⟩) (by simp only; omega) _
        · exact (HM1.out.setOther (by omega) _).setOther (by omega) _
        · exact (HM2.out.set _).setOther (by omega) _
        · exact (HM3.out.setOther (by omega) _).set _
      case measure => simp [intOf]
    · subst hk'
      have hcj : (st.emit ([h0, h1, h2, h3].take 1) 0).can [h1] 0 := can_nth HCL.out 1 (by rfl)
      have HCJ := hide hcj
      clear hcj
      go_wp2_with fail
      refine (cell_any rb v' _ h1 wr HR.out HCJ.out).mono ?_
      rintro e w1 ⟨rfl, v1, R1, F1⟩
      have HR1 := hide R1
      have HF1 := hide F1
      have M1 := HL1.out.fr F1
      have M2 := HL2.out.fr F1
      have M3 := HL3.out.fr F1
      have k2 := M2.there (i := 1) rfl
      have k3 := M3.there (i := 1) rfl
      have HM1 := hide M1
      have HM2 := hide M2
      have HM3 := hide M3
      clear R1 F1 M1 M2 M3
      obtain ⟨kc2, kf2⟩ := k2
      obtain ⟨kc3, kf3⟩ := k3
      go_wp2_with fail
      refine (emulI _ _ h1 256 _ rfl rfl (by omega) (by omega)).mono ?_
      rw [red_small (by omega)]
      rintro e w' ⟨rfl, rfl⟩
      go_wp2_with fail
      refine (esubI _ _ x1 (h1 * 256) _ rfl (by omega) (by have := E1.out; omega) (by omega)).mono ?_
      rw [subM_le (by have := E1.out; omega), show x1 - h1 * 256 = l1 from by have := E1.out; omega]
      rintro e w' ⟨rfl, rfl⟩
      go_wp2_with fail
      go_roundw
      case rel =>
        refine ⟨2, v1, by omega, rfl, ?_, ?_, ?_, ?_, ?_⟩
        · exact ((HR1.out.setOther HM2.out.ne HM2.out.own _).setOther HM3.out.ne HM3.out.own _).cast (by rw [RSt.emit_emit]; rfl)
        · exact ((HF.out.trans HF1.out).setNew (p := ⟨w.heap.size + 1 + 1 + 1, 1, none⟩) (by simp only; omega) _).setNew (p := ⟨w.heap.size + 1 + 1 + 1 + 1, 1, none⟩) (by simp only; omega) _
        · exact (HM1.out.setOther (by omega) _).setOther (by omega) _
        · exact (HM2.out.set _).setOther (by omega) _
        · exact (HM3.out.setOther (by omega) _).set _
      case measure => simp [intOf]
    · subst hk'
      have hcj : (st.emit ([h0, h1, h2, h3].take 2) 0).can [h2] 0 := can_nth HCL.out 2 (by rfl)
      have HCJ := hide hcj
      clear hcj
      go_wp2_with fail
      refine (cell_any rb v' _ h2 wr HR.out HCJ.out).mono ?_
      rintro e w1 ⟨rfl, v1, R1, F1⟩
      have HR1 := hide R1
      have HF1 := hide F1
      have M1 := HL1.out.fr F1
      have M2 := HL2.out.fr F1
      have M3 := HL3.out.fr F1
      have k2 := M2.there (i := 2) rfl
      have k3 := M3.there (i := 2) rfl
      have HM1 := hide M1
      have HM2 := hide M2
      have HM3 := hide M3
      clear R1 F1 M1 M2 M3
      obtain ⟨kc2, kf2⟩ := k2
      obtain ⟨kc3, kf3⟩ := k3
      go_wp2_with fail
      refine (emulI _ _ h2 256 _ rfl rfl (by omega) (by omega)).mono ?_
      rw [red_small (by omega)]
      rintro e w' ⟨rfl, rfl⟩
      go_wp2_with fail
      refine (esubI _ _ x2 (h2 * 256) _ rfl (by omega) (by have := E2.out; omega) (by omega)).mono ?_
      rw [subM_le (by have := E2.out; omega), show x2 - h2 * 256 = l2 from by have := E2.out; omega]
      rintro e w' ⟨rfl, rfl⟩
      go_wp2_with fail
      go_roundw
      case rel =>
        refine ⟨3, v1, by omega, rfl, ?_, ?_, ?_, ?_, ?_⟩
        · exact ((HR1.out.setOther HM2.out.ne HM2.out.own _).setOther HM3.out.ne HM3.out.own _).cast (by rw [RSt.emit_emit]; rfl)
        · exact ((HF.out.trans HF1.out).setNew (p := ⟨w.heap.size + 1 + 1 + 1, 2, none⟩) (by simp only; omega) _).setNew (p := ⟨w.heap.size + 1 + 1 + 1 + 1, 2, none⟩) (by simp only; omega) _
        · exact (HM1.out.setOther (by omega) _).setOther (by omega) _
        · exact (HM2.out.set _).setOther (by omega) _
        · exact (HM3.out.setOther (by omega) _).set _
      case measure => simp [intOf]
    · subst hk'
      have hcj : (st.emit ([h0, h1, h2, h3].take 3) 0).can [h3] 0 := can_nth HCL.out 3 (by rfl)
      have HCJ := hide hcj
      clear hcj
      go_wp2_with fail
      refine (cell_any rb v' _ h3 wr HR.out HCJ.out).mono ?_
      rintro e w1 ⟨rfl, v1, R1, F1⟩
      have HR1 := hide R1
      have HF1 := hide F1
      have M1 := HL1.out.fr F1
      have M2 := HL2.out.fr F1
      have M3 := HL3.out.fr F1
      have k2 := M2.there (i := 3) rfl
      have k3 := M3.there (i := 3) rfl
      have HM1 := hide M1
      have HM2 := hide M2
      have HM3 := hide M3
      clear R1 F1 M1 M2 M3
      obtain ⟨kc2, kf2⟩ := k2
      obtain ⟨kc3, kf3⟩ := k3
      go_wp2_with fail
      refine (emulI _ _ h3 256 _ rfl rfl (by omega) (by omega)).mono ?_
      rw [red_small (by omega)]
      rintro e w' ⟨rfl, rfl⟩
      go_wp2_with fail
      refine (esubI _ _ x3 (h3 * 256) _ rfl (by omega) (by have := E3.out; omega) (by omega)).mono ?_
      rw [subM_le (by have := E3.out; omega), show x3 - h3 * 256 = l3 from by have := E3.out; omega]
      rintro e w' ⟨rfl, rfl⟩
      go_wp2_with fail
      go_roundw
      case rel =>
        refine ⟨4, v1, by omega, rfl, ?_, ?_, ?_, ?_, ?_⟩
        · exact ((HR1.out.setOther HM2.out.ne HM2.out.own _).setOther HM3.out.ne HM3.out.own _).cast (by rw [RSt.emit_emit]; rfl)
        · exact ((HF.out.trans HF1.out).setNew (p := ⟨w.heap.size + 1 + 1 + 1, 3, none⟩) (by simp only; omega) _).setNew (p := ⟨w.heap.size + 1 + 1 + 1 + 1, 3, none⟩) (by simp only; omega) _
        · exact (HM1.out.setOther (by omega) _).setOther (by omega) _
        · exact (HM2.out.set _).setOther (by omega) _
        · exact (HM3.out.setOther (by omega) _).set _
      case measure => simp [intOf]
    · subst hk'
      obtain ⟨kh0, fh0⟩ := HL2.out.there (i := 0) rfl
      obtain ⟨kl0, fl0⟩ := HL3.out.there (i := 0) rfl
      obtain ⟨kh1, fh1⟩ := HL2.out.there (i := 1) rfl
      obtain ⟨kl1, fl1⟩ := HL3.out.there (i := 1) rfl
      obtain ⟨kh2, fh2⟩ := HL2.out.there (i := 2) rfl
      obtain ⟨kl2, fl2⟩ := HL3.out.there (i := 2) rfl
      obtain ⟨kh3, fh3⟩ := HL2.out.there (i := 3) rfl
      obtain ⟨kl3, fl3⟩ := HL3.out.there (i := 3) rfl
      simp only [quad, show (0:Nat) < 4 by decide, show (1:Nat) < 4 by decide, show (2:Nat) < 4 by decide, show (3:Nat) < 4 by decide, if_true] at kh0 kh1 kh2 kh3 kl0 kl1 kl2 kl3
      have HC1 := hide (RSt.can_left (e1 := [l0 ^^^ l2]) (e2 := [h0 ^^^ h2] ++ [l1 ^^^ l3] ++ [h1 ^^^ h3]) (k1 := 1) (k2 := 3) HCR.out)
      have HD1 := hide (RSt.can_right (e1 := [l0 ^^^ l2]) (e2 := [h0 ^^^ h2] ++ ([l1 ^^^ l3] ++ [h1 ^^^ h3])) (k1 := 1) (k2 := 3) HCR.out)
      have HC2 := hide (RSt.can_left (e1 := [h0 ^^^ h2]) (e2 := [l1 ^^^ l3] ++ [h1 ^^^ h3]) (k1 := 1) (k2 := 2) HD1.out)
      have HD2 := hide (RSt.can_right (e1 := [h0 ^^^ h2]) (e2 := [l1 ^^^ l3] ++ [h1 ^^^ h3]) (k1 := 1) (k2 := 2) HD1.out)
      have HC3 := hide (RSt.can_left (e1 := [l1 ^^^ l3]) (e2 := [h1 ^^^ h3]) (k1 := 1) (k2 := 1) HD2.out)
      have HC4 := hide (RSt.can_right (e1 := [l1 ^^^ l3]) (e2 := [h1 ^^^ h3]) (k1 := 1) (k2 := 1) HD2.out)
      clear E0 E1 E2 E3 a0 a1 a2 a3 i0 i1 i2 i3 HCL HCR HD1 HD2
      go_wp2_with fail
      refine (xor_any rb v' _ l0 l2 8 _ _ _ _ HR.out rfl rfl rfl (by decide) (show l0 < 256 by omega) (show l2 < 256 by omega) HC1.out).mono ?_
      rintro e w1 ⟨rfl, v1, R1, F1⟩
      have HR1 := hide R1
      have HF1 := hide F1
      have HL11 := hide (HL1.out.fr F1)
      have HL21 := hide (HL2.out.fr F1)
      have HL31 := hide (HL3.out.fr F1)
      clear R1 F1
      clear kh0 kh1 kh2 kh3 kl0 kl1 kl2 kl3 fh0 fh1 fh2 fh3 fl0 fl1 fl2 fl3
      obtain ⟨kh0, fh0⟩ := HL21.out.there (i := 0) rfl
      obtain ⟨kl0, fl0⟩ := HL31.out.there (i := 0) rfl
      obtain ⟨kh1, fh1⟩ := HL21.out.there (i := 1) rfl
      obtain ⟨kl1, fl1⟩ := HL31.out.there (i := 1) rfl
      obtain ⟨kh2, fh2⟩ := HL21.out.there (i := 2) rfl
      obtain ⟨kl2, fl2⟩ := HL31.out.there (i := 2) rfl
      obtain ⟨kh3, fh3⟩ := HL21.out.there (i := 3) rfl
      obtain ⟨kl3, fl3⟩ := HL31.out.there (i := 3) rfl
      simp only [quad, show (0:Nat) < 4 by decide, show (1:Nat) < 4 by decide, show (2:Nat) < 4 by decide, show (3:Nat) < 4 by decide, if_true] at kh0 kh1 kh2 kh3 kl0 kl1 kl2 kl3
      go_wp2_with fail
      refine (xor_any rb v1 _ h0 h2 8 _ _ _ _ HR1.out rfl rfl rfl (by decide) (show h0 < 256 by omega) (show h2 < 256 by omega) HC2.out).mono ?_
      rintro e w2 ⟨rfl, v2, R2, F2⟩
      have HR2 := hide R2
      have HF2 := hide F2
      have HL12 := hide (HL11.out.fr F2)
      have HL22 := hide (HL21.out.fr F2)
      have HL32 := hide (HL31.out.fr F2)
      clear R2 F2
      clear kh0 kh1 kh2 kh3 kl0 kl1 kl2 kl3 fh0 fh1 fh2 fh3 fl0 fl1 fl2 fl3
      obtain ⟨kh0, fh0⟩ := HL22.out.there (i := 0) rfl
      obtain ⟨kl0, fl0⟩ := HL32.out.there (i := 0) rfl
      obtain ⟨kh1, fh1⟩ := HL22.out.there (i := 1) rfl
      obtain ⟨kl1, fl1⟩ := HL32.out.there (i := 1) rfl
      obtain ⟨kh2, fh2⟩ := HL22.out.there (i := 2) rfl
      obtain ⟨kl2, fl2⟩ := HL32.out.there (i := 2) rfl
      obtain ⟨kh3, fh3⟩ := HL22.out.there (i := 3) rfl
      obtain ⟨kl3, fl3⟩ := HL32.out.there (i := 3) rfl
      simp only [quad, show (0:Nat) < 4 by decide, show (1:Nat) < 4 by decide, show (2:Nat) < 4 by decide, show (3:Nat) < 4 by decide, if_true] at kh0 kh1 kh2 kh3 kl0 kl1 kl2 kl3
      go_wp2_with fail
      refine (xor_any rb v2 _ l1 l3 8 _ _ _ _ HR2.out rfl rfl rfl (by decide) (show l1 < 256 by omega) (show l3 < 256 by omega) HC3.out).mono ?_
      rintro e w3 ⟨rfl, v3, R3, F3⟩
      have HR3 := hide R3
      have HF3 := hide F3
      have HL13 := hide (HL12.out.fr F3)
      have HL23 := hide (HL22.out.fr F3)
      have HL33 := hide (HL32.out.fr F3)
      clear R3 F3
      clear kh0 kh1 kh2 kh3 kl0 kl1 kl2 kl3 fh0 fh1 fh2 fh3 fl0 fl1 fl2 fl3
      obtain ⟨kh0, fh0⟩ := HL23.out.there (i := 0) rfl
      obtain ⟨kl0, fl0⟩ := HL33.out.there (i := 0) rfl
      obtain ⟨kh1, fh1⟩ := HL23.out.there (i := 1) rfl
      obtain ⟨kl1, fl1⟩ := HL33.out.there (i := 1) rfl
      obtain ⟨kh2, fh2⟩ := HL23.out.there (i := 2) rfl
      obtain ⟨kl2, fl2⟩ := HL33.out.there (i := 2) rfl
      obtain ⟨kh3, fh3⟩ := HL23.out.there (i := 3) rfl
      obtain ⟨kl3, fl3⟩ := HL33.out.there (i := 3) rfl
      simp only [quad, show (0:Nat) < 4 by decide, show (1:Nat) < 4 by decide, show (2:Nat) < 4 by decide, show (3:Nat) < 4 by decide, if_true] at kh0 kh1 kh2 kh3 kl0 kl1 kl2 kl3
      go_wp2_with fail
      refine (xor_any rb v3 _ h1 h3 8 _ _ _ _ HR3.out rfl rfl rfl (by decide) (show h1 < 256 by omega) (show h3 < 256 by omega) HC4.out).mono ?_
      rintro e w4 ⟨rfl, v4, R4, F4⟩
      have HR4 := hide R4
      have HF4 := hide F4
      have HL14 := hide (HL13.out.fr F4)
      have HL24 := hide (HL23.out.fr F4)
      have HL34 := hide (HL33.out.fr F4)
      clear R4 F4
      simp only [Nat.reducePow] at X0 X1 Y0 Y1
      have k0 : w4.cell? ⟨w.heap.size + 1 + 1, 0, none⟩ = some (.int .u32 0) := cell_of_cells HL14.out.blk rfl
      have k1 : w4.cell? ⟨w.heap.size + 1 + 1, 1, none⟩ = some (.int .u32 0) := cell_of_cells HL14.out.blk rfl
      have j0 := free_of_cells (i := 0) HL14.out.blk
      have j1 := free_of_cells (i := 1) HL14.out.blk
      clear bh0 bh1 bh2 bh3 bl0 bl1 bl2 bl3 kh0 kh1 kh2 kh3 kl0 kl1 kl2 kl3 fh0 fh1 fh2 fh3 fl0 fl1 fl2 fl3
      obtain ⟨A, hA⟩ : ∃ A, A = l1 ^^^ l3 := ⟨_, rfl⟩
      obtain ⟨B, hB⟩ : ∃ B, B = h0 ^^^ h2 := ⟨_, rfl⟩
      obtain ⟨C, hC⟩ : ∃ C, C = l0 ^^^ l2 := ⟨_, rfl⟩
      obtain ⟨D, hD⟩ : ∃ D, D = h1 ^^^ h3 := ⟨_, rfl⟩
      have hAb : A < 256 := by omega
      have hBb : B < 256 := by omega
      have hCb : C < 256 := by omega
      have hDb : D < 256 := by omega
      simp only [← hA, ← hB, ← hC, ← hD]
      have HA := hide hA
      have HB := hide hB
      have HCC := hide hC
      have HD := hide hD
      clear X0 X1 Y0 Y1 hA hB hC hD
      go_wp2_with fail
      refine (emulI _ _ A 256 _ rfl rfl (by omega) (by omega)).mono ?_
      rw [red_small (by omega)]
      rintro e w' ⟨rfl, rfl⟩
      go_wp2_with fail
      refine (eaddI _ _ (A * 256) B _ rfl rfl (by omega)).mono ?_
      rintro e w' ⟨rfl, rfl⟩
      go_wp2_with fail
      refine (emulI _ _ C 256 _ rfl rfl (by omega) (by omega)).mono ?_
      rw [red_small (by omega)]
      rintro e w' ⟨rfl, rfl⟩
      go_wp2_with fail
      refine (eaddI _ _ (C * 256) D _ rfl rfl (by omega)).mono ?_
      rintro e w' ⟨rfl, rfl⟩
      go_wp2
      have LL' := (HL14.out.set (i := 0) (.int .u32 ((A : Int) * 256 + (B : Int)))).set (i := 1) (.int .u32 ((C : Int) * 256 + (D : Int)))
      have m0 : ((w4.setCell ⟨w.heap.size + 1 + 1, 0, none⟩ (.int .u32 ((A : Int) * 256 + (B : Int)))).setCell ⟨w.heap.size + 1 + 1, 1, none⟩ (.int .u32 ((C : Int) * 256 + (D : Int)))).cell? ⟨w.heap.size + 1 + 1, 0, none⟩ = some (.int .u32 ((A : Int) * 256 + (B : Int))) := cell_of_cells LL'.blk rfl
      have m1 : ((w4.setCell ⟨w.heap.size + 1 + 1, 0, none⟩ (.int .u32 ((A : Int) * 256 + (B : Int)))).setCell ⟨w.heap.size + 1 + 1, 1, none⟩ (.int .u32 ((C : Int) * 256 + (D : Int)))).cell? ⟨w.heap.size + 1 + 1, 1, none⟩ = some (.int .u32 ((C : Int) * 256 + (D : Int))) := cell_of_cells LL'.blk rfl
      have RR := (HR4.out.setOther (i := 0) HL14.out.ne HL14.out.own (.int .u32 ((A : Int) * 256 + (B : Int)))).setOther (i := 1) HL14.out.ne HL14.out.own (.int .u32 ((C : Int) * 256 + (D : Int)))
      have FF := (((HF.out.trans HF1.out).trans HF2.out).trans HF3.out).trans HF4.out
      have FF' := (FF.setNew (p := ⟨w.heap.size + 1 + 1, 0, none⟩) (by simp only; omega) (.int .u32 ((A : Int) * 256 + (B : Int)))).setNew (p := ⟨w.heap.size + 1 + 1, 1, none⟩) (by simp only; omega) (.int .u32 ((C : Int) * 256 + (D : Int)))
      rw [RSt.emit_emit, RSt.emit_emit, RSt.emit_emit, RSt.emit_emit] at RR
      refine bodyPost_ret (v := .agg #[.int .u32 ((A : Int) * 256 + (B : Int)), .int .u32 ((C : Int) * 256 + (D : Int))]) (by simp [results, Ybaf.results16, go_sem, m0, m1]) rfl ⟨?_, v4, RR.cast rfl, FF'⟩
      rw [← HA.out, ← HB.out, ← HCC.out, ← HD.out]
      simp [wordV]

set_option maxHeartbeats 4000000 in
set_option maxRecDepth 100000 in
theorem xr7 (rb : Nat) (v : Value) (st : RSt) (x0 x1 x2 x3 h0 h1 h2 h3 l0 l1 l2 l3 : Nat) (w : World) (h : RowAt w rb v st)
    (e0 : x0 = h0 * 128 + l0) (e1 : x1 = h1 * 128 + l1) (e2 : x2 = h2 * 128 + l2) (e3 : x3 = h3 * 128 + l3)
    (bh0 : h0 < 512) (bh1 : h1 < 512) (bh2 : h2 < 512) (bh3 : h3 < 512) (bl0 : l0 < 128) (bl1 : l1 < 128) (bl2 : l2 < 128) (bl3 : l3 < 128)
    (hc : st.can [h0, h1, h2, h3, l0 ^^^ l2, h0 ^^^ h2, l1 ^^^ l3, h1 ^^^ h3] 4) :
    Calls Ybaf.prog 16 #[.pointer (some ⟨rb, 0, none⟩), wordV x0 x1, wordV x2 x3, .int .u64 7] w fun e w' =>
      e = .returned (wordV ((l1 ^^^ l3) * 512 + (h0 ^^^ h2)) ((l0 ^^^ l2) * 512 + (h1 ^^^ h3))) ∧ ∃ v', RowAt w' rb v' (st.emit [h0, h1, h2, h3, l0 ^^^ l2, h0 ^^^ h2, l1 ^^^ l3, h1 ^^^ h3] 4) ∧ Fr rb v v' w w' := by
  have X0 := xor_lt h0 h2 9 bh0 bh2
  have X1 := xor_lt h1 h3 9 bh1 bh3
  have Y0 := xor_lt l0 l2 7 bl0 bl2
  have Y1 := xor_lt l1 l3 7 bl1 bl3
  have a0 : (x0 : Int) / 128 = (h0 : Nat) := by omega
  have a1 : (x1 : Int) / 128 = (h1 : Nat) := by omega
  have a2 : (x2 : Int) / 128 = (h2 : Nat) := by omega
  have a3 : (x3 : Int) / 128 = (h3 : Nat) := by omega
  have hcL := RSt.can_left (e1 := [h0, h1, h2, h3]) (e2 := [l0 ^^^ l2, h0 ^^^ h2, l1 ^^^ l3, h1 ^^^ h3]) (k1 := 0) (k2 := 4) hc
  have HCR := hide (RSt.can_right (e1 := [h0, h1, h2, h3]) (e2 := [l0 ^^^ l2, h0 ^^^ h2, l1 ^^^ l3, h1 ^^^ h3]) (k1 := 0) (k2 := 4) hc)
  have HCL := hide hcL
  have HE := hide (show [h0, h1, h2, h3, l0 ^^^ l2, h0 ^^^ h2, l1 ^^^ l3, h1 ^^^ h3] = [h0, h1, h2, h3] ++ [l0 ^^^ l2] ++ [h0 ^^^ h2] ++ [l1 ^^^ l3] ++ [h1 ^^^ h3] from rfl)
  have i0 : ∀ w, (Instr.index 60 (.agg #[.int .u32 (x0 : Nat), .int .u32 (x1 : Nat), .int .u32 (x2 : Nat), .int .u32 (x3 : Nat)]) (.int .i64 0)).run Ybaf.prog w = .ok (.int .u32 (x0 : Nat)) w := fun _ => by kernel_rfl
  have i1 : ∀ w, (Instr.index 60 (.agg #[.int .u32 (x0 : Nat), .int .u32 (x1 : Nat), .int .u32 (x2 : Nat), .int .u32 (x3 : Nat)]) (.int .i64 1)).run Ybaf.prog w = .ok (.int .u32 (x1 : Nat)) w := fun _ => by kernel_rfl
  have i2 : ∀ w, (Instr.index 60 (.agg #[.int .u32 (x0 : Nat), .int .u32 (x1 : Nat), .int .u32 (x2 : Nat), .int .u32 (x3 : Nat)]) (.int .i64 2)).run Ybaf.prog w = .ok (.int .u32 (x2 : Nat)) w := fun _ => by kernel_rfl
  have i3 : ∀ w, (Instr.index 60 (.agg #[.int .u32 (x0 : Nat), .int .u32 (x1 : Nat), .int .u32 (x2 : Nat), .int .u32 (x3 : Nat)]) (.int .i64 3)).run Ybaf.prog w = .ok (.int .u32 (x3 : Nat)) w := fun _ => by kernel_rfl
  clear hc hcL
  have E0 := hide e0
  have E1 := hide e1
  have E2 := hide e2
  have E3 := hide e3
  clear e0 e1 e2 e3
  obtain ⟨w5, hw5⟩ : ∃ w5, w5 = ((((w.alloc (.cells #[.int .u32 (x0 : Nat), .int .u32 (x1 : Nat)] 32)).alloc (.cells #[.int .u32 (x2 : Nat), .int .u32 (x3 : Nat)] 32)).alloc (.cells #[.int .u32 0, .int .u32 0] 32)).alloc (.cells #[.int .u32 0, .int .u32 0, .int .u32 0, .int .u32 0] 60)).alloc (.cells #[.int .u32 0, .int .u32 0, .int .u32 0, .int .u32 0] 60) := ⟨_, rfl⟩
  have HW5 := hide hw5
  have R5 : RowAt w5 rb v st := by rw [hw5]; exact ((((h.alloc _).alloc _).alloc _).alloc _).alloc _
  have F5 : Fr rb v v w w5 := by rw [hw5]; exact (((((Fr.refl _ _ _).alloc _).alloc _).alloc _).alloc _).alloc _
  have LR : Loc w5 rb v (w.heap.size + 1 + 1) (wordO 0 0) := by
    rw [hw5]
    have := Loc.new ((h.alloc (.cells #[.int .u32 (x0 : Nat), .int .u32 (x1 : Nat)] 32)).alloc (.cells #[.int .u32 (x2 : Nat), .int .u32 (x3 : Nat)] 32)) (wordO 0 0)
    rw [World.size_alloc, World.size_alloc] at this
    exact (this.alloc _).alloc _
  have LH : Loc w5 rb v (w.heap.size + 1 + 1 + 1) (.cells (quad h0 h1 h2 h3 0) 60 (0, 0)) := by
    rw [hw5]
    have := Loc.new (((h.alloc (.cells #[.int .u32 (x0 : Nat), .int .u32 (x1 : Nat)] 32)).alloc (.cells #[.int .u32 (x2 : Nat), .int .u32 (x3 : Nat)] 32)).alloc (wordO 0 0)) (.cells #[.int .u32 0, .int .u32 0, .int .u32 0, .int .u32 0] 60)
    rw [World.size_alloc, World.size_alloc, World.size_alloc] at this
    exact this.alloc _
  have LL : Loc w5 rb v (w.heap.size + 1 + 1 + 1 + 1) (.cells (quad l0 l1 l2 l3 0) 60 (0, 0)) := by
    rw [hw5]
    have := Loc.new ((((h.alloc (.cells #[.int .u32 (x0 : Nat), .int .u32 (x1 : Nat)] 32)).alloc (.cells #[.int .u32 (x2 : Nat), .int .u32 (x3 : Nat)] 32)).alloc (wordO 0 0)).alloc (.cells #[.int .u32 0, .int .u32 0, .int .u32 0, .int .u32 0] 60)) (.cells #[.int .u32 0, .int .u32 0, .int .u32 0, .int .u32 0] 60)
    rw [World.size_alloc, World.size_alloc, World.size_alloc, World.size_alloc] at this
    exact this
  clear hw5 h
  go_enter Ybaf.func16, Ybaf.ntmps16
  go_wp2_with fail
  rw [← HW5.out]
  clear HW5
  go_loopw [30] (fun iv wr => ∃ (k : Nat) (v' : Value), k ≤ 4 ∧ iv = .int .i64 k ∧ RowAt wr rb v' (st.emit ([h0, h1, h2, h3].take k) 0) ∧ Fr rb v v' w wr ∧ Loc wr rb v' (w.heap.size + 1 + 1) (wordO 0 0) ∧
      Loc wr rb v' (w.heap.size + 1 + 1 + 1) (.cells (quad h0 h1 h2 h3 k) 60 (0, 0)) ∧ Loc wr rb v' (w.heap.size + 1 + 1 + 1 + 1) (.cells (quad l0 l1 l2 l3 k) 60 (0, 0))) (fun iv _ => 4 - (intOf iv).toNat)
  case atStart => exact ⟨0, v, by omega, rfl, R5.cast (RSt.emit_nil st).symm, F5, LR, LH, LL⟩
  case round =>
    obtain ⟨k, v', hk, rfl, R, F, L1, L2, L3⟩ := hrel
    have HF := hide F
    have HL1 := hide L1
    have HL2 := hide L2
    have HL3 := hide L3
    have HR := hide R
    clear R5 F5 LR LH LL R F L1 L2 L3
    rcases (show k = 0 ∨ k = 1 ∨ k = 2 ∨ k = 3 ∨ k = 4 from by omega) with hk' | hk' | hk' | hk' | hk'
    · subst hk'
      have hcj : (st.emit ([h0, h1, h2, h3].take 0) 0).can [h0] 0 := can_nth HCL.out 0 (by rfl)
      have HCJ := hide hcj
      clear hcj
      go_wp2_with fail
      refine (cell_any rb v' _ h0 wr HR.out HCJ.out).mono ?_
      rintro e w1 ⟨rfl, v1, R1, F1⟩
      have HR1 := hide R1
      have HF1 := hide F1
      have M1 := HL1.out.fr F1
      have M2 := HL2.out.fr F1
      have M3 := HL3.out.fr F1
      have k2 := M2.there (i := 0) rfl
      have k3 := M3.there (i := 0) rfl
      have HM1 := hide M1
      have HM2 := hide M2
      have HM3 := hide M3
      clear R1 F1 M1 M2 M3
      obtain ⟨kc2, kf2⟩ := k2
      obtain ⟨kc3, kf3⟩ := k3
      go_wp2_with fail
      refine (emulI _ _ h0 128 _ rfl rfl (by omega) (by omega)).mono ?_
      rw [red_small (by omega)]
      rintro e w' ⟨rfl, rfl⟩
      go_wp2_with fail
      refine (esubI _ _ x0 (h0 * 128) _ rfl (by omega) (by have := E0.out; omega) (by omega)).mono ?_
      rw [subM_le (by have := E0.out; omega), show x0 - h0 * 128 = l0 from by have := E0.out; omega]
      rintro e w' ⟨rfl, rfl⟩
      go_wp2_with fail
      go_roundw
      case rel =>
        refine ⟨1, v1, by omega, rfl, ?_, ?_, ?_, ?_, ?_⟩
        · exact ((HR1.out.setOther HM2.out.ne HM2.out.own _).setOther HM3.out.ne HM3.out.own _).cast (by rw [RSt.emit_emit]; rfl)
        · exact ((HF.out.trans HF1.out).setNew (p := ⟨w.heap.size + 1 + 1 + 1, 0, none⟩) (by simp only; omega) _).setNew (p := ⟨w.heap.size + 1 + 1 + 1 + 1, 0, none⟩) (by simp only; omega) _
        · exact (HM1.out.setOther (by omega) _).setOther (by omega) _
        · exact (HM2.out.set _).setOther (by omega) _
        · exact (HM3.out.setOther (by omega) _).set _
      case measure => simp [intOf]
    · subst hk'
      have hcj : (st.emit ([h0, h1, h2, h3].take 1) 0).can [h1] 0 := can_nth HCL.out 1 (by rfl)
      have HCJ := hide hcj
      clear hcj
      go_wp2_with fail
      refine (cell_any rb v' _ h1 wr HR.out HCJ.out).mono ?_
      rintro e w1 ⟨rfl, v1, R1, F1⟩
      have HR1 := hide R1
      have HF1 := hide F1
      have M1 := HL1.out.fr F1
      have M2 := HL2.out.fr F1
      have M3 := HL3.out.fr F1
      have k2 := M2.there (i := 1) rfl
      have k3 := M3.there (i := 1) rfl
      have HM1 := hide M1
      have HM2 := hide M2
      have HM3 := hide M3
      clear R1 F1 M1 M2 M3
      obtain ⟨kc2, kf2⟩ := k2
      obtain ⟨kc3, kf3⟩ := k3
      go_wp2_with fail
      refine (emulI _ _ h1 128 _ rfl rfl (by omega) (by omega)).mono ?_
      rw [red_small (by omega)]
      rintro e w' ⟨rfl, rfl⟩
      go_wp2_with fail
      refine (esubI _ _ x1 (h1 * 128) _ rfl (by omega) (by have := E1.out; omega) (by omega)).mono ?_
      rw [subM_le (by have := E1.out; omega), show x1 - h1 * 128 = l1 from by have := E1.out; omega]
      rintro e w' ⟨rfl, rfl⟩
      go_wp2_with fail
      go_roundw
      case rel =>
        refine ⟨2, v1, by omega, rfl, ?_, ?_, ?_, ?_, ?_⟩
        · exact ((HR1.out.setOther HM2.out.ne HM2.out.own _).setOther HM3.out.ne HM3.out.own _).cast (by rw [RSt.emit_emit]; rfl)
        · exact ((HF.out.trans HF1.out).setNew (p := ⟨w.heap.size + 1 + 1 + 1, 1, none⟩) (by simp only; omega) _).setNew (p := ⟨w.heap.size + 1 + 1 + 1 + 1, 1, none⟩) (by simp only; omega) _
        · exact (HM1.out.setOther (by omega) _).setOther (by omega) _
        · exact (HM2.out.set _).setOther (by omega) _
        · exact (HM3.out.setOther (by omega) _).set _
      case measure => simp [intOf]
    · subst hk'
      have hcj : (st.emit ([h0, h1, h2, h3].take 2) 0).can [h2] 0 := can_nth HCL.out 2 (by rfl)
      have HCJ := hide hcj
      clear hcj
      go_wp2_with fail
      refine (cell_any rb v' _ h2 wr HR.out HCJ.out).mono ?_
      rintro e w1 ⟨rfl, v1, R1, F1⟩
      have HR1 := hide R1
      have HF1 := hide F1
      have M1 := HL1.out.fr F1
      have M2 := HL2.out.fr F1
      have M3 := HL3.out.fr F1
      have k2 := M2.there (i := 2) rfl
      have k3 := M3.there (i := 2) rfl
      have HM1 := hide M1
      have HM2 := hide M2
      have HM3 := hide M3
      clear R1 F1 M1 M2 M3
      obtain ⟨kc2, kf2⟩ := k2
      obtain ⟨kc3, kf3⟩ := k3
      go_wp2_with fail
      refine (emulI _ _ h2 128 _ rfl rfl (by omega) (by omega)).mono ?_
      rw [red_small (by omega)]
      rintro e w' ⟨rfl, rfl⟩
      go_wp2_with fail
      refine (esubI _ _ x2 (h2 * 128) _ rfl (by omega) (by have := E2.out; omega) (by omega)).mono ?_
      rw [subM_le (by have := E2.out; omega), show x2 - h2 * 128 = l2 from by have := E2.out; omega]
      rintro e w' ⟨rfl, rfl⟩
      go_wp2_with fail
      go_roundw
      case rel =>
        refine ⟨3, v1, by omega, rfl, ?_, ?_, ?_, ?_, ?_⟩
        · exact ((HR1.out.setOther HM2.out.ne HM2.out.own _).setOther HM3.out.ne HM3.out.own _).cast (by rw [RSt.emit_emit]; rfl)
        · exact ((HF.out.trans HF1.out).setNew (p := ⟨w.heap.size + 1 + 1 + 1, 2, none⟩) (by simp only; omega) _).setNew (p := ⟨w.heap.size + 1 + 1 + 1 + 1, 2, none⟩) (by simp only; omega) _
        · exact (HM1.out.setOther (by omega) _).setOther (by omega) _
        · exact (HM2.out.set _).setOther (by omega) _
        · exact (HM3.out.setOther (by omega) _).set _
      case measure => simp [intOf]
    · subst hk'
      have hcj : (st.emit ([h0, h1, h2, h3].take 3) 0).can [h3] 0 := can_nth HCL.out 3 (by rfl)
      have HCJ := hide hcj
      clear hcj
      go_wp2_with fail
      refine (cell_any rb v' _ h3 wr HR.out HCJ.out).mono ?_
      rintro e w1 ⟨rfl, v1, R1, F1⟩
      have HR1 := hide R1
      have HF1 := hide F1
      have M1 := HL1.out.fr F1
      have M2 := HL2.out.fr F1
      have M3 := HL3.out.fr F1
      have k2 := M2.there (i := 3) rfl
      have k3 := M3.there (i := 3) rfl
      have HM1 := hide M1
      have HM2 := hide M2
      have HM3 := hide M3
      clear R1 F1 M1 M2 M3
      obtain ⟨kc2, kf2⟩ := k2
      obtain ⟨kc3, kf3⟩ := k3
      go_wp2_with fail
      refine (emulI _ _ h3 128 _ rfl rfl (by omega) (by omega)).mono ?_
      rw [red_small (by omega)]
      rintro e w' ⟨rfl, rfl⟩
      go_wp2_with fail
      refine (esubI _ _ x3 (h3 * 128) _ rfl (by omega) (by have := E3.out; omega) (by omega)).mono ?_
      rw [subM_le (by have := E3.out; omega), show x3 - h3 * 128 = l3 from by have := E3.out; omega]
      rintro e w' ⟨rfl, rfl⟩
      go_wp2_with fail
      go_roundw
      case rel =>
        refine ⟨4, v1, by omega, rfl, ?_, ?_, ?_, ?_, ?_⟩
        · exact ((HR1.out.setOther HM2.out.ne HM2.out.own _).setOther HM3.out.ne HM3.out.own _).cast (by rw [RSt.emit_emit]; rfl)
        · exact ((HF.out.trans HF1.out).setNew (p := ⟨w.heap.size + 1 + 1 + 1, 3, none⟩) (by simp only; omega) _).setNew (p := ⟨w.heap.size + 1 + 1 + 1 + 1, 3, none⟩) (by simp only; omega) _
        · exact (HM1.out.setOther (by omega) _).setOther (by omega) _
        · exact (HM2.out.set _).setOther (by omega) _
        · exact (HM3.out.setOther (by omega) _).set _
      case measure => simp [intOf]
    · subst hk'
      obtain ⟨kh0, fh0⟩ := HL2.out.there (i := 0) rfl
      obtain ⟨kl0, fl0⟩ := HL3.out.there (i := 0) rfl
      obtain ⟨kh1, fh1⟩ := HL2.out.there (i := 1) rfl
      obtain ⟨kl1, fl1⟩ := HL3.out.there (i := 1) rfl
      obtain ⟨kh2, fh2⟩ := HL2.out.there (i := 2) rfl
      obtain ⟨kl2, fl2⟩ := HL3.out.there (i := 2) rfl
      obtain ⟨kh3, fh3⟩ := HL2.out.there (i := 3) rfl
      obtain ⟨kl3, fl3⟩ := HL3.out.there (i := 3) rfl
      simp only [quad, show (0:Nat) < 4 by decide, show (1:Nat) < 4 by decide, show (2:Nat) < 4 by decide, show (3:Nat) < 4 by decide, if_true] at kh0 kh1 kh2 kh3 kl0 kl1 kl2 kl3
      have HC1 := hide (RSt.can_left (e1 := [l0 ^^^ l2]) (e2 := [h0 ^^^ h2] ++ [l1 ^^^ l3] ++ [h1 ^^^ h3]) (k1 := 1) (k2 := 3) HCR.out)
      have HD1 := hide (RSt.can_right (e1 := [l0 ^^^ l2]) (e2 := [h0 ^^^ h2] ++ ([l1 ^^^ l3] ++ [h1 ^^^ h3])) (k1 := 1) (k2 := 3) HCR.out)
      have HC2 := hide (RSt.can_left (e1 := [h0 ^^^ h2]) (e2 := [l1 ^^^ l3] ++ [h1 ^^^ h3]) (k1 := 1) (k2 := 2) HD1.out)
      have HD2 := hide (RSt.can_right (e1 := [h0 ^^^ h2]) (e2 := [l1 ^^^ l3] ++ [h1 ^^^ h3]) (k1 := 1) (k2 := 2) HD1.out)
      have HC3 := hide (RSt.can_left (e1 := [l1 ^^^ l3]) (e2 := [h1 ^^^ h3]) (k1 := 1) (k2 := 1) HD2.out)
      have HC4 := hide (RSt.can_right (e1 := [l1 ^^^ l3]) (e2 := [h1 ^^^ h3]) (k1 := 1) (k2 := 1) HD2.out)
      clear E0 E1 E2 E3 a0 a1 a2 a3 i0 i1 i2 i3 HCL HCR HD1 HD2
      go_wp2_with fail
      refine (xor_any rb v' _ l0 l2 7 _ _ _ _ HR.out rfl rfl rfl (by decide) (show l0 < 128 by omega) (show l2 < 128 by omega) HC1.out).mono ?_
      rintro e w1 ⟨rfl, v1, R1, F1⟩
      have HR1 := hide R1
      have HF1 := hide F1
      have HL11 := hide (HL1.out.fr F1)
      have HL21 := hide (HL2.out.fr F1)
      have HL31 := hide (HL3.out.fr F1)
      clear R1 F1
      clear kh0 kh1 kh2 kh3 kl0 kl1 kl2 kl3 fh0 fh1 fh2 fh3 fl0 fl1 fl2 fl3
      obtain ⟨kh0, fh0⟩ := HL21.out.there (i := 0) rfl
      obtain ⟨kl0, fl0⟩ := HL31.out.there (i := 0) rfl
      obtain ⟨kh1, fh1⟩ := HL21.out.there (i := 1) rfl
      obtain ⟨kl1, fl1⟩ := HL31.out.there (i := 1) rfl
      obtain ⟨kh2, fh2⟩ := HL21.out.there (i := 2) rfl
      obtain ⟨kl2, fl2⟩ := HL31.out.there (i := 2) rfl
      obtain ⟨kh3, fh3⟩ := HL21.out.there (i := 3) rfl
      obtain ⟨kl3, fl3⟩ := HL31.out.there (i := 3) rfl
      simp only [quad, show (0:Nat) < 4 by decide, show (1:Nat) < 4 by decide, show (2:Nat) < 4 by decide, show (3:Nat) < 4 by decide, if_true] at kh0 kh1 kh2 kh3 kl0 kl1 kl2 kl3
      go_wp2_with fail
      refine (xor_any rb v1 _ h0 h2 9 _ _ _ _ HR1.out rfl rfl rfl (by decide) (show h0 < 512 by omega) (show h2 < 512 by omega) HC2.out).mono ?_
      rintro e w2 ⟨rfl, v2, R2, F2⟩
      have HR2 := hide R2
      have HF2 := hide F2
      have HL12 := hide (HL11.out.fr F2)
      have HL22 := hide (HL21.out.fr F2)
      have HL32 := hide (HL31.out.fr F2)
      clear R2 F2
      clear kh0 kh1 kh2 kh3 kl0 kl1 kl2 kl3 fh0 fh1 fh2 fh3 fl0 fl1 fl2 fl3
      obtain ⟨kh0, fh0⟩ := HL22.out.there (i := 0) rfl
      obtain ⟨kl0, fl0⟩ := HL32.out.there (i := 0) rfl
      obtain ⟨kh1, fh1⟩ := HL22.out.there (i := 1) rfl
      obtain ⟨kl1, fl1⟩ := HL32.out.there (i := 1) rfl
      obtain ⟨kh2, fh2⟩ := HL22.out.there (i := 2) rfl
      obtain ⟨kl2, fl2⟩ := HL32.out.there (i := 2) rfl
      obtain ⟨kh3, fh3⟩ := HL22.out.there (i := 3) rfl
      obtain ⟨kl3, fl3⟩ := HL32.out.there (i := 3) rfl
      simp only [quad, show (0:Nat) < 4 by decide, show (1:Nat) < 4 by decide, show (2:Nat) < 4 by decide, show (3:Nat) < 4 by decide, if_true] at kh0 kh1 kh2 kh3 kl0 kl1 kl2 kl3
      go_wp2_with fail
      refine (xor_any rb v2 _ l1 l3 7 _ _ _ _ HR2.out rfl rfl rfl (by decide) (show l1 < 128 by omega) (show l3 < 128 by omega) HC3.out).mono ?_
      rintro e w3 ⟨rfl, v3, R3, F3⟩
      have HR3 := hide R3
      have HF3 := hide F3
      have HL13 := hide (HL12.out.fr F3)
      have HL23 := hide (HL22.out.fr F3)
      have HL33 := hide (HL32.out.fr F3)
      clear R3 F3
      clear kh0 kh1 kh2 kh3 kl0 kl1 kl2 kl3 fh0 fh1 fh2 fh3 fl0 fl1 fl2 fl3
      obtain ⟨kh0, fh0⟩ := HL23.out.there (i := 0) rfl
      obtain ⟨kl0, fl0⟩ := HL33.out.there (i := 0) rfl
      obtain ⟨kh1, fh1⟩ := HL23.out.there (i := 1) rfl
      obtain ⟨kl1, fl1⟩ := HL33.out.there (i := 1) rfl
      obtain ⟨kh2, fh2⟩ := HL23.out.there (i := 2) rfl
      obtain ⟨kl2, fl2⟩ := HL33.out.there (i := 2) rfl
      obtain ⟨kh3, fh3⟩ := HL23.out.there (i := 3) rfl
      obtain ⟨kl3, fl3⟩ := HL33.out.there (i := 3) rfl
      simp only [quad, show (0:Nat) < 4 by decide, show (1:Nat) < 4 by decide, show (2:Nat) < 4 by decide, show (3:Nat) < 4 by decide, if_true] at kh0 kh1 kh2 kh3 kl0 kl1 kl2 kl3
      go_wp2_with fail
      refine (xor_any rb v3 _ h1 h3 9 _ _ _ _ HR3.out rfl rfl rfl (by decide) (show h1 < 512 by omega) (show h3 < 512 by omega) HC4.out).mono ?_
      rintro e w4 ⟨rfl, v4, R4, F4⟩
      have HR4 := hide R4
      have HF4 := hide F4
      have HL14 := hide (HL13.out.fr F4)
      have HL24 := hide (HL23.out.fr F4)
      have HL34 := hide (HL33.out.fr F4)
      clear R4 F4
      simp only [Nat.reducePow] at X0 X1 Y0 Y1
      have k0 : w4.cell? ⟨w.heap.size + 1 + 1, 0, none⟩ = some (.int .u32 0) := cell_of_cells HL14.out.blk rfl
      have k1 : w4.cell? ⟨w.heap.size + 1 + 1, 1, none⟩ = some (.int .u32 0) := cell_of_cells HL14.out.blk rfl
      have j0 := free_of_cells (i := 0) HL14.out.blk
      have j1 := free_of_cells (i := 1) HL14.out.blk
      clear bh0 bh1 bh2 bh3 bl0 bl1 bl2 bl3 kh0 kh1 kh2 kh3 kl0 kl1 kl2 kl3 fh0 fh1 fh2 fh3 fl0 fl1 fl2 fl3
      obtain ⟨A, hA⟩ : ∃ A, A = l1 ^^^ l3 := ⟨_, rfl⟩
      obtain ⟨B, hB⟩ : ∃ B, B = h0 ^^^ h2 := ⟨_, rfl⟩
      obtain ⟨C, hC⟩ : ∃ C, C = l0 ^^^ l2 := ⟨_, rfl⟩
      obtain ⟨D, hD⟩ : ∃ D, D = h1 ^^^ h3 := ⟨_, rfl⟩
      have hAb : A < 128 := by omega
      have hBb : B < 512 := by omega
      have hCb : C < 128 := by omega
      have hDb : D < 512 := by omega
      simp only [← hA, ← hB, ← hC, ← hD]
      have HA := hide hA
      have HB := hide hB
      have HCC := hide hC
      have HD := hide hD
      clear X0 X1 Y0 Y1 hA hB hC hD
      go_wp2_with fail
      refine (emulI _ _ A 512 _ rfl rfl (by omega) (by omega)).mono ?_
      rw [red_small (by omega)]
      rintro e w' ⟨rfl, rfl⟩
      go_wp2_with fail
      refine (eaddI _ _ (A * 512) B _ rfl rfl (by omega)).mono ?_
      rintro e w' ⟨rfl, rfl⟩
      go_wp2_with fail
      refine (emulI _ _ C 512 _ rfl rfl (by omega) (by omega)).mono ?_
      rw [red_small (by omega)]
      rintro e w' ⟨rfl, rfl⟩
      go_wp2_with fail
      refine (eaddI _ _ (C * 512) D _ rfl rfl (by omega)).mono ?_
      rintro e w' ⟨rfl, rfl⟩
      go_wp2
      have LL' := (HL14.out.set (i := 0) (.int .u32 ((A : Int) * 512 + (B : Int)))).set (i := 1) (.int .u32 ((C : Int) * 512 + (D : Int)))
      have m0 : ((w4.setCell ⟨w.heap.size + 1 + 1, 0, none⟩ (.int .u32 ((A : Int) * 512 + (B : Int)))).setCell ⟨w.heap.size + 1 + 1, 1, none⟩ (.int .u32 ((C : Int) * 512 + (D : Int)))).cell? ⟨w.heap.size + 1 + 1, 0, none⟩ = some (.int .u32 ((A : Int) * 512 + (B : Int))) := cell_of_cells LL'.blk rfl
      have m1 : ((w4.setCell ⟨w.heap.size + 1 + 1, 0, none⟩ (.int .u32 ((A : Int) * 512 + (B : Int)))).setCell ⟨w.heap.size + 1 + 1, 1, none⟩ (.int .u32 ((C : Int) * 512 + (D : Int)))).cell? ⟨w.heap.size + 1 + 1, 1, none⟩ = some (.int .u32 ((C : Int) * 512 + (D : Int))) := cell_of_cells LL'.blk rfl
      have RR := (HR4.out.setOther (i := 0) HL14.out.ne HL14.out.own (.int .u32 ((A : Int) * 512 + (B : Int)))).setOther (i := 1) HL14.out.ne HL14.out.own (.int .u32 ((C : Int) * 512 + (D : Int)))
      have FF := (((HF.out.trans HF1.out).trans HF2.out).trans HF3.out).trans HF4.out
      have FF' := (FF.setNew (p := ⟨w.heap.size + 1 + 1, 0, none⟩) (by simp only; omega) (.int .u32 ((A : Int) * 512 + (B : Int)))).setNew (p := ⟨w.heap.size + 1 + 1, 1, none⟩) (by simp only; omega) (.int .u32 ((C : Int) * 512 + (D : Int)))
      rw [RSt.emit_emit, RSt.emit_emit, RSt.emit_emit, RSt.emit_emit] at RR
      refine bodyPost_ret (v := .agg #[.int .u32 ((A : Int) * 512 + (B : Int)), .int .u32 ((C : Int) * 512 + (D : Int))]) (by simp [results, Ybaf.results16, go_sem, m0, m1]) rfl ⟨?_, v4, RR.cast rfl, FF'⟩
      rw [← HA.out, ← HB.out, ← HCC.out, ← HD.out]
      simp [wordV]

/-- a word's two halves -/
abbrev wd (a : Nat) : Value := wordV (a / 65536) (a % 65536)

theorem xw16 (rb : Nat) (v : Value) (st : RSt) (a b : Nat) (w : World) (h : RowAt w rb v st) (ha : a < 4294967296) (hb : b < 4294967296) (hc : st.can (emXor a b 8) 4) :
    Calls Ybaf.prog 16 #[.pointer (some ⟨rb, 0, none⟩), wd a, wd b, .int .u64 16] w fun e w' => e = .returned (wd (rotr (a ^^^ b) 16)) ∧ ∃ v', RowAt w' rb v' (st.emit (emXor a b 8) 4) ∧ Fr rb v v' w w' := by
  have := xr16 rb v st (a / 65536) (a % 65536) (b / 65536) (b % 65536) (a / 65536 / 256) (a % 65536 / 256) (b / 65536 / 256) (b % 65536 / 256) (a / 65536 % 256) (a % 65536 % 256) (b / 65536 % 256) (b % 65536 % 256) w h
    (by omega) (by omega) (by omega) (by omega) (by omega) (by omega) (by omega) (by omega) (by omega) (by omega) (by omega) (by omega) hc
  have e := rot16 a b ha hb
  simp only [Nat.reducePow] at e
  unfold wd
  rw [e.1, e.2]
  exact this

theorem xw12 (rb : Nat) (v : Value) (st : RSt) (a b : Nat) (w : World) (h : RowAt w rb v st) (ha : a < 4294967296) (hb : b < 4294967296) (hc : st.can (emXor a b 12) 4) :
    Calls Ybaf.prog 16 #[.pointer (some ⟨rb, 0, none⟩), wd a, wd b, .int .u64 12] w fun e w' => e = .returned (wd (rotr (a ^^^ b) 12)) ∧ ∃ v', RowAt w' rb v' (st.emit (emXor a b 12) 4) ∧ Fr rb v v' w w' := by
  have := xr12 rb v st (a / 65536) (a % 65536) (b / 65536) (b % 65536) (a / 65536 / 4096) (a % 65536 / 4096) (b / 65536 / 4096) (b % 65536 / 4096) (a / 65536 % 4096) (a % 65536 % 4096) (b / 65536 % 4096) (b % 65536 % 4096) w h
    (by omega) (by omega) (by omega) (by omega) (by omega) (by omega) (by omega) (by omega) (by omega) (by omega) (by omega) (by omega) hc
  have e := rotK a b 12 (by decide) ha hb
  simp only [Nat.reducePow, Nat.reduceSub] at e
  unfold wd
  rw [e.1, e.2]
  exact this

theorem xw8 (rb : Nat) (v : Value) (st : RSt) (a b : Nat) (w : World) (h : RowAt w rb v st) (ha : a < 4294967296) (hb : b < 4294967296) (hc : st.can (emXor a b 8) 4) :
    Calls Ybaf.prog 16 #[.pointer (some ⟨rb, 0, none⟩), wd a, wd b, .int .u64 8] w fun e w' => e = .returned (wd (rotr (a ^^^ b) 8)) ∧ ∃ v', RowAt w' rb v' (st.emit (emXor a b 8) 4) ∧ Fr rb v v' w w' := by
  have := xr8 rb v st (a / 65536) (a % 65536) (b / 65536) (b % 65536) (a / 65536 / 256) (a % 65536 / 256) (b / 65536 / 256) (b % 65536 / 256) (a / 65536 % 256) (a % 65536 % 256) (b / 65536 % 256) (b % 65536 % 256) w h
    (by omega) (by omega) (by omega) (by omega) (by omega) (by omega) (by omega) (by omega) (by omega) (by omega) (by omega) (by omega) hc
  have e := rotK a b 8 (by decide) ha hb
  simp only [Nat.reducePow, Nat.reduceSub] at e
  unfold wd
  rw [e.1, e.2]
  exact this

theorem xw7 (rb : Nat) (v : Value) (st : RSt) (a b : Nat) (w : World) (h : RowAt w rb v st) (ha : a < 4294967296) (hb : b < 4294967296) (hc : st.can (emXor a b 7) 4) :
    Calls Ybaf.prog 16 #[.pointer (some ⟨rb, 0, none⟩), wd a, wd b, .int .u64 7] w fun e w' => e = .returned (wd (rotr (a ^^^ b) 7)) ∧ ∃ v', RowAt w' rb v' (st.emit (emXor a b 7) 4) ∧ Fr rb v v' w w' := by
  have := xr7 rb v st (a / 65536) (a % 65536) (b / 65536) (b % 65536) (a / 65536 / 128) (a % 65536 / 128) (b / 65536 / 128) (b % 65536 / 128) (a / 65536 % 128) (a % 65536 % 128) (b / 65536 % 128) (b % 65536 % 128) w h
    (by omega) (by omega) (by omega) (by omega) (by omega) (by omega) (by omega) (by omega) (by omega) (by omega) (by omega) (by omega) hc
  have e := rotK a b 7 (by decide) ha hb
  simp only [Nat.reducePow, Nat.reduceSub] at e
  unfold wd
  rw [e.1, e.2]
  exact this

end Go.Proofs.YbulkchdaFmt
