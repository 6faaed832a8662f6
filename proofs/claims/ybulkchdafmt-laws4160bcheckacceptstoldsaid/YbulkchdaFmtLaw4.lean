/- LawS4160BCheckAccepts, walked. -/
import Derived.Test.YbulkchdaFmtSteps
import Derived.OwnWalk
import Derived.Laws.CopyOwn
namespace Go.Proofs.YbulkchdaFmt
open Go.RowKit Bits

/-- two new arrays of words, filled -/
theorem LAt.two {w0 w : World} {rb : Nat} {v : Value} {st : RSt} {I M : Nat → Nat} (h : LAt w0 w rb v st I M) (hb : w0.heap.size + 1 < w.heap.size) (X Y : Nat → Nat) :
    LAt w0 ((((w.alloc (wO fun _ => 0)).alloc (wO fun _ => 0)).setRow w.heap.size (wcells X)).setRow (w.heap.size + 1) (wcells Y)) rb v st I M ∧
      Loc ((((w.alloc (wO fun _ => 0)).alloc (wO fun _ => 0)).setRow w.heap.size (wcells X)).setRow (w.heap.size + 1) (wcells Y)) rb v w.heap.size (wO X) ∧
      Loc ((((w.alloc (wO fun _ => 0)).alloc (wO fun _ => 0)).setRow w.heap.size (wcells X)).setRow (w.heap.size + 1) (wcells Y)) rb v (w.heap.size + 1) (wO Y) ∧
      (((w.alloc (wO fun _ => 0)).alloc (wO fun _ => 0)).setRow w.heap.size (wcells X)).heap[w.heap.size + 1]? = some (wO fun _ => 0) := by
  have a0 : Loc ((w.alloc (wO fun _ => 0)).alloc (wO fun _ => 0)) rb v w.heap.size (wO fun _ => 0) := (Loc.new h.row _).alloc _
  have a1 : Loc ((w.alloc (wO fun _ => 0)).alloc (wO fun _ => 0)) rb v (w.heap.size + 1) (wO fun _ => 0) := Loc.newAt (h.row.alloc _) (by simp) _
  have b1 := a1.setRowOther (g := w.heap.size) (by omega) (wcells X)
  have b0 : Loc (((w.alloc (wO fun _ => 0)).alloc (wO fun _ => 0)).setRow w.heap.size (wcells X)) rb v w.heap.size (wO X) := a0.setRow
  have l1 := ((h.alloc (wO fun _ => 0)).alloc (wO fun _ => 0)).setRow a0 hb (wcells X)
  exact ⟨l1.setRow b1 (by omega) _, b0.setRowOther (by omega) _, b1.setRow, b1.blk⟩

theorem RowAt.parts {w : World} {rb : Nat} {v : Value} {st : RSt} (h : RowAt w rb v st) (hn : 0 < st.xs.length) :
    ∃ g cap, v = .slice (some ⟨g, 0, none⟩) st.xs.length cap ∧ g ≠ rb ∧ ∀ j u, (u32s st.xs)[j]? = some u → w.cell? ((⟨g, 0, none⟩ : Addr).add j) = some u := by
  have hc := h.own
  have hne := h.ne
  rcases h.own.2 with ⟨_, h0⟩ | ⟨g, cap, cur, rfl, _⟩
  · omega
  · exact ⟨g, cap, rfl, fun e => hne (by rw [e]; rfl), hc.cells rfl⟩

set_option maxHeartbeats 4000000 in
set_option maxRecDepth 100000 in
theorem law4 (I M : Nat → Nat) (hI : ∀ i, I i < 4294967296) (hM : ∀ i, M i < 4294967296) (w : World) (hg : w.rangeAt 0 0 gl) :
    Calls Ybaf.prog 4 #[.agg (ncells I), .agg (ncells M)] w fun e w' => e = .returned (.bool true) ∧ Below w.heap.size w w' := by
  obtain ⟨X, hX⟩ : ∃ X, X = RX I M := ⟨_, rfl⟩
  have hXl : ∀ i, X i < 4294967296 := by rw [hX]; exact RX_lt hI M
  have hR1 : ∀ (rb : Nat) (v : Value) (W : World), RowAt W rb v (sD I M) → W.rangeAt 0 0 gl → Calls Ybaf.prog 5 #[.pointer (some ⟨rb, 0, none⟩), .agg (wcells I), .agg (wcells M)] W fun e w' => e = .returned (.agg (wcells X)) ∧ ∃ v', RowAt w' rb v' (sE I M) ∧ Fr rb v v' W w' := by
    intro rb v W r g; rw [hX]; exact round1 I M rb v W r hI hM g
  have hR2 : ∀ (rb : Nat) (v : Value) (W : World), RowAt W rb v (sH I M) → W.rangeAt 0 0 gl → Calls Ybaf.prog 5 #[.pointer (some ⟨rb, 0, none⟩), .agg (wcells I), .agg (wcells M)] W fun e w' => e = .returned (.agg (wcells X)) ∧ ∃ v', RowAt w' rb v' (sI I M) ∧ Fr rb v v' W w' := by
    intro rb v W r g; rw [hX]; exact round2 I M rb v W r hI hM g
  have hZZ : ∀ W : World, Calls Ybaf.prog 7 #[.agg (ncells I), .agg (ncells M)] W fun e w' => e = .returned (.agg (ncells X)) ∧ Below W.heap.size W w' := by
    intro W; rw [hX]; exact zz1 I M W hI hM
  have HRA := hide hR1
  have HRB := hide hR2
  have HZX := hide hZZ
  clear hX hR1 hR2 hZZ
  obtain ⟨w3, hw3⟩ : ∃ w3, w3 = ((w.alloc (nO I)).alloc (nO M)).alloc (rowObj (.slice none 0 0) st0) := ⟨_, rfl⟩
  have R3 : RowAt w3 (w.heap.size + 1 + 1) (.slice none 0 0) st0 := by
    rw [hw3]
    exact ⟨blk_new (by simp only [World.size_alloc]) _, World.ownsRow_nil _ _ _ _, by simp [Value.ownBlock], by simp [st0], by simp [st0], by simp [st0], by simp [st0]⟩
  have L3 : LAt w w3 (w.heap.size + 1 + 1) (.slice none 0 0) st0 I M := by
    refine ⟨R3, ⟨?_, by omega, by simp [Value.ownBlock]⟩, ⟨?_, by omega, by simp [Value.ownBlock]⟩, ?_, by omega, by simp [Value.ownBlock]⟩
    · rw [hw3]; exact blk_old (blk_old (blk_new rfl _) _) _
    · rw [hw3]; exact blk_old (blk_new (by simp only [World.size_alloc]) _) _
    · rw [hw3]; exact (((Below.refl _ _).alloc (Nat.le_refl _) _).alloc (by simp only [World.size_alloc]; omega) _).alloc (by simp only [World.size_alloc]; omega) _
  have hw3' : w3 = ((w.alloc (.cells (ncells I) 23)).alloc (.cells (ncells M) 23)).alloc (.cells #[.slice none 0 0, .int .i64 0, .bool true, .int .i64 0, .int .i64 0, .nilIface] 29) := hw3
  have HW := hide hw3'
  have HA3 := hide (show (((w.alloc (.cells (ncells I) 23)).alloc (.cells (ncells M) 23)).alloc (.cells #[.slice none 0 0, .int .i64 0, .bool true, .int .i64 0, .int .i64 0, .nilIface] 29)).heap[w.heap.size]? = some (.cells (ncells I) 23 (0, 0)) from hw3' ▸ L3.A.blk)
  have HL3 := hide L3
  clear hw3 hw3' R3 L3
  go_enter Ybaf.func4, Ybaf.ntmps4
  go_wp2_with (refine wpList_load_row (by rfl) 23 (.tmp 2) rfl _ rfl 23 (ncells I) (0, 0) _ HA3.out Ybaf.underlying23 rfl (info23 _) ?_)
  rw [← HW.out]
  clear HW HA3
  refine (put1 I _ _ w3 HL3.out.row hI).mono ?_
  rintro e w4 ⟨rfl, v4, R4, F4⟩
  have HL4 := hide (HL3.out.fr R4 F4)
  clear R4 F4
  go_wp2_with (refine wpList_load_row (by rfl) 23 (.tmp 3) rfl _ rfl 23 (ncells M) (0, 0) _ HL4.out.B.blk Ybaf.underlying23 rfl (info23 _) ?_)
  refine (put2 I M _ _ w4 HL4.out.row hM).mono ?_
  rintro e w5 ⟨rfl, v5, R5, F5⟩
  have HL5 := hide (HL4.out.fr R5 F5)
  clear R5 F5
  go_wp2_with fail
  refine (words1 I M _ _ w5 HL5.out.row).mono ?_
  rintro e w6 ⟨rfl, R6, F6⟩
  have HL6 := hide (HL5.out.fr R6 F6)
  clear R6 F6
  go_wp2_with fail
  refine (words2 I M _ _ w6 HL6.out.row).mono ?_
  rintro e w7 ⟨rfl, R7, F7⟩
  have HL7 := hide (HL6.out.fr R7 F7)
  clear R7 F7
  have HSZ8 := hide (show w.heap.size + 1 < w7.heap.size from by have := HL7.out.row.lt; omega)
  obtain ⟨T8, M6, M7, Z7⟩ := HL7.out.two HSZ8.out I M
  obtain ⟨w8, hw8⟩ : ∃ X, X = (((w7.alloc (wO fun _ => 0)).alloc (wO fun _ => 0)).setRow w7.heap.size (wcells I)).setRow (w7.heap.size + 1) (wcells M) := ⟨_, rfl⟩
  rw [← hw8] at T8 M6 M7
  unfold wO at Z7 hw8
  rw [wcells_zero] at Z7 hw8
  have HT8 := hide T8
  have HM6 := hide M6
  have HM7 := hide M7
  have HZ7 := hide Z7
  have HW8 := hide hw8
  clear T8 M6 M7 Z7 hw8
  go_wp2_with (first | (refine wpList_store_row (by rfl) 33 (.tmp 6) (.tmp 22) rfl _ _ rfl rfl 33 _ (blk2 w7 _ _) (info33 _) (by rw [wcells_size]; rfl) (wcells_all _) ?_) | (refine wpList_store_row (by rfl) 33 (.tmp 7) (.tmp 24) rfl _ _ rfl rfl 33 _ HZ7.out (info33 _) (by rw [wcells_size]; rfl) (wcells_all _) ?_; rw [← HW8.out]) | (refine wpList_load_row (by rfl) 33 (.tmp 6) rfl _ rfl 33 (wcells I) (0, 0) _ HM6.out.blk Ybaf.underlying33 rfl (info33 _) ?_) | (refine wpList_load_row (by rfl) 33 (.tmp 7) rfl _ rfl 33 (wcells M) (0, 0) _ HM7.out.blk Ybaf.underlying33 rfl (info33 _) ?_))
  refine (HRA.out _ _ w8 HT8.out.row (HT8.out.range hg)).mono ?_
  rintro e w9 ⟨rfl, v9, R9, F9⟩
  have HL9 := hide (HT8.out.fr R9 F9)
  clear R9 F9 HT8 HM6 HM7 HZ7 HW8 HSZ8
  obtain ⟨g, cap, hv9, hgr, hsr⟩ := HL9.out.row.parts (by show 0 < (allc I M).length; rw [allc_len]; omega)
  have hxl : (sE I M).xs.length = 384 := allc_len I M
  rw [hxl] at hv9
  have k0 : w9.cell? ⟨w.heap.size + 1 + 1, 0, none⟩ = some (.slice (some ⟨g, 0, none⟩) 384 cap) := by rw [← hv9]; exact cell_of_cells HL9.out.row.blk rfl
  obtain ⟨i0, hi0, hz0, hz1, hz2⟩ := info_parts Ybaf.info22
  have HV9 := hide hv9
  have HSR := hide hsr
  clear hv9 hsr hxl
  go_wp2_with (refine wpList_make_full w9 rfl (.tmp 33) (.tmp 33) 25 rfl 0 22 i0 (.int .u32 0) 1 Ybaf.underlying25 hi0 hz0 hz1 .i64 .i64 384 384 384 rfl rfl rfl rfl (by rw [hz2]; decide) (by unfold maxLen; decide) (Nat.zero_le _) ?_)
  intro w10 own10 gr10
  have bb : Below w9.heap.size w9 w10 := ⟨gr10.os, gr10.tape, gr10.output, gr10.size, fun k hk => gr10.block k hk (by simp)⟩
  have HL10 := hide (HL9.out.below bb)
  obtain ⟨g2, hg2⟩ : ∃ g2, g2 = w9.heap.size := ⟨_, rfl⟩
  obtain ⟨cur, hcur, hcs⟩ : ∃ cur : Array Value, w10.heap[g2]? = some (.cells cur 22 (0, 0)) ∧ cur.size = 384 := by
    rcases own10.2 with ⟨h0, _⟩ | ⟨g', c', cur, h1, _, h2, _, _, h3, _⟩
    · cases h0
    · simp only [Value.slice.injEq, Option.some.injEq, Addr.mk.injEq] at h1; obtain ⟨⟨rfl, _, _⟩, _, rfl⟩ := h1; exact ⟨cur, by rw [hg2]; exact h2, by rw [h3]⟩
  have hg2n : w.heap.size + 1 + 1 < g2 := by rw [hg2]; exact HL9.out.row.lt
  have hg2o : v9.ownBlock ≠ some g2 := fun e => by have := HL9.out.row.own_lt e; omega
  have k0' : w10.cell? ⟨w.heap.size + 1 + 1, 0, none⟩ = some (.slice (some ⟨g, 0, none⟩) 384 cap) := by rw [← HV9.out]; exact cell_of_cells HL10.out.row.blk rfl
  have HS10 := hide (fun j u hu => (HL10.out.row.own.cells (g := g) (by rw [HV9.out]; rfl)) j u hu)
  have HCUR := hide hcur
  have HCS := hide hcs
  rw [← hg2]
  clear own10 gr10 bb hcur hcs k0 hg2
  have hinf : (Ybaf.prog.info? 22).map (·.size) = some 1 := by kernel_rfl
  have hul : (u32s (allc I M)).length = 384 := by unfold u32s; rw [List.length_map, allc_len]
  have HUL := hide hul
  clear hul
  have hcp := run_copy_row (P := Ybaf.prog) w10 25 25 3 22 g2 0 384 384 ⟨g, 0, none⟩ 384 cap cur 22 (u32s (allc I M)) Ybaf.underlying25 hinf HCUR.out (by rw [HUL.out]; rfl) HS10.out (by rw [HUL.out, HCS.out]; decide) (by intro u hu; simp only [u32s, List.mem_map] at hu; obtain ⟨x, _, rfl⟩ := hu; rfl)
  rw [show (cur.toList.take 0 ++ u32s (allc I M) ++ cur.toList.drop (0 + (u32s (allc I M)).length)).toArray = (u32s (allc I M)).toArray from by rw [HUL.out, List.drop_of_length_le (by simp [HCS.out])]; simp, HUL.out] at hcp
  go_wp2_with fail
  obtain ⟨w12, hw12⟩ : ∃ X, X = (w10.setRow g2 (u32s (allc I M)).toArray).alloc (.cells #[.slice (some ⟨g2, 0, none⟩) 384 384, .int .i64 0, .bool false, .int .i64 0, .int .i64 0, .nilIface] 29) := ⟨_, rfl⟩
  obtain ⟨rb2, hrb⟩ : ∃ rb2, rb2 = w10.heap.size := ⟨_, rfl⟩
  have hlt9 : g2 < w10.heap.size := lt_of_block HCUR.out
  have hgb : w12.heap[g2]? = some (.cells (u32s (allc I M)).toArray 22 (0, 0)) := by rw [hw12]; exact blk_old (setRow_heap _ _ _ _ _ _ HCUR.out) _
  have hA : w12.heap[w.heap.size]? = some (nO I) := by rw [hw12]; exact blk_old (blk_row HL10.out.A.blk (by omega) _) _
  have hB : w12.heap[w.heap.size + 1]? = some (nO M) := by rw [hw12]; exact blk_old (blk_row HL10.out.B.blk (by omega) _) _
  have hbel : Below w.heap.size w w12 := by rw [hw12]; exact (below_setRow HL10.out.bel (by omega) _).alloc (by simp only [setRow_size]; omega) _
  have hrow : w12.heap[rb2]? = some (rowObj (.slice (some ⟨g2, 0, none⟩) 384 384) (sF I M)) := by rw [hw12]; exact blk_new (by rw [setRow_size]; exact hrb.symm) _
  have R12 : RowAt w12 rb2 (.slice (some ⟨g2, 0, none⟩) 384 384) (sF I M) := by
    refine ⟨hrow, ?_, by simp only [Value.ownBlock, ne_eq, Option.some.injEq]; omega, allc_bnd hI hM, by show (allc I M).length ≤ 1000; rw [allc_len]; decide, by simp [sF], by simp [sF]⟩
    show w12.ownsRow 0 22 1 _ (allc I M).length (u32s (allc I M))
    rw [allc_len]
    exact ⟨by rw [HUL.out], .inr ⟨g2, 384, _, rfl, Nat.zero_le _, hgb, Nat.le_refl _, by unfold maxLen; decide, by simp [HUL.out], by rw [List.toList_toArray]; exact List.take_of_length_le (by rw [HUL.out]; decide)⟩⟩
  have L12 : LAt w w12 rb2 (.slice (some ⟨g2, 0, none⟩) 384 384) (sF I M) I M :=
    ⟨R12, ⟨hA, by omega, by simp only [Value.ownBlock, ne_eq, Option.some.injEq]; omega⟩, ⟨hB, by omega, by simp only [Value.ownBlock, ne_eq, Option.some.injEq]; omega⟩, hbel, by omega, fun k hk => by simp only [Value.ownBlock, Option.some.injEq] at hk; omega⟩
  have HL12 := hide L12
  have HR2B := hide (show w.heap.size + 1 < rb2 from by omega)
  clear L12 R12 hrow hbel hA hB hgb
  go_wp2_with fail
  rw [← hrb, ← hw12]
  clear hw12 hrb hcp hlt9 hg2o hg2n HCUR HCS HUL HS10 HL10 HL9 HL3 HL4 HL5 HL6 HL7 k0' hinf HV9 HSR hgr hi0 hz0 hz1 hz2
  refine (words3 I M _ _ w12 HL12.out.row).mono ?_
  rintro e w13 ⟨rfl, R13, F13⟩
  have HL13 := hide (HL12.out.fr R13 F13)
  clear R13 F13
  go_wp2_with fail
  refine (words4 I M _ _ w13 HL13.out.row).mono ?_
  rintro e w14 ⟨rfl, R14, F14⟩
  have HL14 := hide (HL13.out.fr R14 F14)
  clear R14 F14
  have HSZ8 := hide (show w.heap.size + 1 < w14.heap.size from by have := HL14.out.row.lt; have := HR2B.out; omega)
  obtain ⟨T8, M6, M7, Z7⟩ := HL14.out.two HSZ8.out I M
  obtain ⟨w15, hw15⟩ : ∃ X, X = (((w14.alloc (wO fun _ => 0)).alloc (wO fun _ => 0)).setRow w14.heap.size (wcells I)).setRow (w14.heap.size + 1) (wcells M) := ⟨_, rfl⟩
  rw [← hw15] at T8 M6 M7
  unfold wO at Z7 hw15
  rw [wcells_zero] at Z7 hw15
  have HZ7 := hide Z7
  have HW15 := hide hw15
  obtain ⟨pa, hpa⟩ : ∃ p, p = w14.heap.size := ⟨_, rfl⟩
  obtain ⟨pb, hpb⟩ : ∃ p, p = w14.heap.size + 1 := ⟨_, rfl⟩
  rw [← hpb] at M7
  rw [← hpa] at M6
  have HT := hide T8
  have HPA := hide M6
  have HPB := hide M7
  have HpA := hide hpa
  have HpB := hide hpb
  clear T8 M6 M7 Z7 hw15 hpa hpb
  go_wp2_with (first | (refine wpList_store_row (by rfl) 33 (.tmp 10) (.tmp 45) rfl _ _ rfl rfl 33 _ (blk2 w14 _ _) (info33 _) (by rw [wcells_size]; rfl) (wcells_all _) ?_) | (refine wpList_store_row (by rfl) 33 (.tmp 11) (.tmp 47) rfl _ _ rfl rfl 33 _ HZ7.out (info33 _) (by rw [wcells_size]; rfl) (wcells_all _) ?_; rw [← HW15.out, ← HpB.out, ← HpA.out]))
  clear HZ7 HW15 HpA HpB HSZ8 HL14 HL13 HL12
  refine wp_region_C (S := fun _ => fun x => x.heap[pa]? = some (wO I) ∧ x.heap[pb]? = some (wO M) ∧ x.heap[w.heap.size]? = some (nO I) ∧ x.heap[w.heap.size + 1]? = some (nO M)) (c := 100) 10 (by rfl) (by kernel_rfl) ?_
  have HT0 := hide HT.out.drew
  have HA0 := hide HPA.out.drew
  have HB0 := hide HPB.out.drew
  clear HT HPA HPB
  generalize w15.drew = y0 at *
  have heqI := eq_words I
  have heqM := eq_words M
  have hgd := eqGuard33
  refine' wpAnyC_takeG (T := fun x => x.heap[pa]? = some (wO I) ∧ x.heap[pb]? = some (wO M) ∧ x.heap[w.heap.size]? = some (nO I) ∧ x.heap[w.heap.size + 1]? = some (nO M)) (i := 0) (oi := _) (v := .agg (wcells I)) (fun _ _ h => h) ?ho1 (by kernel_rfl) (by kernel_rfl) (by kernel_rfl) (by rfl) ?hQ1 ?hy1 ⟨HA0.out.blk, HB0.out.blk, HT0.out.A.blk, HT0.out.B.blk⟩ ?rest1
  case ho1 => (simp only [List.getElem?_toArray, List.getElem?_cons_zero]; rfl)
  case hQ1 => exact fun _ _ _ h => h
  case hy1 => exact yields_load_row rfl 33 (.tmp 10) rfl _ rfl 33 (wcells I) (0, 0) _ (fun _ h => h.1) Ybaf.underlying33 rfl (info33 _)
  simp only [Act.put, List.setIfInBounds_toArray, List.set_cons_zero, List.set_cons_succ]
  refine' wpAnyC_takeG (T := fun x => x.heap[pa]? = some (wO I) ∧ x.heap[pb]? = some (wO M) ∧ x.heap[w.heap.size]? = some (nO I) ∧ x.heap[w.heap.size + 1]? = some (nO M)) (i := 1) (oi := _) (v := .agg (ncells I)) (fun _ _ h => h) ?ho2 (by kernel_rfl) (by kernel_rfl) (by kernel_rfl) (by rfl) ?hQ2 ?hy2 ⟨HA0.out.blk, HB0.out.blk, HT0.out.A.blk, HT0.out.B.blk⟩ ?rest2
  case ho2 => (simp only [List.getElem?_toArray, List.getElem?_cons_zero, List.getElem?_cons_succ]; rfl)
  case hQ2 => exact fun _ _ _ h => h
  case hy2 => exact yields_load_row rfl 23 (.tmp 2) rfl _ rfl 23 (ncells I) (0, 0) _ (fun _ h => h.2.2.1) Ybaf.underlying23 rfl (info23 _)
  simp only [Act.put, List.setIfInBounds_toArray, List.set_cons_zero, List.set_cons_succ]
  refine' wpAnyC_one (i := 2) (o := _) (by kernel_rfl) ?ho3 ?hw3 ?r3
  case ho3 => (simp only [List.getElem?_toArray, List.getElem?_cons_zero, List.getElem?_cons_succ]; rfl)
  case hw3 => rfl
  intro K hK
  have HKK := hide hK
  clear hK
  go_simp
  refine (wordsOf_any I hI y0).mono ?_
  rintro e y1 ⟨rfl, bb⟩
  have HT1 := hide (HT0.out.below bb)
  have HA1 := hide (HA0.out.below bb)
  have HB1 := hide (HB0.out.below bb)
  clear bb
  dsimp only
  refine HKK.out _ _ ⟨HA1.out.blk, HB1.out.blk, HT1.out.A.blk, HT1.out.B.blk⟩ ?_
  clear HKK K
  refine' wpAnyC_takeG (T := fun x => x.heap[pa]? = some (wO I) ∧ x.heap[pb]? = some (wO M) ∧ x.heap[w.heap.size]? = some (nO I) ∧ x.heap[w.heap.size + 1]? = some (nO M)) (i := 3) (oi := _) (v := .bool false) (fun _ _ h => h) ?ho4 (by kernel_rfl) (by kernel_rfl) (by kernel_rfl) (by rfl) ?hQ4 ?hy4 ⟨HA1.out.blk, HB1.out.blk, HT1.out.A.blk, HT1.out.B.blk⟩ ?rest4
  case ho4 => (simp only [List.getElem?_toArray, List.getElem?_cons_zero, List.getElem?_cons_succ]; rfl)
  case hQ4 => exact fun _ _ _ h => h
  case hy4 => (refine Or.inl ⟨rfl, ?_⟩; intro wz hz; go_simp)
  simp only [Act.put, List.setIfInBounds_toArray, List.set_cons_zero, List.set_cons_succ]
  refine' wpAnyC_takeG (T := fun x => x.heap[pa]? = some (wO I) ∧ x.heap[pb]? = some (wO M) ∧ x.heap[w.heap.size]? = some (nO I) ∧ x.heap[w.heap.size + 1]? = some (nO M)) (i := 4) (oi := _) (v := .bool false) (fun _ _ h => h) ?ho5 (by kernel_rfl) (by kernel_rfl) (by kernel_rfl) (by rfl) ?hQ5 ?hy5 ⟨HA1.out.blk, HB1.out.blk, HT1.out.A.blk, HT1.out.B.blk⟩ ?rest5
  case ho5 => (simp only [List.getElem?_toArray, List.getElem?_cons_zero, List.getElem?_cons_succ]; rfl)
  case hQ5 => exact fun _ _ _ h => h
  case hy5 => (refine Or.inl ⟨rfl, ?_⟩; intro wz hz; go_simp)
  simp only [Act.put, List.setIfInBounds_toArray, List.set_cons_zero, List.set_cons_succ]
  refine' wpAnyC_takeG (T := fun x => x.heap[pa]? = some (wO I) ∧ x.heap[pb]? = some (wO M) ∧ x.heap[w.heap.size]? = some (nO I) ∧ x.heap[w.heap.size + 1]? = some (nO M)) (i := 5) (oi := _) (v := .agg (wcells M)) (fun _ _ h => h) ?ho6 (by kernel_rfl) (by kernel_rfl) (by kernel_rfl) (by rfl) ?hQ6 ?hy6 ⟨HA1.out.blk, HB1.out.blk, HT1.out.A.blk, HT1.out.B.blk⟩ ?rest6
  case ho6 => (simp only [List.getElem?_toArray, List.getElem?_cons_zero, List.getElem?_cons_succ]; rfl)
  case hQ6 => exact fun _ _ _ h => h
  case hy6 => exact yields_load_row rfl 33 (.tmp 11) rfl _ rfl 33 (wcells M) (0, 0) _ (fun _ h => h.2.1) Ybaf.underlying33 rfl (info33 _)
  simp only [Act.put, List.setIfInBounds_toArray, List.set_cons_zero, List.set_cons_succ]
  refine' wpAnyC_takeG (T := fun x => x.heap[pa]? = some (wO I) ∧ x.heap[pb]? = some (wO M) ∧ x.heap[w.heap.size]? = some (nO I) ∧ x.heap[w.heap.size + 1]? = some (nO M)) (i := 6) (oi := _) (v := .agg (ncells M)) (fun _ _ h => h) ?ho7 (by kernel_rfl) (by kernel_rfl) (by kernel_rfl) (by rfl) ?hQ7 ?hy7 ⟨HA1.out.blk, HB1.out.blk, HT1.out.A.blk, HT1.out.B.blk⟩ ?rest7
  case ho7 => (simp only [List.getElem?_toArray, List.getElem?_cons_zero, List.getElem?_cons_succ]; rfl)
  case hQ7 => exact fun _ _ _ h => h
  case hy7 => exact yields_load_row rfl 23 (.tmp 3) rfl _ rfl 23 (ncells M) (0, 0) _ (fun _ h => h.2.2.2) Ybaf.underlying23 rfl (info23 _)
  simp only [Act.put, List.setIfInBounds_toArray, List.set_cons_zero, List.set_cons_succ]
  refine' wpAnyC_one (i := 7) (o := _) (by kernel_rfl) ?ho8 ?hw8 ?r8
  case ho8 => (simp only [List.getElem?_toArray, List.getElem?_cons_zero, List.getElem?_cons_succ]; rfl)
  case hw8 => rfl
  intro K hK
  have HKK := hide hK
  clear hK
  go_simp
  refine (wordsOf_any M hM y1).mono ?_
  rintro e y2 ⟨rfl, bb⟩
  have HT2 := hide (HT1.out.below bb)
  have HA2 := hide (HA1.out.below bb)
  have HB2 := hide (HB1.out.below bb)
  clear bb
  dsimp only
  refine HKK.out _ _ ⟨HA2.out.blk, HB2.out.blk, HT2.out.A.blk, HT2.out.B.blk⟩ ?_
  clear HKK K
  refine' wpAnyC_takeG (T := fun x => x.heap[pa]? = some (wO I) ∧ x.heap[pb]? = some (wO M) ∧ x.heap[w.heap.size]? = some (nO I) ∧ x.heap[w.heap.size + 1]? = some (nO M)) (i := 8) (oi := _) (v := .bool false) (fun _ _ h => h) ?ho9 (by kernel_rfl) (by kernel_rfl) (by kernel_rfl) (by rfl) ?hQ9 ?hy9 ⟨HA2.out.blk, HB2.out.blk, HT2.out.A.blk, HT2.out.B.blk⟩ ?rest9
  case ho9 => (simp only [List.getElem?_toArray, List.getElem?_cons_zero, List.getElem?_cons_succ]; rfl)
  case hQ9 => exact fun _ _ _ h => h
  case hy9 => (refine Or.inl ⟨rfl, ?_⟩; intro wz hz; go_simp)
  simp only [Act.put, List.setIfInBounds_toArray, List.set_cons_zero, List.set_cons_succ]
  refine' wpAnyC_takeG (T := fun x => x.heap[pa]? = some (wO I) ∧ x.heap[pb]? = some (wO M) ∧ x.heap[w.heap.size]? = some (nO I) ∧ x.heap[w.heap.size + 1]? = some (nO M)) (i := 9) (oi := _) (v := .bool false) (fun _ _ h => h) ?ho10 (by kernel_rfl) (by kernel_rfl) (by kernel_rfl) (by rfl) ?hQ10 ?hy10 ⟨HA2.out.blk, HB2.out.blk, HT2.out.A.blk, HT2.out.B.blk⟩ ?rest10
  case ho10 => (simp only [List.getElem?_toArray, List.getElem?_cons_zero, List.getElem?_cons_succ]; rfl)
  case hQ10 => exact fun _ _ _ h => h
  case hy10 => (refine Or.inl ⟨rfl, ?_⟩; intro wz hz; go_simp)
  simp only [Act.put, List.setIfInBounds_toArray, List.set_cons_zero, List.set_cons_succ]
  refine wpAnyC_done (by kernel_rfl) ?_ _
  clear heqI heqM hgd HT0 HA0 HB0 HT1 HA1 HB1
  go_wp2_with (first | (refine wpList_load_row (by rfl) 33 (.tmp 10) rfl _ rfl 33 (wcells I) (0, 0) _ HA2.out.blk Ybaf.underlying33 rfl (info33 _) ?_) | (refine wpList_load_row (by rfl) 33 (.tmp 11) rfl _ rfl 33 (wcells M) (0, 0) _ HB2.out.blk Ybaf.underlying33 rfl (info33 _) ?_))
  refine (HRB.out _ _ y2 HT2.out.row (HT2.out.range hg)).mono ?_
  rintro e y3 ⟨rfl, v3, R3, F3⟩
  have HT3 := hide (HT2.out.fr R3 F3)
  clear R3 F3 HT2 HA2 HB2
  obtain ⟨pc, hpc⟩ : ∃ p, p = y3.heap.size := ⟨_, rfl⟩
  have lc := HT3.out.row.lt
  have lc2 := HR2B.out
  obtain ⟨y4, hy4⟩ : ∃ Z, Z = (y3.alloc (wO fun _ => 0)).setRow pc (wcells X) := ⟨_, rfl⟩
  have C3 : Loc (y3.alloc (wO fun _ => 0)) rb2 v3 pc (wO fun _ => 0) := hpc ▸ Loc.new HT3.out.row _
  have HT4 := hide (show LAt w y4 rb2 v3 (sI I M) I M from hy4 ▸ (HT3.out.alloc _).setRow C3 (by omega) _)
  have HC4 := hide (show Loc y4 rb2 v3 pc (wO X) from hy4 ▸ C3.setRow)
  have c3 := C3.blk
  unfold wO at c3 hy4
  rw [wcells_zero] at c3 hy4
  rw [hpc] at c3
  have HC3 := hide c3
  have HY4 := hide hy4
  have HPC := hide hpc
  clear C3 c3 hy4 hpc lc lc2
  go_wp2_with (refine wpList_store_row (by rfl) 33 (.tmp 12) (.tmp 61) rfl _ _ rfl rfl 33 _ HC3.out (info33 _) (by rw [wcells_size]; rfl) (wcells_all _) ?_; rw [← HPC.out, ← HY4.out])
  clear HC3 HY4 HPC HT3
  refine wp_region_C (S := fun _ => fun x => x.heap[pc]? = some (wO X) ∧ x.heap[w.heap.size]? = some (nO I) ∧ x.heap[w.heap.size + 1]? = some (nO M)) (c := 100) 6 (by rfl) (by kernel_rfl) ?_
  have HT5 := hide HT4.out.drew
  have HC5 := hide HC4.out.drew
  clear HT4 HC4
  generalize y4.drew = y5 at *
  refine' wpAnyC_takeG (T := fun x => x.heap[pc]? = some (wO X) ∧ x.heap[w.heap.size]? = some (nO I) ∧ x.heap[w.heap.size + 1]? = some (nO M)) (i := 0) (oi := _) (v := .agg (wcells X)) (fun _ _ h => h) ?ho11 (by kernel_rfl) (by kernel_rfl) (by kernel_rfl) (by rfl) ?hQ11 ?hy11 ⟨HC5.out.blk, HT5.out.A.blk, HT5.out.B.blk⟩ ?rest11
  case ho11 => (simp only [List.getElem?_toArray, List.getElem?_cons_zero]; rfl)
  case hQ11 => exact fun _ _ _ h => h
  case hy11 => exact yields_load_row rfl 33 (.tmp 12) rfl _ rfl 33 (wcells X) (0, 0) _ (fun _ h => h.1) Ybaf.underlying33 rfl (info33 _)
  simp only [Act.put, List.setIfInBounds_toArray, List.set_cons_zero, List.set_cons_succ]
  refine' wpAnyC_takeG (T := fun x => x.heap[pc]? = some (wO X) ∧ x.heap[w.heap.size]? = some (nO I) ∧ x.heap[w.heap.size + 1]? = some (nO M)) (i := 1) (oi := _) (v := .agg (ncells I)) (fun _ _ h => h) ?ho12 (by kernel_rfl) (by kernel_rfl) (by kernel_rfl) (by rfl) ?hQ12 ?hy12 ⟨HC5.out.blk, HT5.out.A.blk, HT5.out.B.blk⟩ ?rest12
  case ho12 => (simp only [List.getElem?_toArray, List.getElem?_cons_zero, List.getElem?_cons_succ]; rfl)
  case hQ12 => exact fun _ _ _ h => h
  case hy12 => exact yields_load_row rfl 23 (.tmp 2) rfl _ rfl 23 (ncells I) (0, 0) _ (fun _ h => h.2.1) Ybaf.underlying23 rfl (info23 _)
  simp only [Act.put, List.setIfInBounds_toArray, List.set_cons_zero, List.set_cons_succ]
  refine' wpAnyC_takeG (T := fun x => x.heap[pc]? = some (wO X) ∧ x.heap[w.heap.size]? = some (nO I) ∧ x.heap[w.heap.size + 1]? = some (nO M)) (i := 2) (oi := _) (v := .agg (ncells M)) (fun _ _ h => h) ?ho13 (by kernel_rfl) (by kernel_rfl) (by kernel_rfl) (by rfl) ?hQ13 ?hy13 ⟨HC5.out.blk, HT5.out.A.blk, HT5.out.B.blk⟩ ?rest13
  case ho13 => (simp only [List.getElem?_toArray, List.getElem?_cons_zero, List.getElem?_cons_succ]; rfl)
  case hQ13 => exact fun _ _ _ h => h
  case hy13 => exact yields_load_row rfl 23 (.tmp 3) rfl _ rfl 23 (ncells M) (0, 0) _ (fun _ h => h.2.2) Ybaf.underlying23 rfl (info23 _)
  simp only [Act.put, List.setIfInBounds_toArray, List.set_cons_zero, List.set_cons_succ]
  refine' wpAnyC_one (i := 3) (o := _) (by kernel_rfl) ?ho14 ?hw14 ?r14
  case ho14 => (simp only [List.getElem?_toArray, List.getElem?_cons_zero, List.getElem?_cons_succ]; rfl)
  case hw14 => rfl
  intro K hK
  have HKK := hide hK
  clear hK
  go_simp
  refine (HZX.out y5).mono ?_
  rintro e y6 ⟨rfl, bb⟩
  have HT6 := hide (HT5.out.below bb)
  have HC6 := hide (HC5.out.below bb)
  clear bb
  dsimp only
  refine HKK.out _ _ ⟨HC6.out.blk, HT6.out.A.blk, HT6.out.B.blk⟩ ?_
  clear HKK K
  refine' wpAnyC_one (i := 4) (o := _) (by kernel_rfl) ?ho15 ?hw15 ?r15
  case ho15 => (simp only [List.getElem?_toArray, List.getElem?_cons_zero, List.getElem?_cons_succ]; rfl)
  case hw15 => rfl
  intro K hK
  have HKK := hide hK
  clear hK
  go_simp
  refine (wordsOf_any X hXl y6).mono ?_
  rintro e y7 ⟨rfl, bb⟩
  have HT7 := hide (HT6.out.below bb)
  have HC7 := hide (HC6.out.below bb)
  clear bb
  dsimp only
  refine HKK.out _ _ ⟨HC7.out.blk, HT7.out.A.blk, HT7.out.B.blk⟩ ?_
  clear HKK K
  have heqX := eq_words X
  have hgd := eqGuard33
  refine' wpAnyC_takeG (T := fun x => x.heap[pc]? = some (wO X) ∧ x.heap[w.heap.size]? = some (nO I) ∧ x.heap[w.heap.size + 1]? = some (nO M)) (i := 5) (oi := _) (v := .bool false) (fun _ _ h => h) ?ho16 (by kernel_rfl) (by kernel_rfl) (by kernel_rfl) (by rfl) ?hQ16 ?hy16 ⟨HC7.out.blk, HT7.out.A.blk, HT7.out.B.blk⟩ ?rest16
  case ho16 => (simp only [List.getElem?_toArray, List.getElem?_cons_zero, List.getElem?_cons_succ]; rfl)
  case hQ16 => exact fun _ _ _ h => h
  case hy16 => (refine Or.inl ⟨rfl, ?_⟩; intro wz hz; go_simp)
  simp only [Act.put, List.setIfInBounds_toArray, List.set_cons_zero, List.set_cons_succ]
  refine wpAnyC_done (by kernel_rfl) ?_ _
  clear heqX hgd HT5 HC5 HT6 HC6 HC7
  go_wp2_with fail
  refine (end1 I M _ _ y7 HT7.out.row).mono ?_
  rintro e y8 ⟨rfl, nn, rfl⟩
  have k4 : y7.cell? ⟨rb2, 4, none⟩ = some (.int .i64 128) := cell_of_cells HT7.out.row.blk rfl
  have HBE := hide HT7.out.bel
  clear HT7
  go_wp2
  go_ret
  exact ⟨rfl, ⟨HBE.out.os, HBE.out.tape, HBE.out.output, HBE.out.size, HBE.out.block⟩⟩
end Go.Proofs.YbulkchdaFmt
