/- (*row).put, walked once. -/
import Derived.Test.YbulkchdaFmtRead
namespace Go.Proofs.YbulkchdaFmt
open Go.RowKit Bits

/-- sixteen words as a row's cells, the first k of them -/
def wl (V : Nat → Nat) : Nat → List Nat
  | 0 => []
  | k + 1 => wl V k ++ [hi (V k), lo (V k)]
theorem wl_len (V : Nat → Nat) : ∀ k, (wl V k).length = 2 * k
  | 0 => rfl
  | k + 1 => by rw [wl, List.length_append, wl_len V k]; simp; omega
theorem wl_get (V : Nat → Nat) : ∀ n k, k < n → (wl V n)[2 * k]? = some (hi (V k)) ∧ (wl V n)[2 * k + 1]? = some (lo (V k))
  | 0, k, h => by omega
  | n + 1, k, h => by
    rw [wl]
    rcases Nat.lt_or_ge k n with h1 | h1
    · obtain ⟨a, b⟩ := wl_get V n k h1
      rw [List.getElem?_append_left (by rw [wl_len]; omega), List.getElem?_append_left (by rw [wl_len]; omega)]
      exact ⟨a, b⟩
    · obtain rfl : k = n := by omega
      rw [List.getElem?_append_right (by rw [wl_len]; omega), List.getElem?_append_right (by rw [wl_len]; omega), wl_len, Nat.sub_self, show 2 * k + 1 - 2 * k = 1 by omega]
      exact ⟨rfl, rfl⟩
theorem wl_bnd {V : Nat → Nat} (hV : ∀ i, V i < 4294967296) : ∀ k, ∀ x ∈ wl V k, x < 65536
  | 0 => by intro x hx; cases hx
  | k + 1 => by
    intro x hx
    rw [wl, List.mem_append] at hx
    rcases hx with hx | hx
    · exact wl_bnd hV k x hx
    · simp only [List.mem_cons, List.not_mem_nil, or_false] at hx
      rcases hx with rfl | rfl
      · exact hi_lt (hV k)
      · exact lo_lt _

theorem wp_append_sep {P : Program} (w : World) {o : Oper} {a : Act} {K : Act → World → Prop} {Q : Exit → Act → World → Prop} (s x : Operand) (t : TypeId)
    (ho : o.op = .call { callee := .builtin .append, args := #[s, x], argTypes := #[t, t] })
    (base : Nat) (e : TypeId) (i : TypeInfo) (z : Value) (size bytes : Nat) (ht : P.underlying t = some (.slice e)) (hi : P.info? e = some i) (hz : i.zero = some z)
    (hsize : i.size = size) (hby : i.bytes = bytes) (hzs : z.cells.size = size) (hsz : 0 < size)
    (v : Value) (n : Nat) (xs : List Value) (hs : a.eval s = v) (hown : w.ownsRow base e size v n xs)
    (ad : Addr) (m c : Nat) (news : List Value) (hx : a.eval x = .slice (some ad) m c) (hl : news.length = m * size) (hnews : ∀ j u, news[j]? = some u → w.cell? (ad.add j) = some u) (h1 : ∀ u ∈ news, u.oneCell' = true)
    (h63 : n + m ≤ maxLen) (hbytes : (n + m) * bytes ≤ 140737488355328) (hbase : base ≤ w.heap.size) (hm : 0 < m)
    (h : ∀ g cap w', w'.ownsRow base e size (.slice (some ⟨g, 0, none⟩) (n + m) cap) (n + m) (xs ++ news) → w.grownBy w' v.ownBlock → (v.ownBlock = some g ∨ w.heap.size ≤ g) → K (a.put o.dst (.slice (some ⟨g, 0, none⟩) (n + m) cap)) w') : o.wp P a w K Q := by
  obtain ⟨g, cap, w', hr, h2, h3, h4⟩ := run_append_sep (P := P) w base t o.type e i z size bytes ht hi hz hsize hby hzs hsz v n xs hown ad m c news hl hnews h1 h63 hbytes hbase hm
  unfold Oper.wp execOp
  simp only [ho, resolve, invoke, builtin, Sem.run_bind, Sem.run_pure, Result.andThen_ok, List.map_toArray, List.map_cons, List.map_nil, hs, hx, hr]
  exact h g cap w' h2 h3 h4

/-- the row behind an append of some cells -/
theorem RowAt.pushes {w w' : World} {rb g cap m : Nat} {v : Value} {st : RSt} {em : List Nat} (h : RowAt w rb v st) (hx : ∀ x ∈ em, x < 2147483647) (hm : em.length = m) (hl : st.xs.length + m ≤ 1000)
    (own : w'.ownsRow 0 22 1 (.slice (some ⟨g, 0, none⟩) (st.xs.length + m) cap) (st.xs.length + m) (u32s st.xs ++ u32s em)) (gr : w.grownBy w' v.ownBlock) (sep : v.ownBlock = some g ∨ w.heap.size ≤ g) :
    RowAt (w'.setCell ⟨rb, 0, none⟩ (.slice (some ⟨g, 0, none⟩) (st.xs.length + m) cap)) rb (.slice (some ⟨g, 0, none⟩) (st.xs.length + m) cap) { st with xs := st.xs ++ em } ∧
      Fr rb v (.slice (some ⟨g, 0, none⟩) (st.xs.length + m) cap) w (w'.setCell ⟨rb, 0, none⟩ (.slice (some ⟨g, 0, none⟩) (st.xs.length + m) cap)) ∧
      Fr rb v (.slice (some ⟨g, 0, none⟩) (st.xs.length + m) cap) w w' ∧ w'.cell? ⟨rb, 0, none⟩ = some v ∧ w'.frozen? ⟨rb, 0, none⟩ = false := by
  subst hm
  have hlt := h.lt
  have hg : g ≠ rb := by
    rcases sep with e | e
    · intro e'; exact h.ne (by rw [e, e'])
    · omega
  have hblk : w'.heap[rb]? = some (rowObj v st) := by
    rw [gr.block rb hlt (fun e => h.ne e.symm)]; exact h.blk
  have F : Fr rb v (.slice (some ⟨g, 0, none⟩) (st.xs.length + em.length) cap) w w' := by
    refine ⟨gr.os, gr.tape, gr.output, gr.size, fun k hk h1 h2 => ⟨gr.block k hk (fun e => h2 e.symm), ?_⟩⟩
    simp [Value.ownBlock]
    rintro rfl
    rcases sep with e | e
    · exact h2 e
    · omega
  refine ⟨⟨?_, ?_, by simp [Value.ownBlock, hg], ?_, by simp; omega, h.posb, h.lkb⟩, F.setRow _, F, cell_of_cells hblk rfl, free_of_cells hblk⟩
  · have := cells_setCell (i := 0) (u := .slice (some ⟨g, 0, none⟩) (st.xs.length + em.length) cap) hblk
    exact this
  · have := ownsRow_setCell_other own (a := ⟨rb, 0, none⟩) (by simp [Value.ownBlock, hg]) (.slice (some ⟨g, 0, none⟩) (st.xs.length + em.length) cap)
    simpa [u32s] using this
  · intro y hy
    rcases List.mem_append.1 hy with hy | hy
    · exact h.bnd y hy
    · exact hx y hy
theorem two_new {w : World} {x y : Value} {t : TypeId} : ∀ j u, ([x, y] : List Value)[j]? = some u → (w.alloc (.cells #[x, y] t)).cell? ((⟨w.heap.size, 0, none⟩ : Addr).add j) = some u := by
  intro j u hj
  match j, hj with
  | 0, hj => simp at hj; subst hj; simp [Addr.add]
  | 1, hj => simp at hj; subst hj; simp [Addr.add]

set_option maxHeartbeats 2000000 in
set_option maxRecDepth 100000 in
theorem put_any (rb : Nat) (v : Value) (st : RSt) (V : Nat → Nat) (w : World) (h : RowAt w rb v st) (hV : ∀ i, V i < 4294967296) (hl : st.xs.length + 32 ≤ 1000) :
    Calls Ybaf.prog 8 #[.pointer (some ⟨rb, 0, none⟩), .agg (ncells V)] w fun e w' => e = .returned (.tuple #[]) ∧ ∃ v', RowAt w' rb v' { st with xs := st.xs ++ wl V 16 } ∧ Fr rb v v' w w' := by
  have H := hide h
  have R1 := hide (h.alloc (nO V))
  have F1 := hide ((Fr.refl rb v w).alloc (nO V))
  have b1 : (w.alloc (.cells (ncells V) 23)).heap[w.heap.size]? = some (nO V) := blk_new rfl _
  have HB1 := hide b1
  have HV := hide hV
  clear h b1 hV
  go_enter Ybaf.func8, Ybaf.ntmps8
  go_wp2_with (refine wpList_load_row (by rfl) 23 (.tmp 3) rfl _ rfl 23 (ncells V) (0, 0) _ HB1.out Ybaf.underlying23 rfl (info23 _) ?_)
  refine (wordsOf_any V HV.out _).mono ?_
  rintro e w1 ⟨rfl, bb⟩
  have R2 := R1.out.below bb
  have F2 := F1.out.trans (Fr.ofBelow rb v bb)
  clear bb
  have HR2 := hide R2
  have HF2 := hide F2
  clear R2 F2 R1 F1 HB1 H
  go_wp2_with fail
  go_loopw [8] (fun iv wr => ∃ (k : Nat) (v' : Value), k ≤ 16 ∧ iv = .int .i64 k ∧ RowAt wr rb v' { st with xs := st.xs ++ wl V k } ∧ Fr rb v v' w wr) (fun iv _ => 16 - (intOf iv).toNat)
  case atStart => exact ⟨0, v, by omega, rfl, HR2.out.cast (by simp [wl]), HF2.out⟩
  case round =>
    clear HR2 HF2
    obtain ⟨k, v', hk, rfl, R, F⟩ := hrel
    have HR := hide R
    have HF := hide F
    clear R F
    by_cases hlt : k < 16
    · have hidx := w_index V hlt
      go_wp2_with fail
      obtain ⟨b5, hb5⟩ : ∃ b5, b5 = wr.heap.size := ⟨_, rfl⟩
      obtain ⟨W, hW⟩ : ∃ W, W = wr.alloc (whO (V k)) := ⟨_, rfl⟩
      have RW : RowAt W rb v' _ := hW ▸ HR.out.alloc _
      have FW : Fr rb v v' w W := hW ▸ HF.out.alloc _
      have LW : Loc W rb v' b5 (whO (V k)) := hb5 ▸ hW ▸ Loc.new HR.out _
      rw [← hb5, ← hW]
      have HRW := hide RW.drew
      have HFW := hide FW.drew
      have HLW := hide LW.drew
      clear hW RW FW LW hb5
      obtain ⟨G, hG⟩ : ∃ G : World → Prop, G = fun w' => w'.cell? ⟨rb, 0, none⟩ = some v' ∧ w'.cell? ⟨b5, 0, none⟩ = some (.int .u32 (hi (V k) : Nat)) ∧ w'.cell? ⟨b5, 1, none⟩ = some (.int .u32 (lo (V k) : Nat)) := ⟨_, rfl⟩
      have hGI : ∀ (w' : World), RowAt w' rb v' { xs := st.xs ++ wl V k, pos := st.pos, build := st.build, lk := st.lk } → Loc w' rb v' b5 (whO (V k)) → G w' := by
        intro w' r l
        rw [hG]
        exact ⟨cell_of_cells r.blk rfl, cell_of_cells l.blk rfl, cell_of_cells l.blk rfl⟩
      have HGE := hide hG
      clear hG
      refine wp_region_C (S := fun b w' => b = false → G w') (c := 13) 14 (by rfl) (by kernel_rfl) ?_
      generalize W.drew = X0 at *
      have HG0 := hGI _ HRW.out HLW.out
      refine' wpAnyC_takeG (T := fun _ => True) (i := 0) (oi := _) (v := .pointer (some ⟨rb, 0, none⟩)) (fun _ _ _ => trivial) ?ho0 (by kernel_rfl) (by kernel_rfl) (by kernel_rfl) (by rfl) ?hQ0 (Or.inl ⟨?hw0, ?hy0⟩) (fun _ => HG0) ?rest0
      case ho0 => (simp only [List.getElem?_toArray, List.getElem?_cons_zero]; rfl)
      case hQ0 => exact fun _ _ _ h => h
      case hw0 => rfl
      case hy0 => (intro wz _; go_simp)
      simp only [Act.put, List.setIfInBounds_toArray, List.set_cons_zero, List.set_cons_succ]
      refine' wpAnyC_takeG (T := fun _ => True) (i := 1) (oi := _) (v := .pointer (some ⟨rb, 0, none⟩)) (fun _ _ _ => trivial) ?ho1 (by kernel_rfl) (by kernel_rfl) (by kernel_rfl) (by rfl) ?hQ1 (Or.inl ⟨?hw1, ?hy1⟩) (fun _ => HG0) ?rest1
      case ho1 => (simp only [List.getElem?_toArray, List.getElem?_cons_zero, List.getElem?_cons_succ]; rfl)
      case hQ1 => exact fun _ _ _ h => h
      case hw1 => rfl
      case hy1 => (intro wz _; go_simp)
      simp only [Act.put, List.setIfInBounds_toArray, List.set_cons_zero, List.set_cons_succ]
      refine' wpAnyC_takeG (T := fun _ => True) (i := 2) (oi := _) (v := .pointer (some ⟨rb, 0, none⟩)) (fun _ _ _ => trivial) ?ho2 (by kernel_rfl) (by kernel_rfl) (by kernel_rfl) (by rfl) ?hQ2 (Or.inl ⟨?hw2, ?hy2⟩) (fun _ => HG0) ?rest2
      case ho2 => (simp only [List.getElem?_toArray, List.getElem?_cons_zero, List.getElem?_cons_succ]; rfl)
      case hQ2 => exact fun _ _ _ h => h
      case hw2 => rfl
      case hy2 => (intro wz _; go_simp)
      simp only [Act.put, List.setIfInBounds_toArray, List.set_cons_zero, List.set_cons_succ]
      refine' wpAnyC_takeG (T := fun _ => True) (i := 3) (oi := _) (v := .pointer (some ⟨rb, 0, none⟩)) (fun _ _ _ => trivial) ?ho3 (by kernel_rfl) (by kernel_rfl) (by kernel_rfl) (by rfl) ?hQ3 (Or.inl ⟨?hw3, ?hy3⟩) (fun _ => HG0) ?rest3
      case ho3 => (simp only [List.getElem?_toArray, List.getElem?_cons_zero, List.getElem?_cons_succ]; rfl)
      case hQ3 => exact fun _ _ _ h => h
      case hw3 => rfl
      case hy3 => (intro wz _; go_simp)
      simp only [Act.put, List.setIfInBounds_toArray, List.set_cons_zero, List.set_cons_succ]
      refine' wpAnyC_takeW (i := 4) (oi := _) (v := v') ?ho4 (by kernel_rfl) (by kernel_rfl) (by kernel_rfl) (by kernel_rfl) (by rfl) (by rfl) ?hQ4 (Or.inl ⟨?hw4, ?hy4⟩) (fun _ => HG0) ?rest4
      case ho4 => (simp only [List.getElem?_toArray, List.getElem?_cons_zero, List.getElem?_cons_succ]; rfl)
      case hQ4 => exact fun _ _ _ h => h
      case hw4 => rfl
      case hy4 => (intro wz hSw; have hz := hSw rfl; rw [HGE.out] at hz; obtain ⟨hz0, hz1, hz2⟩ := hz; go_simp)
      simp only [Act.put, List.setIfInBounds_toArray, List.set_cons_zero, List.set_cons_succ]
      refine' wpAnyC_takeG (T := fun _ => True) (i := 5) (oi := _) (v := .pointer (some ⟨b5, 0, none⟩)) (fun _ _ _ => trivial) ?ho5 (by kernel_rfl) (by kernel_rfl) (by kernel_rfl) (by rfl) ?hQ5 (Or.inl ⟨?hw5, ?hy5⟩) (fun _ => HG0) ?rest5
      case ho5 => (simp only [List.getElem?_toArray, List.getElem?_cons_zero, List.getElem?_cons_succ]; rfl)
      case hQ5 => exact fun _ _ _ h => h
      case hw5 => rfl
      case hy5 => (intro wz _; go_simp)
      simp only [Act.put, List.setIfInBounds_toArray, List.set_cons_zero, List.set_cons_succ]
      refine' wpAnyC_takeW (i := 6) (oi := _) (v := .int .u32 (hi (V k) : Nat)) ?ho6 (by kernel_rfl) (by kernel_rfl) (by kernel_rfl) (by kernel_rfl) (by rfl) (by rfl) ?hQ6 (Or.inl ⟨?hw6, ?hy6⟩) (fun _ => HG0) ?rest6
      case ho6 => (simp only [List.getElem?_toArray, List.getElem?_cons_zero, List.getElem?_cons_succ]; rfl)
      case hQ6 => exact fun _ _ _ h => h
      case hw6 => rfl
      case hy6 => (intro wz hSw; have hz := hSw rfl; rw [HGE.out] at hz; obtain ⟨hz0, hz1, hz2⟩ := hz; go_simp)
      simp only [Act.put, List.setIfInBounds_toArray, List.set_cons_zero, List.set_cons_succ]
      refine' wpAnyC_takeG (T := fun _ => True) (i := 7) (oi := _) (v := .pointer (some ⟨b5, 1, none⟩)) (fun _ _ _ => trivial) ?ho7 (by kernel_rfl) (by kernel_rfl) (by kernel_rfl) (by rfl) ?hQ7 (Or.inl ⟨?hw7, ?hy7⟩) (fun _ => HG0) ?rest7
      case ho7 => (simp only [List.getElem?_toArray, List.getElem?_cons_zero, List.getElem?_cons_succ]; rfl)
      case hQ7 => exact fun _ _ _ h => h
      case hw7 => rfl
      case hy7 => (intro wz _; go_simp)
      simp only [Act.put, List.setIfInBounds_toArray, List.set_cons_zero, List.set_cons_succ]
      refine' wpAnyC_takeW (i := 8) (oi := _) (v := .int .u32 (lo (V k) : Nat)) ?ho8 (by kernel_rfl) (by kernel_rfl) (by kernel_rfl) (by kernel_rfl) (by rfl) (by rfl) ?hQ8 (Or.inl ⟨?hw8, ?hy8⟩) (fun _ => HG0) ?rest8
      case ho8 => (simp only [List.getElem?_toArray, List.getElem?_cons_zero, List.getElem?_cons_succ]; rfl)
      case hQ8 => exact fun _ _ _ h => h
      case hw8 => rfl
      case hy8 => (intro wz hSw; have hz := hSw rfl; rw [HGE.out] at hz; obtain ⟨hz0, hz1, hz2⟩ := hz; go_simp)
      simp only [Act.put, List.setIfInBounds_toArray, List.set_cons_zero, List.set_cons_succ]
      refine' wpAnyC_one (i := 9) (o := _) (by kernel_rfl) ?ho9 ?hw9 ?rest9
      case ho9 => (simp only [List.getElem?_toArray, List.getElem?_cons_zero, List.getElem?_cons_succ]; rfl)
      case hw9 => rfl
      intro K hK
      have HKK := hide hK
      clear hK
      go_simp
      obtain ⟨X1, hX1⟩ : ∃ X1, X1 = X0.alloc (.cells #[.int .u32 (hi (V k) : Nat), .int .u32 (lo (V k) : Nat)] 22) := ⟨_, rfl⟩
      obtain ⟨b6, hb6⟩ : ∃ b6, b6 = X0.heap.size := ⟨_, rfl⟩
      have R1 : RowAt X1 rb v' _ := hX1 ▸ HRW.out.alloc _
      have F1 : Fr rb v v' w X1 := hX1 ▸ HFW.out.alloc _
      have L1 : Loc X1 rb v' b5 (whO (V k)) := hX1 ▸ HLW.out.alloc _
      have N1 : ∀ j u, ([.int .u32 (hi (V k) : Nat), .int .u32 (lo (V k) : Nat)] : List Value)[j]? = some u → X1.cell? ((⟨b6, 0, none⟩ : Addr).add j) = some u := by rw [hX1, hb6]; exact two_new
      rw [← hX1, ← hb6]
      have HR1 := hide R1
      have HF1 := hide F1
      have HL1 := hide L1
      have HN1 := hide N1
      have HG1 := hGI _ R1 L1
      refine HKK.out _ _ (fun _ => HG1) ?_
      clear HKK K hX1 hb6 R1 F1 L1 N1
      refine' wpAnyC_one (i := 10) (o := _) (by kernel_rfl) ?ho10 ?hw10 ?rest10
      case ho10 => (simp only [List.getElem?_toArray, List.getElem?_cons_zero, List.getElem?_cons_succ]; rfl)
      case hw10 => rfl
      intro K hK
      have HKK := hide hK
      clear hK
      obtain ⟨i0, hi0, hz0, hz1, hz2⟩ := info_parts Ybaf.info22
      have hlk : (st.xs ++ wl V k).length + 2 ≤ 1000 := by rw [List.length_append, wl_len]; omega
      refine wp_append_sep _ (.tmp 15) (.tmp 20) 25 rfl 0 22 i0 (.int .u32 0) 1 4 Ybaf.underlying25 hi0 hz0 hz1 hz2 rfl (by decide) v' _ _ rfl HR1.out.own ⟨b6, 0, none⟩ 2 2 [.int .u32 (hi (V k) : Nat), .int .u32 (lo (V k) : Nat)] rfl rfl HN1.out (by intro u hu; simp only [List.mem_cons, List.not_mem_nil, or_false] at hu; rcases hu with rfl | rfl <;> rfl) (by unfold maxLen; simp only; omega) (by simp only; omega) (Nat.zero_le _) (by decide) ?_
      intro g cap X2 own gr sep
      obtain ⟨R2, F2, F2', q0, q1⟩ := HR1.out.pushes (em := [hi (V k), lo (V k)]) (m := 2) (by intro x hx; simp only [List.mem_cons, List.not_mem_nil, or_false] at hx; have h1 := hi_lt (HV.out k); have h2 := lo_lt (V k); rcases hx with rfl | rfl <;> omega) rfl hlk own gr sep
      obtain ⟨ln, hln⟩ : ∃ ln, ln = ({ xs := st.xs ++ wl V k, pos := st.pos, build := st.build, lk := st.lk } : RSt).xs.length + 2 := ⟨_, rfl⟩
      rw [← hln] at R2 F2 F2' ⊢
      have HR2 := hide R2
      have HF2 := hide F2
      have HL2 := hide (HL1.out.fr F2')
      clear own gr sep R2 F2 hln
      have HG2 : G X2 := by rw [HGE.out]; exact ⟨q0, cell_of_cells HL2.out.blk rfl, cell_of_cells HL2.out.blk rfl⟩
      refine HKK.out _ _ (fun _ => HG2) ?_
      clear HKK K F2'
      simp only [Act.put, List.setIfInBounds_toArray, List.set_cons_zero, List.set_cons_succ]
      refine' wpAnyC_takeG (T := fun _ => True) (i := 11) (oi := _) (v := .pointer (some ⟨rb, 0, none⟩)) (fun _ _ _ => trivial) ?ho11 (by kernel_rfl) (by kernel_rfl) (by kernel_rfl) (by rfl) ?hQ11 (Or.inl ⟨?hw11, ?hy11⟩) (fun _ => HG2) ?rest11
      case ho11 => (simp only [List.getElem?_toArray, List.getElem?_cons_zero, List.getElem?_cons_succ]; rfl)
      case hQ11 => exact fun _ _ _ h => h
      case hw11 => rfl
      case hy11 => (intro wz _; go_simp)
      simp only [Act.put, List.setIfInBounds_toArray, List.set_cons_zero, List.set_cons_succ]
      refine' wpAnyC_takeG (T := fun _ => True) (i := 12) (oi := _) (v := .pointer (some ⟨rb, 0, none⟩)) (fun _ _ _ => trivial) ?ho12 (by kernel_rfl) (by kernel_rfl) (by kernel_rfl) (by rfl) ?hQ12 (Or.inl ⟨?hw12, ?hy12⟩) (fun _ => HG2) ?rest12
      case ho12 => (simp only [List.getElem?_toArray, List.getElem?_cons_zero, List.getElem?_cons_succ]; rfl)
      case hQ12 => exact fun _ _ _ h => h
      case hw12 => rfl
      case hy12 => (intro wz _; go_simp)
      simp only [Act.put, List.setIfInBounds_toArray, List.set_cons_zero, List.set_cons_succ]
      refine' wpAnyC_one (i := 13) (o := _) (by kernel_rfl) ?ho13 ?hw13 ?rest13
      case ho13 => (simp only [List.getElem?_toArray, List.getElem?_cons_zero, List.getElem?_cons_succ]; rfl)
      case hw13 => rfl
      intro K hK
      have HKK := hide hK
      clear hK
      go_simp
      refine HKK.out _ _ (fun h => Bool.noConfusion (h.symm.trans (show _ = true by kernel_rfl))) ?_
      clear HKK K
      refine wpAnyC_done (by kernel_rfl) ?_ _
      go_wp2_with fail
      go_roundw
      case rel => exact ⟨k + 1, _, by omega, by go_num, HR2.out.cast (by show RSt.mk (st.xs ++ wl V k ++ _) _ _ _ = RSt.mk (st.xs ++ (wl V k ++ _)) _ _ _; rw [List.append_assoc]), HF1.out.trans HF2.out⟩
      case measure => simp [intOf]; omega
    · obtain rfl : k = 16 := by omega
      go_wp2
      go_end0
      exact ⟨rfl, v', HR.out, HF.out⟩
end Go.Proofs.YbulkchdaFmt
