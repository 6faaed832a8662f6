/- (*row).round, walked once. -/
import Derived.Test.YbulkchdaFmtWords
import Derived.Test.YbulkchdaFmtOrder
namespace Go.Proofs.YbulkchdaFmt
open Go.RowKit Bits

theorem Loc.setW {w : World} {rb b k : Nat} {v : Value} {V : Nat → Nat} (h : Loc w rb v b (wO V)) (hk : k < 16) (u : Nat) :
    Loc ((w.setCell ⟨b, k * 2, none⟩ (.int .u32 (hi u : Nat))).setCell ⟨b, k * 2 + 1, none⟩ (.int .u32 (lo u : Nat))) rb v b (wO (upd V k u)) := ⟨wO_set h.blk hk u, h.ne, h.own⟩
theorem Loc.setRow {w : World} {rb k : Nat} {v : Value} {cs cs' : Array Value} {t : TypeId} (h : Loc w rb v k (.cells cs t (0, 0))) : Loc (w.setRow k cs') rb v k (.cells cs' t (0, 0)) := ⟨setRow_heap _ _ _ _ _ _ h.blk, h.ne, h.own⟩
theorem Loc.setRowOther {w : World} {rb k g : Nat} {v : Value} {o : Obj} (h : Loc w rb v k o) (hne : k ≠ g) (cs : Array Value) : Loc (w.setRow g cs) rb v k o := ⟨(setRow_other _ _ _ _ hne).trans h.blk, h.ne, h.own⟩
theorem Fr.setRowNew {rb g : Nat} {v v' : Value} {w w' : World} (h : Fr rb v v' w w') (hg : w.heap.size ≤ g) (cs : Array Value) : Fr rb v v' w (w'.setRow g cs) :=
  ⟨h.os, h.tape, h.output, by simpa using h.size, fun i hi h1 h2 => by
    obtain ⟨a, b⟩ := h.keep i hi h1 h2
    exact ⟨(setRow_other _ _ _ _ (by omega)).trans a, b⟩⟩
theorem RowAt.setRowOther {w : World} {rb g : Nat} {v : Value} {st : RSt} (h : RowAt w rb v st) (h1 : g ≠ rb) (h2 : v.ownBlock ≠ some g) (cs : Array Value) : RowAt (w.setRow g cs) rb v st :=
  ⟨(setRow_other _ _ _ _ (Ne.symm h1)).trans h.blk, h.own.kept (row := some g) ⟨rfl, rfl, rfl, by simp, fun k _ hk => setRow_other _ _ _ _ (fun e => by subst e; simp at hk)⟩ (.inr h2), h.ne, h.bnd, h.len, h.posb, h.lkb⟩
theorem range_setRow {w : World} {g : Nat} {cs : List Value} (h : w.rangeAt 0 0 cs) (hg : 0 < g) (ns : Array Value) : (w.setRow g ns).rangeAt 0 0 cs := fun j u hu => by
  rw [cell_setRow_other _ _ _ _ (by dsimp only; omega)]
  exact h j u hu
theorem gl_lt {w : World} (h : w.rangeAt 0 0 gl) : 0 < w.heap.size := block_lt_of_cell (h 0 (.int .i64 0) rfl)
theorem info42 : (Ybaf.prog.info? 42).map (·.size) = some gl.length := by kernel_rfl

theorem rems_split (V M : Nat → Nat) : ∀ (n k : Nat), ∃ t, rems V M (k + n) = rems V M k ++ t
  | 0, k => ⟨[], by simp⟩
  | n + 1, k => by
    obtain ⟨t, ht⟩ := rems_split V M n k
    exact ⟨t ++ rem (rto V M (k + n)) M (k + n), by rw [← Nat.add_assoc, rems, ht, List.append_assoc]⟩
theorem can_at {st : RSt} {I M : Nat → Nat} (h : st.can (rems I M 8) 128) {k : Nat} (hk : k < 8) : (st.emit (rems I M k) (16 * k)).can (rem (rto I M k) M k) 16 := by
  obtain ⟨t, ht⟩ := rems_split I M (7 - k) (k + 1)
  rw [show k + 1 + (7 - k) = 8 by omega, show rems I M (k + 1) = rems I M k ++ rem (rto I M k) M k from rfl, List.append_assoc] at ht
  rw [ht, show 128 = 16 * k + (16 + (112 - 16 * k)) by omega] at h
  exact RSt.can_left (RSt.can_right h)

set_option maxHeartbeats 4000000 in
set_option maxRecDepth 100000 in
theorem round_any (rb : Nat) (v : Value) (st : RSt) (I M : Nat → Nat) (w : World) (h : RowAt w rb v st) (hI : ∀ i, I i < 4294967296) (hM : ∀ i, M i < 4294967296) (hg : w.rangeAt 0 0 gl)
    (hcan : st.can (rems I M 8) 128) :
    Calls Ybaf.prog 5 #[.pointer (some ⟨rb, 0, none⟩), .agg (wcells I), .agg (wcells M)] w fun e w' =>
      e = .returned (.agg (wcells (rto I M 8))) ∧ ∃ v', RowAt w' rb v' (st.emit (rems I M 8) 128) ∧ Fr rb v v' w w' := by
  obtain ⟨w4, hw4⟩ : ∃ w4, w4 = (((w.alloc (wO I)).alloc (wO M)).alloc (wO fun _ => 0)).alloc (wO fun _ => 0) := ⟨_, rfl⟩
  have R4 : RowAt w4 rb v st := by rw [hw4]; exact (((h.alloc _).alloc _).alloc _).alloc _
  have F4 : Fr rb v v w w4 := by rw [hw4]; exact ((((Fr.refl _ _ _).alloc _).alloc _).alloc _).alloc _
  have g4 : w4.rangeAt 0 0 gl := by rw [hw4]; exact World.rangeAt_alloc (World.rangeAt_alloc (World.rangeAt_alloc (World.rangeAt_alloc hg _) _) _) _
  have hpos := gl_lt hg
  have L0 : Loc w4 rb v w.heap.size (wO I) := by rw [hw4]; exact ((((Loc.new h _).alloc _).alloc _).alloc _)
  have L1 : Loc w4 rb v (w.heap.size + 1) (wO M) := by
    rw [hw4]; exact (((Loc.newAt (h.alloc _) (by simp) _).alloc _).alloc _)
  have L2 : Loc w4 rb v (w.heap.size + 1 + 1) (wO fun _ => 0) := by
    rw [hw4]; exact ((Loc.newAt ((h.alloc _).alloc _) (by simp) _).alloc _)
  have L3 : Loc w4 rb v (w.heap.size + 1 + 1 + 1) (wO fun _ => 0) := by
    rw [hw4]; exact Loc.newAt (((h.alloc _).alloc _).alloc _) (by simp) _
  have L0' : (((w.alloc (wO I)).alloc (wO M)).alloc (wO fun _ => 0)).heap[w.heap.size]? = some (wO I) := blk3 w _ _ _
  have L3' : ((((w.alloc (wO I)).alloc (wO M)).alloc (wO fun _ => 0)).alloc (wO fun _ => 0)).heap[w.heap.size + 1 + 1 + 1]? = some (wO fun _ => 0) := hw4 ▸ L3.blk
  have hz4 := hw4
  unfold wO at L0' L3' hw4
  rw [wcells_zero] at L0' L3' hw4
  have HW := hide hw4
  have HZ := hide hz4
  have HL0 := hide L0'
  have HL3 := hide L3'
  have H0 : wcells (fun _ => 0) = _ := wcells_zero
  obtain ⟨w5, hw5⟩ : ∃ w5, w5 = w4.setRow (w.heap.size + 1 + 1 + 1) (wcells I) := ⟨_, rfl⟩
  have R5 : RowAt w5 rb v st := hw5 ▸ R4.setRowOther L3.ne L3.own _
  have F5 : Fr rb v v w w5 := hw5 ▸ F4.setRowNew (by omega) _
  have g5 : w5.rangeAt 0 0 gl := hw5 ▸ range_setRow g4 (by omega) _
  have M1 : Loc w5 rb v (w.heap.size + 1) (wO M) := hw5 ▸ L1.setRowOther (by omega) _
  have M2 : Loc w5 rb v (w.heap.size + 1 + 1) (wO fun _ => 0) := hw5 ▸ L2.setRowOther (by omega) _
  have M3 : Loc w5 rb v (w.heap.size + 1 + 1 + 1) (wO I) := hw5 ▸ L3.setRow
  have HW5 := hide hw5
  have HG5 := hide g5
  clear hw4 hw5 L0 L1 L2 L3 L0' L3' R4 F4 g4 h hg g5 hz4
  go_enter Ybaf.func5, Ybaf.ntmps5
  go_wp2_with (first | (refine wpList_load_row (by rfl) 33 (.tmp 4) rfl _ rfl 33 (wcells I) (0, 0) _ HL0.out Ybaf.underlying33 rfl (info33 _) ?_) | (refine wpList_store_row (by rfl) 33 (.tmp 7) (.tmp 10) rfl _ _ rfl rfl 33 _ HL3.out (info33 _) (by rw [wcells_size]; rfl) (wcells_all _) ?_; rw [← HW.out, ← HW5.out]) | (refine wpList_load_mid (by rfl) 42 (.global 0) rfl 0 0 rfl gl _ HG5.out Ybaf.underlying42 rfl info42 ?_))
  clear HW HZ HL0 HL3 H0 HW5 HG5 hpos
  go_loopw [12] (fun iv wr => ∃ (k : Nat) (v' : Value), k ≤ 8 ∧ iv = .int .i64 k ∧ RowAt wr rb v' (st.emit (rems I M k) (16 * k)) ∧ Fr rb v v' w wr ∧ Loc wr rb v' (w.heap.size + 1) (wO M) ∧
      Loc wr rb v' (w.heap.size + 1 + 1) (wO fun _ => 0) ∧ Loc wr rb v' (w.heap.size + 1 + 1 + 1) (wO (rto I M k))) (fun iv _ => 8 - (intOf iv).toNat)
  case atStart => exact ⟨0, v, by omega, rfl, R5.cast (RSt.emit_nil st).symm, F5, M1, M2, M3⟩
  case round =>
    obtain ⟨k, v', hk, rfl, R, F, L1, L2, L3⟩ := hrel
    have HR := hide R
    have HF := hide F
    have HL1 := hide L1
    have HL2 := hide L2
    have HL3 := hide L3
    clear R5 F5 M1 M2 M3
    by_cases hlt : k < 8
    · have hidx := gl_index hlt
      have HM := hide hM
      have HV := hide (rto_lt hI (M := M) k)
      clear hI hM R F L1 L2 L3
      go_wp2_with fail
      obtain ⟨x, hx⟩ : ∃ x : Nat, x = 2 * k := ⟨_, rfl⟩
      obtain ⟨y, hy⟩ : ∃ y : Nat, y = x + 1 := ⟨_, rfl⟩
      obtain ⟨W, hW⟩ : ∃ W, W = wr.alloc (.cells #[.int .i64 (ix k 0 : Nat), .int .i64 (ix k 1 : Nat), .int .i64 (ix k 2 : Nat), .int .i64 (ix k 3 : Nat)] 41) := ⟨_, rfl⟩
      have RW : RowAt W rb v' _ := hW ▸ HR.out.alloc _
      have FW : Fr rb v v' w W := hW ▸ HF.out.alloc _
      have LW1 : Loc W rb v' (w.heap.size + 1) (wO M) := hW ▸ HL1.out.alloc _
      have LW2 : Loc W rb v' (w.heap.size + 1 + 1) (wO fun _ => 0) := hW ▸ HL2.out.alloc _
      have LW3 : Loc W rb v' (w.heap.size + 1 + 1 + 1) (wO (rto I M k)) := hW ▸ HL3.out.alloc _
      have LW9 : Loc W rb v' wr.heap.size (.cells #[.int .i64 (ix k 0 : Nat), .int .i64 (ix k 1 : Nat), .int .i64 (ix k 2 : Nat), .int .i64 (ix k 3 : Nat)] 41 (0, 0)) := hW ▸ Loc.new HR.out _
      have hne : w.heap.size + 1 + 1 + 1 ≠ wr.heap.size := by have := HL3.out.lt; omega
      obtain ⟨b0, b1, b2, b3, d01, d02, d03, d12, d13, d23⟩ := ix_spec hlt
      rw [← hW]
      obtain ⟨G, hG⟩ : ∃ G : World → Prop, G = fun w' => w'.cell? ⟨wr.heap.size, 0, none⟩ = some (.int .i64 (ix k 0 : Nat)) ∧ w'.cell? ⟨wr.heap.size, 1, none⟩ = some (.int .i64 (ix k 1 : Nat)) ∧ w'.cell? ⟨wr.heap.size, 2, none⟩ = some (.int .i64 (ix k 2 : Nat)) ∧ w'.cell? ⟨wr.heap.size, 3, none⟩ = some (.int .i64 (ix k 3 : Nat)) := ⟨_, rfl⟩
      have hGL : ∀ (w' : World) (v'' : Value), Loc w' rb v'' wr.heap.size (.cells #[.int .i64 (ix k 0 : Nat), .int .i64 (ix k 1 : Nat), .int .i64 (ix k 2 : Nat), .int .i64 (ix k 3 : Nat)] 41 (0, 0)) → G w' := by
        intro w' v'' L
        rw [hG]
        exact ⟨cell_of_cells L.blk rfl, cell_of_cells L.blk rfl, cell_of_cells L.blk rfl, cell_of_cells L.blk rfl⟩
      have HG0 : G W.drew := hGL _ _ LW9.drew
      have HGE := hide hG
      have kh0 : W.cell? ⟨w.heap.size + 1 + 1 + 1, (ix k 0) * 2, none⟩ = some (.int .u32 (hi ((rto I M k) (ix k 0)) : Nat)) := cell_of_cells LW3.blk (wcells_hi _ b0)
      have kl0 : W.cell? ⟨w.heap.size + 1 + 1 + 1, (ix k 0) * 2 + 1, none⟩ = some (.int .u32 (lo ((rto I M k) (ix k 0)) : Nat)) := cell_of_cells LW3.blk (wcells_lo _ b0)
      have kh1 : W.cell? ⟨w.heap.size + 1 + 1 + 1, (ix k 1) * 2, none⟩ = some (.int .u32 (hi ((rto I M k) (ix k 1)) : Nat)) := cell_of_cells LW3.blk (wcells_hi _ b1)
      have kl1 : W.cell? ⟨w.heap.size + 1 + 1 + 1, (ix k 1) * 2 + 1, none⟩ = some (.int .u32 (lo ((rto I M k) (ix k 1)) : Nat)) := cell_of_cells LW3.blk (wcells_lo _ b1)
      have kh2 : W.cell? ⟨w.heap.size + 1 + 1 + 1, (ix k 2) * 2, none⟩ = some (.int .u32 (hi ((rto I M k) (ix k 2)) : Nat)) := cell_of_cells LW3.blk (wcells_hi _ b2)
      have kl2 : W.cell? ⟨w.heap.size + 1 + 1 + 1, (ix k 2) * 2 + 1, none⟩ = some (.int .u32 (lo ((rto I M k) (ix k 2)) : Nat)) := cell_of_cells LW3.blk (wcells_lo _ b2)
      have kh3 : W.cell? ⟨w.heap.size + 1 + 1 + 1, (ix k 3) * 2, none⟩ = some (.int .u32 (hi ((rto I M k) (ix k 3)) : Nat)) := cell_of_cells LW3.blk (wcells_hi _ b3)
      have kl3 : W.cell? ⟨w.heap.size + 1 + 1 + 1, (ix k 3) * 2 + 1, none⟩ = some (.int .u32 (lo ((rto I M k) (ix k 3)) : Nat)) := cell_of_cells LW3.blk (wcells_lo _ b3)
      have kxh : W.cell? ⟨w.heap.size + 1, x * 2, none⟩ = some (.int .u32 (hi (M x) : Nat)) := cell_of_cells LW1.blk (wcells_hi _ (by omega))
      have kxl : W.cell? ⟨w.heap.size + 1, x * 2 + 1, none⟩ = some (.int .u32 (lo (M x) : Nat)) := cell_of_cells LW1.blk (wcells_lo _ (by omega))
      have kyh : W.cell? ⟨w.heap.size + 1, y * 2, none⟩ = some (.int .u32 (hi (M y) : Nat)) := cell_of_cells LW1.blk (wcells_hi _ (by omega))
      have kyl : W.cell? ⟨w.heap.size + 1, y * 2 + 1, none⟩ = some (.int .u32 (lo (M y) : Nat)) := cell_of_cells LW1.blk (wcells_lo _ (by omega))
      have ex : IntKind.i64.wrap (2 * (k : Int)) = (x : Nat) := by rw [IntKind.wrap_i64]; omega
      have ey : IntKind.i64.wrap ((x : Int) + 1) = (y : Nat) := by rw [IntKind.wrap_i64]; omega
      have bx : (x : Int) < 16 := by omega
      have bY : (y : Int) < 16 := by omega
      have c0 : ((ix k 0 : Nat) : Int) < 16 := by omega
      have c1 : ((ix k 1 : Nat) : Int) < 16 := by omega
      have c2 : ((ix k 2 : Nat) : Int) < 16 := by omega
      have c3 : ((ix k 3 : Nat) : Int) < 16 := by omega
      have HX := hide hx
      have HY := hide hy
      have HWW := hide hW
      clear hx hy hW hG
      refine wp_region_C (S := fun b w' => (b = false → w' = W.drew) ∧ G w') (c := 34) 48 (by rfl) (by kernel_rfl) ?_
      refine' wpAnyC_takeG (T := G) (i := 0) (oi := _) (v := .pointer (some ⟨wr.heap.size, 0, none⟩)) (fun _ _ h => h.2) ?ho0 (by kernel_rfl) (by kernel_rfl) (by kernel_rfl) (by rfl) ?hQ0 (Or.inl ⟨?hw0, ?hy0⟩) ⟨fun _ => rfl, HG0⟩ ?rest0
      case ho0 => (simp only [List.getElem?_toArray, List.getElem?_cons_zero]; rfl)
      case hQ0 => exact fun _ _ _ h => h
      case hw0 => rfl
      case hy0 => (intro wz hSw; rw [HGE.out] at hSw; obtain ⟨hz0, hz1, hz2, hz3⟩ := hSw; go_simp)
      simp only [Act.put, List.setIfInBounds_toArray, List.set_cons_zero, List.set_cons_succ]
      refine' wpAnyC_takeG (T := G) (i := 1) (oi := _) (v := .int .i64 ((ix k 0) : Nat)) (fun _ _ h => h.2) ?ho1 (by kernel_rfl) (by kernel_rfl) (by kernel_rfl) (by rfl) ?hQ1 (Or.inl ⟨?hw1, ?hy1⟩) ⟨fun _ => rfl, HG0⟩ ?rest1
      case ho1 => (simp only [List.getElem?_toArray, List.getElem?_cons_zero, List.getElem?_cons_succ]; rfl)
      case hQ1 => exact fun _ _ _ h => h
      case hw1 => rfl
      case hy1 => (intro wz hSw; rw [HGE.out] at hSw; obtain ⟨hz0, hz1, hz2, hz3⟩ := hSw; go_simp)
      simp only [Act.put, List.setIfInBounds_toArray, List.set_cons_zero, List.set_cons_succ]
      refine' wpAnyC_takeG (T := G) (i := 2) (oi := _) (v := .pointer (some ⟨wr.heap.size, 1, none⟩)) (fun _ _ h => h.2) ?ho2 (by kernel_rfl) (by kernel_rfl) (by kernel_rfl) (by rfl) ?hQ2 (Or.inl ⟨?hw2, ?hy2⟩) ⟨fun _ => rfl, HG0⟩ ?rest2
      case ho2 => (simp only [List.getElem?_toArray, List.getElem?_cons_zero, List.getElem?_cons_succ]; rfl)
      case hQ2 => exact fun _ _ _ h => h
      case hw2 => rfl
      case hy2 => (intro wz hSw; rw [HGE.out] at hSw; obtain ⟨hz0, hz1, hz2, hz3⟩ := hSw; go_simp)
      simp only [Act.put, List.setIfInBounds_toArray, List.set_cons_zero, List.set_cons_succ]
      refine' wpAnyC_takeG (T := G) (i := 3) (oi := _) (v := .int .i64 ((ix k 1) : Nat)) (fun _ _ h => h.2) ?ho3 (by kernel_rfl) (by kernel_rfl) (by kernel_rfl) (by rfl) ?hQ3 (Or.inl ⟨?hw3, ?hy3⟩) ⟨fun _ => rfl, HG0⟩ ?rest3
      case ho3 => (simp only [List.getElem?_toArray, List.getElem?_cons_zero, List.getElem?_cons_succ]; rfl)
      case hQ3 => exact fun _ _ _ h => h
      case hw3 => rfl
      case hy3 => (intro wz hSw; rw [HGE.out] at hSw; obtain ⟨hz0, hz1, hz2, hz3⟩ := hSw; go_simp)
      simp only [Act.put, List.setIfInBounds_toArray, List.set_cons_zero, List.set_cons_succ]
      refine' wpAnyC_takeG (T := G) (i := 4) (oi := _) (v := .pointer (some ⟨wr.heap.size, 2, none⟩)) (fun _ _ h => h.2) ?ho4 (by kernel_rfl) (by kernel_rfl) (by kernel_rfl) (by rfl) ?hQ4 (Or.inl ⟨?hw4, ?hy4⟩) ⟨fun _ => rfl, HG0⟩ ?rest4
      case ho4 => (simp only [List.getElem?_toArray, List.getElem?_cons_zero, List.getElem?_cons_succ]; rfl)
      case hQ4 => exact fun _ _ _ h => h
      case hw4 => rfl
      case hy4 => (intro wz hSw; rw [HGE.out] at hSw; obtain ⟨hz0, hz1, hz2, hz3⟩ := hSw; go_simp)
      simp only [Act.put, List.setIfInBounds_toArray, List.set_cons_zero, List.set_cons_succ]
      refine' wpAnyC_takeG (T := G) (i := 5) (oi := _) (v := .int .i64 ((ix k 2) : Nat)) (fun _ _ h => h.2) ?ho5 (by kernel_rfl) (by kernel_rfl) (by kernel_rfl) (by rfl) ?hQ5 (Or.inl ⟨?hw5, ?hy5⟩) ⟨fun _ => rfl, HG0⟩ ?rest5
      case ho5 => (simp only [List.getElem?_toArray, List.getElem?_cons_zero, List.getElem?_cons_succ]; rfl)
      case hQ5 => exact fun _ _ _ h => h
      case hw5 => rfl
      case hy5 => (intro wz hSw; rw [HGE.out] at hSw; obtain ⟨hz0, hz1, hz2, hz3⟩ := hSw; go_simp)
      simp only [Act.put, List.setIfInBounds_toArray, List.set_cons_zero, List.set_cons_succ]
      refine' wpAnyC_takeG (T := G) (i := 6) (oi := _) (v := .pointer (some ⟨wr.heap.size, 3, none⟩)) (fun _ _ h => h.2) ?ho6 (by kernel_rfl) (by kernel_rfl) (by kernel_rfl) (by rfl) ?hQ6 (Or.inl ⟨?hw6, ?hy6⟩) ⟨fun _ => rfl, HG0⟩ ?rest6
      case ho6 => (simp only [List.getElem?_toArray, List.getElem?_cons_zero, List.getElem?_cons_succ]; rfl)
      case hQ6 => exact fun _ _ _ h => h
      case hw6 => rfl
      case hy6 => (intro wz hSw; rw [HGE.out] at hSw; obtain ⟨hz0, hz1, hz2, hz3⟩ := hSw; go_simp)
      simp only [Act.put, List.setIfInBounds_toArray, List.set_cons_zero, List.set_cons_succ]
      refine' wpAnyC_takeG (T := G) (i := 7) (oi := _) (v := .int .i64 ((ix k 3) : Nat)) (fun _ _ h => h.2) ?ho7 (by kernel_rfl) (by kernel_rfl) (by kernel_rfl) (by rfl) ?hQ7 (Or.inl ⟨?hw7, ?hy7⟩) ⟨fun _ => rfl, HG0⟩ ?rest7
      case ho7 => (simp only [List.getElem?_toArray, List.getElem?_cons_zero, List.getElem?_cons_succ]; rfl)
      case hQ7 => exact fun _ _ _ h => h
      case hw7 => rfl
      case hy7 => (intro wz hSw; rw [HGE.out] at hSw; obtain ⟨hz0, hz1, hz2, hz3⟩ := hSw; go_simp)
      simp only [Act.put, List.setIfInBounds_toArray, List.set_cons_zero, List.set_cons_succ]
      refine' wpAnyC_takeG (T := G) (i := 8) (oi := _) (v := .pointer (some ⟨rb, 0, none⟩)) (fun _ _ h => h.2) ?ho8 (by kernel_rfl) (by kernel_rfl) (by kernel_rfl) (by rfl) ?hQ8 (Or.inl ⟨?hw8, ?hy8⟩) ⟨fun _ => rfl, HG0⟩ ?rest8
      case ho8 => (simp only [List.getElem?_toArray, List.getElem?_cons_zero, List.getElem?_cons_succ]; rfl)
      case hQ8 => exact fun _ _ _ h => h
      case hw8 => rfl
      case hy8 => (intro wz hSw; rw [HGE.out] at hSw; obtain ⟨hz0, hz1, hz2, hz3⟩ := hSw; go_simp)
      simp only [Act.put, List.setIfInBounds_toArray, List.set_cons_zero, List.set_cons_succ]
      refine' wpAnyC_takeG (T := G) (i := 9) (oi := _) (v := .pointer (some ⟨wr.heap.size, 0, none⟩)) (fun _ _ h => h.2) ?ho9 (by kernel_rfl) (by kernel_rfl) (by kernel_rfl) (by rfl) ?hQ9 (Or.inl ⟨?hw9, ?hy9⟩) ⟨fun _ => rfl, HG0⟩ ?rest9
      case ho9 => (simp only [List.getElem?_toArray, List.getElem?_cons_zero, List.getElem?_cons_succ]; rfl)
      case hQ9 => exact fun _ _ _ h => h
      case hw9 => rfl
      case hy9 => (intro wz hSw; rw [HGE.out] at hSw; obtain ⟨hz0, hz1, hz2, hz3⟩ := hSw; go_simp)
      simp only [Act.put, List.setIfInBounds_toArray, List.set_cons_zero, List.set_cons_succ]
      refine' wpAnyC_takeG (T := G) (i := 10) (oi := _) (v := .int .i64 ((ix k 0) : Nat)) (fun _ _ h => h.2) ?ho10 (by kernel_rfl) (by kernel_rfl) (by kernel_rfl) (by rfl) ?hQ10 (Or.inl ⟨?hw10, ?hy10⟩) ⟨fun _ => rfl, HG0⟩ ?rest10
      case ho10 => (simp only [List.getElem?_toArray, List.getElem?_cons_zero, List.getElem?_cons_succ]; rfl)
      case hQ10 => exact fun _ _ _ h => h
      case hw10 => rfl
      case hy10 => (intro wz hSw; rw [HGE.out] at hSw; obtain ⟨hz0, hz1, hz2, hz3⟩ := hSw; go_simp)
      simp only [Act.put, List.setIfInBounds_toArray, List.set_cons_zero, List.set_cons_succ]
      refine' wpAnyC_takeG (T := G) (i := 11) (oi := _) (v := .pointer (some ⟨w.heap.size + 1 + 1 + 1, (ix k 0) * 2, none⟩)) (fun _ _ h => h.2) ?ho11 (by kernel_rfl) (by kernel_rfl) (by kernel_rfl) (by rfl) ?hQ11 (Or.inl ⟨?hw11, ?hy11⟩) ⟨fun _ => rfl, HG0⟩ ?rest11
      case ho11 => (simp only [List.getElem?_toArray, List.getElem?_cons_zero, List.getElem?_cons_succ]; rfl)
      case hQ11 => exact fun _ _ _ h => h
      case hw11 => rfl
      case hy11 => (intro wz hSw; rw [HGE.out] at hSw; obtain ⟨hz0, hz1, hz2, hz3⟩ := hSw; go_simp)
      simp only [Act.put, List.setIfInBounds_toArray, List.set_cons_zero, List.set_cons_succ]
      refine' wpAnyC_takeW (i := 12) (oi := _) (v := wh ((rto I M k) (ix k 0))) ?ho12 (by kernel_rfl) (by kernel_rfl) (by kernel_rfl) (by kernel_rfl) (by rfl) (by rfl) ?hQ12 (Or.inl ⟨?hw12, ?hy12⟩) ⟨fun _ => rfl, HG0⟩ ?rest12
      case ho12 => (simp only [List.getElem?_toArray, List.getElem?_cons_zero, List.getElem?_cons_succ]; rfl)
      case hQ12 => exact fun _ _ _ h => h
      case hw12 => rfl
      case hy12 => (intro wz hSw; rw [hSw.1 rfl]; go_simp)
      simp only [Act.put, List.setIfInBounds_toArray, List.set_cons_zero, List.set_cons_succ]
      refine' wpAnyC_takeG (T := G) (i := 13) (oi := _) (v := .pointer (some ⟨wr.heap.size, 1, none⟩)) (fun _ _ h => h.2) ?ho13 (by kernel_rfl) (by kernel_rfl) (by kernel_rfl) (by rfl) ?hQ13 (Or.inl ⟨?hw13, ?hy13⟩) ⟨fun _ => rfl, HG0⟩ ?rest13
      case ho13 => (simp only [List.getElem?_toArray, List.getElem?_cons_zero, List.getElem?_cons_succ]; rfl)
      case hQ13 => exact fun _ _ _ h => h
      case hw13 => rfl
      case hy13 => (intro wz hSw; rw [HGE.out] at hSw; obtain ⟨hz0, hz1, hz2, hz3⟩ := hSw; go_simp)
      simp only [Act.put, List.setIfInBounds_toArray, List.set_cons_zero, List.set_cons_succ]
      refine' wpAnyC_takeG (T := G) (i := 14) (oi := _) (v := .int .i64 ((ix k 1) : Nat)) (fun _ _ h => h.2) ?ho14 (by kernel_rfl) (by kernel_rfl) (by kernel_rfl) (by rfl) ?hQ14 (Or.inl ⟨?hw14, ?hy14⟩) ⟨fun _ => rfl, HG0⟩ ?rest14
      case ho14 => (simp only [List.getElem?_toArray, List.getElem?_cons_zero, List.getElem?_cons_succ]; rfl)
      case hQ14 => exact fun _ _ _ h => h
      case hw14 => rfl
      case hy14 => (intro wz hSw; rw [HGE.out] at hSw; obtain ⟨hz0, hz1, hz2, hz3⟩ := hSw; go_simp)
      simp only [Act.put, List.setIfInBounds_toArray, List.set_cons_zero, List.set_cons_succ]
      refine' wpAnyC_takeG (T := G) (i := 15) (oi := _) (v := .pointer (some ⟨w.heap.size + 1 + 1 + 1, (ix k 1) * 2, none⟩)) (fun _ _ h => h.2) ?ho15 (by kernel_rfl) (by kernel_rfl) (by kernel_rfl) (by rfl) ?hQ15 (Or.inl ⟨?hw15, ?hy15⟩) ⟨fun _ => rfl, HG0⟩ ?rest15
      case ho15 => (simp only [List.getElem?_toArray, List.getElem?_cons_zero, List.getElem?_cons_succ]; rfl)
      case hQ15 => exact fun _ _ _ h => h
      case hw15 => rfl
      case hy15 => (intro wz hSw; rw [HGE.out] at hSw; obtain ⟨hz0, hz1, hz2, hz3⟩ := hSw; go_simp)
      simp only [Act.put, List.setIfInBounds_toArray, List.set_cons_zero, List.set_cons_succ]
      refine' wpAnyC_takeW (i := 16) (oi := _) (v := wh ((rto I M k) (ix k 1))) ?ho16 (by kernel_rfl) (by kernel_rfl) (by kernel_rfl) (by kernel_rfl) (by rfl) (by rfl) ?hQ16 (Or.inl ⟨?hw16, ?hy16⟩) ⟨fun _ => rfl, HG0⟩ ?rest16
      case ho16 => (simp only [List.getElem?_toArray, List.getElem?_cons_zero, List.getElem?_cons_succ]; rfl)
      case hQ16 => exact fun _ _ _ h => h
      case hw16 => rfl
      case hy16 => (intro wz hSw; rw [hSw.1 rfl]; go_simp)
      simp only [Act.put, List.setIfInBounds_toArray, List.set_cons_zero, List.set_cons_succ]
      refine' wpAnyC_takeG (T := G) (i := 17) (oi := _) (v := .pointer (some ⟨wr.heap.size, 2, none⟩)) (fun _ _ h => h.2) ?ho17 (by kernel_rfl) (by kernel_rfl) (by kernel_rfl) (by rfl) ?hQ17 (Or.inl ⟨?hw17, ?hy17⟩) ⟨fun _ => rfl, HG0⟩ ?rest17
      case ho17 => (simp only [List.getElem?_toArray, List.getElem?_cons_zero, List.getElem?_cons_succ]; rfl)
      case hQ17 => exact fun _ _ _ h => h
      case hw17 => rfl
      case hy17 => (intro wz hSw; rw [HGE.out] at hSw; obtain ⟨hz0, hz1, hz2, hz3⟩ := hSw; go_simp)
      simp only [Act.put, List.setIfInBounds_toArray, List.set_cons_zero, List.set_cons_succ]
      refine' wpAnyC_takeG (T := G) (i := 18) (oi := _) (v := .int .i64 ((ix k 2) : Nat)) (fun _ _ h => h.2) ?ho18 (by kernel_rfl) (by kernel_rfl) (by kernel_rfl) (by rfl) ?hQ18 (Or.inl ⟨?hw18, ?hy18⟩) ⟨fun _ => rfl, HG0⟩ ?rest18
      case ho18 => (simp only [List.getElem?_toArray, List.getElem?_cons_zero, List.getElem?_cons_succ]; rfl)
      case hQ18 => exact fun _ _ _ h => h
      case hw18 => rfl
      case hy18 => (intro wz hSw; rw [HGE.out] at hSw; obtain ⟨hz0, hz1, hz2, hz3⟩ := hSw; go_simp)
      simp only [Act.put, List.setIfInBounds_toArray, List.set_cons_zero, List.set_cons_succ]
      refine' wpAnyC_takeG (T := G) (i := 19) (oi := _) (v := .pointer (some ⟨w.heap.size + 1 + 1 + 1, (ix k 2) * 2, none⟩)) (fun _ _ h => h.2) ?ho19 (by kernel_rfl) (by kernel_rfl) (by kernel_rfl) (by rfl) ?hQ19 (Or.inl ⟨?hw19, ?hy19⟩) ⟨fun _ => rfl, HG0⟩ ?rest19
      case ho19 => (simp only [List.getElem?_toArray, List.getElem?_cons_zero, List.getElem?_cons_succ]; rfl)
      case hQ19 => exact fun _ _ _ h => h
      case hw19 => rfl
      case hy19 => (intro wz hSw; rw [HGE.out] at hSw; obtain ⟨hz0, hz1, hz2, hz3⟩ := hSw; go_simp)
      simp only [Act.put, List.setIfInBounds_toArray, List.set_cons_zero, List.set_cons_succ]
      refine' wpAnyC_takeW (i := 20) (oi := _) (v := wh ((rto I M k) (ix k 2))) ?ho20 (by kernel_rfl) (by kernel_rfl) (by kernel_rfl) (by kernel_rfl) (by rfl) (by rfl) ?hQ20 (Or.inl ⟨?hw20, ?hy20⟩) ⟨fun _ => rfl, HG0⟩ ?rest20
      case ho20 => (simp only [List.getElem?_toArray, List.getElem?_cons_zero, List.getElem?_cons_succ]; rfl)
      case hQ20 => exact fun _ _ _ h => h
      case hw20 => rfl
      case hy20 => (intro wz hSw; rw [hSw.1 rfl]; go_simp)
      simp only [Act.put, List.setIfInBounds_toArray, List.set_cons_zero, List.set_cons_succ]
      refine' wpAnyC_takeG (T := G) (i := 21) (oi := _) (v := .pointer (some ⟨wr.heap.size, 3, none⟩)) (fun _ _ h => h.2) ?ho21 (by kernel_rfl) (by kernel_rfl) (by kernel_rfl) (by rfl) ?hQ21 (Or.inl ⟨?hw21, ?hy21⟩) ⟨fun _ => rfl, HG0⟩ ?rest21
      case ho21 => (simp only [List.getElem?_toArray, List.getElem?_cons_zero, List.getElem?_cons_succ]; rfl)
      case hQ21 => exact fun _ _ _ h => h
      case hw21 => rfl
      case hy21 => (intro wz hSw; rw [HGE.out] at hSw; obtain ⟨hz0, hz1, hz2, hz3⟩ := hSw; go_simp)
      simp only [Act.put, List.setIfInBounds_toArray, List.set_cons_zero, List.set_cons_succ]
      refine' wpAnyC_takeG (T := G) (i := 22) (oi := _) (v := .int .i64 ((ix k 3) : Nat)) (fun _ _ h => h.2) ?ho22 (by kernel_rfl) (by kernel_rfl) (by kernel_rfl) (by rfl) ?hQ22 (Or.inl ⟨?hw22, ?hy22⟩) ⟨fun _ => rfl, HG0⟩ ?rest22
      case ho22 => (simp only [List.getElem?_toArray, List.getElem?_cons_zero, List.getElem?_cons_succ]; rfl)
      case hQ22 => exact fun _ _ _ h => h
      case hw22 => rfl
      case hy22 => (intro wz hSw; rw [HGE.out] at hSw; obtain ⟨hz0, hz1, hz2, hz3⟩ := hSw; go_simp)
      simp only [Act.put, List.setIfInBounds_toArray, List.set_cons_zero, List.set_cons_succ]
      refine' wpAnyC_takeG (T := G) (i := 23) (oi := _) (v := .pointer (some ⟨w.heap.size + 1 + 1 + 1, (ix k 3) * 2, none⟩)) (fun _ _ h => h.2) ?ho23 (by kernel_rfl) (by kernel_rfl) (by kernel_rfl) (by rfl) ?hQ23 (Or.inl ⟨?hw23, ?hy23⟩) ⟨fun _ => rfl, HG0⟩ ?rest23
      case ho23 => (simp only [List.getElem?_toArray, List.getElem?_cons_zero, List.getElem?_cons_succ]; rfl)
      case hQ23 => exact fun _ _ _ h => h
      case hw23 => rfl
      case hy23 => (intro wz hSw; rw [HGE.out] at hSw; obtain ⟨hz0, hz1, hz2, hz3⟩ := hSw; go_simp)
      simp only [Act.put, List.setIfInBounds_toArray, List.set_cons_zero, List.set_cons_succ]
      refine' wpAnyC_takeW (i := 24) (oi := _) (v := wh ((rto I M k) (ix k 3))) ?ho24 (by kernel_rfl) (by kernel_rfl) (by kernel_rfl) (by kernel_rfl) (by rfl) (by rfl) ?hQ24 (Or.inl ⟨?hw24, ?hy24⟩) ⟨fun _ => rfl, HG0⟩ ?rest24
      case ho24 => (simp only [List.getElem?_toArray, List.getElem?_cons_zero, List.getElem?_cons_succ]; rfl)
      case hQ24 => exact fun _ _ _ h => h
      case hw24 => rfl
      case hy24 => (intro wz hSw; rw [hSw.1 rfl]; go_simp)
      simp only [Act.put, List.setIfInBounds_toArray, List.set_cons_zero, List.set_cons_succ]
      refine' wpAnyC_takeG (T := G) (i := 25) (oi := _) (v := .int .i64 (k : Nat)) (fun _ _ h => h.2) ?ho25 (by kernel_rfl) (by kernel_rfl) (by kernel_rfl) (by rfl) ?hQ25 (Or.inl ⟨?hw25, ?hy25⟩) ⟨fun _ => rfl, HG0⟩ ?rest25
      case ho25 => (simp only [List.getElem?_toArray, List.getElem?_cons_zero, List.getElem?_cons_succ]; rfl)
      case hQ25 => exact fun _ _ _ h => h
      case hw25 => rfl
      case hy25 => (intro wz hSw; rw [HGE.out] at hSw; obtain ⟨hz0, hz1, hz2, hz3⟩ := hSw; go_simp)
      simp only [Act.put, List.setIfInBounds_toArray, List.set_cons_zero, List.set_cons_succ]
      refine' wpAnyC_takeG (T := G) (i := 26) (oi := _) (v := .int .i64 (x : Nat)) (fun _ _ h => h.2) ?ho26 (by kernel_rfl) (by kernel_rfl) (by kernel_rfl) (by rfl) ?hQ26 (Or.inl ⟨?hw26, ?hy26⟩) ⟨fun _ => rfl, HG0⟩ ?rest26
      case ho26 => (simp only [List.getElem?_toArray, List.getElem?_cons_zero, List.getElem?_cons_succ]; rfl)
      case hQ26 => exact fun _ _ _ h => h
      case hw26 => rfl
      case hy26 => (intro wz hSw; rw [HGE.out] at hSw; obtain ⟨hz0, hz1, hz2, hz3⟩ := hSw; go_simp)
      simp only [Act.put, List.setIfInBounds_toArray, List.set_cons_zero, List.set_cons_succ]
      refine' wpAnyC_takeG (T := G) (i := 27) (oi := _) (v := .pointer (some ⟨w.heap.size + 1, x * 2, none⟩)) (fun _ _ h => h.2) ?ho27 (by kernel_rfl) (by kernel_rfl) (by kernel_rfl) (by rfl) ?hQ27 (Or.inl ⟨?hw27, ?hy27⟩) ⟨fun _ => rfl, HG0⟩ ?rest27
      case ho27 => (simp only [List.getElem?_toArray, List.getElem?_cons_zero, List.getElem?_cons_succ]; rfl)
      case hQ27 => exact fun _ _ _ h => h
      case hw27 => rfl
      case hy27 => (intro wz hSw; rw [HGE.out] at hSw; obtain ⟨hz0, hz1, hz2, hz3⟩ := hSw; go_simp)
      simp only [Act.put, List.setIfInBounds_toArray, List.set_cons_zero, List.set_cons_succ]
      refine' wpAnyC_takeW (i := 28) (oi := _) (v := wh (M x)) ?ho28 (by kernel_rfl) (by kernel_rfl) (by kernel_rfl) (by kernel_rfl) (by rfl) (by rfl) ?hQ28 (Or.inl ⟨?hw28, ?hy28⟩) ⟨fun _ => rfl, HG0⟩ ?rest28
      case ho28 => (simp only [List.getElem?_toArray, List.getElem?_cons_zero, List.getElem?_cons_succ]; rfl)
      case hQ28 => exact fun _ _ _ h => h
      case hw28 => rfl
      case hy28 => (intro wz hSw; rw [hSw.1 rfl]; go_simp)
      simp only [Act.put, List.setIfInBounds_toArray, List.set_cons_zero, List.set_cons_succ]
      refine' wpAnyC_takeG (T := G) (i := 29) (oi := _) (v := .int .i64 (k : Nat)) (fun _ _ h => h.2) ?ho29 (by kernel_rfl) (by kernel_rfl) (by kernel_rfl) (by rfl) ?hQ29 (Or.inl ⟨?hw29, ?hy29⟩) ⟨fun _ => rfl, HG0⟩ ?rest29
      case ho29 => (simp only [List.getElem?_toArray, List.getElem?_cons_zero, List.getElem?_cons_succ]; rfl)
      case hQ29 => exact fun _ _ _ h => h
      case hw29 => rfl
      case hy29 => (intro wz hSw; rw [HGE.out] at hSw; obtain ⟨hz0, hz1, hz2, hz3⟩ := hSw; go_simp)
      simp only [Act.put, List.setIfInBounds_toArray, List.set_cons_zero, List.set_cons_succ]
      refine' wpAnyC_takeG (T := G) (i := 30) (oi := _) (v := .int .i64 (x : Nat)) (fun _ _ h => h.2) ?ho30 (by kernel_rfl) (by kernel_rfl) (by kernel_rfl) (by rfl) ?hQ30 (Or.inl ⟨?hw30, ?hy30⟩) ⟨fun _ => rfl, HG0⟩ ?rest30
      case ho30 => (simp only [List.getElem?_toArray, List.getElem?_cons_zero, List.getElem?_cons_succ]; rfl)
      case hQ30 => exact fun _ _ _ h => h
      case hw30 => rfl
      case hy30 => (intro wz hSw; rw [HGE.out] at hSw; obtain ⟨hz0, hz1, hz2, hz3⟩ := hSw; go_simp)
      simp only [Act.put, List.setIfInBounds_toArray, List.set_cons_zero, List.set_cons_succ]
      refine' wpAnyC_takeG (T := G) (i := 31) (oi := _) (v := .int .i64 (y : Nat)) (fun _ _ h => h.2) ?ho31 (by kernel_rfl) (by kernel_rfl) (by kernel_rfl) (by rfl) ?hQ31 (Or.inl ⟨?hw31, ?hy31⟩) ⟨fun _ => rfl, HG0⟩ ?rest31
      case ho31 => (simp only [List.getElem?_toArray, List.getElem?_cons_zero, List.getElem?_cons_succ]; rfl)
      case hQ31 => exact fun _ _ _ h => h
      case hw31 => rfl
      case hy31 => (intro wz hSw; rw [HGE.out] at hSw; obtain ⟨hz0, hz1, hz2, hz3⟩ := hSw; go_simp)
      simp only [Act.put, List.setIfInBounds_toArray, List.set_cons_zero, List.set_cons_succ]
      refine' wpAnyC_takeG (T := G) (i := 32) (oi := _) (v := .pointer (some ⟨w.heap.size + 1, y * 2, none⟩)) (fun _ _ h => h.2) ?ho32 (by kernel_rfl) (by kernel_rfl) (by kernel_rfl) (by rfl) ?hQ32 (Or.inl ⟨?hw32, ?hy32⟩) ⟨fun _ => rfl, HG0⟩ ?rest32
      case ho32 => (simp only [List.getElem?_toArray, List.getElem?_cons_zero, List.getElem?_cons_succ]; rfl)
      case hQ32 => exact fun _ _ _ h => h
      case hw32 => rfl
      case hy32 => (intro wz hSw; rw [HGE.out] at hSw; obtain ⟨hz0, hz1, hz2, hz3⟩ := hSw; go_simp)
      simp only [Act.put, List.setIfInBounds_toArray, List.set_cons_zero, List.set_cons_succ]
      refine' wpAnyC_takeW (i := 33) (oi := _) (v := wh (M y)) ?ho33 (by kernel_rfl) (by kernel_rfl) (by kernel_rfl) (by kernel_rfl) (by rfl) (by rfl) ?hQ33 (Or.inl ⟨?hw33, ?hy33⟩) ⟨fun _ => rfl, HG0⟩ ?rest33
      case ho33 => (simp only [List.getElem?_toArray, List.getElem?_cons_zero, List.getElem?_cons_succ]; rfl)
      case hQ33 => exact fun _ _ _ h => h
      case hw33 => rfl
      case hy33 => (intro wz hSw; rw [hSw.1 rfl]; go_simp)
      simp only [Act.put, List.setIfInBounds_toArray, List.set_cons_zero, List.set_cons_succ]
      obtain ⟨m, hm⟩ : ∃ m, m = mix ((rto I M k) (ix k 0)) ((rto I M k) (ix k 1)) ((rto I M k) (ix k 2)) ((rto I M k) (ix k 3)) (M x) (M y) := ⟨_, rfl⟩
      have hcan' : (st.emit (rems I M k) (16 * k)).can (emMix ((rto I M k) (ix k 0)) ((rto I M k) (ix k 1)) ((rto I M k) (ix k 2)) ((rto I M k) (ix k 3)) (M x) (M y)) 16 := by rw [HY.out, HX.out]; exact can_at hcan hlt
      have HCAN := hide hcan'
      have HMM := hide hm
      have HRW := hide RW
      have HFW := hide FW
      have HA1 := hide LW1
      have HA2 := hide LW2
      have HA3 := hide LW3
      have HA9 := hide LW9
      clear hm hcan' RW FW LW1 LW2 LW3 LW9
      refine' wpAnyC_one (i := 34) (o := _) (by kernel_rfl) ?ho34 ?hw34 ?rest34
      case ho34 => (simp only [List.getElem?_toArray, List.getElem?_cons_zero, List.getElem?_cons_succ]; rfl)
      case hw34 => rfl
      intro K hK
      have HKK := hide hK
      clear hK kh0 kh1 kh2 kh3 kl0 kl1 kl2 kl3 kxh kxl kyh kyl HG0
      go_simp
      refine (g_any rb v' _ _ _ _ _ _ _ _ HRW.out.drew (HV.out _) (HV.out _) (HV.out _) (HV.out _) (HM.out _) (HM.out _) HCAN.out).mono ?_
      rw [← HMM.out]
      rintro e w1 ⟨rfl, v1, R1, F1⟩
      have HR1 := hide R1
      have HF1 := hide (HFW.out.drew.trans F1)
      have HB1 := hide (HA1.out.drew.fr F1)
      have HB2 := hide (HA2.out.drew.fr F1)
      have HB3 := hide (HA3.out.drew.fr F1)
      have HB9 := hide (HA9.out.drew.fr F1)
      have HG1 := hGL _ _ HB9.out
      clear R1 F1
      dsimp only
      refine HKK.out _ _ ⟨fun h => Bool.noConfusion (h.symm.trans (show _ = true by kernel_rfl)), HG1⟩ ?_
      clear HKK K
      refine' wpAnyC_takeG (T := G) (i := 35) (oi := _) (v := .tuple #[wh m.a, wh m.b, wh m.c, wh m.d]) (fun _ _ h => h.2) ?ho35 (by kernel_rfl) (by kernel_rfl) (by kernel_rfl) (by rfl) ?hQ35 (Or.inl ⟨?hw35, ?hy35⟩) ⟨fun h => Bool.noConfusion (h.symm.trans (show _ = true by kernel_rfl)), HG1⟩ ?rest35
      case ho35 => (simp only [List.getElem?_toArray, List.getElem?_cons_zero, List.getElem?_cons_succ]; rfl)
      case hQ35 => exact fun _ _ _ h => h
      case hw35 => rfl
      case hy35 => (intro wz hSw; rw [HGE.out] at hSw; obtain ⟨hz0, hz1, hz2, hz3⟩ := hSw; go_simp)
      simp only [Act.put, List.setIfInBounds_toArray, List.set_cons_zero, List.set_cons_succ]
      refine' wpAnyC_takeG (T := G) (i := 36) (oi := _) (v := wh m.a) (fun _ _ h => h.2) ?ho36 (by kernel_rfl) (by kernel_rfl) (by kernel_rfl) (by rfl) ?hQ36 (Or.inl ⟨?hw36, ?hy36⟩) ⟨fun h => Bool.noConfusion (h.symm.trans (show _ = true by kernel_rfl)), HG1⟩ ?rest36
      case ho36 => (simp only [List.getElem?_toArray, List.getElem?_cons_zero, List.getElem?_cons_succ]; rfl)
      case hQ36 => exact fun _ _ _ h => h
      case hw36 => rfl
      case hy36 => (intro wz hSw; rw [HGE.out] at hSw; obtain ⟨hz0, hz1, hz2, hz3⟩ := hSw; go_simp)
      simp only [Act.put, List.setIfInBounds_toArray, List.set_cons_zero, List.set_cons_succ]
      refine' wpAnyC_takeG (T := G) (i := 37) (oi := _) (v := wh m.b) (fun _ _ h => h.2) ?ho37 (by kernel_rfl) (by kernel_rfl) (by kernel_rfl) (by rfl) ?hQ37 (Or.inl ⟨?hw37, ?hy37⟩) ⟨fun h => Bool.noConfusion (h.symm.trans (show _ = true by kernel_rfl)), HG1⟩ ?rest37
      case ho37 => (simp only [List.getElem?_toArray, List.getElem?_cons_zero, List.getElem?_cons_succ]; rfl)
      case hQ37 => exact fun _ _ _ h => h
      case hw37 => rfl
      case hy37 => (intro wz hSw; rw [HGE.out] at hSw; obtain ⟨hz0, hz1, hz2, hz3⟩ := hSw; go_simp)
      simp only [Act.put, List.setIfInBounds_toArray, List.set_cons_zero, List.set_cons_succ]
      refine' wpAnyC_takeG (T := G) (i := 38) (oi := _) (v := wh m.c) (fun _ _ h => h.2) ?ho38 (by kernel_rfl) (by kernel_rfl) (by kernel_rfl) (by rfl) ?hQ38 (Or.inl ⟨?hw38, ?hy38⟩) ⟨fun h => Bool.noConfusion (h.symm.trans (show _ = true by kernel_rfl)), HG1⟩ ?rest38
      case ho38 => (simp only [List.getElem?_toArray, List.getElem?_cons_zero, List.getElem?_cons_succ]; rfl)
      case hQ38 => exact fun _ _ _ h => h
      case hw38 => rfl
      case hy38 => (intro wz hSw; rw [HGE.out] at hSw; obtain ⟨hz0, hz1, hz2, hz3⟩ := hSw; go_simp)
      simp only [Act.put, List.setIfInBounds_toArray, List.set_cons_zero, List.set_cons_succ]
      refine' wpAnyC_takeG (T := G) (i := 39) (oi := _) (v := wh m.d) (fun _ _ h => h.2) ?ho39 (by kernel_rfl) (by kernel_rfl) (by kernel_rfl) (by rfl) ?hQ39 (Or.inl ⟨?hw39, ?hy39⟩) ⟨fun h => Bool.noConfusion (h.symm.trans (show _ = true by kernel_rfl)), HG1⟩ ?rest39
      case ho39 => (simp only [List.getElem?_toArray, List.getElem?_cons_zero, List.getElem?_cons_succ]; rfl)
      case hQ39 => exact fun _ _ _ h => h
      case hw39 => rfl
      case hy39 => (intro wz hSw; rw [HGE.out] at hSw; obtain ⟨hz0, hz1, hz2, hz3⟩ := hSw; go_simp)
      simp only [Act.put, List.setIfInBounds_toArray, List.set_cons_zero, List.set_cons_succ]
      refine' wpAnyC_takeG (T := G) (i := 40) (oi := _) (v := .pointer (some ⟨w.heap.size + 1 + 1 + 1, (ix k 0) * 2, none⟩)) (fun _ _ h => h.2) ?ho40 (by kernel_rfl) (by kernel_rfl) (by kernel_rfl) (by rfl) ?hQ40 (Or.inl ⟨?hw40, ?hy40⟩) ⟨fun h => Bool.noConfusion (h.symm.trans (show _ = true by kernel_rfl)), HG1⟩ ?rest40
      case ho40 => (simp only [List.getElem?_toArray, List.getElem?_cons_zero, List.getElem?_cons_succ]; rfl)
      case hQ40 => exact fun _ _ _ h => h
      case hw40 => rfl
      case hy40 => (intro wz hSw; rw [HGE.out] at hSw; obtain ⟨hz0, hz1, hz2, hz3⟩ := hSw; go_simp)
      simp only [Act.put, List.setIfInBounds_toArray, List.set_cons_zero, List.set_cons_succ]
      have kh : w1.cell? ⟨w.heap.size + 1 + 1 + 1, (ix k 0) * 2, none⟩ = some (.int .u32 (hi ((rto I M k) (ix k 0)) : Nat)) := cell_of_cells HB3.out.blk (wcells_hi _ b0)
      have kl : w1.cell? ⟨w.heap.size + 1 + 1 + 1, (ix k 0) * 2 + 1, none⟩ = some (.int .u32 (lo ((rto I M k) (ix k 0)) : Nat)) := cell_of_cells HB3.out.blk (wcells_lo _ b0)
      have fh := free_of_cells (i := (ix k 0) * 2) HB3.out.blk
      have fl := free_of_cells (i := (ix k 0) * 2 + 1) HB3.out.blk
      refine' wpAnyC_one (i := 41) (o := _) (by kernel_rfl) ?ho41 ?hw41 ?rest41
      case ho41 => (simp only [List.getElem?_toArray, List.getElem?_cons_zero, List.getElem?_cons_succ]; rfl)
      case hw41 => rfl
      intro K hK
      have HKK := hide hK
      clear hK
      go_simp
      obtain ⟨w2, hw⟩ : ∃ w2, w2 = (w1.setCell ⟨w.heap.size + 1 + 1 + 1, (ix k 0) * 2, none⟩ (.int .u32 (hi m.a : Nat))).setCell ⟨w.heap.size + 1 + 1 + 1, (ix k 0) * 2 + 1, none⟩ (.int .u32 (lo m.a : Nat)) := ⟨_, rfl⟩
      have HR2 := hide (show RowAt w2 rb v1 _ from hw ▸ (HR1.out.setOther HB3.out.ne HB3.out.own _).setOther HB3.out.ne HB3.out.own _)
      have HF2 := hide (show Fr rb v v1 w w2 from hw ▸ (HF1.out.setNew (p := ⟨w.heap.size + 1 + 1 + 1, (ix k 0) * 2, none⟩) (by dsimp only; omega) _).setNew (p := ⟨w.heap.size + 1 + 1 + 1, (ix k 0) * 2 + 1, none⟩) (by dsimp only; omega) _)
      have HB1x2 := hide (show Loc w2 rb v1 _ _ from hw ▸ (HB1.out.setOther (by omega) _).setOther (by omega) _)
      have HB2x2 := hide (show Loc w2 rb v1 _ _ from hw ▸ (HB2.out.setOther (by omega) _).setOther (by omega) _)
      have HB3x2 := hide (show Loc w2 rb v1 _ _ from hw ▸ HB3.out.setW b0 m.a)
      have HB9x2 := hide (show Loc w2 rb v1 _ _ from hw ▸ (HB9.out.setOther (Ne.symm hne) _).setOther (Ne.symm hne) _)
      have HG2 := hGL _ _ HB9x2.out
      rw [← hw]
      clear hw kh kl fh fl
      refine HKK.out _ _ ⟨fun h => Bool.noConfusion (h.symm.trans (show _ = true by kernel_rfl)), HG2⟩ ?_
      clear HKK K
      refine' wpAnyC_takeG (T := G) (i := 42) (oi := _) (v := .pointer (some ⟨w.heap.size + 1 + 1 + 1, (ix k 1) * 2, none⟩)) (fun _ _ h => h.2) ?ho42 (by kernel_rfl) (by kernel_rfl) (by kernel_rfl) (by rfl) ?hQ42 (Or.inl ⟨?hw42, ?hy42⟩) ⟨fun h => Bool.noConfusion (h.symm.trans (show _ = true by kernel_rfl)), HG2⟩ ?rest42
      case ho42 => (simp only [List.getElem?_toArray, List.getElem?_cons_zero, List.getElem?_cons_succ]; rfl)
      case hQ42 => exact fun _ _ _ h => h
      case hw42 => rfl
      case hy42 => (intro wz hSw; rw [HGE.out] at hSw; obtain ⟨hz0, hz1, hz2, hz3⟩ := hSw; go_simp)
      simp only [Act.put, List.setIfInBounds_toArray, List.set_cons_zero, List.set_cons_succ]
      have kh : w2.cell? ⟨w.heap.size + 1 + 1 + 1, (ix k 1) * 2, none⟩ = some (.int .u32 (hi ((upd (rto I M k) (ix k 0) m.a) (ix k 1)) : Nat)) := cell_of_cells HB3x2.out.blk (wcells_hi _ b1)
      have kl : w2.cell? ⟨w.heap.size + 1 + 1 + 1, (ix k 1) * 2 + 1, none⟩ = some (.int .u32 (lo ((upd (rto I M k) (ix k 0) m.a) (ix k 1)) : Nat)) := cell_of_cells HB3x2.out.blk (wcells_lo _ b1)
      have fh := free_of_cells (i := (ix k 1) * 2) HB3x2.out.blk
      have fl := free_of_cells (i := (ix k 1) * 2 + 1) HB3x2.out.blk
      refine' wpAnyC_one (i := 43) (o := _) (by kernel_rfl) ?ho43 ?hw43 ?rest43
      case ho43 => (simp only [List.getElem?_toArray, List.getElem?_cons_zero, List.getElem?_cons_succ]; rfl)
      case hw43 => rfl
      intro K hK
      have HKK := hide hK
      clear hK
      go_simp
      obtain ⟨w3, hw⟩ : ∃ w3, w3 = (w2.setCell ⟨w.heap.size + 1 + 1 + 1, (ix k 1) * 2, none⟩ (.int .u32 (hi m.b : Nat))).setCell ⟨w.heap.size + 1 + 1 + 1, (ix k 1) * 2 + 1, none⟩ (.int .u32 (lo m.b : Nat)) := ⟨_, rfl⟩
      have HR3 := hide (show RowAt w3 rb v1 _ from hw ▸ (HR2.out.setOther HB3x2.out.ne HB3x2.out.own _).setOther HB3x2.out.ne HB3x2.out.own _)
      have HF3 := hide (show Fr rb v v1 w w3 from hw ▸ (HF2.out.setNew (p := ⟨w.heap.size + 1 + 1 + 1, (ix k 1) * 2, none⟩) (by dsimp only; omega) _).setNew (p := ⟨w.heap.size + 1 + 1 + 1, (ix k 1) * 2 + 1, none⟩) (by dsimp only; omega) _)
      have HB1x3 := hide (show Loc w3 rb v1 _ _ from hw ▸ (HB1x2.out.setOther (by omega) _).setOther (by omega) _)
      have HB2x3 := hide (show Loc w3 rb v1 _ _ from hw ▸ (HB2x2.out.setOther (by omega) _).setOther (by omega) _)
      have HB3x3 := hide (show Loc w3 rb v1 _ _ from hw ▸ HB3x2.out.setW b1 m.b)
      have HB9x3 := hide (show Loc w3 rb v1 _ _ from hw ▸ (HB9x2.out.setOther (Ne.symm hne) _).setOther (Ne.symm hne) _)
      have HG3 := hGL _ _ HB9x3.out
      rw [← hw]
      clear hw kh kl fh fl
      refine HKK.out _ _ ⟨fun h => Bool.noConfusion (h.symm.trans (show _ = true by kernel_rfl)), HG3⟩ ?_
      clear HKK K
      refine' wpAnyC_takeG (T := G) (i := 44) (oi := _) (v := .pointer (some ⟨w.heap.size + 1 + 1 + 1, (ix k 2) * 2, none⟩)) (fun _ _ h => h.2) ?ho44 (by kernel_rfl) (by kernel_rfl) (by kernel_rfl) (by rfl) ?hQ44 (Or.inl ⟨?hw44, ?hy44⟩) ⟨fun h => Bool.noConfusion (h.symm.trans (show _ = true by kernel_rfl)), HG3⟩ ?rest44
      case ho44 => (simp only [List.getElem?_toArray, List.getElem?_cons_zero, List.getElem?_cons_succ]; rfl)
      case hQ44 => exact fun _ _ _ h => h
      case hw44 => rfl
      case hy44 => (intro wz hSw; rw [HGE.out] at hSw; obtain ⟨hz0, hz1, hz2, hz3⟩ := hSw; go_simp)
      simp only [Act.put, List.setIfInBounds_toArray, List.set_cons_zero, List.set_cons_succ]
      have kh : w3.cell? ⟨w.heap.size + 1 + 1 + 1, (ix k 2) * 2, none⟩ = some (.int .u32 (hi ((upd (upd (rto I M k) (ix k 0) m.a) (ix k 1) m.b) (ix k 2)) : Nat)) := cell_of_cells HB3x3.out.blk (wcells_hi _ b2)
      have kl : w3.cell? ⟨w.heap.size + 1 + 1 + 1, (ix k 2) * 2 + 1, none⟩ = some (.int .u32 (lo ((upd (upd (rto I M k) (ix k 0) m.a) (ix k 1) m.b) (ix k 2)) : Nat)) := cell_of_cells HB3x3.out.blk (wcells_lo _ b2)
      have fh := free_of_cells (i := (ix k 2) * 2) HB3x3.out.blk
      have fl := free_of_cells (i := (ix k 2) * 2 + 1) HB3x3.out.blk
      refine' wpAnyC_one (i := 45) (o := _) (by kernel_rfl) ?ho45 ?hw45 ?rest45
      case ho45 => (simp only [List.getElem?_toArray, List.getElem?_cons_zero, List.getElem?_cons_succ]; rfl)
      case hw45 => rfl
      intro K hK
      have HKK := hide hK
      clear hK
      go_simp
      obtain ⟨w4, hw⟩ : ∃ w4, w4 = (w3.setCell ⟨w.heap.size + 1 + 1 + 1, (ix k 2) * 2, none⟩ (.int .u32 (hi m.c : Nat))).setCell ⟨w.heap.size + 1 + 1 + 1, (ix k 2) * 2 + 1, none⟩ (.int .u32 (lo m.c : Nat)) := ⟨_, rfl⟩
      have HR4 := hide (show RowAt w4 rb v1 _ from hw ▸ (HR3.out.setOther HB3x3.out.ne HB3x3.out.own _).setOther HB3x3.out.ne HB3x3.out.own _)
      have HF4 := hide (show Fr rb v v1 w w4 from hw ▸ (HF3.out.setNew (p := ⟨w.heap.size + 1 + 1 + 1, (ix k 2) * 2, none⟩) (by dsimp only; omega) _).setNew (p := ⟨w.heap.size + 1 + 1 + 1, (ix k 2) * 2 + 1, none⟩) (by dsimp only; omega) _)
      have HB1x4 := hide (show Loc w4 rb v1 _ _ from hw ▸ (HB1x3.out.setOther (by omega) _).setOther (by omega) _)
      have HB2x4 := hide (show Loc w4 rb v1 _ _ from hw ▸ (HB2x3.out.setOther (by omega) _).setOther (by omega) _)
      have HB3x4 := hide (show Loc w4 rb v1 _ _ from hw ▸ HB3x3.out.setW b2 m.c)
      have HB9x4 := hide (show Loc w4 rb v1 _ _ from hw ▸ (HB9x3.out.setOther (Ne.symm hne) _).setOther (Ne.symm hne) _)
      have HG4 := hGL _ _ HB9x4.out
      rw [← hw]
      clear hw kh kl fh fl
      refine HKK.out _ _ ⟨fun h => Bool.noConfusion (h.symm.trans (show _ = true by kernel_rfl)), HG4⟩ ?_
      clear HKK K
      refine' wpAnyC_takeG (T := G) (i := 46) (oi := _) (v := .pointer (some ⟨w.heap.size + 1 + 1 + 1, (ix k 3) * 2, none⟩)) (fun _ _ h => h.2) ?ho46 (by kernel_rfl) (by kernel_rfl) (by kernel_rfl) (by rfl) ?hQ46 (Or.inl ⟨?hw46, ?hy46⟩) ⟨fun h => Bool.noConfusion (h.symm.trans (show _ = true by kernel_rfl)), HG4⟩ ?rest46
      case ho46 => (simp only [List.getElem?_toArray, List.getElem?_cons_zero, List.getElem?_cons_succ]; rfl)
      case hQ46 => exact fun _ _ _ h => h
      case hw46 => rfl
      case hy46 => (intro wz hSw; rw [HGE.out] at hSw; obtain ⟨hz0, hz1, hz2, hz3⟩ := hSw; go_simp)
      simp only [Act.put, List.setIfInBounds_toArray, List.set_cons_zero, List.set_cons_succ]
      have kh : w4.cell? ⟨w.heap.size + 1 + 1 + 1, (ix k 3) * 2, none⟩ = some (.int .u32 (hi ((upd (upd (upd (rto I M k) (ix k 0) m.a) (ix k 1) m.b) (ix k 2) m.c) (ix k 3)) : Nat)) := cell_of_cells HB3x4.out.blk (wcells_hi _ b3)
      have kl : w4.cell? ⟨w.heap.size + 1 + 1 + 1, (ix k 3) * 2 + 1, none⟩ = some (.int .u32 (lo ((upd (upd (upd (rto I M k) (ix k 0) m.a) (ix k 1) m.b) (ix k 2) m.c) (ix k 3)) : Nat)) := cell_of_cells HB3x4.out.blk (wcells_lo _ b3)
      have fh := free_of_cells (i := (ix k 3) * 2) HB3x4.out.blk
      have fl := free_of_cells (i := (ix k 3) * 2 + 1) HB3x4.out.blk
      refine' wpAnyC_one (i := 47) (o := _) (by kernel_rfl) ?ho47 ?hw47 ?rest47
      case ho47 => (simp only [List.getElem?_toArray, List.getElem?_cons_zero, List.getElem?_cons_succ]; rfl)
      case hw47 => rfl
      intro K hK
      have HKK := hide hK
      clear hK
      go_simp
      obtain ⟨w5, hw⟩ : ∃ w5, w5 = (w4.setCell ⟨w.heap.size + 1 + 1 + 1, (ix k 3) * 2, none⟩ (.int .u32 (hi m.d : Nat))).setCell ⟨w.heap.size + 1 + 1 + 1, (ix k 3) * 2 + 1, none⟩ (.int .u32 (lo m.d : Nat)) := ⟨_, rfl⟩
      have HR5 := hide (show RowAt w5 rb v1 _ from hw ▸ (HR4.out.setOther HB3x4.out.ne HB3x4.out.own _).setOther HB3x4.out.ne HB3x4.out.own _)
      have HF5 := hide (show Fr rb v v1 w w5 from hw ▸ (HF4.out.setNew (p := ⟨w.heap.size + 1 + 1 + 1, (ix k 3) * 2, none⟩) (by dsimp only; omega) _).setNew (p := ⟨w.heap.size + 1 + 1 + 1, (ix k 3) * 2 + 1, none⟩) (by dsimp only; omega) _)
      have HB1x5 := hide (show Loc w5 rb v1 _ _ from hw ▸ (HB1x4.out.setOther (by omega) _).setOther (by omega) _)
      have HB2x5 := hide (show Loc w5 rb v1 _ _ from hw ▸ (HB2x4.out.setOther (by omega) _).setOther (by omega) _)
      have HB3x5 := hide (show Loc w5 rb v1 _ _ from hw ▸ HB3x4.out.setW b3 m.d)
      have HB9x5 := hide (show Loc w5 rb v1 _ _ from hw ▸ (HB9x4.out.setOther (Ne.symm hne) _).setOther (Ne.symm hne) _)
      have HG5 := hGL _ _ HB9x5.out
      rw [← hw]
      clear hw kh kl fh fl
      refine HKK.out _ _ ⟨fun h => Bool.noConfusion (h.symm.trans (show _ = true by kernel_rfl)), HG5⟩ ?_
      clear HKK K
      refine wpAnyC_done (by kernel_rfl) ?_ _
      go_wp2_with fail
      go_roundw
      case rel =>
        refine ⟨k + 1, v1, by omega, by go_num, HR5.out.cast ?_, HF5.out, HB1x5.out, HB2x5.out, ?_⟩
        · rw [RSt.emit_emit, HY.out, HX.out, show 16 * (k + 1) = 16 * k + 16 by omega]
          rfl
        · have hfin := HB3x5.out
          rw [HMM.out, HY.out, HX.out] at hfin
          exact hfin
      case measure => simp [intOf]; omega
    · obtain rfl : k = 8 := by omega
      have hrow := (HL2.out.setRow (cs' := wcells (rto I M 8))).blk
      go_wp2_with (first | (refine wpList_load_row (by rfl) 33 (.tmp 7) rfl _ rfl 33 (wcells (rto I M 8)) (0, 0) _ HL3.out.blk Ybaf.underlying33 rfl (info33 _) ?_) | (refine wpList_store_row (by rfl) 33 (.tmp 6) (.tmp 61) rfl _ _ rfl rfl 33 _ HL2.out.blk (info33 _) (by rw [wcells_size, wcells_size]) (wcells_all _) ?_))
      exact bodyPost_ret (v := .agg (wcells (rto I M 8))) (results_cell_row Ybaf.results5 _ _ (w.heap.size + 1 + 1) 33 _ (0, 0) _ rfl hrow Ybaf.underlying33 rfl (info33 _)) rfl ⟨rfl, v', HR.out.setRowOther HL2.out.ne HL2.out.own _, HF.out.setRowNew (by omega) _⟩

end Go.Proofs.YbulkchdaFmt
