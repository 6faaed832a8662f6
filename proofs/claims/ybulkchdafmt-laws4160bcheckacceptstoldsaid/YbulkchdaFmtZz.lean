/- zzs4160bround, walked once. -/
import Derived.Test.YbulkchdaFmtRound
namespace Go.Proofs.YbulkchdaFmt
open Go.RowKit Bits

theorem blk_new {w : World} {n : Nat} (hn : w.heap.size = n) (o : Obj) : (w.alloc o).heap[n]? = some o := hn ▸ heap_alloc_new w o
theorem blk_old {w : World} {k : Nat} {o : Obj} (h : w.heap[k]? = some o) (o' : Obj) : (w.alloc o').heap[k]? = some o := (Below.heap_alloc _ _ _ (lt_of_block h)).trans h
theorem blk_row {w : World} {k g : Nat} {o : Obj} (h : w.heap[k]? = some o) (hne : k ≠ g) (cs : Array Value) : (w.setRow g cs).heap[k]? = some o := (setRow_other _ _ _ _ hne).trans h
theorem info42' : (Ybaf.prog.info? 42).map (·.size) = some gl.toArray.size := by kernel_rfl
theorem gl_all : gl.toArray.all (·.oneCell') = true := all_oneCell_toArray (by intro v hv; simp only [gl, List.mem_cons, List.not_mem_nil, or_false] at hv; rcases hv with rfl | rfl | rfl | rfl | rfl | rfl | rfl | rfl | rfl | rfl | rfl | rfl | rfl | rfl | rfl | rfl | rfl | rfl | rfl | rfl | rfl | rfl | rfl | rfl | rfl | rfl | rfl | rfl | rfl | rfl | rfl | rfl <;> rfl)
theorem ncells_all (V : Nat → Nat) : (ncells V).all (·.oneCell') = true := Array.all_eq_true_iff_forall_mem.2 fun x hx => by
  simp only [ncells, Array.mem_map] at hx
  obtain ⟨i, _, rfl⟩ := hx
  rfl
theorem xorI {A B : Int} (a b : Nat) (hA : A = (a : Nat)) (hB : B = (b : Nat)) (ha : a < 4294967296) (hb : b < 4294967296) : bits .xor .u32 A B = ((a ^^^ b : Nat) : Int) := by
  subst hA hB; exact u32_xor_nat a b ha hb
theorem rotrI {Z : Int} (z k r : Nat) (w : World) (hZ : Z = (z : Nat)) (hz : z < 4294967296) (hk : k = 16 ∨ k = 12 ∨ k = 8 ∨ k = 7) (hr : r = rotr z k) :
    Calls Ybaf.prog 12 #[.int .u32 Z, .int .u64 k] w fun e w' => e = .returned (.int .u32 (r : Nat)) ∧ w = w' := by
  subst hZ hr; exact rotr_any z k w hz hk
abbrev nO (V : Nat → Nat) : Obj := .cells (ncells V) 23 (0, 0)

theorem nO_set {w : World} {b k : Nat} {V : Nat → Nat} (h : w.heap[b]? = some (nO V)) (hk : k < 16) (u : Nat) : (w.setCell ⟨b, k, none⟩ (.int .u32 (u : Nat))).heap[b]? = some (nO (upd V k u)) := by
  unfold nO
  rw [← ncells_set _ _ hk]
  exact cells_setCell h
theorem blk_set {w : World} {k : Nat} {o : Obj} (h : w.heap[k]? = some o) {b i : Nat} (hne : k ≠ b) (u : Value) : (w.setCell ⟨b, i, none⟩ u).heap[k]? = some o := (Below.heap_setCell _ _ _ _ hne).trans h

set_option maxHeartbeats 4000000 in
set_option maxRecDepth 100000 in
theorem zz_any (I M : Nat → Nat) (hI : ∀ i, I i < 4294967296) (hM : ∀ i, M i < 4294967296) (w : World) :
    Calls Ybaf.prog 7 #[.agg (ncells I), .agg (ncells M)] w fun e w' => e = .returned (.agg (ncells (rto I M 8))) ∧ Below w.heap.size w w' := by
  obtain ⟨A, hA⟩ : ∃ A, A = (((w.alloc (nO I)).alloc (nO M)).alloc (.cells #[.int .u32 0, .int .u32 0, .int .u32 0, .int .u32 0, .int .u32 0, .int .u32 0, .int .u32 0, .int .u32 0, .int .u32 0, .int .u32 0, .int .u32 0, .int .u32 0, .int .u32 0, .int .u32 0, .int .u32 0, .int .u32 0] 23)).alloc (.cells #[.int .i64 0, .int .i64 0, .int .i64 0, .int .i64 0, .int .i64 0, .int .i64 0, .int .i64 0, .int .i64 0, .int .i64 0, .int .i64 0, .int .i64 0, .int .i64 0, .int .i64 0, .int .i64 0, .int .i64 0, .int .i64 0, .int .i64 0, .int .i64 0, .int .i64 0, .int .i64 0, .int .i64 0, .int .i64 0, .int .i64 0, .int .i64 0, .int .i64 0, .int .i64 0, .int .i64 0, .int .i64 0, .int .i64 0, .int .i64 0, .int .i64 0, .int .i64 0] 42) := ⟨_, rfl⟩
  have sA : A.heap.size = w.heap.size + 1 + 1 + 1 + 1 := by rw [hA]; simp only [World.size_alloc]
  have A0 : A.heap[w.heap.size]? = some (nO I) := by rw [hA]; exact blk_old (blk_old (blk_old (blk_new rfl _) _) _) _
  have A1 : A.heap[w.heap.size + 1]? = some (nO M) := by rw [hA]; exact blk_old (blk_old (blk_new (by simp only [World.size_alloc]) _) _) _
  have A2 : A.heap[w.heap.size + 1 + 1]? = some (nO fun _ => 0) := by unfold nO; rw [hA, ncells_zero]; exact blk_old (blk_new (by simp only [World.size_alloc]) _) _
  have A3 : A.heap[w.heap.size + 1 + 1 + 1]? = some (.cells #[.int .i64 0, .int .i64 0, .int .i64 0, .int .i64 0, .int .i64 0, .int .i64 0, .int .i64 0, .int .i64 0, .int .i64 0, .int .i64 0, .int .i64 0, .int .i64 0, .int .i64 0, .int .i64 0, .int .i64 0, .int .i64 0, .int .i64 0, .int .i64 0, .int .i64 0, .int .i64 0, .int .i64 0, .int .i64 0, .int .i64 0, .int .i64 0, .int .i64 0, .int .i64 0, .int .i64 0, .int .i64 0, .int .i64 0, .int .i64 0, .int .i64 0, .int .i64 0] 42 (0, 0)) := by rw [hA]; exact blk_new (by simp only [World.size_alloc]) _
  have bA : Below w.heap.size w A := by
    rw [hA]
    exact ((((Below.refl _ _).alloc (Nat.le_refl _) _).alloc (by simp only [World.size_alloc]; omega) _).alloc (by simp only [World.size_alloc]; omega) _).alloc (by simp only [World.size_alloc]; omega) _
  obtain ⟨B, hB⟩ : ∃ B, B = A.setRow (w.heap.size + 1 + 1 + 1) gl.toArray := ⟨_, rfl⟩
  have sB : B.heap.size = w.heap.size + 1 + 1 + 1 + 1 := by rw [hB]; simpa using sA
  have B0 : B.heap[w.heap.size]? = some (nO I) := hB ▸ blk_row A0 (by omega) _
  have B1 : B.heap[w.heap.size + 1]? = some (nO M) := hB ▸ blk_row A1 (by omega) _
  have B2 : B.heap[w.heap.size + 1 + 1]? = some (nO fun _ => 0) := hB ▸ blk_row A2 (by omega) _
  have B3 : B.heap[w.heap.size + 1 + 1 + 1]? = some (.cells gl.toArray 42 (0, 0)) := hB ▸ setRow_heap _ _ _ _ _ _ A3
  have bB : Below w.heap.size w B := hB ▸ below_setRow bA (by omega) _
  obtain ⟨C, hC⟩ : ∃ C, C = B.alloc (.cells #[.int .u32 0, .int .u32 0, .int .u32 0, .int .u32 0, .int .u32 0, .int .u32 0, .int .u32 0, .int .u32 0, .int .u32 0, .int .u32 0, .int .u32 0, .int .u32 0, .int .u32 0, .int .u32 0, .int .u32 0, .int .u32 0] 23) := ⟨_, rfl⟩
  have C4 : C.heap[w.heap.size + 1 + 1 + 1 + 1]? = some (.cells #[.int .u32 0, .int .u32 0, .int .u32 0, .int .u32 0, .int .u32 0, .int .u32 0, .int .u32 0, .int .u32 0, .int .u32 0, .int .u32 0, .int .u32 0, .int .u32 0, .int .u32 0, .int .u32 0, .int .u32 0, .int .u32 0] 23 (0, 0)) := by rw [hC]; exact blk_new sB _
  obtain ⟨D, hD⟩ : ∃ D, D = C.setRow (w.heap.size + 1 + 1 + 1 + 1) (ncells I) := ⟨_, rfl⟩
  have D1 : D.heap[w.heap.size + 1]? = some (nO M) := by rw [hD, hC]; exact blk_row (blk_old B1 _) (by omega) _
  have D2 : D.heap[w.heap.size + 1 + 1]? = some (nO fun _ => 0) := by rw [hD, hC]; exact blk_row (blk_old B2 _) (by omega) _
  have D3 : D.heap[w.heap.size + 1 + 1 + 1]? = some (.cells gl.toArray 42 (0, 0)) := by rw [hD, hC]; exact blk_row (blk_old B3 _) (by omega) _
  have D4 : D.heap[w.heap.size + 1 + 1 + 1 + 1]? = some (nO I) := by rw [hD]; exact setRow_heap _ _ _ _ _ _ C4
  have bD : Below w.heap.size w D := by rw [hD, hC]; exact below_setRow (bB.alloc (by omega) _) (by omega) _
  have HSB := hide sB
  have HA3L := hide (show ((((w.alloc (.cells (ncells I) 23)).alloc (.cells (ncells M) 23)).alloc (.cells #[.int .u32 0, .int .u32 0, .int .u32 0, .int .u32 0, .int .u32 0, .int .u32 0, .int .u32 0, .int .u32 0, .int .u32 0, .int .u32 0, .int .u32 0, .int .u32 0, .int .u32 0, .int .u32 0, .int .u32 0, .int .u32 0] 23)).alloc (.cells #[.int .i64 0, .int .i64 0, .int .i64 0, .int .i64 0, .int .i64 0, .int .i64 0, .int .i64 0, .int .i64 0, .int .i64 0, .int .i64 0, .int .i64 0, .int .i64 0, .int .i64 0, .int .i64 0, .int .i64 0, .int .i64 0, .int .i64 0, .int .i64 0, .int .i64 0, .int .i64 0, .int .i64 0, .int .i64 0, .int .i64 0, .int .i64 0, .int .i64 0, .int .i64 0, .int .i64 0, .int .i64 0, .int .i64 0, .int .i64 0, .int .i64 0, .int .i64 0] 42)).heap[w.heap.size + 1 + 1 + 1]? = some (.cells #[.int .i64 0, .int .i64 0, .int .i64 0, .int .i64 0, .int .i64 0, .int .i64 0, .int .i64 0, .int .i64 0, .int .i64 0, .int .i64 0, .int .i64 0, .int .i64 0, .int .i64 0, .int .i64 0, .int .i64 0, .int .i64 0, .int .i64 0, .int .i64 0, .int .i64 0, .int .i64 0, .int .i64 0, .int .i64 0, .int .i64 0, .int .i64 0, .int .i64 0, .int .i64 0, .int .i64 0, .int .i64 0, .int .i64 0, .int .i64 0, .int .i64 0, .int .i64 0] 42 (0, 0)) from hA ▸ A3)
  unfold nO at hA
  have HA := hide hA
  have HB := hide hB
  have HC := hide hC
  have HD := hide hD
  have HA3 := hide A3
  have HB0 := hide B0
  have HC4 := hide C4
  have E1 := hide D1
  have E2 := hide D2
  have E3 := hide D3
  have E4 := hide D4
  have EB := hide bD
  clear hA hB hC hD sA sB A0 A1 A2 A3 bA B0 B1 B2 B3 bB C4 D1 D2 D3 D4 bD
  go_enter Ybaf.func7, Ybaf.ntmps7
  go_wp2_with (first | (refine wpList_store_row (by rfl) 42 (.tmp 5) (.tmp 22) rfl (w.heap.size + 1 + 1 + 1) gl.toArray rfl rfl 42 _ HA3L.out info42' (by rfl) gl_all ?_; rw [← HA.out, ← HB.out]) | (refine wpList_load_row (by rfl) 23 (.tmp 2) rfl w.heap.size rfl 23 (ncells I) (0, 0) _ HB0.out Ybaf.underlying23 rfl (info23 _) ?_) | (rw [HSB.out, ← HC.out]; refine wpList_store_row (by rfl) 23 (.tmp 6) (.tmp 23) rfl (w.heap.size + 1 + 1 + 1 + 1) _ rfl rfl 23 _ HC4.out (info23 _) (by rw [ncells_size]; rfl) (ncells_all _) ?_; rw [← HD.out]))
  clear HSB HA3L HA HB HC HD HA3 HB0 HC4
  go_loopw [7] (fun iv wr => ∃ k : Nat, k ≤ 8 ∧ iv = .int .i64 k ∧ Below w.heap.size w wr ∧ wr.heap[w.heap.size + 1]? = some (nO M) ∧ wr.heap[w.heap.size + 1 + 1]? = some (nO fun _ => 0) ∧ wr.heap[w.heap.size + 1 + 1 + 1]? = some (.cells gl.toArray 42 (0, 0)) ∧
      wr.heap[w.heap.size + 1 + 1 + 1 + 1]? = some (nO (rto I M k))) (fun iv _ => 8 - (intOf iv).toNat)
  case atStart => exact ⟨0, by omega, rfl, EB.out, E1.out, E2.out, E3.out, E4.out⟩
  case round =>
    clear EB E1 E2 E3 E4
    obtain ⟨k, hk, rfl, b, h1, h2, h3, h4⟩ := hrel
    have HBL := hide b
    have HH1 := hide h1
    have HH2 := hide h2
    have HH3 := hide h3
    have HH4 := hide h4
    by_cases hlt : k < 8
    · obtain ⟨bb0, bb1, bb2, bb3, d01, d02, d03, d12, d13, d23⟩ := ix_spec hlt
      obtain ⟨x, hx⟩ : ∃ x : Nat, x = 2 * k := ⟨_, rfl⟩
      obtain ⟨y, hy⟩ : ∃ y : Nat, y = x + 1 := ⟨_, rfl⟩
      have t0 : wr.cell? ⟨w.heap.size + 1 + 1 + 1, k * 4, none⟩ = some (.int .i64 (ix k 0 : Nat)) := cell_of_cells h3 (by simpa using gl_get hlt (q := 0) (by omega))
      have t1 : wr.cell? ⟨w.heap.size + 1 + 1 + 1, k * 4 + 1, none⟩ = some (.int .i64 (ix k 1 : Nat)) := cell_of_cells h3 (by simpa using gl_get hlt (q := 1) (by omega))
      have t2 : wr.cell? ⟨w.heap.size + 1 + 1 + 1, k * 4 + 2, none⟩ = some (.int .i64 (ix k 2 : Nat)) := cell_of_cells h3 (by simpa using gl_get hlt (q := 2) (by omega))
      have t3 : wr.cell? ⟨w.heap.size + 1 + 1 + 1, k * 4 + 3, none⟩ = some (.int .i64 (ix k 3 : Nat)) := cell_of_cells h3 (by simpa using gl_get hlt (q := 3) (by omega))
      have v0 : wr.cell? ⟨w.heap.size + 1 + 1 + 1 + 1, ix k 0, none⟩ = some (.int .u32 (rto I M k (ix k 0) : Nat)) := cell_of_cells h4 (ncells_get _ bb0)
      have v1 : wr.cell? ⟨w.heap.size + 1 + 1 + 1 + 1, ix k 1, none⟩ = some (.int .u32 (rto I M k (ix k 1) : Nat)) := cell_of_cells h4 (ncells_get _ bb1)
      have v2 : wr.cell? ⟨w.heap.size + 1 + 1 + 1 + 1, ix k 2, none⟩ = some (.int .u32 (rto I M k (ix k 2) : Nat)) := cell_of_cells h4 (ncells_get _ bb2)
      have v3 : wr.cell? ⟨w.heap.size + 1 + 1 + 1 + 1, ix k 3, none⟩ = some (.int .u32 (rto I M k (ix k 3) : Nat)) := cell_of_cells h4 (ncells_get _ bb3)
      have vx : wr.cell? ⟨w.heap.size + 1, x, none⟩ = some (.int .u32 (M x : Nat)) := cell_of_cells h1 (ncells_get _ (by omega))
      have vy : wr.cell? ⟨w.heap.size + 1, y, none⟩ = some (.int .u32 (M y : Nat)) := cell_of_cells h1 (ncells_get _ (by omega))
      have f0 := free_of_cells (i := ix k 0) h4
      have f1 := free_of_cells (i := ix k 1) h4
      have f2 := free_of_cells (i := ix k 2) h4
      have f3 := free_of_cells (i := ix k 3) h4
      have ex : IntKind.i64.wrap (2 * (k : Int)) = (x : Nat) := by rw [IntKind.wrap_i64]; omega
      have ey : IntKind.i64.wrap ((x : Int) + 1) = (y : Nat) := by rw [IntKind.wrap_i64]; omega
      have bx : (x : Int) < 16 := by omega
      have bY : (y : Int) < 16 := by omega
      have c0 : ((ix k 0 : Nat) : Int) < 16 := by omega
      have c1 : ((ix k 1 : Nat) : Int) < 16 := by omega
      have c2 : ((ix k 2 : Nat) : Int) < 16 := by omega
      have c3 : ((ix k 3 : Nat) : Int) < 16 := by omega
      have HX := hide hx
      have HY := hide hy
      have HV := hide (rto_lt hI (M := M) k)
      have HM := hide hM
      clear hx hy hI hM b h1 h2 h3 h4
      generalize hA : ((rto I M k (ix k 0) : Nat) : Int) = A at *
      generalize hB : ((rto I M k (ix k 1) : Nat) : Int) = B at *
      generalize hC : ((rto I M k (ix k 2) : Nat) : Int) = C at *
      generalize hD : ((rto I M k (ix k 3) : Nat) : Int) = D at *
      generalize hX : ((M x : Nat) : Int) = X at *
      generalize hY : ((M y : Nat) : Int) = Y at *
      have GA := hide hA
      have GB := hide hB
      have GC := hide hC
      have GD := hide hD
      have GX := hide hX
      have GY := hide hY
      clear hA hB hC hD hX hY
      obtain ⟨na, hna⟩ : ∃ n, n = rto I M k (ix k 0) := ⟨_, rfl⟩
      obtain ⟨nb, hnb⟩ : ∃ n, n = rto I M k (ix k 1) := ⟨_, rfl⟩
      obtain ⟨nc, hnc⟩ : ∃ n, n = rto I M k (ix k 2) := ⟨_, rfl⟩
      obtain ⟨nd, hnd⟩ : ∃ n, n = rto I M k (ix k 3) := ⟨_, rfl⟩
      obtain ⟨nx, hnx⟩ : ∃ n, n = M x := ⟨_, rfl⟩
      obtain ⟨ny, hny⟩ : ∃ n, n = M y := ⟨_, rfl⟩
      have la := HV.out (ix k 0)
      have lb := HV.out (ix k 1)
      have lc := HV.out (ix k 2)
      have ld := HV.out (ix k 3)
      rw [← hna] at la
      rw [← hnb] at lb
      rw [← hnc] at lc
      rw [← hnd] at ld
      have gA := GA.out
      have gB := GB.out
      have gC := GC.out
      have gD := GD.out
      have gX := GX.out
      have gY := GY.out
      rw [← hna] at gA
      rw [← hnb] at gB
      rw [← hnc] at gC
      rw [← hnd] at gD
      rw [← hnx] at gX
      rw [← hny] at gY
      obtain ⟨a1, ea1⟩ : ∃ n, n = (na + nb + nx) % 4294967296 := ⟨_, rfl⟩
      have la1 : a1 < 4294967296 := by omega
      obtain ⟨d1, ed1⟩ : ∃ n, n = rotr (nd ^^^ a1) 16 := ⟨_, rfl⟩
      have ld1 : d1 < 4294967296 := by rw [ed1]; exact rotr_lt _ _ (xor_lt _ _ 32 ld la1) (by omega)
      obtain ⟨c1, ec1⟩ : ∃ n, n = (nc + d1) % 4294967296 := ⟨_, rfl⟩
      have lc1 : c1 < 4294967296 := by omega
      obtain ⟨b1, eb1⟩ : ∃ n, n = rotr (nb ^^^ c1) 12 := ⟨_, rfl⟩
      have lb1 : b1 < 4294967296 := by rw [eb1]; exact rotr_lt _ _ (xor_lt _ _ 32 lb lc1) (by omega)
      obtain ⟨a2, ea2⟩ : ∃ n, n = (a1 + b1 + ny) % 4294967296 := ⟨_, rfl⟩
      have la2 : a2 < 4294967296 := by omega
      obtain ⟨d2, ed2⟩ : ∃ n, n = rotr (d1 ^^^ a2) 8 := ⟨_, rfl⟩
      have ld2 : d2 < 4294967296 := by rw [ed2]; exact rotr_lt _ _ (xor_lt _ _ 32 ld1 la2) (by omega)
      obtain ⟨c2, ec2⟩ : ∃ n, n = (c1 + d2) % 4294967296 := ⟨_, rfl⟩
      have lc2 : c2 < 4294967296 := by omega
      obtain ⟨b2, eb2⟩ : ∃ n, n = rotr (b1 ^^^ c2) 7 := ⟨_, rfl⟩
      have lb2 : b2 < 4294967296 := by rw [eb2]; exact rotr_lt _ _ (xor_lt _ _ 32 lb1 lc2) (by omega)
      have hmix : mix (rto I M k (ix k 0)) (rto I M k (ix k 1)) (rto I M k (ix k 2)) (rto I M k (ix k 3)) (M x) (M y) = ⟨a2, b2, c2, d2⟩ := by
        rw [eb2, ec2, ed2, ea2, eb1, ec1, ed1, ea1, hna, hnb, hnc, hnd, hnx, hny]; rfl
      have HMIX := hide hmix
      have ZgA := hide gA
      have ZgB := hide gB
      have ZgC := hide gC
      have ZgD := hide gD
      have ZgX := hide gX
      have ZgY := hide gY
      have Zea1 := hide ea1
      have Zed1 := hide ed1
      have Zec1 := hide ec1
      have Zeb1 := hide eb1
      have Zea2 := hide ea2
      have Zed2 := hide ed2
      have Zec2 := hide ec2
      have Zeb2 := hide eb2
      have Zla := hide la
      have Zlb := hide lb
      have Zlc := hide lc
      have Zld := hide ld
      have Zla1 := hide la1
      have Zld1 := hide ld1
      have Zlc1 := hide lc1
      have Zlb1 := hide lb1
      have Zla2 := hide la2
      have Zld2 := hide ld2
      have Zlc2 := hide lc2
      have Zlb2 := hide lb2
      clear gA gB gC gD gX gY ea1 ed1 ec1 eb1 ea2 ed2 ec2 eb2 la lb lc ld la1 ld1 lc1 lb1 la2 ld2 lc2 lb2 hmix hna hnb hnc hnd hnx hny
      have e01 := d01.symm
      have e02 := d02.symm
      have e03 := d03.symm
      have e12 := d12.symm
      have e13 := d13.symm
      have e23 := d23.symm
      go_wp2_with fail
      refine (rotrI (nd ^^^ a1) 16 d1 _ (xorI nd a1 ZgD.out.symm (by have q0 := ZgA.out; have q1 := ZgB.out; have q2 := ZgC.out; have q3 := ZgD.out; have q4 := ZgX.out; have q5 := ZgY.out; have q6 := Zea1.out; have q7 := Zec1.out; have q8 := Zea2.out; have q9 := Zec2.out; omega) Zld.out Zla1.out) (xor_lt _ _ 32 Zld.out Zla1.out) (by decide) Zed1.out).mono ?_
      rintro e w' ⟨rfl, rfl⟩
      go_wp2_with fail
      refine (rotrI (nb ^^^ c1) 12 b1 _ (xorI nb c1 ZgB.out.symm (by have q0 := ZgA.out; have q1 := ZgB.out; have q2 := ZgC.out; have q3 := ZgD.out; have q4 := ZgX.out; have q5 := ZgY.out; have q6 := Zea1.out; have q7 := Zec1.out; have q8 := Zea2.out; have q9 := Zec2.out; omega) Zlb.out Zlc1.out) (xor_lt _ _ 32 Zlb.out Zlc1.out) (by decide) Zeb1.out).mono ?_
      rintro e w' ⟨rfl, rfl⟩
      go_wp2_with fail
      refine (rotrI (d1 ^^^ a2) 8 d2 _ (xorI d1 a2 rfl (by have q0 := ZgA.out; have q1 := ZgB.out; have q2 := ZgC.out; have q3 := ZgD.out; have q4 := ZgX.out; have q5 := ZgY.out; have q6 := Zea1.out; have q7 := Zec1.out; have q8 := Zea2.out; have q9 := Zec2.out; omega) Zld1.out Zla2.out) (xor_lt _ _ 32 Zld1.out Zla2.out) (by decide) Zed2.out).mono ?_
      rintro e w' ⟨rfl, rfl⟩
      go_wp2_with fail
      refine (rotrI (b1 ^^^ c2) 7 b2 _ (xorI b1 c2 rfl (by have q0 := ZgA.out; have q1 := ZgB.out; have q2 := ZgC.out; have q3 := ZgD.out; have q4 := ZgX.out; have q5 := ZgY.out; have q6 := Zea1.out; have q7 := Zec1.out; have q8 := Zea2.out; have q9 := Zec2.out; omega) Zlb1.out Zlc2.out) (xor_lt _ _ 32 Zlb1.out Zlc2.out) (by decide) Zeb2.out).mono ?_
      rintro e w' ⟨rfl, rfl⟩
      go_wp2_with fail
      have za : (A + B + X + (b1 : Int) + Y) % 4294967296 = (a2 : Nat) := by have q0 := ZgA.out; have q1 := ZgB.out; have q2 := ZgC.out; have q3 := ZgD.out; have q4 := ZgX.out; have q5 := ZgY.out; have q6 := Zea1.out; have q7 := Zec1.out; have q8 := Zea2.out; have q9 := Zec2.out; omega
      have zc : (C + (d1 : Int) + (d2 : Int)) % 4294967296 = (c2 : Nat) := by have q0 := ZgA.out; have q1 := ZgB.out; have q2 := ZgC.out; have q3 := ZgD.out; have q4 := ZgX.out; have q5 := ZgY.out; have q6 := Zea1.out; have q7 := Zec1.out; have q8 := Zea2.out; have q9 := Zec2.out; omega
      rw [za, zc]
      go_roundw
      case rel =>
        refine ⟨k + 1, by omega, by go_num, ((((HBL.out.setCell (p := ⟨w.heap.size + 1 + 1 + 1 + 1, ix k 0, none⟩) (by dsimp only; omega) _).setCell (p := ⟨w.heap.size + 1 + 1 + 1 + 1, ix k 1, none⟩) (by dsimp only; omega) _).setCell (p := ⟨w.heap.size + 1 + 1 + 1 + 1, ix k 2, none⟩) (by dsimp only; omega) _).setCell (p := ⟨w.heap.size + 1 + 1 + 1 + 1, ix k 3, none⟩) (by dsimp only; omega) _), (blk_set (blk_set (blk_set (blk_set HH1.out (by omega) _) (by omega) _) (by omega) _) (by omega) _), (blk_set (blk_set (blk_set (blk_set HH2.out (by omega) _) (by omega) _) (by omega) _) (by omega) _), (blk_set (blk_set (blk_set (blk_set HH3.out (by omega) _) (by omega) _) (by omega) _) (by omega) _), ?_⟩
        have hfin := (nO_set (nO_set (nO_set (nO_set HH4.out bb0 a2) bb1 b2) bb2 c2) bb3 d2)
        have hr : rto I M (k + 1) = upd (upd (upd (upd (rto I M k) (ix k 0) a2) (ix k 1) b2) (ix k 2) c2) (ix k 3) d2 := by
          show rstep _ _ _ = _
          unfold rstep
          rw [← HX.out, ← HY.out, HMIX.out]
        rw [hr]
        exact hfin
      case measure => simp [intOf]; omega
    · obtain rfl : k = 8 := by omega
      have hrow : (wr.setRow (w.heap.size + 1 + 1) (ncells (rto I M 8))).heap[w.heap.size + 1 + 1]? = some (nO (rto I M 8)) := setRow_heap _ _ _ _ _ _ HH2.out
      clear b h1 h2 h3 h4
      go_wp2_with (first | (refine wpList_load_row (by rfl) 23 (.tmp 6) rfl _ rfl 23 (ncells (rto I M 8)) (0, 0) _ HH4.out Ybaf.underlying23 rfl (info23 _) ?_) | (refine wpList_store_row (by rfl) 23 (.tmp 4) (.tmp 117) rfl _ _ rfl rfl 23 _ HH2.out (info23 _) (by rw [ncells_size, ncells_size]) (ncells_all _) ?_))
      exact bodyPost_ret (v := .agg (ncells (rto I M 8))) (results_cell_row Ybaf.results7 _ _ (w.heap.size + 1 + 1) 23 _ (0, 0) _ rfl hrow Ybaf.underlying23 rfl (info23 _)) rfl ⟨rfl, below_setRow HBL.out (by omega) _⟩

end Go.Proofs.YbulkchdaFmt
