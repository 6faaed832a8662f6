/- LawS4160BBuildModel, walked. -/
import Derived.Test.YbulkchdaFmtEq
namespace Go.Proofs.YbulkchdaFmt
open Go.RowKit Bits

theorem em_add {s : Nat} (h : s < 4294967296) : ∀ x ∈ emAdd s, x < 65536 := by
  intro x hx
  simp only [emAdd, List.mem_cons, List.not_mem_nil, or_false] at hx
  rcases hx with rfl | rfl <;> omega
theorem em_xor {a b s : Nat} (ha : a < 4294967296) (hb : b < 4294967296) : ∀ x ∈ emXor a b s, x < 65536 := by
  have d : ∀ n : Nat, n < 65536 → n / 2 ^ s < 65536 := fun n h => Nat.lt_of_le_of_lt (Nat.div_le_self _ _) h
  have m : ∀ n : Nat, n < 65536 → n % 2 ^ s < 65536 := fun n h => Nat.lt_of_le_of_lt (Nat.mod_le _ _) h
  have y : ∀ p q : Nat, p < 65536 → q < 65536 → p ^^^ q < 65536 := fun p q h1 h2 => xor_lt p q 16 h1 h2
  have a1 : a / 65536 < 65536 := by omega
  have a2 : a % 65536 < 65536 := by omega
  have b1 : b / 65536 < 65536 := by omega
  have b2 : b % 65536 < 65536 := by omega
  intro x hx
  simp only [emXor, List.mem_cons, List.not_mem_nil, or_false] at hx
  rcases hx with rfl | rfl | rfl | rfl | rfl | rfl | rfl | rfl
  · exact d _ a1
  · exact d _ a2
  · exact d _ b1
  · exact d _ b2
  · exact y _ _ (m _ a1) (m _ b1)
  · exact y _ _ (d _ a1) (d _ b1)
  · exact y _ _ (m _ a2) (m _ b2)
  · exact y _ _ (d _ a2) (d _ b2)
theorem em_mix {a b c d x y : Nat} (hb : b < 4294967296) (hd : d < 4294967296) : ∀ z ∈ emMix a b c d x y, z < 65536 := by
  have m : ∀ n : Nat, n % 4294967296 < 4294967296 := fun n => Nat.mod_lt _ (by omega)
  have r : ∀ n k : Nat, n < 4294967296 → k ≤ 32 → rotr n k < 4294967296 := fun n k => rotr_lt n k
  have h1 := r _ 16 (xor_lt d _ 32 hd (m (a + b + x))) (by omega)
  have h2 := r _ 12 (xor_lt b _ 32 hb (m (c + rotr (d ^^^ ((a + b + x) % 4294967296)) 16))) (by omega)
  intro z hz
  simp only [emMix, List.mem_append] at hz
  rcases hz with ((((((hz | hz) | hz) | hz) | hz) | hz) | hz) | hz
  · exact em_add (m _) z hz
  · exact em_xor hd (m _) z hz
  · exact em_add (m _) z hz
  · exact em_xor hb (m _) z hz
  · exact em_add (m _) z hz
  · exact em_xor h1 (m _) z hz
  · exact em_add (m _) z hz
  · exact em_xor h2 (m _) z hz
theorem rems_bnd {V M : Nat → Nat} (hV : ∀ i, V i < 4294967296) : ∀ k, ∀ z ∈ rems V M k, z < 65536
  | 0 => by intro z hz; cases hz
  | k + 1 => by
    intro z hz
    rw [rems, List.mem_append] at hz
    rcases hz with hz | hz
    · exact rems_bnd hV k z hz
    · exact em_mix (rto_lt hV k _) (rto_lt hV k _) z hz

theorem RowAt.slice {w : World} {rb : Nat} {v : Value} {st : RSt} (h : RowAt w rb v st) : ∃ p cap, v = .slice p st.xs.length cap := by
  rcases h.own.2 with ⟨rfl, h0⟩ | ⟨g, cap, cur, rfl, _⟩
  · exact ⟨none, 0, by rw [h0]⟩
  · exact ⟨_, _, rfl⟩
def st0 : RSt := ⟨[], 0, true, 0⟩
theorem st0_can {I M : Nat → Nat} (hI : ∀ i, I i < 4294967296) : st0.can (rems I M 8) 128 := by
  refine ⟨by simp [st0], by rw [rems_len]; simp [st0], by simp [st0], fun x hx => by have := rems_bnd hI 8 x hx; omega⟩

set_option maxHeartbeats 4000000 in
set_option maxRecDepth 100000 in
theorem law3 (I M : Nat → Nat) (hI : ∀ i, I i < 4294967296) (hM : ∀ i, M i < 4294967296) (w : World) (hg : w.rangeAt 0 0 gl) :
    Calls Ybaf.prog 3 #[.agg (ncells I), .agg (ncells M)] w fun e w' => e = .returned (.bool true) ∧ Below w.heap.size w w' := by
  obtain ⟨X, hX⟩ : ∃ X, X = rto I M 8 := ⟨_, rfl⟩
  obtain ⟨EM, hE⟩ : ∃ EM, EM = rems I M 8 := ⟨_, rfl⟩
  have hXl : ∀ i, X i < 4294967296 := by rw [hX]; exact rto_lt hI 8
  have hEl : EM.length = 320 := by rw [hE]; exact rems_len I M 8
  have hR : ∀ (v : Value) (W : World), RowAt W (w.heap.size + 1 + 1) v st0 → W.rangeAt 0 0 gl → Calls Ybaf.prog 5 #[.pointer (some ⟨w.heap.size + 1 + 1, 0, none⟩), .agg (wcells I), .agg (wcells M)] W fun e w' => e = .returned (.agg (wcells X)) ∧ ∃ v', RowAt w' (w.heap.size + 1 + 1) v' (st0.emit EM 128) ∧ Fr (w.heap.size + 1 + 1) v v' W w' := by
    intro v W r g
    rw [hX, hE]
    exact round_any _ v st0 I M W r hI hM g (st0_can hI)
  have hZ : ∀ W : World, Calls Ybaf.prog 7 #[.agg (ncells I), .agg (ncells M)] W fun e w' => e = .returned (.agg (ncells X)) ∧ Below W.heap.size W w' := by
    intro W
    rw [hX]
    exact zz_any I M hI hM W
  have HRR := hide hR
  have HZZ := hide hZ
  clear hX hE hR hZ
  obtain ⟨w3, hw3⟩ : ∃ w3, w3 = ((w.alloc (nO I)).alloc (nO M)).alloc (rowObj (.slice none 0 0) st0) := ⟨_, rfl⟩
  have R3 : RowAt w3 (w.heap.size + 1 + 1) (.slice none 0 0) st0 := by
    rw [hw3]
    exact ⟨blk_new (by simp only [World.size_alloc]) _, World.ownsRow_nil _ _ _ _, by simp [Value.ownBlock], by simp [st0], by simp [st0], by simp [st0], by simp [st0]⟩
  have L3 : LAt w w3 (w.heap.size + 1 + 1) (.slice none 0 0) st0 I M := by
    refine ⟨R3, ⟨?_, by omega, by simp [Value.ownBlock]⟩, ⟨?_, by omega, by simp [Value.ownBlock]⟩, ?_, by omega, by simp [Value.ownBlock]⟩
    · rw [hw3]; exact blk_old (blk_old (blk_new rfl _) _) _
    · rw [hw3]; exact blk_old (blk_new (by simp only [World.size_alloc]) _) _
    · rw [hw3]; exact (((Below.refl _ _).alloc (Nat.le_refl _) _).alloc (by simp only [World.size_alloc]; omega) _).alloc (by simp only [World.size_alloc]; omega) _
  have hw3' : w3 = ((w.alloc (.cells (ncells I) 23)).alloc (.cells (ncells M) 23)).alloc (.cells #[.slice none 0 0, .int .i64 0, .bool true, .int .i64 0, .int .i64 0, .nilIface] 29) := hw3
  have HW := hide hw3'
  clear hw3'
  have HL := hide L3
  clear hw3 R3 L3
  go_enter Ybaf.func3, Ybaf.ntmps3
  go_wp2_with fail
  rw [← HW.out]
  clear HW
  refine Code.wp_mono (Q := fun e a' w' => e = .normal ∧ ∃ ab v', a' = ⟨#[.agg (ncells I), .agg (ncells M), .pointer (some ⟨w.heap.size, 0, none⟩), .pointer (some ⟨w.heap.size + 1, 0, none⟩), .bool false, .pointer (some ⟨w.heap.size + 1 + 1, 0, none⟩), .pointer (some ⟨ab, 0, none⟩), .agg #[.slice none 0 0, .int .i64 0, .bool true, .int .i64 0, .int .i64 0, .nilIface], .pointer (some ⟨w.heap.size + 1 + 1, 0, none⟩), .pointer (some ⟨w.heap.size + 1 + 1, 0, none⟩), .agg (ncells I), .agg (wcells I), .agg (ncells M), .agg (wcells M), .agg (wcells X), undef, undef, undef, undef, undef, undef, undef, undef, undef, undef, undef, undef, undef, undef, undef, undef, undef, undef, undef, undef, undef, undef, undef, undef, undef, undef, undef, undef, undef, undef, undef], []⟩ ∧ LAt w w' (w.heap.size + 1 + 1) v' (st0.emit EM 128) I M ∧ Loc w' (w.heap.size + 1 + 1) v' ab (wO X)) ?rest2 ?reg2
  case reg2 =>
    have HL0 := hide HL.out.drew
    refine wp_region_C (S := fun _ w' => w'.heap[w.heap.size]? = some (nO I) ∧ w'.heap[w.heap.size + 1]? = some (nO M)) (c := 100) 8 (by rfl) (by kernel_rfl) ?_
    refine' wpAnyC_takeG (T := fun w' => w'.heap[w.heap.size]? = some (nO I) ∧ w'.heap[w.heap.size + 1]? = some (nO M)) (i := 0) (oi := _) (v := .pointer (some ⟨w.heap.size + 1 + 1, 0, none⟩)) (fun _ _ h => h) ?tho0 (by kernel_rfl) (by kernel_rfl) (by kernel_rfl) (by rfl) ?thQ0 ?thy0 ⟨HL0.out.A.blk, HL0.out.B.blk⟩ ?trest0
    case tho0 => (simp only [List.getElem?_toArray, List.getElem?_cons_zero]; rfl)
    case thQ0 => exact fun _ _ _ h => absurd h.1 (by simp)
    case thy0 => (refine Or.inl ⟨rfl, ?_⟩; intro wz hz; go_simp)
    simp only [Act.put, List.setIfInBounds_toArray, List.set_cons_zero, List.set_cons_succ]
    refine' wpAnyC_takeG (T := fun w' => w'.heap[w.heap.size]? = some (nO I) ∧ w'.heap[w.heap.size + 1]? = some (nO M)) (i := 1) (oi := _) (v := .agg (ncells I)) (fun _ _ h => h) ?tho1 (by kernel_rfl) (by kernel_rfl) (by kernel_rfl) (by rfl) ?thQ1 ?thy1 ⟨HL0.out.A.blk, HL0.out.B.blk⟩ ?trest1
    case tho1 => (simp only [List.getElem?_toArray, List.getElem?_cons_zero, List.getElem?_cons_succ]; rfl)
    case thQ1 => exact fun _ _ _ h => absurd h.1 (by simp)
    case thy1 => exact yields_load_row rfl 23 (.tmp 2) rfl _ rfl 23 (ncells I) (0, 0) _ (fun _ h => h.1) Ybaf.underlying23 rfl (info23 _)
    simp only [Act.put, List.setIfInBounds_toArray, List.set_cons_zero, List.set_cons_succ]
    refine' wpAnyC_takeG (T := fun w' => w'.heap[w.heap.size]? = some (nO I) ∧ w'.heap[w.heap.size + 1]? = some (nO M)) (i := 3) (oi := _) (v := .agg (ncells M)) (fun _ _ h => h) ?tho3 (by kernel_rfl) (by kernel_rfl) (by kernel_rfl) (by rfl) ?thQ3 ?thy3 ⟨HL0.out.A.blk, HL0.out.B.blk⟩ ?trest3
    case tho3 => (simp only [List.getElem?_toArray, List.getElem?_cons_zero, List.getElem?_cons_succ]; rfl)
    case thQ3 => exact fun _ _ _ h => absurd h.1 (by simp)
    case thy3 => exact yields_load_row rfl 23 (.tmp 3) rfl _ rfl 23 (ncells M) (0, 0) _ (fun _ h => h.2) Ybaf.underlying23 rfl (info23 _)
    simp only [Act.put, List.setIfInBounds_toArray, List.set_cons_zero, List.set_cons_succ]
    generalize w3.drew = u0 at *
    have HLu0 := HL0
    refine' wpAnyC_two (i := 2) (j := 6) (o := _) (o' := _) (by kernel_rfl) ?hoa1 ?hob1 ?hwa1 ?hwb1 ?ra1 ?rb1
    case hoa1 => (simp only [List.getElem?_toArray, List.getElem?_cons_zero, List.getElem?_cons_succ]; rfl)
    case hob1 => (simp only [List.getElem?_toArray, List.getElem?_cons_zero, List.getElem?_cons_succ]; rfl)
    case hwa1 => rfl
    case hwb1 => rfl
    case ra1 =>
      intro K hK
      have HKK := hide hK
      clear hK
      go_simp
      refine (wordsOf_any I hI u0).mono ?_
      rintro e u2 ⟨rfl, bb⟩
      have HLu2 := hide (HLu0.out.below bb)
      clear bb
      dsimp only
      refine HKK.out _ _ ⟨HLu2.out.A.blk, HLu2.out.B.blk⟩ ?_
      clear HKK K
      refine' wpAnyC_two (i := 4) (j := 6) (o := _) (o' := _) (by kernel_rfl) ?hoa3 ?hob3 ?hwa3 ?hwb3 ?ra3 ?rb3
      case hoa3 => (simp only [List.getElem?_toArray, List.getElem?_cons_zero, List.getElem?_cons_succ]; rfl)
      case hob3 => (simp only [List.getElem?_toArray, List.getElem?_cons_zero, List.getElem?_cons_succ]; rfl)
      case hwa3 => rfl
      case hwb3 => rfl
      case ra3 =>
        intro K hK
        have HKK := hide hK
        clear hK
        go_simp
        refine (wordsOf_any M hM u2).mono ?_
        rintro e u4 ⟨rfl, bb⟩
        have HLu4 := hide (HLu2.out.below bb)
        clear bb
        dsimp only
        refine HKK.out _ _ ⟨HLu4.out.A.blk, HLu4.out.B.blk⟩ ?_
        clear HKK K
        refine' wpAnyC_two (i := 5) (j := 6) (o := _) (o' := _) (by kernel_rfl) ?hoa5 ?hob5 ?hwa5 ?hwb5 ?ra5 ?rb5
        case hoa5 => (simp only [List.getElem?_toArray, List.getElem?_cons_zero, List.getElem?_cons_succ]; rfl)
        case hob5 => (simp only [List.getElem?_toArray, List.getElem?_cons_zero, List.getElem?_cons_succ]; rfl)
        case hwa5 => rfl
        case hwb5 => rfl
        case ra5 =>
          intro K hK
          have HKK := hide hK
          clear hK
          go_simp
          refine (HRR.out _ u4 HLu4.out.row (HLu4.out.range hg)).mono ?_
          rintro e u6 ⟨rfl, vv, RR, FF⟩
          have HLu6 := hide (HLu4.out.fr RR FF)
          clear RR FF
          dsimp only
          refine HKK.out _ _ ⟨HLu6.out.A.blk, HLu6.out.B.blk⟩ ?_
          clear HKK K
          refine' wpAnyC_one (i := 6) (o := _) (by kernel_rfl) ?ho7 ?hw7 ?r7
          case ho7 => (simp only [List.getElem?_toArray, List.getElem?_cons_zero, List.getElem?_cons_succ]; rfl)
          case hw7 => rfl
          intro K hK
          have HKK := hide hK
          clear hK
          go_simp
          obtain ⟨u8, hu⟩ : ∃ u, u = u6.alloc (wO fun _ => 0) := ⟨_, rfl⟩
          have HLu8 := hide (show LAt w u8 _ _ _ I M from hu ▸ HLu6.out.alloc _)
          obtain ⟨ab, hab⟩ : ∃ ab, ab = u6.heap.size := ⟨_, rfl⟩
          have HAu8 := hide (show Loc u8 _ _ ab (wO fun _ => 0) from hab ▸ hu ▸ Loc.new HLu6.out.row _)
          have HAB := hide (show w.heap.size + 1 < ab from by have := HLu6.out.row.lt; omega)
          have hu' : u8 = u6.alloc (.cells #[.int .u32 0, .int .u32 0, .int .u32 0, .int .u32 0, .int .u32 0, .int .u32 0, .int .u32 0, .int .u32 0, .int .u32 0, .int .u32 0, .int .u32 0, .int .u32 0, .int .u32 0, .int .u32 0, .int .u32 0, .int .u32 0, .int .u32 0, .int .u32 0, .int .u32 0, .int .u32 0, .int .u32 0, .int .u32 0, .int .u32 0, .int .u32 0, .int .u32 0, .int .u32 0, .int .u32 0, .int .u32 0, .int .u32 0, .int .u32 0, .int .u32 0, .int .u32 0] 33) := by rw [← wcells_zero]; exact hu
          rw [← hu', ← hab]
          clear hu hu' hab
          refine HKK.out _ _ ⟨HLu8.out.A.blk, HLu8.out.B.blk⟩ ?_
          clear HKK K
          refine' wpAnyC_one (i := 7) (o := _) (by kernel_rfl) ?ho9 ?hw9 ?r9
          case ho9 => (simp only [List.getElem?_toArray, List.getElem?_cons_zero, List.getElem?_cons_succ]; rfl)
          case hw9 => rfl
          intro K hK
          refine wp_store_row 33 (.tmp 6) (.tmp 14) rfl ab (wcells X) rfl rfl 33 _ HAu8.out.blk (info33 _) (by rw [wcells_size, wcells_size]) (wcells_all _) ?_
          refine hK _ _ ⟨(HLu8.out.setRow HAu8.out HAB.out _).A.blk, (HLu8.out.setRow HAu8.out HAB.out _).B.blk⟩ ?_
          refine wpAnyC_done (by kernel_rfl) ?_ _
          exact ⟨rfl, ab, _, rfl, HLu8.out.setRow HAu8.out HAB.out _, HAu8.out.setRow⟩
        case rb5 =>
          intro K hK
          have HKK := hide hK
          clear hK
          go_simp
          obtain ⟨u10, hu⟩ : ∃ u, u = u4.alloc (wO fun _ => 0) := ⟨_, rfl⟩
          have HLu10 := hide (show LAt w u10 _ _ _ I M from hu ▸ HLu4.out.alloc _)
          obtain ⟨ab, hab⟩ : ∃ ab, ab = u4.heap.size := ⟨_, rfl⟩
          have HAu10 := hide (show Loc u10 _ _ ab (wO fun _ => 0) from hab ▸ hu ▸ Loc.new HLu4.out.row _)
          have HAB := hide (show w.heap.size + 1 < ab from by have := HLu4.out.row.lt; omega)
          have hu' : u10 = u4.alloc (.cells #[.int .u32 0, .int .u32 0, .int .u32 0, .int .u32 0, .int .u32 0, .int .u32 0, .int .u32 0, .int .u32 0, .int .u32 0, .int .u32 0, .int .u32 0, .int .u32 0, .int .u32 0, .int .u32 0, .int .u32 0, .int .u32 0, .int .u32 0, .int .u32 0, .int .u32 0, .int .u32 0, .int .u32 0, .int .u32 0, .int .u32 0, .int .u32 0, .int .u32 0, .int .u32 0, .int .u32 0, .int .u32 0, .int .u32 0, .int .u32 0, .int .u32 0, .int .u32 0] 33) := by rw [← wcells_zero]; exact hu
          rw [← hu', ← hab]
          clear hu hu' hab
          refine HKK.out _ _ ⟨HLu10.out.A.blk, HLu10.out.B.blk⟩ ?_
          clear HKK K
          refine' wpAnyC_one (i := 5) (o := _) (by kernel_rfl) ?ho11 ?hw11 ?r11
          case ho11 => (simp only [List.getElem?_toArray, List.getElem?_cons_zero, List.getElem?_cons_succ]; rfl)
          case hw11 => rfl
          intro K hK
          have HKK := hide hK
          clear hK
          go_simp
          refine (HRR.out _ u10 HLu10.out.row (HLu10.out.range hg)).mono ?_
          rintro e u12 ⟨rfl, vv, RR, FF⟩
          have HLu12 := hide (HLu10.out.fr RR FF)
          have HAu12 := hide (HAu10.out.fr FF)
          clear RR FF
          dsimp only
          refine HKK.out _ _ ⟨HLu12.out.A.blk, HLu12.out.B.blk⟩ ?_
          clear HKK K
          refine' wpAnyC_one (i := 7) (o := _) (by kernel_rfl) ?ho13 ?hw13 ?r13
          case ho13 => (simp only [List.getElem?_toArray, List.getElem?_cons_zero, List.getElem?_cons_succ]; rfl)
          case hw13 => rfl
          intro K hK
          refine wp_store_row 33 (.tmp 6) (.tmp 14) rfl ab (wcells X) rfl rfl 33 _ HAu12.out.blk (info33 _) (by rw [wcells_size, wcells_size]) (wcells_all _) ?_
          refine hK _ _ ⟨(HLu12.out.setRow HAu12.out HAB.out _).A.blk, (HLu12.out.setRow HAu12.out HAB.out _).B.blk⟩ ?_
          refine wpAnyC_done (by kernel_rfl) ?_ _
          exact ⟨rfl, ab, _, rfl, HLu12.out.setRow HAu12.out HAB.out _, HAu12.out.setRow⟩
      case rb3 =>
        intro K hK
        have HKK := hide hK
        clear hK
        go_simp
        obtain ⟨u14, hu⟩ : ∃ u, u = u2.alloc (wO fun _ => 0) := ⟨_, rfl⟩
        have HLu14 := hide (show LAt w u14 _ _ _ I M from hu ▸ HLu2.out.alloc _)
        obtain ⟨ab, hab⟩ : ∃ ab, ab = u2.heap.size := ⟨_, rfl⟩
        have HAu14 := hide (show Loc u14 _ _ ab (wO fun _ => 0) from hab ▸ hu ▸ Loc.new HLu2.out.row _)
        have HAB := hide (show w.heap.size + 1 < ab from by have := HLu2.out.row.lt; omega)
        have hu' : u14 = u2.alloc (.cells #[.int .u32 0, .int .u32 0, .int .u32 0, .int .u32 0, .int .u32 0, .int .u32 0, .int .u32 0, .int .u32 0, .int .u32 0, .int .u32 0, .int .u32 0, .int .u32 0, .int .u32 0, .int .u32 0, .int .u32 0, .int .u32 0, .int .u32 0, .int .u32 0, .int .u32 0, .int .u32 0, .int .u32 0, .int .u32 0, .int .u32 0, .int .u32 0, .int .u32 0, .int .u32 0, .int .u32 0, .int .u32 0, .int .u32 0, .int .u32 0, .int .u32 0, .int .u32 0] 33) := by rw [← wcells_zero]; exact hu
        rw [← hu', ← hab]
        clear hu hu' hab
        refine HKK.out _ _ ⟨HLu14.out.A.blk, HLu14.out.B.blk⟩ ?_
        clear HKK K
        refine' wpAnyC_one (i := 4) (o := _) (by kernel_rfl) ?ho15 ?hw15 ?r15
        case ho15 => (simp only [List.getElem?_toArray, List.getElem?_cons_zero, List.getElem?_cons_succ]; rfl)
        case hw15 => rfl
        intro K hK
        have HKK := hide hK
        clear hK
        go_simp
        refine (wordsOf_any M hM u14).mono ?_
        rintro e u16 ⟨rfl, bb⟩
        have HLu16 := hide (HLu14.out.below bb)
        have HAu16 := hide (HAu14.out.below bb)
        clear bb
        dsimp only
        refine HKK.out _ _ ⟨HLu16.out.A.blk, HLu16.out.B.blk⟩ ?_
        clear HKK K
        refine' wpAnyC_one (i := 5) (o := _) (by kernel_rfl) ?ho17 ?hw17 ?r17
        case ho17 => (simp only [List.getElem?_toArray, List.getElem?_cons_zero, List.getElem?_cons_succ]; rfl)
        case hw17 => rfl
        intro K hK
        have HKK := hide hK
        clear hK
        go_simp
        refine (HRR.out _ u16 HLu16.out.row (HLu16.out.range hg)).mono ?_
        rintro e u18 ⟨rfl, vv, RR, FF⟩
        have HLu18 := hide (HLu16.out.fr RR FF)
        have HAu18 := hide (HAu16.out.fr FF)
        clear RR FF
        dsimp only
        refine HKK.out _ _ ⟨HLu18.out.A.blk, HLu18.out.B.blk⟩ ?_
        clear HKK K
        refine' wpAnyC_one (i := 7) (o := _) (by kernel_rfl) ?ho19 ?hw19 ?r19
        case ho19 => (simp only [List.getElem?_toArray, List.getElem?_cons_zero, List.getElem?_cons_succ]; rfl)
        case hw19 => rfl
        intro K hK
        refine wp_store_row 33 (.tmp 6) (.tmp 14) rfl ab (wcells X) rfl rfl 33 _ HAu18.out.blk (info33 _) (by rw [wcells_size, wcells_size]) (wcells_all _) ?_
        refine hK _ _ ⟨(HLu18.out.setRow HAu18.out HAB.out _).A.blk, (HLu18.out.setRow HAu18.out HAB.out _).B.blk⟩ ?_
        refine wpAnyC_done (by kernel_rfl) ?_ _
        exact ⟨rfl, ab, _, rfl, HLu18.out.setRow HAu18.out HAB.out _, HAu18.out.setRow⟩
    case rb1 =>
      intro K hK
      have HKK := hide hK
      clear hK
      go_simp
      obtain ⟨u20, hu⟩ : ∃ u, u = u0.alloc (wO fun _ => 0) := ⟨_, rfl⟩
      have HLu20 := hide (show LAt w u20 _ _ _ I M from hu ▸ HLu0.out.alloc _)
      obtain ⟨ab, hab⟩ : ∃ ab, ab = u0.heap.size := ⟨_, rfl⟩
      have HAu20 := hide (show Loc u20 _ _ ab (wO fun _ => 0) from hab ▸ hu ▸ Loc.new HLu0.out.row _)
      have HAB := hide (show w.heap.size + 1 < ab from by have := HLu0.out.row.lt; omega)
      have hu' : u20 = u0.alloc (.cells #[.int .u32 0, .int .u32 0, .int .u32 0, .int .u32 0, .int .u32 0, .int .u32 0, .int .u32 0, .int .u32 0, .int .u32 0, .int .u32 0, .int .u32 0, .int .u32 0, .int .u32 0, .int .u32 0, .int .u32 0, .int .u32 0, .int .u32 0, .int .u32 0, .int .u32 0, .int .u32 0, .int .u32 0, .int .u32 0, .int .u32 0, .int .u32 0, .int .u32 0, .int .u32 0, .int .u32 0, .int .u32 0, .int .u32 0, .int .u32 0, .int .u32 0, .int .u32 0] 33) := by rw [← wcells_zero]; exact hu
      rw [← hu', ← hab]
      clear hu hu' hab
      refine HKK.out _ _ ⟨HLu20.out.A.blk, HLu20.out.B.blk⟩ ?_
      clear HKK K
      refine' wpAnyC_one (i := 2) (o := _) (by kernel_rfl) ?ho21 ?hw21 ?r21
      case ho21 => (simp only [List.getElem?_toArray, List.getElem?_cons_zero, List.getElem?_cons_succ]; rfl)
      case hw21 => rfl
      intro K hK
      have HKK := hide hK
      clear hK
      go_simp
      refine (wordsOf_any I hI u20).mono ?_
      rintro e u22 ⟨rfl, bb⟩
      have HLu22 := hide (HLu20.out.below bb)
      have HAu22 := hide (HAu20.out.below bb)
      clear bb
      dsimp only
      refine HKK.out _ _ ⟨HLu22.out.A.blk, HLu22.out.B.blk⟩ ?_
      clear HKK K
      refine' wpAnyC_one (i := 4) (o := _) (by kernel_rfl) ?ho23 ?hw23 ?r23
      case ho23 => (simp only [List.getElem?_toArray, List.getElem?_cons_zero, List.getElem?_cons_succ]; rfl)
      case hw23 => rfl
      intro K hK
      have HKK := hide hK
      clear hK
      go_simp
      refine (wordsOf_any M hM u22).mono ?_
      rintro e u24 ⟨rfl, bb⟩
      have HLu24 := hide (HLu22.out.below bb)
      have HAu24 := hide (HAu22.out.below bb)
      clear bb
      dsimp only
      refine HKK.out _ _ ⟨HLu24.out.A.blk, HLu24.out.B.blk⟩ ?_
      clear HKK K
      refine' wpAnyC_one (i := 5) (o := _) (by kernel_rfl) ?ho25 ?hw25 ?r25
      case ho25 => (simp only [List.getElem?_toArray, List.getElem?_cons_zero, List.getElem?_cons_succ]; rfl)
      case hw25 => rfl
      intro K hK
      have HKK := hide hK
      clear hK
      go_simp
      refine (HRR.out _ u24 HLu24.out.row (HLu24.out.range hg)).mono ?_
      rintro e u26 ⟨rfl, vv, RR, FF⟩
      have HLu26 := hide (HLu24.out.fr RR FF)
      have HAu26 := hide (HAu24.out.fr FF)
      clear RR FF
      dsimp only
      refine HKK.out _ _ ⟨HLu26.out.A.blk, HLu26.out.B.blk⟩ ?_
      clear HKK K
      refine' wpAnyC_one (i := 7) (o := _) (by kernel_rfl) ?ho27 ?hw27 ?r27
      case ho27 => (simp only [List.getElem?_toArray, List.getElem?_cons_zero, List.getElem?_cons_succ]; rfl)
      case hw27 => rfl
      intro K hK
      refine wp_store_row 33 (.tmp 6) (.tmp 14) rfl ab (wcells X) rfl rfl 33 _ HAu26.out.blk (info33 _) (by rw [wcells_size, wcells_size]) (wcells_all _) ?_
      refine hK _ _ ⟨(HLu26.out.setRow HAu26.out HAB.out _).A.blk, (HLu26.out.setRow HAu26.out HAB.out _).B.blk⟩ ?_
      refine wpAnyC_done (by kernel_rfl) ?_ _
      exact ⟨rfl, ab, _, rfl, HLu26.out.setRow HAu26.out HAB.out _, HAu26.out.setRow⟩
  rintro e a' w' ⟨rfl, ab, v', rfl, L, A⟩
  have HL' := hide L
  have HA' := hide A
  clear L A HL
  dsimp only
  go_wp2_with fail
  refine wp_region_C (S := fun _ => fun w'' => w''.heap[ab]? = some (wO X) ∧ w''.heap[w.heap.size]? = some (nO I) ∧ w''.heap[w.heap.size + 1]? = some (nO M)) (c := 100) 6 (by rfl) (by kernel_rfl) ?_
  have HLd := hide HL'.out.drew
  have HAd := hide HA'.out.drew
  clear HL' HA'
  generalize w'.drew = x0 at *
  refine' wpAnyC_takeG (T := fun w'' => w''.heap[ab]? = some (wO X) ∧ w''.heap[w.heap.size]? = some (nO I) ∧ w''.heap[w.heap.size + 1]? = some (nO M)) (i := 0) (oi := _) (v := .agg (wcells X)) (fun _ _ h => h) ?sho0 (by kernel_rfl) (by kernel_rfl) (by kernel_rfl) (by rfl) ?shQ0 ?shy0 ⟨HAd.out.blk, HLd.out.A.blk, HLd.out.B.blk⟩ ?srest0
  case sho0 => (simp only [List.getElem?_toArray, List.getElem?_cons_zero]; rfl)
  case shQ0 => exact fun _ _ _ h => h
  case shy0 => exact yields_load_row rfl 33 (.tmp 6) rfl _ rfl 33 (wcells X) (0, 0) _ (fun _ h => h.1) Ybaf.underlying33 rfl (info33 _)
  simp only [Act.put, List.setIfInBounds_toArray, List.set_cons_zero, List.set_cons_succ]
  refine' wpAnyC_takeG (T := fun w'' => w''.heap[ab]? = some (wO X) ∧ w''.heap[w.heap.size]? = some (nO I) ∧ w''.heap[w.heap.size + 1]? = some (nO M)) (i := 1) (oi := _) (v := .agg (ncells I)) (fun _ _ h => h) ?sho1 (by kernel_rfl) (by kernel_rfl) (by kernel_rfl) (by rfl) ?shQ1 ?shy1 ⟨HAd.out.blk, HLd.out.A.blk, HLd.out.B.blk⟩ ?srest1
  case sho1 => (simp only [List.getElem?_toArray, List.getElem?_cons_zero, List.getElem?_cons_succ]; rfl)
  case shQ1 => exact fun _ _ _ h => h
  case shy1 => exact yields_load_row rfl 23 (.tmp 2) rfl _ rfl 23 (ncells I) (0, 0) _ (fun _ h => h.2.1) Ybaf.underlying23 rfl (info23 _)
  simp only [Act.put, List.setIfInBounds_toArray, List.set_cons_zero, List.set_cons_succ]
  refine' wpAnyC_takeG (T := fun w'' => w''.heap[ab]? = some (wO X) ∧ w''.heap[w.heap.size]? = some (nO I) ∧ w''.heap[w.heap.size + 1]? = some (nO M)) (i := 2) (oi := _) (v := .agg (ncells M)) (fun _ _ h => h) ?sho2 (by kernel_rfl) (by kernel_rfl) (by kernel_rfl) (by rfl) ?shQ2 ?shy2 ⟨HAd.out.blk, HLd.out.A.blk, HLd.out.B.blk⟩ ?srest2
  case sho2 => (simp only [List.getElem?_toArray, List.getElem?_cons_zero, List.getElem?_cons_succ]; rfl)
  case shQ2 => exact fun _ _ _ h => h
  case shy2 => exact yields_load_row rfl 23 (.tmp 3) rfl _ rfl 23 (ncells M) (0, 0) _ (fun _ h => h.2.2) Ybaf.underlying23 rfl (info23 _)
  simp only [Act.put, List.setIfInBounds_toArray, List.set_cons_zero, List.set_cons_succ]
  refine' wpAnyC_one (i := 3) (o := _) (by kernel_rfl) ?hoq3 ?hwq3 ?rq3
  case hoq3 => (simp only [List.getElem?_toArray, List.getElem?_cons_zero, List.getElem?_cons_succ]; rfl)
  case hwq3 => rfl
  intro K hK
  have HKK := hide hK
  clear hK
  go_simp
  refine (HZZ.out x0).mono ?_
  rintro e e3 ⟨rfl, bb⟩
  have HLe3 := hide (HLd.out.below bb)
  have HAe3 := hide (HAd.out.below bb)
  clear bb
  dsimp only
  refine HKK.out _ _ ⟨HAe3.out.blk, HLe3.out.A.blk, HLe3.out.B.blk⟩ ?_
  clear HKK K
  refine' wpAnyC_one (i := 4) (o := _) (by kernel_rfl) ?hoq4 ?hwq4 ?rq4
  case hoq4 => (simp only [List.getElem?_toArray, List.getElem?_cons_zero, List.getElem?_cons_succ]; rfl)
  case hwq4 => rfl
  intro K hK
  have HKK := hide hK
  clear hK
  go_simp
  refine (wordsOf_any X hXl e3).mono ?_
  rintro e e4 ⟨rfl, bb⟩
  have HLe4 := hide (HLe3.out.below bb)
  have HAe4 := hide (HAe3.out.below bb)
  clear bb
  dsimp only
  refine HKK.out _ _ ⟨HAe4.out.blk, HLe4.out.A.blk, HLe4.out.B.blk⟩ ?_
  clear HKK K
  have heq := eq_words X
  have hgd := eqGuard33
  refine' wpAnyC_takeG (T := fun w'' => w''.heap[ab]? = some (wO X) ∧ w''.heap[w.heap.size]? = some (nO I) ∧ w''.heap[w.heap.size + 1]? = some (nO M)) (i := 5) (oi := _) (v := .bool false) (fun _ _ h => h) ?sho5 (by kernel_rfl) (by kernel_rfl) (by kernel_rfl) (by rfl) ?shQ5 ?shy5 ⟨HAe4.out.blk, HLe4.out.A.blk, HLe4.out.B.blk⟩ ?srest5
  case sho5 => (simp only [List.getElem?_toArray, List.getElem?_cons_zero, List.getElem?_cons_succ]; rfl)
  case shQ5 => exact fun _ _ _ h => h
  case shy5 => (refine Or.inl ⟨rfl, ?_⟩; intro wz hz; go_simp)
  simp only [Act.put, List.setIfInBounds_toArray, List.set_cons_zero, List.set_cons_succ]
  refine wpAnyC_done (by kernel_rfl) ?_ _
  clear heq hgd
  obtain ⟨pp, cap, hv⟩ := HLe4.out.row.slice
  have x0l : (st0.emit EM 128).xs.length = 320 := by simp [RSt.emit, st0, hEl]
  have x0p : (st0.emit EM 128).pos = 320 := by show 0 + EM.length = 320; rw [Nat.zero_add]; exact hEl
  rw [x0l] at hv
  have k0 : e4.cell? ⟨w.heap.size + 1 + 1, 0, none⟩ = some (.slice pp 320 cap) := by rw [← hv]; exact cell_of_cells HLe4.out.row.blk rfl
  have k1 : e4.cell? ⟨w.heap.size + 1 + 1, 1, none⟩ = some (.int .i64 320) := (cell_of_cells (v := .int .i64 ((st0.emit EM 128).pos : Nat)) HLe4.out.row.blk rfl).trans (by rw [x0p]; rfl)
  have k4 : e4.cell? ⟨w.heap.size + 1 + 1, 4, none⟩ = some (.int .i64 128) := cell_of_cells HLe4.out.row.blk rfl
  have k5 : e4.cell? ⟨w.heap.size + 1 + 1, 5, none⟩ = some .nilIface := cell_of_cells HLe4.out.row.blk rfl
  clear hv x0l x0p
  go_wp2
  go_ret
  exact ⟨rfl, HLe4.out.bel⟩
end Go.Proofs.YbulkchdaFmt
