/- THE WALK of tree.LawS4159AExact. -/
import Derived.Test.YbulkchcmNode
namespace Go.Proofs.Ybulkchcm
open Go.RowKit Plain

/-- step number k of the chain: its three cells -/
def stepAt (w : World) (b off : Nat) (f : Nat → Int × Int × Bool) (k : Nat) : Prop :=
  w.cell? ⟨b, off + k * 3, none⟩ = some (.int .i64 (f k).1) ∧ w.cell? ⟨b, off + k * 3 + 1, none⟩ = some (.int .i64 (f k).2.1) ∧ w.cell? ⟨b, off + k * 3 + 2, none⟩ = some (.bool (f k).2.2)

set_option maxRecDepth 100000 in
theorem walk_long (s l c : Int) (a : Option Addr) (len cap : Nat) (w : World) (h : 1024 < len) (hm : len ≤ 9223372036854775807) :
    Calls Yba.prog 3 #[.int .u8 s, .int .i64 l, .int .i64 c, .slice a len cap] w fun e w' => e = .returned (.bool true) ∧ Below w.heap.size w w' := by
  go_enter Yba.func3, Yba.ntmps3
  go_wp2
  go_ret
  exact ⟨rfl, Below.refl _ _⟩

theorem tyOf_is (s : Nat) : tyOf s = tyIS ∨ tyOf s = tyWT ∨ tyOf s = tyWN ∨ tyOf s = tyI := by
  unfold tyOf
  split
  · exact Or.inl rfl
  · exact Or.inr (Or.inl rfl)
  · exact Or.inr (Or.inr (Or.inl rfl))
  · exact Or.inr (Or.inr (Or.inr rfl))

set_option maxHeartbeats 4000000 in
set_option maxRecDepth 100000 in
theorem walk_short (s : Nat) (l c : Int) (a : Option Addr) (b off len cap : Nat) (f : Nat → Int × Int × Bool) (w : World) (hs : s ≤ 255) (h : len ≤ 1024) (ha : 0 < len → a = some ⟨b, off, none⟩) (hb : 0 < len → b < w.heap.size)
    (hcell : ∀ k, k < len → stepAt w b off f k) :
    Calls Yba.prog 3 #[.int .u8 s, .int .i64 l, .int .i64 c, .slice a len cap] w fun e w' => e = .returned (.bool true) ∧ Below w.heap.size w w' := by
  obtain ⟨i0, hi0, hz0, hz1, hz2⟩ := info_parts Yba.info25
  have hdec : decide ((1024 : Int) < (len : Int)) = false := by simp; omega
  go_enter Yba.func3, Yba.ntmps3
  have HT : Hid (tyOf s = ⟨#[73, 110, 116, 101, 114, 109, 101, 100, 105, 97, 116, 101, 83, 101, 99, 116, 105, 111, 110]⟩ ∨ tyOf s = ⟨#[83, 101, 99, 116, 105, 111, 110, 87, 105, 116, 104, 84, 101, 120, 116, 115]⟩ ∨
      tyOf s = ⟨#[83, 101, 99, 116, 105, 111, 110, 87, 105, 116, 104, 78, 97, 109, 101, 115]⟩ ∨ tyOf s = ⟨#[73, 110, 116, 101, 103, 101, 114]⟩) := tyOf_is s
  go_wp2_with (go_at_call 8; refine (type_any s hs _).mono ?_; rintro e w' ⟨rfl, rfl⟩)
  generalize tyOf s = ty at *
  go_loopw [10, 11] (fun bv iv wr => ∃ d n : Nat, d + n = len ∧ iv = .int .i64 ((n : Int) - 1) ∧ BelowIs wr w.heap.size f len d bv ∧ Below w.heap.size w wr) (fun _ iv _ => (intOf iv + 1).toNat)
  case atStart => exact ⟨0, len, by omega, rfl, Or.inl ⟨rfl, rfl⟩, Below.refl _ _⟩
  case round =>
    obtain ⟨d, n, hdn, rfl, hbe, hbel⟩ := hrel
    have hsz := hbel.size
    cases n with
    | succ j =>
      obtain rfl := ha (by omega)
      have hbw := hb (by omega)
      obtain ⟨q1, q2, q3⟩ := hcell j (by omega)
      have hjn : (((j + 1 : Nat) : Int) - 1) = (j : Int) := by omega
      rw [hjn]
      have hjl : j < len := by omega
      have r1 := (hbel.cell hbw).trans q1
      have r2 := (hbel.cell hbw).trans q2
      have hej : len - (d + 1) = j := by omega
      have HL := hide (show (f (len - (d + 1))).1 = (f j).1 from by rw [hej])
      have HC := hide (show (f (len - (d + 1))).2.1 = (f j).2.1 from by rw [hej])
      have HV := hide (show d = 0 → vis f len 0 = if (f j).2.2 then [(0, 0)] else [] from fun h0 => vis_last f len (by omega) _ (by rw [show len - 1 = j by omega]))
      clear hcell ha hb hjn hej q1 q2
      generalize (f j).1 = lj at *
      generalize (f j).2.1 = cj at *
      generalize (f j).2.2 = sj at *
      go_wp2_with fail
      go_region
      obtain ⟨w1, hw1⟩ : ∃ w1, w1 = (wr.alloc (.cells (nodeCells ⟨#[73, 110, 116, 101, 114, 109, 101, 100, 105, 97, 116, 101, 83, 101, 99, 116, 105, 111, 110]⟩ lj cj (.pointer none) (.slice none 0 0)) 33)).drew := ⟨_, rfl⟩
      have S1 : St wr.heap.size w.heap.size wr.heap.size w wr w1 (nodeCells ⟨#[73, 110, 116, 101, 114, 109, 101, 100, 105, 97, 116, 101, 83, 101, 99, 116, 105, 111, 110]⟩ lj cj (.pointer none) (.slice none 0 0)) := by
        rw [hw1]
        exact ⟨((Kp.start hbel hsz).alloc _).drew, heap_alloc_new wr _, Nat.le_refl _⟩
      have hold : ∀ k, k < wr.heap.size → w1.heap[k]? = wr.heap[k]? := by
        rw [hw1]; exact fun k hk => Below.heap_alloc wr _ k hk
      rw [← hw1]
      clear hw1
      have z1 := S1.lt
      have r3 := (S1.kp.bel.cell hbw).trans q3
      obtain ⟨c12, f12⟩ := S1.c12
      clear r1 r2 hbel
      rcases hbe with ⟨hd0, hbv⟩ | ⟨hd0, b', cs, hbv, hBb, hcs, hcz, e2, e3, edn⟩
      · subst hbv
        have HV' := hide (HV.out hd0)
        have HD0 := hide hd0
        clear hd0 HV hold
        cases sj
        · go_wp2_with fail
          go_roundw
          case rel => exact ⟨d + 1, j, by omega, rfl, S1.below HL.out HC.out (by rw [HD0.out, HV'.out]; exact S1.c12.1)⟩
          case measure => simp [intOf]
        · go_wp2_with (at_builtin; refine wpList_append_sep _ rfl (.tmp 75) (.tmp 79) 30 rfl wr.heap.size 25 i0 (.pointer none) 1 8 Yba.underlying30 hi0 hz0 hz1 hz2 rfl (by decide) (.slice none 0 0) 0 [] rfl (World.ownsRow_nil _ _ _ _) _ 1 1 [.pointer (some ⟨w1.heap.size + 1, 0, none⟩)] rfl rfl (one_new_at (by simp)) (one_cell rfl) (by decide) (by decide) (by simp; omega) (by decide) ?_)
          intro g cp w2 own2 gr2 sep2
          have S2 := (((S1.alloc _).alloc _).alloc _).grown gr2 (by intro k hk; simp [Value.ownBlock] at hk)
          have hp2 : w2.heap[w1.heap.size + 1]? = some (.cells (nodeCells ⟨#[73, 110, 116, 101, 103, 101, 114]⟩ 0 0 (.pointer (some ⟨wr.heap.size, 0, none⟩)) (.slice none 0 0)) 33 (0, 0)) := by
            rw [gr2.block _ (by simp) (by simp [Value.ownBlock]), Below.heap_alloc _ _ _ (by simp)]
            have := heap_alloc_new (w1.alloc (.cells (nodeCells ⟨#[73, 110, 116, 101, 103, 101, 114]⟩ 1 7 (.pointer (some ⟨wr.heap.size, 0, none⟩)) (.slice none 0 0)) 33)) (.cells (nodeCells ⟨#[73, 110, 116, 101, 103, 101, 114]⟩ 0 0 (.pointer (some ⟨wr.heap.size, 0, none⟩)) (.slice none 0 0)) 33)
            simpa using this
          have hg2 : w1.heap.size + 3 ≤ g := by
            rcases sep2 with h | h
            · simp [Value.ownBlock] at h
            · simpa using h
          have z2 := S2.lt
          have gz := (own2.lt g rfl).2
          obtain ⟨c12', f12'⟩ := S2.c12
          clear gr2 sep2 c12 f12 S1
          go_wp2_with (at_builtin; refine wpList_append_sep _ rfl (.tmp 87) (.tmp 89) 30 rfl wr.heap.size 25 i0 (.pointer none) 1 8 Yba.underlying30 hi0 hz0 hz1 hz2 rfl (by decide) (.slice (some ⟨g, 0, none⟩) 1 cp) 1 [.pointer (some ⟨w1.heap.size + 1, 0, none⟩)] rfl ((ownsRow_setCell_other own2 (a := ⟨wr.heap.size, 12, none⟩) (by simp [Value.ownBlock]; omega) _).alloc _) _ 1 1 [.pointer (some ⟨w1.heap.size, 0, none⟩)] rfl rfl (one_new_at (by simp)) (one_cell rfl) (by decide) (by decide) (by simp; omega) (by decide) ?_)
          intro g3 cp3 w3 own3 gr3 sep3
          have S3 := ((S2.set12 _).alloc _).grown gr3 (by intro k hk; simp [Value.ownBlock] at hk; omega)
          have T3 : Turn (fun k => k = wr.heap.size ∨ k = g) w2 w3 := (((Turn.refl _ _).setCell (p := ⟨wr.heap.size, 12, none⟩) (Or.inl rfl) _).alloc _).grown gr3 (by intro k _ hk; simp [Value.ownBlock] at hk; exact Or.inr hk.symm)
          have hp3 := T3.at hp2 (by omega)
          have hg3 : g3 ≠ wr.heap.size := by
            rcases sep3 with h | h
            · simp [Value.ownBlock] at h; omega
            · omega
          have z3 := S3.lt
          obtain ⟨c12'', f12''⟩ := S3.c12
          clear gr3 sep3 c12' f12' S2 own2 T3
          go_wp2_with fail
          have S4 := S3.set12 (.slice (some ⟨g3, 0, none⟩) 2 cp3)
          have own4 := ownsRow_setCell_other own3 (a := ⟨wr.heap.size, 12, none⟩) (by simp [Value.ownBlock]; exact hg3) (.slice (some ⟨g3, 0, none⟩) 2 cp3)
          have hp4 : (w3.setCell ⟨wr.heap.size, 12, none⟩ (.slice (some ⟨g3, 0, none⟩) 2 cp3)).heap[w1.heap.size + 1]? = _ := (Below.heap_setCell _ _ _ _ (by simp only; omega)).trans hp3
          go_roundw
          case rel => exact ⟨d + 1, j, by omega, rfl, S4.below HL.out HC.out (by rw [HD0.out, HV'.out]; exact S4.downLeaf own4 hp4)⟩
          case measure => simp [intOf]
      · subst hbv
        have hb'm : b' < wr.heap.size := lt_of_block hcs
        have hcs1 : w1.heap[b']? = some (.cells cs 33 (0, 0)) := (hold b' hb'm).trans hcs
        obtain ⟨v11, hv11⟩ : ∃ v11, cs[11]? = some v11 := ⟨cs[11], by simp⟩
        have k11 : w1.cell? ⟨b', 11, none⟩ = some v11 := cell_of_cells hcs1 hv11
        have j11 := free_of_cells (i := 11) hcs1
        clear hcs1 hv11 hold HV
        go_wp2_with (at_builtin; refine wpList_append_sep _ rfl (.tmp 55) (.tmp 57) 30 rfl wr.heap.size 25 i0 (.pointer none) 1 8 Yba.underlying30 hi0 hz0 hz1 hz2 rfl (by decide) (.slice none 0 0) 0 [] rfl (World.ownsRow_nil _ _ _ _) _ 1 1 [.pointer (some ⟨b', 0, none⟩)] rfl rfl (one_new_at (by simp)) (one_cell rfl) (by decide) (by decide) (by simp; omega) (by decide) ?_)
        intro g cp w2 own2 gr2 sep2
        have S2 := ((S1.set11 hBb (by omega) _).alloc _).grown gr2 (by intro k hk; simp [Value.ownBlock] at hk)
        have hg2 : w1.heap.size + 1 ≤ g := by
          rcases sep2 with h | h
          · simp [Value.ownBlock] at h
          · simpa using h
        have z2 := S2.lt
        have gz := (own2.lt g rfl).2
        have r3' := (S2.kp.bel.cell hbw).trans q3
        obtain ⟨c12', f12'⟩ := S2.c12
        have hbm : ¬ wr.heap.size = b := by omega
        clear gr2 sep2 c12 f12 S1 r3 k11 j11
        cases sj
        · go_wp2_with fail
          have S4 := S2.set12 (.slice (some ⟨g, 0, none⟩) 1 cp)
          have own4 := ownsRow_setCell_other own2 (a := ⟨wr.heap.size, 12, none⟩) (by simp [Value.ownBlock]; omega) (.slice (some ⟨g, 0, none⟩) 1 cp)
          go_roundw
          case rel => exact ⟨d + 1, j, by omega, rfl, S4.below HL.out HC.out (S4.downSome own4 rfl hd0 e2 e3 edn)⟩
          case measure => simp [intOf]
        · go_wp2_with (at_builtin; refine wpList_append_sep _ rfl (.tmp 87) (.tmp 89) 30 rfl wr.heap.size 25 i0 (.pointer none) 1 8 Yba.underlying30 hi0 hz0 hz1 hz2 rfl (by decide) (.slice (some ⟨g, 0, none⟩) 1 cp) 1 [.pointer (some ⟨b', 0, none⟩)] rfl (((ownsRow_setCell_other own2 (a := ⟨wr.heap.size, 12, none⟩) (by simp [Value.ownBlock]; omega) _).alloc _).alloc _) _ 1 1 [.pointer (some ⟨w2.heap.size, 0, none⟩)] rfl rfl (one_new_at (by simp)) (one_cell rfl) (by decide) (by decide) (by simp; omega) (by decide) ?_)
          intro g3 cp3 w3 own3 gr3 sep3
          have S3 := (((S2.set12 _).alloc _).alloc _).grown gr3 (by intro k hk; simp [Value.ownBlock] at hk; omega)
          have hg3 : g3 ≠ wr.heap.size := by
            rcases sep3 with h | h
            · simp [Value.ownBlock] at h; omega
            · omega
          have z3 := S3.lt
          obtain ⟨c12'', f12''⟩ := S3.c12
          clear gr3 sep3 c12' f12' S2 own2
          go_wp2_with fail
          have S4 := S3.set12 (.slice (some ⟨g3, 0, none⟩) 2 cp3)
          have own4 := ownsRow_setCell_other own3 (a := ⟨wr.heap.size, 12, none⟩) (by simp [Value.ownBlock]; exact hg3) (.slice (some ⟨g3, 0, none⟩) 2 cp3)
          go_roundw
          case rel => exact ⟨d + 1, j, by omega, rfl, S4.below HL.out HC.out (S4.downSome own4 rfl hd0 e2 e3 edn)⟩
          case measure => simp [intOf]
    | zero =>
      obtain rfl : d = len := by omega
      have hneg : ((0 : Nat) : Int) - 1 = -1 := by omega
      rw [hneg]
      clear hneg
      obtain ⟨w1, hw1⟩ : ∃ w1, w1 = wr.alloc (.cells (nodeCells ty l c (.pointer none) (.slice none 0 0)) 33) := ⟨_, rfl⟩
      have S1 : St wr.heap.size w.heap.size wr.heap.size w wr w1 (nodeCells ty l c (.pointer none) (.slice none 0 0)) := by
        rw [hw1]
        exact ⟨(Kp.start hbel hsz).alloc _, heap_alloc_new wr _, Nat.le_refl _⟩
      rcases hbe with ⟨hd0, hbv⟩ | ⟨hd0, b', cs, hbv, hBb, hcs, hcz, e2, e3, edn⟩
      · subst hbv
        have hdn5 : Down w1 wr.heap.size (vis f d d) := by
          rw [hd0]
          exact S1.c12.1
        have HD0 := hide hd0
        clear hd0
        go_wp2_with fail
        rw [← hw1]
        have hn5 := S1.node
        have hb5 := S1.kp.bel
        clear S1 hw1 hdn hbel hsz
        have p0 : w1.cell? ⟨wr.heap.size, 0, none⟩ = some (.string ty) := cell_of_cells hn5 rfl
        have p2 : w1.cell? ⟨wr.heap.size, 2, none⟩ = some (.int .i64 l) := cell_of_cells hn5 rfl
        have p3 : w1.cell? ⟨wr.heap.size, 3, none⟩ = some (.int .i64 c) := cell_of_cells hn5 rfl
        by_cases hl0 : l = 0
        · subst hl0
          rcases HT.out with h | h | h | h
          · subst h
            clear HT
            refine (place_way wr.heap.size _ 0 c _ _ p0 p2 p3 (by omega) (Or.inl rfl) hdn5).mono ?_
            rintro e w6 ⟨rfl, hsame⟩
            rw [best_vis]
            have m2 := (hsame.cell _).trans p2
            have m3 := (hsame.cell _).trans p3
            have HW := hide (Same.below hb5 hsame)
            clear p0 p2 p3 hdn5 hb5 hn5
            go_wp2_with fail
            go_loopw [17, 18, 19, 20] (fun fv lv cv iv wq => ∃ (k : Nat) (cur : Pt) (fd : Bool), k ≤ d ∧ iv = .int .i64 k ∧ fv = .bool fd ∧ lv = .int .i64 cur.1 ∧ cv = .int .i64 cur.2 ∧ cur = best (0, c) (pts f k) ∧ (fd = true ↔ cur.1 ≠ 0) ∧ Below w.heap.size w wq) (fun _ _ _ iv _ => d - (intOf iv).toNat)
            case atStart => exact ⟨0, (0, c), false, Nat.zero_le _, rfl, rfl, rfl, rfl, rfl, by simp, HW.out⟩
            case round =>
              obtain ⟨k, cur, fd, hk, rfl, rfl, rfl, rfl, hcur, hfd, hbq⟩ := hrel
              by_cases hkl : k < d
              · obtain rfl := ha (by omega)
                obtain ⟨q1, q2, _⟩ := hcell k hkl
                have r1 := (hbq.cell (hb (by omega))).trans q1
                have r2 := (hbq.cell (hb (by omega))).trans q2
                have hpos := best_pos c f k
                rw [← hcur] at hpos
                have HS := hide (show best (0, c) (pts f (k + 1)) = Plain.step cur ((f k).1, (f k).2.1) from by rw [best_succ, ← hcur])
                clear q1 q2 hcell ha hb hcur m2 m3
                obtain ⟨c1, c2⟩ := cur
                simp only at hfd hpos
                generalize (f k).1 = x1 at *
                generalize (f k).2.1 = x2 at *
                by_cases h1 : 0 < x1
                · cases fd
                  · have hc0 : c1 = 0 := by
                      rcases Int.lt_or_le c1 0 with h | h
                      · omega
                      · by_cases h' : c1 = 0
                        · exact h'
                        · exact absurd (hfd.2 h') (by simp)
                    have HS' := hide (HS.out.trans (step_yes h1 (Or.inl hc0)))
                    clear hfd hpos
                    subst hc0
                    go_wp2_with fail
                    go_region
                    go_wp2_with fail
                    go_roundw
                    case rel => exact ⟨k + 1, (x1, x2), true, by omega, by go_num, rfl, rfl, rfl, HS'.out.symm, by simp; omega, hbq.drew⟩
                    case measure => simp [intOf]; omega
                  · have hc0 : c1 ≠ 0 := hfd.1 rfl
                    have Hc0 := hide hc0
                    clear hfd hpos
                    by_cases h2 : x1 < c1
                    · have HS' := hide (HS.out.trans (step_yes h1 (Or.inr h2)))
                      clear hc0
                      go_wp2_with fail
                      go_region
                      go_wp2_with fail
                      go_roundw
                      case rel => exact ⟨k + 1, (x1, x2), true, by omega, by go_num, rfl, rfl, rfl, HS'.out.symm, by simp; omega, hbq.drew⟩
                      case measure => simp [intOf]; omega
                    · have HS' := hide (HS.out.trans (step_no (by simp only; omega)))
                      clear hc0
                      go_wp2_with fail
                      go_roundw
                      case rel => exact ⟨k + 1, (c1, c2), true, by omega, by go_num, rfl, rfl, rfl, HS'.out.symm, ⟨fun _ => Hc0.out, fun _ => rfl⟩, hbq⟩
                      case measure => simp [intOf]; omega
                · have hd1 : decide (0 < x1) = false := by simpa using h1
                  have HS' := hide (HS.out.trans (step_no (by simp only; omega)))
                  have HF := hide hfd
                  clear hfd
                  go_wp2_with fail
                  go_roundw
                  case rel => exact ⟨k + 1, (c1, c2), fd, by omega, by go_num, rfl, rfl, rfl, HS'.out.symm, HF.out, hbq⟩
                  case measure => simp [intOf]; omega
              · obtain rfl : k = d := by omega
                rw [← hcur]
                clear hcur hfd
                go_wp2_with fail
                go_ret
                exact ⟨by simp, hbq⟩
          · subst h
            clear HT
            refine (place_way wr.heap.size _ 0 c _ _ p0 p2 p3 (by omega) (Or.inr rfl) hdn5).mono ?_
            rintro e w6 ⟨rfl, hsame⟩
            rw [best_vis]
            have m2 := (hsame.cell _).trans p2
            have m3 := (hsame.cell _).trans p3
            have HW := hide (Same.below hb5 hsame)
            clear p0 p2 p3 hdn5 hb5 hn5
            go_wp2_with fail
            go_loopw [17, 18, 19, 20] (fun fv lv cv iv wq => ∃ (k : Nat) (cur : Pt) (fd : Bool), k ≤ d ∧ iv = .int .i64 k ∧ fv = .bool fd ∧ lv = .int .i64 cur.1 ∧ cv = .int .i64 cur.2 ∧ cur = best (0, c) (pts f k) ∧ (fd = true ↔ cur.1 ≠ 0) ∧ Below w.heap.size w wq) (fun _ _ _ iv _ => d - (intOf iv).toNat)
            case atStart => exact ⟨0, (0, c), false, Nat.zero_le _, rfl, rfl, rfl, rfl, rfl, by simp, HW.out⟩
            case round =>
              obtain ⟨k, cur, fd, hk, rfl, rfl, rfl, rfl, hcur, hfd, hbq⟩ := hrel
              by_cases hkl : k < d
              · obtain rfl := ha (by omega)
                obtain ⟨q1, q2, _⟩ := hcell k hkl
                have r1 := (hbq.cell (hb (by omega))).trans q1
                have r2 := (hbq.cell (hb (by omega))).trans q2
                have hpos := best_pos c f k
                rw [← hcur] at hpos
                have HS := hide (show best (0, c) (pts f (k + 1)) = Plain.step cur ((f k).1, (f k).2.1) from by rw [best_succ, ← hcur])
                clear q1 q2 hcell ha hb hcur m2 m3
                obtain ⟨c1, c2⟩ := cur
                simp only at hfd hpos
                generalize (f k).1 = x1 at *
                generalize (f k).2.1 = x2 at *
                by_cases h1 : 0 < x1
                · cases fd
                  · have hc0 : c1 = 0 := by
                      rcases Int.lt_or_le c1 0 with h | h
                      · omega
                      · by_cases h' : c1 = 0
                        · exact h'
                        · exact absurd (hfd.2 h') (by simp)
                    have HS' := hide (HS.out.trans (step_yes h1 (Or.inl hc0)))
                    clear hfd hpos
                    subst hc0
                    go_wp2_with fail
                    go_region
                    go_wp2_with fail
                    go_roundw
                    case rel => exact ⟨k + 1, (x1, x2), true, by omega, by go_num, rfl, rfl, rfl, HS'.out.symm, by simp; omega, hbq.drew⟩
                    case measure => simp [intOf]; omega
                  · have hc0 : c1 ≠ 0 := hfd.1 rfl
                    have Hc0 := hide hc0
                    clear hfd hpos
                    by_cases h2 : x1 < c1
                    · have HS' := hide (HS.out.trans (step_yes h1 (Or.inr h2)))
                      clear hc0
                      go_wp2_with fail
                      go_region
                      go_wp2_with fail
                      go_roundw
                      case rel => exact ⟨k + 1, (x1, x2), true, by omega, by go_num, rfl, rfl, rfl, HS'.out.symm, by simp; omega, hbq.drew⟩
                      case measure => simp [intOf]; omega
                    · have HS' := hide (HS.out.trans (step_no (by simp only; omega)))
                      clear hc0
                      go_wp2_with fail
                      go_roundw
                      case rel => exact ⟨k + 1, (c1, c2), true, by omega, by go_num, rfl, rfl, rfl, HS'.out.symm, ⟨fun _ => Hc0.out, fun _ => rfl⟩, hbq⟩
                      case measure => simp [intOf]; omega
                · have hd1 : decide (0 < x1) = false := by simpa using h1
                  have HS' := hide (HS.out.trans (step_no (by simp only; omega)))
                  have HF := hide hfd
                  clear hfd
                  go_wp2_with fail
                  go_roundw
                  case rel => exact ⟨k + 1, (c1, c2), fd, by omega, by go_num, rfl, rfl, rfl, HS'.out.symm, HF.out, hbq⟩
                  case measure => simp [intOf]; omega
              · obtain rfl : k = d := by omega
                rw [← hcur]
                clear hcur hfd
                go_wp2_with fail
                go_ret
                exact ⟨by simp, hbq⟩
          · subst h
            clear HT
            refine (place_fix wr.heap.size _ 0 c _ _ p0 p2 p3 (Or.inr (Or.inr (Or.inl rfl))) (Or.inr (Or.inl rfl)) hdn5).mono ?_
            rintro e w6 ⟨rfl, hsame⟩
            have m2 := (hsame.cell _).trans p2
            have m3 := (hsame.cell _).trans p3
            have HW := hide (Same.below hb5 hsame)
            clear p0 p2 p3 hdn5 hb5 hn5 hsame
            go_wp2_with fail
            go_ret
            exact ⟨by simp, HW.out⟩
          · subst h
            clear HT
            refine (place_fix wr.heap.size _ 0 c _ _ p0 p2 p3 (Or.inr (Or.inr (Or.inr rfl))) (Or.inr (Or.inr rfl)) hdn5).mono ?_
            rintro e w6 ⟨rfl, hsame⟩
            have m2 := (hsame.cell _).trans p2
            have m3 := (hsame.cell _).trans p3
            have HW := hide (Same.below hb5 hsame)
            clear p0 p2 p3 hdn5 hb5 hn5 hsame
            go_wp2_with fail
            go_ret
            exact ⟨by simp, HW.out⟩
        · have hl1 : (l != 0) = true := by rw [bne_iff_ne]; exact hl0
          refine (place_fix wr.heap.size _ l c _ _ p0 p2 p3 (HT.out) (Or.inl hl0) hdn5).mono ?_
          rintro e w6 ⟨rfl, hsame⟩
          have m2 := (hsame.cell _).trans p2
          have m3 := (hsame.cell _).trans p3
          have HW := hide (Same.below hb5 hsame)
          clear p0 p2 p3 hdn5 hb5 hn5 hsame
          go_wp2_with fail
          go_ret
          exact ⟨by simp, HW.out⟩
      · subst hbv
        subst hw1
        have hb'm : b' < wr.heap.size := lt_of_block hcs
        obtain ⟨v11, hv11⟩ : ∃ v11, cs[11]? = some v11 := ⟨cs[11], by simp⟩
        have k11 : wr.cell? ⟨b', 11, none⟩ = some v11 := cell_of_cells hcs hv11
        have j11 := free_of_cells (i := 11) hcs
        go_wp2_with (at_builtin; refine wpList_append_sep _ rfl (.tmp 109) (.tmp 111) 30 rfl wr.heap.size 25 i0 (.pointer none) 1 8 Yba.underlying30 hi0 hz0 hz1 hz2 rfl (by decide) (.slice none 0 0) 0 [] rfl (World.ownsRow_nil _ _ _ _) _ 1 1 [.pointer (some ⟨b', 0, none⟩)] rfl rfl (one_new_at (by simp)) (one_cell rfl) (by decide) (by decide) (by simp; omega) (by decide) ?_)
        intro g cp w2 own2 gr2 sep2
        have S1' : St wr.heap.size w.heap.size wr.heap.size w wr ((wr.setCell ⟨b', 11, none⟩ (.pointer (some ⟨wr.heap.size, 0, none⟩))).alloc (.cells (nodeCells ty l c (.pointer none) (.slice none 0 0)) 33)) (nodeCells ty l c (.pointer none) (.slice none 0 0)) := by
          have hz := heap_alloc_new (wr.setCell ⟨b', 11, none⟩ (.pointer (some ⟨wr.heap.size, 0, none⟩))) (.cells (nodeCells ty l c (.pointer none) (.slice none 0 0)) 33)
          rw [show (wr.setCell ⟨b', 11, none⟩ (.pointer (some ⟨wr.heap.size, 0, none⟩))).heap.size = wr.heap.size by simp [World.setCell]] at hz
          exact ⟨((Kp.start hbel hsz).set11 hBb _).alloc _, hz, Nat.le_refl _⟩
        have S2 := (S1'.alloc _).grown gr2 (by intro k hk; simp [Value.ownBlock] at hk)
        have hg2 : wr.heap.size + 1 ≤ g := by
          rcases sep2 with h | h
          · simp [Value.ownBlock] at h
          · omega
        have z2 := S2.lt
        obtain ⟨c12', f12'⟩ := S2.c12
        clear gr2 sep2 S1 S1' k11 j11
        go_wp2_with fail
        obtain ⟨w5, hw5⟩ : ∃ w5, w5 = w2.setCell ⟨wr.heap.size, 12, none⟩ (.slice (some ⟨g, 0, none⟩) 1 cp) := ⟨_, rfl⟩
        have S4 := S2.set12 (.slice (some ⟨g, 0, none⟩) 1 cp)
        have own4 := ownsRow_setCell_other own2 (a := ⟨wr.heap.size, 12, none⟩) (by simp [Value.ownBlock]; omega) (.slice (some ⟨g, 0, none⟩) 1 cp)
        rw [← hw5] at S4 own4
        rw [← hw5]
        have hn5 : w5.heap[wr.heap.size]? = some (.cells (nodeCells ty l c (.pointer none) (.slice (some ⟨g, 0, none⟩) 1 cp)) 33 (0, 0)) := S4.node
        have hdn5 : Down w5 wr.heap.size (vis f d d) := S4.downAll own4 rfl hd0 e2 e3 edn
        have hb5 := S4.kp.bel
        clear S2 S4 own4 own2 hw5 c12' f12' hcs e2 e3 edn hv11 hdn hbel hsz
        have p0 : w5.cell? ⟨wr.heap.size, 0, none⟩ = some (.string ty) := cell_of_cells hn5 rfl
        have p2 : w5.cell? ⟨wr.heap.size, 2, none⟩ = some (.int .i64 l) := cell_of_cells hn5 rfl
        have p3 : w5.cell? ⟨wr.heap.size, 3, none⟩ = some (.int .i64 c) := cell_of_cells hn5 rfl
        by_cases hl0 : l = 0
        · subst hl0
          rcases HT.out with h | h | h | h
          · subst h
            clear HT
            refine (place_way wr.heap.size _ 0 c _ _ p0 p2 p3 (by omega) (Or.inl rfl) hdn5).mono ?_
            rintro e w6 ⟨rfl, hsame⟩
            rw [best_vis]
            have m2 := (hsame.cell _).trans p2
            have m3 := (hsame.cell _).trans p3
            have HW := hide (Same.below hb5 hsame)
            clear p0 p2 p3 hdn5 hb5 hn5
            go_wp2_with fail
            go_loopw [17, 18, 19, 20] (fun fv lv cv iv wq => ∃ (k : Nat) (cur : Pt) (fd : Bool), k ≤ d ∧ iv = .int .i64 k ∧ fv = .bool fd ∧ lv = .int .i64 cur.1 ∧ cv = .int .i64 cur.2 ∧ cur = best (0, c) (pts f k) ∧ (fd = true ↔ cur.1 ≠ 0) ∧ Below w.heap.size w wq) (fun _ _ _ iv _ => d - (intOf iv).toNat)
            case atStart => exact ⟨0, (0, c), false, Nat.zero_le _, rfl, rfl, rfl, rfl, rfl, by simp, HW.out⟩
            case round =>
              obtain ⟨k, cur, fd, hk, rfl, rfl, rfl, rfl, hcur, hfd, hbq⟩ := hrel
              by_cases hkl : k < d
              · obtain rfl := ha (by omega)
                obtain ⟨q1, q2, _⟩ := hcell k hkl
                have r1 := (hbq.cell (hb (by omega))).trans q1
                have r2 := (hbq.cell (hb (by omega))).trans q2
                have hpos := best_pos c f k
                rw [← hcur] at hpos
                have HS := hide (show best (0, c) (pts f (k + 1)) = Plain.step cur ((f k).1, (f k).2.1) from by rw [best_succ, ← hcur])
                clear q1 q2 hcell ha hb hcur m2 m3
                obtain ⟨c1, c2⟩ := cur
                simp only at hfd hpos
                generalize (f k).1 = x1 at *
                generalize (f k).2.1 = x2 at *
                by_cases h1 : 0 < x1
                · cases fd
                  · have hc0 : c1 = 0 := by
                      rcases Int.lt_or_le c1 0 with h | h
                      · omega
                      · by_cases h' : c1 = 0
                        · exact h'
                        · exact absurd (hfd.2 h') (by simp)
                    have HS' := hide (HS.out.trans (step_yes h1 (Or.inl hc0)))
                    clear hfd hpos
                    subst hc0
                    go_wp2_with fail
                    go_region
                    go_wp2_with fail
                    go_roundw
                    case rel => exact ⟨k + 1, (x1, x2), true, by omega, by go_num, rfl, rfl, rfl, HS'.out.symm, by simp; omega, hbq.drew⟩
                    case measure => simp [intOf]; omega
                  · have hc0 : c1 ≠ 0 := hfd.1 rfl
                    have Hc0 := hide hc0
                    clear hfd hpos
                    by_cases h2 : x1 < c1
                    · have HS' := hide (HS.out.trans (step_yes h1 (Or.inr h2)))
                      clear hc0
                      go_wp2_with fail
                      go_region
                      go_wp2_with fail
                      go_roundw
                      case rel => exact ⟨k + 1, (x1, x2), true, by omega, by go_num, rfl, rfl, rfl, HS'.out.symm, by simp; omega, hbq.drew⟩
                      case measure => simp [intOf]; omega
                    · have HS' := hide (HS.out.trans (step_no (by simp only; omega)))
                      clear hc0
                      go_wp2_with fail
                      go_roundw
                      case rel => exact ⟨k + 1, (c1, c2), true, by omega, by go_num, rfl, rfl, rfl, HS'.out.symm, ⟨fun _ => Hc0.out, fun _ => rfl⟩, hbq⟩
                      case measure => simp [intOf]; omega
                · have hd1 : decide (0 < x1) = false := by simpa using h1
                  have HS' := hide (HS.out.trans (step_no (by simp only; omega)))
                  have HF := hide hfd
                  clear hfd
                  go_wp2_with fail
                  go_roundw
                  case rel => exact ⟨k + 1, (c1, c2), fd, by omega, by go_num, rfl, rfl, rfl, HS'.out.symm, HF.out, hbq⟩
                  case measure => simp [intOf]; omega
              · obtain rfl : k = d := by omega
                rw [← hcur]
                clear hcur hfd
                go_wp2_with fail
                go_ret
                exact ⟨by simp, hbq⟩
          · subst h
            clear HT
            refine (place_way wr.heap.size _ 0 c _ _ p0 p2 p3 (by omega) (Or.inr rfl) hdn5).mono ?_
            rintro e w6 ⟨rfl, hsame⟩
            rw [best_vis]
            have m2 := (hsame.cell _).trans p2
            have m3 := (hsame.cell _).trans p3
            have HW := hide (Same.below hb5 hsame)
            clear p0 p2 p3 hdn5 hb5 hn5
            go_wp2_with fail
            go_loopw [17, 18, 19, 20] (fun fv lv cv iv wq => ∃ (k : Nat) (cur : Pt) (fd : Bool), k ≤ d ∧ iv = .int .i64 k ∧ fv = .bool fd ∧ lv = .int .i64 cur.1 ∧ cv = .int .i64 cur.2 ∧ cur = best (0, c) (pts f k) ∧ (fd = true ↔ cur.1 ≠ 0) ∧ Below w.heap.size w wq) (fun _ _ _ iv _ => d - (intOf iv).toNat)
            case atStart => exact ⟨0, (0, c), false, Nat.zero_le _, rfl, rfl, rfl, rfl, rfl, by simp, HW.out⟩
            case round =>
              obtain ⟨k, cur, fd, hk, rfl, rfl, rfl, rfl, hcur, hfd, hbq⟩ := hrel
              by_cases hkl : k < d
              · obtain rfl := ha (by omega)
                obtain ⟨q1, q2, _⟩ := hcell k hkl
                have r1 := (hbq.cell (hb (by omega))).trans q1
                have r2 := (hbq.cell (hb (by omega))).trans q2
                have hpos := best_pos c f k
                rw [← hcur] at hpos
                have HS := hide (show best (0, c) (pts f (k + 1)) = Plain.step cur ((f k).1, (f k).2.1) from by rw [best_succ, ← hcur])
                clear q1 q2 hcell ha hb hcur m2 m3
                obtain ⟨c1, c2⟩ := cur
                simp only at hfd hpos
                generalize (f k).1 = x1 at *
                generalize (f k).2.1 = x2 at *
                by_cases h1 : 0 < x1
                · cases fd
                  · have hc0 : c1 = 0 := by
                      rcases Int.lt_or_le c1 0 with h | h
                      · omega
                      · by_cases h' : c1 = 0
                        · exact h'
                        · exact absurd (hfd.2 h') (by simp)
                    have HS' := hide (HS.out.trans (step_yes h1 (Or.inl hc0)))
                    clear hfd hpos
                    subst hc0
                    go_wp2_with fail
                    go_region
                    go_wp2_with fail
                    go_roundw
                    case rel => exact ⟨k + 1, (x1, x2), true, by omega, by go_num, rfl, rfl, rfl, HS'.out.symm, by simp; omega, hbq.drew⟩
                    case measure => simp [intOf]; omega
                  · have hc0 : c1 ≠ 0 := hfd.1 rfl
                    have Hc0 := hide hc0
                    clear hfd hpos
                    by_cases h2 : x1 < c1
                    · have HS' := hide (HS.out.trans (step_yes h1 (Or.inr h2)))
                      clear hc0
                      go_wp2_with fail
                      go_region
                      go_wp2_with fail
                      go_roundw
                      case rel => exact ⟨k + 1, (x1, x2), true, by omega, by go_num, rfl, rfl, rfl, HS'.out.symm, by simp; omega, hbq.drew⟩
                      case measure => simp [intOf]; omega
                    · have HS' := hide (HS.out.trans (step_no (by simp only; omega)))
                      clear hc0
                      go_wp2_with fail
                      go_roundw
                      case rel => exact ⟨k + 1, (c1, c2), true, by omega, by go_num, rfl, rfl, rfl, HS'.out.symm, ⟨fun _ => Hc0.out, fun _ => rfl⟩, hbq⟩
                      case measure => simp [intOf]; omega
                · have hd1 : decide (0 < x1) = false := by simpa using h1
                  have HS' := hide (HS.out.trans (step_no (by simp only; omega)))
                  have HF := hide hfd
                  clear hfd
                  go_wp2_with fail
                  go_roundw
                  case rel => exact ⟨k + 1, (c1, c2), fd, by omega, by go_num, rfl, rfl, rfl, HS'.out.symm, HF.out, hbq⟩
                  case measure => simp [intOf]; omega
              · obtain rfl : k = d := by omega
                rw [← hcur]
                clear hcur hfd
                go_wp2_with fail
                go_ret
                exact ⟨by simp, hbq⟩
          · subst h
            clear HT
            refine (place_fix wr.heap.size _ 0 c _ _ p0 p2 p3 (Or.inr (Or.inr (Or.inl rfl))) (Or.inr (Or.inl rfl)) hdn5).mono ?_
            rintro e w6 ⟨rfl, hsame⟩
            have m2 := (hsame.cell _).trans p2
            have m3 := (hsame.cell _).trans p3
            have HW := hide (Same.below hb5 hsame)
            clear p0 p2 p3 hdn5 hb5 hn5 hsame
            go_wp2_with fail
            go_ret
            exact ⟨by simp, HW.out⟩
          · subst h
            clear HT
            refine (place_fix wr.heap.size _ 0 c _ _ p0 p2 p3 (Or.inr (Or.inr (Or.inr rfl))) (Or.inr (Or.inr rfl)) hdn5).mono ?_
            rintro e w6 ⟨rfl, hsame⟩
            have m2 := (hsame.cell _).trans p2
            have m3 := (hsame.cell _).trans p3
            have HW := hide (Same.below hb5 hsame)
            clear p0 p2 p3 hdn5 hb5 hn5 hsame
            go_wp2_with fail
            go_ret
            exact ⟨by simp, HW.out⟩
        · have hl1 : (l != 0) = true := by rw [bne_iff_ne]; exact hl0
          refine (place_fix wr.heap.size _ l c _ _ p0 p2 p3 (HT.out) (Or.inl hl0) hdn5).mono ?_
          rintro e w6 ⟨rfl, hsame⟩
          have m2 := (hsame.cell _).trans p2
          have m3 := (hsame.cell _).trans p3
          have HW := hide (Same.below hb5 hsame)
          clear p0 p2 p3 hdn5 hb5 hn5 hsame
          go_wp2_with fail
          go_ret
          exact ⟨by simp, HW.out⟩
end Go.Proofs.Ybulkchcm
