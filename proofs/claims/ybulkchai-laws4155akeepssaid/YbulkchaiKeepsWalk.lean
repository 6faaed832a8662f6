/- THE WALK of claimed.LawS4155AKeeps. -/
import Derived.Test.YbulkchaiInv
import Derived.Test.YbulkchaiCap

namespace Go.Proofs.Ybulkchai
open Go.RowKit Plain

theorem Yba.info3 : (Yba.prog.info? 3).map (fun i => (i.zero, i.size, i.bytes)) = some (some (.int .i64 0), 1, 8) := by kernel_rfl
theorem Yba.info5 : (Yba.prog.info? 5).map (fun i => (i.zero, i.size, i.bytes)) = some (some (.int .u8 0), 1, 1) := by kernel_rfl

/-- op number k: its three cells -/
def cellsAt (w : World) (b off : Nat) (f : Nat → Nat × Nat × Nat) (k : Nat) : Prop :=
  w.cell? ⟨b, off + k * 3, none⟩ = some (.int .u8 (f k).1) ∧ w.cell? ⟨b, off + k * 3 + 1, none⟩ = some (.int .u16 (f k).2.1) ∧ w.cell? ⟨b, off + k * 3 + 2, none⟩ = some (.int .u8 (f k).2.2)

theorem hide {p : Prop} (h : p) : Hid p := h

theorem walk_long (a : Option Addr) (len cap : Nat) (w : World) (h : 1024 < len) (hm : len ≤ 9223372036854775807) :
    Calls Yba.prog 3 #[.slice a len cap] w fun e w' => e = .returned (.bool true) ∧ Below w.heap.size w w' := by
  go_enter Yba.func3, Yba.ntmps3
  go_wp2
  go_ret
  exact ⟨rfl, Below.refl _ _⟩

set_option maxHeartbeats 2000000 in
set_option maxRecDepth 100000 in
theorem walk_short (a : Option Addr) (b off len cap : Nat) (f : Nat → Nat × Nat × Nat) (w : World) (h : len ≤ 1024) (ha : 0 < len → a = some ⟨b, off, none⟩) (hb : 0 < len → b < w.heap.size)
    (hf : ∀ k, k < len → (f k).1 ≤ 255 ∧ (f k).2.1 ≤ 65535 ∧ (f k).2.2 ≤ 255) (hcell : ∀ k, k < len → cellsAt w b off f k) :
    Calls Yba.prog 3 #[.slice a len cap] w fun e w' => e = .returned (.bool true) ∧ Below w.heap.size w w' := by
  obtain ⟨i5, hi5, hy0, hy1, hy2⟩ := info_parts Yba.info5
  obtain ⟨i3, hi3, hz0, hz1, hz2⟩ := info_parts Yba.info3
  have hdec : decide ((1024 : Int) < (len : Int)) = false := by simp; omega
  go_enter Yba.func3, Yba.ntmps3
  go_wp2_with (at_make; refine wpList_make_full _ rfl _ _ 23 rfl w.heap.size 5 i5 (.int .u8 0) 1 Yba.underlying23 hi5 hy0 hy1 _ _ _ _ 8388609 rfl rfl rfl rfl ?_ ?_ ?_ ?_)
  · rw [hy2]; decide
  · unfold maxLen; decide
  · exact Nat.le_refl _
  intro w1 hown1 hgr1
  clear hown1
  have hb1 : Below w.heap.size w w1 := (Below.refl _ _).grown hgr1 (Nat.le_refl _) (by simp)
  clear hgr1
  have hsz := hb1.size
  go_wp2_with fail
  go_loopw [5, 6, 26] (fun vl vc i wr => ∃ k : Nat, k ≤ len ∧ i = .int .i64 k ∧ Inv w1.heap.size w.heap.size w.heap.size w wr vl vc (script f k) (script f k) (script f k)) (fun _ _ i _ => len - (intOf i).toNat)
  case atStart => exact ⟨0, Nat.zero_le _, rfl, Inv.start hb1 hsz⟩
  case round =>
    obtain ⟨k, hk, rfl, hinv⟩ := hrel
    by_cases hlt : k < len
    · obtain rfl := ha (by omega)
      have hbw := hb (by omega)
      obtain ⟨q1, q2, q3⟩ := hcell k hlt
      obtain ⟨g1, g2, g3⟩ := hf k hlt
      have r1 : wr.cell? ⟨b, off + k * 3, none⟩ = some (.int .u8 (f k).1) := (hinv.bel.cell hbw).trans q1
      have r2 : wr.cell? ⟨b, off + k * 3 + 1, none⟩ = some (.int .u16 (f k).2.1) := (hinv.bel.cell hbw).trans q2
      have r3 : wr.cell? ⟨b, off + k * 3 + 2, none⟩ = some (.int .u8 (f k).2.2) := (hinv.bel.cell hbw).trans q3
      have HR : Hid (script f (k + 1) = script f k ++ List.replicate ((f k).2.2 % 8 + 1) (min (f k).2.1 (capOf (f k).1), capOf (f k).1)) := rfl
      have hsl := script_len f k
      clear q1 q2 q3 hcell hf ha hb
      generalize (f k).1 = x1 at *
      generalize (f k).2.1 = x2 at *
      generalize (f k).2.2 = x3 at *
      have hC := capOf_le x1
      by_cases hlc : capOf x1 < x2
      · have HM0 := hide (show min x2 (capOf x1) = capOf x1 from Nat.min_eq_right (Nat.le_of_lt hlc))
        go_wp2_with (go_at_call 6; refine (cap_any x1 g1 _).mono ?_; rintro e w' ⟨rfl, rfl⟩)
        go_loopw [5, 6, 12] (fun vl vc j wq => ∃ t : Nat, t ≤ x3 % 8 + 1 ∧ j = .int .i64 t ∧ Inv w1.heap.size w.heap.size w.heap.size w wq vl vc (script f k ++ List.replicate t (capOf x1, capOf x1)) (script f k ++ List.replicate t (capOf x1, capOf x1)) (script f k ++ List.replicate t (capOf x1, capOf x1))) (fun _ _ j _ => x3 % 8 + 1 - (intOf j).toNat)
        case atStart => exact ⟨0, Nat.zero_le _, rfl, by simpa using hinv.alloc _⟩
        case round =>
          obtain ⟨t, ht, rfl, hin⟩ := hrel
          by_cases htl : t < x3 % 8 + 1
          · have hQ : script f k ++ List.replicate (t + 1) (capOf x1, capOf x1) = (script f k ++ List.replicate t (capOf x1, capOf x1)) ++ [(capOf x1, capOf x1)] := by rw [List.replicate_succ']; simp
            have HQ : Hid (script f k ++ List.replicate (t + 1) (capOf x1, capOf x1) = (script f k ++ List.replicate t (capOf x1, capOf x1)) ++ [(capOf x1, capOf x1)]) := hQ
            have hQl : (script f k ++ List.replicate t (capOf x1, capOf x1)).length ≤ 8200 := by simp; omega
            clear hQ
            generalize script f k ++ List.replicate t (capOf x1, capOf x1) = Q at *
            obtain ⟨vb, p1, p2, p3⟩ := hin.pool
            have HI := hide hin
            have P1 := hide p1
            have P2 := hide p2
            clear hin hinv p1 p2
            go_wp2_with fail
            refine (put_any w1.heap.size w.heap.size (trim Q) vb (capOf x1) (capOf x1) _ P1.out P2.out (good_trim Q) hC).mono ?_
            rintro e w3 ⟨rfl, v', h1, h2, h3, h4⟩
            have I3 := HI.out.put (x := (capOf x1, capOf x1)) P1.out (fun k hk => ⟨(P2.out.lt k hk).1, p3 k hk⟩) h1 h2 h3 h4
            clear h1 h2 h3 h4 HI P1 P2 p3
            have z3 := I3.size
            go_wp2_with (at_builtin; refine wpList_append_sep _ rfl (.tmp 56) (.tmp 58) 35 rfl (w1.heap.size + 1) 3 i3 (.int .i64 0) 1 8 Yba.underlying35 hi3 hz0 hz1 hz2 rfl (by decide) _ _ _ rfl (I3.lens.alloc _) ⟨w3.heap.size, 0, none⟩ 1 1 [.int .i64 (capOf x1 : Nat)] rfl rfl one_new ?_ ?_ ?_ ?_ (by decide) ?_)
            · intro u hu; simp at hu; subst hu; rfl
            · unfold maxLen; omega
            · omega
            · simp; omega
            intro g4 c4 w4 o4 gr4 s4
            have I4 := (I3.alloc _).pushLen (x := (capOf x1, capOf x1)) rfl o4 gr4 (by simpa using s4)
            clear I3 o4 gr4 s4 z3
            have z4 := I4.size
            go_wp2_with (at_builtin; refine wpList_append_sep _ rfl (.tmp 60) (.tmp 62) 35 rfl (w1.heap.size + 1) 3 i3 (.int .i64 0) 1 8 Yba.underlying35 hi3 hz0 hz1 hz2 rfl (by decide) _ _ _ rfl (I4.caps.alloc _) ⟨w4.heap.size, 0, none⟩ 1 1 [.int .i64 (capOf x1)] rfl rfl one_new ?_ ?_ ?_ ?_ (by decide) ?_)
            · intro u hu; simp at hu; subst hu; rfl
            · unfold maxLen; omega
            · omega
            · simp; omega
            intro g5 c5 w5 o5 gr5 s5
            have I5 := (I4.alloc _).pushCap (x := (capOf x1, capOf x1)) rfl o5 gr5 (by simpa using s5)
            rw [← HQ.out] at I5
            clear I4 o5 gr5 s5 z4
            go_wp2
            go_roundw
            case rel => exact ⟨t + 1, by omega, by go_num, I5⟩
            case measure => simp [intOf]; omega
          · obtain rfl : t = x3 % 8 + 1 := by omega
            have HM : Hid (script f (k + 1) = script f k ++ List.replicate (x3 % 8 + 1) (capOf x1, capOf x1)) := by rw [HR.out, HM0.out]; rfl
            rw [← HM.out] at hin
            have HI := hide hin
            clear hin hinv
            go_wp2_with fail
            go_roundw
            case rel => exact ⟨k + 1, by omega, by go_num, HI.out⟩
            case measure => simp [intOf]; omega
      · have HM0 := hide (show min x2 (capOf x1) = x2 from Nat.min_eq_left (Nat.le_of_not_lt hlc))
        go_wp2_with (go_at_call 6; refine (cap_any x1 g1 _).mono ?_; rintro e w' ⟨rfl, rfl⟩)
        go_loopw [5, 6, 12] (fun vl vc j wq => ∃ t : Nat, t ≤ x3 % 8 + 1 ∧ j = .int .i64 t ∧ Inv w1.heap.size w.heap.size w.heap.size w wq vl vc (script f k ++ List.replicate t (x2, capOf x1)) (script f k ++ List.replicate t (x2, capOf x1)) (script f k ++ List.replicate t (x2, capOf x1))) (fun _ _ j _ => x3 % 8 + 1 - (intOf j).toNat)
        case atStart => exact ⟨0, Nat.zero_le _, rfl, by simpa using hinv.alloc _⟩
        case round =>
          obtain ⟨t, ht, rfl, hin⟩ := hrel
          by_cases htl : t < x3 % 8 + 1
          · have hQ : script f k ++ List.replicate (t + 1) (x2, capOf x1) = (script f k ++ List.replicate t (x2, capOf x1)) ++ [(x2, capOf x1)] := by rw [List.replicate_succ']; simp
            have HQ : Hid (script f k ++ List.replicate (t + 1) (x2, capOf x1) = (script f k ++ List.replicate t (x2, capOf x1)) ++ [(x2, capOf x1)]) := hQ
            have hQl : (script f k ++ List.replicate t (x2, capOf x1)).length ≤ 8200 := by simp; omega
            clear hQ
            generalize script f k ++ List.replicate t (x2, capOf x1) = Q at *
            obtain ⟨vb, p1, p2, p3⟩ := hin.pool
            have HI := hide hin
            have P1 := hide p1
            have P2 := hide p2
            clear hin hinv p1 p2
            go_wp2_with fail
            refine (put_any w1.heap.size w.heap.size (trim Q) vb (x2) (capOf x1) _ P1.out P2.out (good_trim Q) hC).mono ?_
            rintro e w3 ⟨rfl, v', h1, h2, h3, h4⟩
            have I3 := HI.out.put (x := (x2, capOf x1)) P1.out (fun k hk => ⟨(P2.out.lt k hk).1, p3 k hk⟩) h1 h2 h3 h4
            clear h1 h2 h3 h4 HI P1 P2 p3
            have z3 := I3.size
            go_wp2_with (at_builtin; refine wpList_append_sep _ rfl (.tmp 56) (.tmp 58) 35 rfl (w1.heap.size + 1) 3 i3 (.int .i64 0) 1 8 Yba.underlying35 hi3 hz0 hz1 hz2 rfl (by decide) _ _ _ rfl (I3.lens.alloc _) ⟨w3.heap.size, 0, none⟩ 1 1 [.int .i64 (x2 : Nat)] rfl rfl one_new ?_ ?_ ?_ ?_ (by decide) ?_)
            · intro u hu; simp at hu; subst hu; rfl
            · unfold maxLen; omega
            · omega
            · simp; omega
            intro g4 c4 w4 o4 gr4 s4
            have I4 := (I3.alloc _).pushLen (x := (x2, capOf x1)) rfl o4 gr4 (by simpa using s4)
            clear I3 o4 gr4 s4 z3
            have z4 := I4.size
            go_wp2_with (at_builtin; refine wpList_append_sep _ rfl (.tmp 60) (.tmp 62) 35 rfl (w1.heap.size + 1) 3 i3 (.int .i64 0) 1 8 Yba.underlying35 hi3 hz0 hz1 hz2 rfl (by decide) _ _ _ rfl (I4.caps.alloc _) ⟨w4.heap.size, 0, none⟩ 1 1 [.int .i64 (capOf x1)] rfl rfl one_new ?_ ?_ ?_ ?_ (by decide) ?_)
            · intro u hu; simp at hu; subst hu; rfl
            · unfold maxLen; omega
            · omega
            · simp; omega
            intro g5 c5 w5 o5 gr5 s5
            have I5 := (I4.alloc _).pushCap (x := (x2, capOf x1)) rfl o5 gr5 (by simpa using s5)
            rw [← HQ.out] at I5
            clear I4 o5 gr5 s5 z4
            go_wp2
            go_roundw
            case rel => exact ⟨t + 1, by omega, by go_num, I5⟩
            case measure => simp [intOf]; omega
          · obtain rfl : t = x3 % 8 + 1 := by omega
            have HM : Hid (script f (k + 1) = script f k ++ List.replicate (x3 % 8 + 1) (x2, capOf x1)) := by rw [HR.out, HM0.out]; rfl
            rw [← HM.out] at hin
            have HI := hide hin
            clear hin hinv
            go_wp2_with fail
            go_roundw
            case rel => exact ⟨k + 1, by omega, by go_num, HI.out⟩
            case measure => simp [intOf]; omega
    · obtain rfl : k = len := by omega
      have hsl := script_len f k
      have hsc := script_caps f k
      generalize script f k = L at *
      obtain ⟨ac, cc, hvc, hcc, hcm, hcc'⟩ := owns_shape hinv.caps
      obtain ⟨al, cl, hvl, hcl, hlm, hll'⟩ := owns_shape hinv.lens
      have hcapc : ∀ j, j < L.length → ∃ g, ac = some ⟨g, 0, none⟩ ∧ wr.cell? ⟨g, j, none⟩ = some (.int .i64 ((L.getD j (0, 0)).2 : Nat)) := fun j hj => hcc' j _ (get_caps hj)
      have hlenc : ∀ j, j < L.length → ∃ g, al = some ⟨g, 0, none⟩ ∧ wr.cell? ⟨g, j, none⟩ = some (.int .i64 ((L.getD j (0, 0)).1 : Nat)) := fun j hj => hll' j _ (get_lens hj)
      have HP := hide hinv.pool
      have HB := hide hinv.bel
      clear hcc' hll' hinv hcell hf ha hb
      subst hvc
      subst hvl
      go_wp2_with fail
      go_loop [13, 14] (fun st sm => ∃ s : Nat, s ≤ L.length ∧ st = .int .i64 s ∧ sm = .int .i64 (csum (L.drop s)) ∧ good (L.drop s) = true) (fun st _ => (intOf st).toNat)
      case atStart => exact ⟨L.length, Nat.le_refl _, rfl, by simp [csum], by simp [good_nil]⟩
      case round =>
        obtain ⟨s, hs, rfl, rfl, hgs⟩ := hrel
        have hgi := good_iff.1 hgs
        by_cases hm : s = 0 ∨ good (L.drop (s - 1)) = false
        · have E := trim_is hs hgs hm
          obtain ⟨vb, p1, p2, _⟩ := HP.out
          rw [E] at p1 p2
          obtain ⟨ab, cb, hvb, hcb, hbm, hbuf'⟩ := owns_shape p2
          subst hvb
          have hbufc : ∀ j, j < (L.drop s).length → ∃ g, ab = some ⟨g, 0, none⟩ ∧ wr.cell? ⟨g, j, none⟩ = some (.slice (some ⟨w.heap.size, 0, none⟩) (L.getD (s + j) (0, 0)).1 (L.getD (s + j) (0, 0)).2) := by
            intro j hj
            have := hbuf' j _ (get_encs hj)
            simpa [List.getD] using this
          have c2 : wr.cell? ⟨w1.heap.size, 2, none⟩ = some (.slice ab (L.drop s).length cb) := cell_of_cells p1 rfl
          have c3 : wr.cell? ⟨w1.heap.size, 3, none⟩ = some (.int .i64 (csum (L.drop s))) := cell_of_cells p1 rfl
          have hlen : (L.drop s).length + s = L.length := by simp; omega
          have hbad : s = 0 ∨ 8388608 < csum (L.drop (s - 1)) ∨ 64 < (L.drop (s - 1)).length := by
            rcases hm with hm | hm
            · exact Or.inl hm
            · right
              by_cases h1 : 8388608 < csum (L.drop (s - 1))
              · exact Or.inl h1
              · right
                apply Nat.lt_of_not_le
                intro h2
                rw [good_iff.2 ⟨by omega, h2⟩] at hm
                cases hm
          clear p1 p2 hbuf' HP E hgs hm
          generalize hmm : (L.drop s).length = m at *
          have hsub : (((m : Nat) : Int) != (L.length : Int) - (s : Int)) = false := by
            rw [bne_eq_false_iff_eq]; omega
          clear hmm
          by_cases hs0 : s = 0
          · subst hs0
            simp only [Nat.zero_add] at hbufc
            generalize csum (L.drop 0) = S at *
            go_wp2_with fail
            go_loop [16] (fun iv => ∃ t : Nat, t ≤ m ∧ iv = .int .i64 t) (fun iv => m - (intOf iv).toNat)
            case atStart => exact ⟨0, Nat.zero_le _, rfl⟩
            case round =>
              obtain ⟨t, ht, rfl⟩ := hrel
              by_cases htm : t < m
              · obtain ⟨gb, rfl, hgb⟩ := hbufc t htm
                obtain ⟨gl, rfl, hgl⟩ := hlenc t (by omega)
                obtain ⟨gc, rfl, hgc⟩ := hcapc t (by omega)
                clear hbufc hlenc hcapc
                generalize (L.getD t (0, 0)).1 = y1 at *
                generalize (L.getD t (0, 0)).2 = y2 at *
                go_wp2
                go_round
                case rel => exact ⟨t + 1, by omega, by go_num⟩
                case measure => simp [intOf]; omega
              · go_wp2
                go_ret
                exact ⟨rfl, HB.out⟩
          · obtain ⟨g, rfl, hg⟩ := hcapc (s - 1) (by omega)
            have hdp := drop_pred (by omega) hs
            have hmem : (L.getD (s - 1) (0, 0)).2 ≤ 8388609 := by
              have hlt : s - 1 < L.length := by omega
              have := (hsc L[s - 1] (List.getElem_mem hlt)).2
              simpa [List.getD, hlt] using this
            have hC : csum (L.drop (s - 1)) = (L.getD (s - 1) (0, 0)).2 + csum (L.drop s) := by rw [hdp]; rfl
            have hL : (L.drop (s - 1)).length = L.length - s + 1 := by simp; omega
            rw [hC, hL] at hbad
            clear hdp hC hL
            have hs1 : ((s : Int) - 1).toNat = s - 1 := by omega
            generalize (L.getD (s - 1) (0, 0)).2 = x at *
            generalize csum (L.drop s) = S at *
            by_cases hb1 : 8388608 < S + x
            · clear hbad
              go_wp2_with fail
              go_loop [16] (fun iv => ∃ t : Nat, t ≤ m ∧ iv = .int .i64 t) (fun iv => m - (intOf iv).toNat)
              case atStart => exact ⟨0, Nat.zero_le _, rfl⟩
              case round =>
                obtain ⟨t, ht, rfl⟩ := hrel
                by_cases htm : t < m
                · obtain ⟨gb, rfl, hgb⟩ := hbufc t htm
                  obtain ⟨gl, rfl, hgl⟩ := hlenc (s + t) (by omega)
                  obtain ⟨gc, ec, hgc⟩ := hcapc (s + t) (by omega)
                  simp at ec
                  subst ec
                  clear hbufc hlenc hcapc
                  generalize (L.getD (s + t) (0, 0)).1 = y1 at *
                  generalize (L.getD (s + t) (0, 0)).2 = y2 at *
                  have hst : ((s : Int) + (t : Int)).toNat = s + t := by omega
                  go_wp2
                  go_round
                  case rel => exact ⟨t + 1, by omega, by go_num⟩
                  case measure => simp [intOf]; omega
                · go_wp2
                  go_ret
                  exact ⟨rfl, HB.out⟩
            · have hb2 : 64 < L.length - s + 1 := by omega
              clear hbad
              go_wp2_with fail
              go_loop [16] (fun iv => ∃ t : Nat, t ≤ m ∧ iv = .int .i64 t) (fun iv => m - (intOf iv).toNat)
              case atStart => exact ⟨0, Nat.zero_le _, rfl⟩
              case round =>
                obtain ⟨t, ht, rfl⟩ := hrel
                by_cases htm : t < m
                · obtain ⟨gb, rfl, hgb⟩ := hbufc t htm
                  obtain ⟨gl, rfl, hgl⟩ := hlenc (s + t) (by omega)
                  obtain ⟨gc, ec, hgc⟩ := hcapc (s + t) (by omega)
                  simp at ec
                  subst ec
                  clear hbufc hlenc hcapc
                  generalize (L.getD (s + t) (0, 0)).1 = y1 at *
                  generalize (L.getD (s + t) (0, 0)).2 = y2 at *
                  have hst : ((s : Int) + (t : Int)).toNat = s + t := by omega
                  go_wp2
                  go_round
                  case rel => exact ⟨t + 1, by omega, by go_num⟩
                  case measure => simp [intOf]; omega
                · go_wp2
                  go_ret
                  exact ⟨rfl, HB.out⟩
        · have hs0 : ¬ s = 0 := fun h => hm (Or.inl h)
          have hgn : good (L.drop (s - 1)) = true := by
            cases h : good (L.drop (s - 1)) with
            | true => rfl
            | false => exact absurd (Or.inr h) hm
          obtain ⟨g, rfl, hg⟩ := hcapc (s - 1) (by omega)
          have hdp := drop_pred (by omega) hs
          have hC : csum (L.drop (s - 1)) = (L.getD (s - 1) (0, 0)).2 + csum (L.drop s) := by rw [hdp]; rfl
          have hL : (L.drop (s - 1)).length = L.length - s + 1 := by simp; omega
          have hgj := good_iff.1 hgn
          rw [hC, hL] at hgj
          have HC := hide hC
          have HG := hide hgn
          clear hdp hC hL hgn hm
          have hs1 : ((s : Int) - 1).toNat = s - 1 := by omega
          generalize (L.getD (s - 1) (0, 0)).2 = x at *
          generalize csum (L.drop s) = S at *
          obtain ⟨hj1, hj2⟩ := hgj
          go_wp2
          go_round
          case rel => exact ⟨s - 1, by omega, by congr 1; omega, by rw [HC.out]; congr 1; omega, HG.out⟩
          case measure => simp [intOf]; omega
end Go.Proofs.Ybulkchai
