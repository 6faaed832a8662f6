/- (*pool).put, walked once. -/
import Derived.Test.YbulkchaiDelete
import Derived.Test.YbulkchaiPlain
import Derived.Test.YbulkchaiLocks
import Derived.Conc.MuLone
import Derived.RegionTactic
import Derived.LoopTactic
namespace Go.Proofs.Ybulkchai
open Go.RowKit Go.MuLone Plain

/-- a buffer cut out of the backing block bk -/
def enc (bk : Nat) (b : Buf) : Value := .slice (some ⟨bk, 0, none⟩) b.1 b.2

/-- the pool's block: the lock's state and semaphore, the buffers' slice, the bytes -/
abbrev poolAt (s : Int) (v : Value) (n : Nat) : Obj := .cells #[.int .i32 s, .int .u32 0, v, .int .i64 n] 34 (0, 0)

set_option maxHeartbeats 1000000 in
set_option maxRecDepth 100000 in
theorem put_any (pb bk : Nat) (bs : List Buf) (v : Value) (l c : Nat) (w : World)
    (hp : w.heap[pb]? = some (poolAt 0 v (csum bs))) (ho : w.ownsRow (pb + 1) 23 1 v bs.length (bs.map (enc bk))) (hg : good bs = true) (hc : c ≤ 8388609) :
    Calls Yba.prog 7 #[.pointer (some ⟨pb, 0, none⟩), .slice (some ⟨bk, 0, none⟩) l c] w fun e w' => e = .returned (.tuple #[]) ∧
      ∃ v', w'.heap[pb]? = some (poolAt 0 v' (csum (trim (bs ++ [(l, c)])))) ∧ w'.ownsRow (pb + 1) 23 1 v' (trim (bs ++ [(l, c)])).length ((trim (bs ++ [(l, c)])).map (enc bk)) ∧
        (v.ownBlock = v'.ownBlock ∨ ∀ k, v'.ownBlock = some k → w.heap.size ≤ k) ∧ Turn (fun k => k = pb ∨ v.ownBlock = some k) w w' := by
  obtain ⟨ls, hls⟩ : ∃ ls, ls = bs ++ [(l, c)] := ⟨_, rfl⟩
  rw [← hls]
  have hlsum : csum ls = csum bs + c := by rw [hls, csum_append]; simp [csum]
  have hllen : ls.length = bs.length + 1 := by rw [hls]; simp
  have hlmap : ls.map (enc bk) = bs.map (enc bk) ++ [.slice (some ⟨bk, 0, none⟩) l c] := by rw [hls]; simp [enc]
  have HS : Hid (csum ls = csum bs + c) := hlsum
  have HL : Hid (ls.length = bs.length + 1) := hllen
  have HM : Hid (ls.map (enc bk) = bs.map (enc bk) ++ [.slice (some ⟨bk, 0, none⟩) l c]) := hlmap
  clear hls hlsum hllen hlmap
  have c0 : w.cell? ⟨pb, 0, none⟩ = some (.int .i32 0) := cell_of_cells hp rfl
  have f0 := free_of_cells (i := 0) hp
  go_enter_defers Yba.func7, Yba.ntmps7
  go_wp2_with fail
  refine (lock_free Yba.muLib ⟨pb, 0, none⟩ _ c0 f0).mono ?_
  rintro e w1 ⟨rfl, hw1⟩
  have hp1 : w1.heap[pb]? = some (poolAt 1 v (csum bs)) := by rw [hw1]; exact cells_setCell hp
  have t1 : Turn (fun k => k = pb ∨ v.ownBlock = some k) w w1 := by rw [hw1]; exact (Turn.refl _ _).setCell (Or.inl rfl) _
  have ho1 : w1.ownsRow (pb + 1) 23 1 v bs.length (bs.map (enc bk)) := by rw [hw1]; exact ownsRow_setCell_below ho (by simp) _
  have hpb := lt_of_block hp1
  have hs1 : w1.heap.size = w.heap.size := by rw [hw1]; simp [World.setCell]
  have Hs1 : Hid (w1.heap.size = w.heap.size) := hs1
  clear hw1 c0 f0 hp ho hs1
  have c2 : w1.cell? ⟨pb, 2, none⟩ = some v := cell_of_cells hp1 rfl
  have c3 : w1.cell? ⟨pb, 3, none⟩ = some (.int .i64 (csum bs)) := cell_of_cells hp1 rfl
  have f2 := free_of_cells (i := 2) hp1
  have f3 := free_of_cells (i := 3) hp1
  obtain ⟨i0, hi0, hz0, hz1, hz2⟩ := info_parts Yba.info23
  obtain ⟨hcs, hln⟩ := good_iff.1 hg
  go_wp2_with (at_builtin; refine wpList_append_sep _ rfl (.tmp 16) (.tmp 18) 32 rfl (pb + 1) 23 i0 (.slice none 0 0) 1 24 Yba.underlying32 hi0 hz0 hz1 hz2 rfl (by decide) v bs.length (bs.map (enc bk)) rfl (ho1.alloc _) ⟨w1.heap.size, 0, none⟩ 1 1 [.slice (some ⟨bk, 0, none⟩) l c] rfl rfl one_new ?_ ?_ ?_ ?_ (by decide) ?_)
  · intro u hu; simp at hu; subst hu; rfl
  · unfold maxLen; omega
  · omega
  · simp; omega
  intro g cap w2 ho2 hgr2 hsep2
  have t2 : Turn (fun k => k = pb ∨ v.ownBlock = some k) w w2 := (t1.alloc _).grown hgr2 (fun k _ h => Or.inr h)
  have hvpb : v.ownBlock ≠ some pb := fun h => by have := (ho1.lt pb h).1; omega
  have hp2 : w2.heap[pb]? = some (poolAt 1 v (csum bs)) := by
    rw [hgr2.block pb (by simp; omega) (fun h => hvpb h.symm), Below.heap_alloc _ _ _ hpb]; exact hp1
  have hz : w1.heap.size + 1 ≤ w2.heap.size := by have := hgr2.size; simpa using this
  have Hsep : Hid (v.ownBlock = some g ∨ w.heap.size ≤ g) := by
    rcases hsep2 with h | h
    · exact Or.inl h
    · exact Or.inr (by have := Hs1.out; have : (w1.alloc (.cells #[Value.slice (some ⟨bk, 0, none⟩) l c] 23)).heap.size = w1.heap.size + 1 := by simp
                       omega)
  clear hgr2 hsep2 t1 hp1 ho1 c2 c3 f2 f3
  have c2 : w2.cell? ⟨pb, 2, none⟩ = some v := cell_of_cells hp2 rfl
  have c3 : w2.cell? ⟨pb, 3, none⟩ = some (.int .i64 (csum bs)) := cell_of_cells hp2 rfl
  have f2 := free_of_cells (i := 2) hp2
  have f3 := free_of_cells (i := 3) hp2
  go_wp2_with fail
  rw [← HM.out] at ho2
  have hgp1 : pb + 1 ≤ g := (ho2.lt g rfl).1
  have hgp : g ≠ pb := by omega
  obtain ⟨cur, hcur, hnc, hcm, hcsz, htake⟩ : ∃ cur, w2.heap[g]? = some (.cells cur 23 (0, 0)) ∧ bs.length + 1 ≤ cap ∧ cap ≤ maxLen ∧ cur.size = cap ∧ cur.toList.take (bs.length + 1) = ls.map (enc bk) := by
    rcases ho2.2 with ⟨h, _⟩ | ⟨g', cap', cur, h, _, h1, h2, h3, h4, h5⟩
    · cases h
    · simp at h
      obtain ⟨rfl, rfl⟩ := h
      exact ⟨cur, h1, h2, h3, by simpa using h4, by simpa using h5⟩
  have helt : ∀ d, d < bs.length + 1 → cur[d]? = some (enc bk (ls.getD d (0, 0))) := by
    intro d hd
    have h1 : (cur.toList.take (bs.length + 1))[d]? = cur[d]? := by rw [List.getElem?_take_of_lt hd, Array.getElem?_toList]
    have hl := HL.out
    rw [← h1, htake, List.getElem?_map, List.getElem?_eq_getElem (by omega), List.getD, List.getElem?_eq_getElem (by omega)]
    rfl
  unfold maxLen at hcm
  go_loopw [4] (fun dr wr => ∃ d : Nat, d ≤ bs.length + 1 ∧ dr = .int .i64 d ∧ wr.heap[pb]? = some (poolAt 1 (.slice (some ⟨g, 0, none⟩) (bs.length + 1) cap) (csum (ls.drop d))) ∧ trim (ls.drop d) = trim ls ∧ Turn (fun k => k = pb) w2 wr)
    (fun dr _ => bs.length + 1 - (intOf dr).toNat)
  case atStart =>
    refine ⟨0, by omega, rfl, ?_, rfl, ((Turn.refl _ _).set _).set _⟩
    rw [List.drop_zero, HS.out]
    have := cells_setCell (i := 3) (u := .int .i64 ((csum bs : Int) + c)) (cells_setCell (i := 2) (u := .slice (some ⟨g, 0, none⟩) (bs.length + 1) cap) hp2)
    rw [this]
    simp [poolAt]
  case round =>
    obtain ⟨d, hd, rfl, hpr, htr, htn⟩ := hrel
    have HT : Hid (trim (ls.drop d) = trim ls) := htr
    have d2 : wr.cell? ⟨pb, 2, none⟩ = some (.slice (some ⟨g, 0, none⟩) (bs.length + 1) cap) := cell_of_cells hpr rfl
    have d3 : wr.cell? ⟨pb, 3, none⟩ = some (.int .i64 (csum (ls.drop d))) := cell_of_cells hpr rfl
    have e2 := free_of_cells (i := 2) hpr
    have e3 := free_of_cells (i := 3) hpr
    have hcr : wr.heap[g]? = some (.cells cur 23 (0, 0)) := htn.at hcur hgp
    have hcd := csum_drop_le ls d
    rw [HS.out] at hcd
    have hll := HL.out
    clear htr
    cases hgd : good (ls.drop d)
    · obtain ⟨hdl, htr', hcs'⟩ := trim_drop_succ hgd
      have hx : wr.cell? ⟨g, d, none⟩ = some (.slice (some ⟨bk, 0, none⟩) (ls.getD d (0, 0)).1 (ls.getD d (0, 0)).2) := cell_of_cells hcr (helt d (by omega))
      have hbad : ¬ (csum (ls.drop d) ≤ 8388608 ∧ bs.length + 1 - d ≤ 64) := by
        intro h
        rw [good_iff.2 ⟨h.1, by simp; omega⟩] at hgd
        cases hgd
      have HT' : Hid (trim (ls.drop (d + 1)) = trim ls) := htr'.trans HT.out
      have HC : Hid (csum (ls.drop d) = (ls.getD d (0, 0)).2 + csum (ls.drop (d + 1))) := hcs'
      clear htr' hcs' hgd helt
      generalize (ls.getD d (0, 0)).1 = x1 at *
      generalize (ls.getD d (0, 0)).2 = x2 at *
      generalize csum (ls.drop d) = S at *
      have hx2 : x2 ≤ S := by have := HC.out; omega
      have hdl' : d < bs.length + 1 := by omega
      have nxt : (wr.setCell ⟨pb, 3, none⟩ (.int .i64 ((S : Int) - x2))).heap[pb]? = some (poolAt 1 (.slice (some ⟨g, 0, none⟩) (bs.length + 1) cap) (csum (ls.drop (d + 1)))) := by
        rw [cells_setCell (i := 3) (u := .int .i64 ((S : Int) - x2)) hpr]
        have : ((S : Int) - x2) = (csum (ls.drop (d + 1)) : Nat) := by have := HC.out; omega
        rw [this]
        simp [poolAt]
      have NX : Hid ((wr.setCell ⟨pb, 3, none⟩ (.int .i64 ((S : Int) - x2))).heap[pb]? = some (poolAt 1 (.slice (some ⟨g, 0, none⟩) (bs.length + 1) cap) (csum (ls.drop (d + 1))))) := nxt
      clear nxt hll hdl hcur hcr hpr hp2 ho2 t2
      by_cases hb : 8388608 < S
      · go_wp2_with fail
        go_region
        go_wp2
        go_roundw
        case rel => exact ⟨d + 1, by omega, by go_num, NX.out, HT'.out, (htn.set _).drew⟩
        case measure => simp [intOf]; omega
      · have hb' : 64 < bs.length + 1 - d := by omega
        go_wp2_with fail
        go_region
        go_wp2
        go_roundw
        case rel => exact ⟨d + 1, by omega, by go_num, NX.out, HT'.out, (htn.set _).drew⟩
        case measure => simp [intOf]; omega
    · have hgd' := good_iff.1 hgd
      have HT' : Hid (trim ls = ls.drop d) := by rw [← HT.out]; exact trim_of_good hgd
      have h64 : bs.length + 1 - d ≤ 64 := by have := hgd'.2; simp at this; omega
      have hS : csum (ls.drop d) ≤ 8388608 := hgd'.1
      have h1c : ∀ u ∈ cur.toList.take (bs.length + 1), u.oneCell' = true := by
        rw [htake]
        intro u hu
        obtain ⟨x, _, rfl⟩ := List.mem_map.1 hu
        rfl
      have hD : (cur.toList.take (bs.length + 1)).drop d = (trim ls).map (enc bk) := by rw [htake, HT'.out, List.map_drop]
      have HD : Hid ((cur.toList.take (bs.length + 1)).drop d = (trim ls).map (enc bk)) := hD
      have hLT : (trim ls).length = bs.length + 1 - d := by rw [HT'.out]; simp; omega
      have HLT : Hid ((trim ls).length = bs.length + 1 - d) := hLT
      rw [← HT'.out] at hpr
      have Hp : Hid (wr.heap[pb]? = some (poolAt 1 (.slice (some ⟨g, 0, none⟩) (bs.length + 1) cap) (csum (trim ls)))) := hpr
      have Hcr : Hid (wr.heap[g]? = some (.cells cur 23 (0, 0))) := hcr
      clear hD hLT hgd hgd' hpr hcr hcur hp2 ho2 htake helt
      generalize csum (ls.drop d) = S at *
      go_wp2_with fail
      refine (delete_any g cap (bs.length + 1) d cur wr Hcr.out hnc hcsz hcm hd h1c).mono ?_
      rintro e w3 ⟨rfl, cur', hg3, hz3, ht3, htn3⟩
      have hp3 := htn3.at Hp.out (fun h => hgp h.symm)
      have k2 : w3.cell? ⟨pb, 2, none⟩ = some (.slice (some ⟨g, 0, none⟩) (bs.length + 1) cap) := cell_of_cells hp3 rfl
      have j2 := free_of_cells (i := 2) hp3
      have H3 : Hid (cur'.toList.take (bs.length + 1 - d) = (trim ls).map (enc bk)) := ht3.trans HD.out
      clear ht3
      go_wp2_with fail
      have hp4 : (w3.setCell ⟨pb, 2, none⟩ (.slice (some ⟨g, 0, none⟩) (bs.length + 1 - d) cap)).heap[pb]? = some (poolAt 1 (.slice (some ⟨g, 0, none⟩) (bs.length + 1 - d) cap) (csum (trim ls))) := by
        rw [cells_setCell hp3]
        simp [poolAt]
      refine leaves_cons (f := 11) (args := #[.pointer (some ⟨pb, 0, none⟩)]) (by simp) (by simp [go_sem]) ?_
      refine (unlock_deferred Yba.muLib ⟨pb, 0, none⟩ .returning _ ?_ ?_).mono ?_
      · exact cell_of_cells hp4 rfl
      · exact free_of_cells hp4
      rintro e u' w4 ⟨rfl, rfl, rfl⟩
      refine ⟨_, results_none rfl _ _ _, rfl, .slice (some ⟨g, 0, none⟩) (bs.length + 1 - d) cap, ?_, ?_, ?_, ?_⟩
      · rw [cells_setCell hp4]
        simp [poolAt]
      · rw [HLT.out]
        refine ownsRow_setCell_below (ownsRow_setCell_below ?_ (by simp) _) (by simp) _
        refine ⟨by simp [HLT.out], Or.inr ⟨g, cap, cur', rfl, ?_, hg3, by omega, ?_, by simpa using hz3, by simpa using H3.out⟩⟩
        · omega
        · unfold maxLen; omega
      · rcases Hsep.out with h | h
        · exact Or.inl h
        · right
          intro k hk
          simp [Value.ownBlock] at hk
          omega
      · have t3 : Turn (fun k => k = pb ∨ v.ownBlock = some k) w w3 := by
          refine (t2.trans htn ?_).trans htn3 ?_
          · intro i _ h; exact Or.inl h
          · intro i hi h
            rcases Hsep.out with h' | h'
            · right; rw [h, h']
            · omega
        exact (t3.setCell (Or.inl rfl) _).setCell (Or.inl rfl) _

end Go.Proofs.Ybulkchai
