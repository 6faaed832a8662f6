/- slices.Delete[[][]byte,[]byte](s, 0, d), as this program's translation holds it (function 12): walked once. After the shelf's walk of slices.Delete. -/
import Derived.Test.YbulkchaiRows
import Derived.Test.YbulkchaiTurn
import Derived.WalkKit
import Derived.WalkSpells
import Derived.Deep.RegionLaw
import Derived.Lib.SliceRun
namespace Go.Proofs.Ybulkchai
open Go.RowKit

/-- cells written one by one from o on -/
def puts (cs : Array Value) (o : Nat) : List Value → Array Value
  | [] => cs
  | v :: r => puts (cs.setIfInBounds o v) (o + 1) r
theorem puts_size (vs : List Value) : ∀ (cs : Array Value) (o : Nat), (puts cs o vs).size = cs.size := by
  induction vs with
  | nil => intro cs o; rfl
  | cons v r ih => intro cs o; rw [puts, ih]; simp
theorem puts_out (vs : List Value) : ∀ (cs : Array Value) (o j : Nat), (j < o ∨ o + vs.length ≤ j) → (puts cs o vs)[j]? = cs[j]? := by
  induction vs with
  | nil => intro cs o j _; rfl
  | cons v r ih =>
    intro cs o j h
    simp only [List.length_cons] at h
    rw [puts, ih _ _ _ (by omega), Array.getElem?_setIfInBounds]
    rw [if_neg (by omega)]
theorem puts_in (vs : List Value) : ∀ (cs : Array Value) (o j : Nat), j < vs.length → o + j < cs.size → (puts cs o vs)[o + j]? = vs[j]? := by
  induction vs with
  | nil => intro cs o j h; simp at h
  | cons v r ih =>
    intro cs o j h hs
    cases j with
    | zero =>
      rw [puts, puts_out r _ _ _ (by omega), Array.getElem?_setIfInBounds]
      simp at hs
      simp [hs]
    | succ j =>
      rw [puts, show o + (j + 1) = o + 1 + j by omega, ih _ _ _ (by simpa using h) (by simp; omega)]
      simp
theorem setCells_heap (b : Nat) (t : TypeId) : ∀ (vs : List Value) (o : Nat) (w : World) (cs : Array Value), w.heap[b]? = some (.cells cs t (0, 0)) → (w.setCells b o vs).heap[b]? = some (.cells (puts cs o vs) t (0, 0))
  | [], _, _, _, h => h
  | v :: r, o, w, cs, h => by
    rw [World.setCells, puts]
    exact setCells_heap b t r (o + 1) _ _ (cells_setCell h)
theorem setCells_turn (b : Nat) : ∀ (vs : List Value) (o : Nat) (a w : World), Turn (fun k => k = b) a w → Turn (fun k => k = b) a (w.setCells b o vs)
  | [], _, _, _, h => h
  | v :: r, o, a, w, h => by
    rw [World.setCells]
    exact setCells_turn b r (o + 1) a _ (h.setCell rfl v)

theorem Yba.info23 : (Yba.prog.info? 23).map (fun i => (i.zero, i.size, i.bytes)) = some (some (.slice none 0 0), 1, 24) := by kernel_rfl

set_option maxHeartbeats 1000000 in
set_option maxRecDepth 100000 in
theorem delete_some (g cap n d : Nat) (cur : Array Value) (w : World) (hg : w.heap[g]? = some (.cells cur 23 (0, 0))) (hn : n ≤ cap) (hc : cur.size = cap) (hm : cap ≤ 9223372036854775807) (hd0 : 0 < d) (hd : d ≤ n)
    (h1 : ∀ u ∈ cur.toList.take n, u.oneCell' = true) :
    Calls Yba.prog 12 #[.slice (some ⟨g, 0, none⟩) n cap, .int .i64 0, .int .i64 d] w fun e w' => e = .returned (.slice (some ⟨g, 0, none⟩) (n - d) cap) ∧
      w' = (w.drew.setCells g 0 ((cur.toList.take n).drop d)).setCells g (n - d) (List.replicate d (.slice none 0 0)) := by
  obtain ⟨i0, hi0, hz0, hz1, hz2⟩ := info_parts Yba.info23
  obtain ⟨news, hnews⟩ : ∃ news, news = (cur.toList.take n).drop d := ⟨_, rfl⟩
  have hlen : news.length = n - d := by rw [hnews]; simp; omega
  have hget : ∀ t, t < n - d → news[t]? = cur[d + t]? := by
    intro t ht
    rw [hnews, List.getElem?_drop, List.getElem?_take_of_lt (by omega), Array.getElem?_toList]
  have hcell : ∀ j, w.cell? ⟨g, j, none⟩ = cur[j]? := fun j => by simp [World.cell?, hg]
  have hfree : ∀ j, w.frozen? ⟨g, j, none⟩ = false := fun j => free_of_cells hg
  rw [← hnews]
  obtain ⟨A, hA, hsrc⟩ : ∃ A : Addr, (if cap = d then some (⟨g, 0, none⟩ : Addr) else some ⟨g, d, none⟩) = some A ∧ Hid (∀ t u, news[t]? = some u → w.drew.cell? (A.add t) = some u) := by
    by_cases h : cap = d
    · refine ⟨⟨g, 0, none⟩, by simp [h], fun t u hu => ?_⟩
      have h0 : news.length = 0 := by rw [hlen]; omega
      rw [List.length_eq_zero_iff.1 h0] at hu
      simp at hu
    · refine ⟨⟨g, d, none⟩, by simp [h], fun t u hu => ?_⟩
      have ht : t < n - d := by
        have := (List.getElem?_eq_some_iff.1 hu).1
        rwa [hlen] at this
      rw [hget t ht] at hu
      rw [Addr.add_lit]
      exact (hcell (d + t)).trans hu
  have s1 : Hid (news.length = (n - d) * 1) := by rw [Nat.mul_one]; exact hlen
  have s2 : Hid (∀ u ∈ news, u.oneCell' = true) := by
    intro u hu
    rw [hnews] at hu
    exact h1 u (List.mem_of_mem_drop hu)
  have s3 : Hid (∀ t, t < news.length → (w.drew.cell? ⟨g, 0 + 0 * 1 + t, none⟩).isSome = true ∧ w.drew.frozen? ⟨g, 0 + 0 * 1 + t, none⟩ = false) := by
    intro t ht
    rw [hlen] at ht
    rw [show 0 + 0 * 1 + t = t by omega]
    refine ⟨?_, hfree t⟩
    show (w.cell? _).isSome = true
    rw [hcell t]
    simp
    omega
  obtain ⟨W1, hW1⟩ : ∃ W1, W1 = w.drew.setCells g (0 + 0 * 1) news := ⟨_, rfl⟩
  have hW2 : W1.heap[g]? = some (.cells (puts cur (0 + 0 * 1) news) 23 (0, 0)) := by rw [hW1]; exact setCells_heap g 23 news _ _ _ hg
  have hcl : ∀ ty, (Builtin.clear_ #[32] ty #[.slice (some ⟨g, n - d, none⟩) (n - (n - d)) (cap - (n - d))]).run Yba.prog W1 = .ok (.tuple #[]) (W1.setCells g (n - d) (List.replicate (n - (n - d)) (.slice none 0 0))) :=
    fun ty => Lib.run_clear_slice W1 _ _ ty _ Yba.underlying32 Yba.zeroValue23 rfl rfl g (n - d) _ _ (by omega) (fun t ht => by
      have : (puts cur 0 news).size = cap := by rw [puts_size, hc]
      simp [World.cell?, hW2]; omega) (fun t ht => free_of_cells hW2)
  have hW : Hid (W1 = w.drew.setCells g (0 + 0 * 1) news) := hW1
  have hdc : d ≤ cap := by omega
  clear hW1 hW2 hcell hfree hget hnews hlen hg h1
  go_enter Yba.func12, Yba.ntmps12
  go_wp2_with fail
  go_region_law (refine step_append_room rfl (.tmp 22) (.tmp 25) 32 rfl 23 i0 1 Yba.underlying32 hi0 hz1 g 0 0 cap (by simp [Act.eval, Act.put]) A (n - d) (cap - d) news (by simp [Act.eval, Act.put]) s1.out hsrc.out s2.out (by omega) s3.out ?_; rw [← hW.out])
  go_wp2
  go_ret
  refine ⟨rfl, ?_⟩
  rw [hW.out, show n - (n - d) = d by omega]

theorem delete_none (g cap n : Nat) (w : World) (hn : n ≤ cap) (_hm : cap ≤ 9223372036854775807) :
    Calls Yba.prog 12 #[.slice (some ⟨g, 0, none⟩) n cap, .int .i64 0, .int .i64 0] w fun e w' => e = .returned (.slice (some ⟨g, 0, none⟩) n cap) ∧ w' = w := by
  go_enter Yba.func12, Yba.ntmps12
  go_wp2
  go_ret
  exact ⟨rfl, rfl⟩

/-- DELETE, SAID BY THE ROW's BLOCK: the elements from d on come to the front; nothing else turns -/
theorem delete_any (g cap n d : Nat) (cur : Array Value) (w : World) (hg : w.heap[g]? = some (.cells cur 23 (0, 0))) (hn : n ≤ cap) (hc : cur.size = cap) (hm : cap ≤ 9223372036854775807) (hd : d ≤ n)
    (h1 : ∀ u ∈ cur.toList.take n, u.oneCell' = true) :
    Calls Yba.prog 12 #[.slice (some ⟨g, 0, none⟩) n cap, .int .i64 0, .int .i64 d] w fun e w' => e = .returned (.slice (some ⟨g, 0, none⟩) (n - d) cap) ∧
      ∃ cur', w'.heap[g]? = some (.cells cur' 23 (0, 0)) ∧ cur'.size = cap ∧ cur'.toList.take (n - d) = (cur.toList.take n).drop d ∧ Turn (fun k => k = g) w w' := by
  rcases Nat.eq_zero_or_pos d with rfl | hd0
  · refine (delete_none g cap n w hn hm).mono ?_
    rintro e w' ⟨rfl, rfl⟩
    exact ⟨rfl, cur, hg, hc, by simp, Turn.refl _ _⟩
  · refine (delete_some g cap n d cur w hg hn hc hm hd0 hd h1).mono ?_
    rintro e w' ⟨rfl, rfl⟩
    have hlen : ((cur.toList.take n).drop d).length = n - d := by simp; omega
    refine ⟨rfl, _, setCells_heap g 23 _ _ _ _ (setCells_heap g 23 _ 0 _ _ hg), by rw [puts_size, puts_size, hc], ?_, setCells_turn g _ _ _ _ (setCells_turn g _ _ _ _ ((Turn.refl _ _).drew))⟩
    apply List.ext_getElem?
    intro j
    rcases Nat.lt_or_ge j (n - d) with hj | hj
    · rw [List.getElem?_take_of_lt hj, Array.getElem?_toList, puts_out _ _ _ _ (Or.inl hj)]
      have := puts_in ((cur.toList.take n).drop d) cur 0 j (by omega) (by omega)
      rw [Nat.zero_add] at this
      exact this
    · rw [List.getElem?_eq_none (by simp; omega), List.getElem?_eq_none (by omega)]

end Go.Proofs.Ybulkchai
