/- tree.zzs4159atype and (*Node).Place, walked once. -/
import Derived.Test.YbulkchcmRows
import Derived.Test.YbulkchcmPlain
import Derived.Test.YbulkchcmTurn
import Derived.WalkKit
import Derived.WalkSpells
import Derived.RegionTactic
import Derived.Deep.LoopGhost
namespace Go.Proofs.Ybulkchcm
open Go.RowKit Plain

theorem hide {p : Prop} (h : p) : Hid p := h

/-- the four types that the law picks -/
def tyIS : ByteArray := ⟨#[73, 110, 116, 101, 114, 109, 101, 100, 105, 97, 116, 101, 83, 101, 99, 116, 105, 111, 110]⟩
def tyWT : ByteArray := ⟨#[83, 101, 99, 116, 105, 111, 110, 87, 105, 116, 104, 84, 101, 120, 116, 115]⟩
def tyWN : ByteArray := ⟨#[83, 101, 99, 116, 105, 111, 110, 87, 105, 116, 104, 78, 97, 109, 101, 115]⟩
def tyI : ByteArray := ⟨#[73, 110, 116, 101, 103, 101, 114]⟩
def tyOf (k : Nat) : ByteArray := match k % 4 with | 0 => tyIS | 1 => tyWT | 2 => tyWN | _ => tyI

theorem type_any (k : Nat) (hk : k ≤ 255) (w : World) : Calls Yba.prog 8 #[.int .u8 k] w fun e w' => e = .returned (.string (tyOf k)) ∧ w = w' := by
  obtain ⟨q, r, hr, rfl⟩ : ∃ q r, r < 4 ∧ k = 4 * q + r := ⟨k / 4, k % 4, by omega, by omega⟩
  have hm : ((4 * q + r : Nat) : Int) % 4 = r := by omega
  have hc : tyOf (4 * q + r) = tyOf r := by unfold tyOf; rw [show (4 * q + r) % 4 = r % 4 by omega]
  rw [hc]
  clear hc
  have h0 : 0 ≤ ((4 * q + r : Nat) : Int) := by omega
  have h255 : ((4 * q + r : Nat) : Int) ≤ 255 := by omega
  generalize ((4 * q + r : Nat) : Int) = K at *
  clear hk
  rcases (show r = 0 ∨ r = 1 ∨ r = 2 ∨ r = 3 from by omega) with h | h | h | h
  all_goals
    subst h
    go_enter Yba.func8, Yba.ntmps8
    go_wp2
    go_ret
    exact ⟨rfl, rfl⟩

/-- going down first children from node m: the places of the nodes on the way -/
def Down (w : World) : Nat → List Pt → Prop
  | m, [] => w.cell? ⟨m, 12, none⟩ = some (.slice none 0 0)
  | m, x :: xs => ∃ g n cap m' : Nat, w.cell? ⟨m, 12, none⟩ = some (.slice (some ⟨g, 0, none⟩) n cap) ∧ 0 < n ∧ n ≤ 9223372036854775807 ∧ w.cell? ⟨g, 0, none⟩ = some (.pointer (some ⟨m', 0, none⟩)) ∧
      w.cell? ⟨m', 2, none⟩ = some (.int .i64 x.1) ∧ w.cell? ⟨m', 3, none⟩ = some (.int .i64 x.2) ∧ Down w m' xs

theorem Down.keep {w w' : World} (h : ∀ a v, a.off ≠ 11 → w.cell? a = some v → w'.cell? a = some v) : ∀ (xs : List Pt) (m : Nat), Down w m xs → Down w' m xs
  | [], m, hd => h ⟨m, 12, none⟩ _ (by simp) hd
  | x :: xs, m, ⟨g, n, cap, m', h1, h2, h3, h4, h5, h6, h7⟩ => ⟨g, n, cap, m', h _ _ (by simp) h1, h2, h3, h _ _ (by simp) h4, h _ _ (by simp) h5, h _ _ (by simp) h6, Down.keep h xs m' h7⟩

/-- only draws -/
structure Same (w w' : World) : Prop where
  heap : w'.heap = w.heap
  os : w'.os = w.os
  tape : w'.tape = w.tape
  output : w'.output = w.output
theorem Same.refl (w : World) : Same w w := ⟨rfl, rfl, rfl, rfl⟩
theorem Same.drew {a w : World} (h : Same a w) : Same a w.drew := ⟨h.heap, h.os, h.tape, h.output⟩
theorem Same.cell {w w' : World} (h : Same w w') (a : Addr) : w'.cell? a = w.cell? a := by simp [World.cell?, h.heap]
theorem Same.down {w w' : World} (h : Same w w') {m : Nat} {xs : List Pt} (hd : Down w m xs) : Down w' m xs := Down.keep (fun a v _ ha => by rw [h.cell a]; exact ha) xs m hd
theorem Same.below {B : Nat} {a w w' : World} (h : Below B a w) (hs : Same w w') : Below B a w' := h.trans ⟨hs.os, hs.tape, hs.output, by rw [hs.heap]; exact Nat.le_refl _, fun k _ => by rw [hs.heap]⟩

set_option maxRecDepth 100000 in
/-- a node with a place of its own, or of another type: its own place -/
theorem place_own (m : Nat) (ty : ByteArray) (l c : Int) (w : World) (h0 : w.cell? ⟨m, 0, none⟩ = some (.string ty)) (h2 : w.cell? ⟨m, 2, none⟩ = some (.int .i64 l)) (h3 : w.cell? ⟨m, 3, none⟩ = some (.int .i64 c))
    (h : 0 < l ∨ ty = tyWN ∨ ty = tyI) :
    Calls Yba.prog 9 #[.pointer (some ⟨m, 0, none⟩)] w fun e w' => e = .returned (.tuple #[.int .i64 l, .int .i64 c]) ∧ Same w w' := by
  by_cases hl : 0 < l
  · clear h
    go_enter Yba.func9, Yba.ntmps9
    go_wp2
    go_region
    go_wp2
    go_ret2
    exact ⟨rfl, (Same.refl _).drew⟩
  · have hd : decide (0 < l) = false := by simpa using hl
    rcases h with h | h | h
    · exact absurd h hl
    all_goals
      subst h
      first | unfold tyWN at h0 | unfold tyI at h0
      go_enter Yba.func9, Yba.ntmps9
      go_wp2
      go_region
      go_wp2
      go_ret2
      exact ⟨rfl, (Same.refl _).drew⟩

set_option maxHeartbeats 1000000 in
set_option maxRecDepth 100000 in
/-- a section without a place: the least positive line on the way down -/
theorem place_way (m : Nat) (ty : ByteArray) (l c : Int) (xs : List Pt) (w : World) (h0 : w.cell? ⟨m, 0, none⟩ = some (.string ty)) (h2 : w.cell? ⟨m, 2, none⟩ = some (.int .i64 l)) (h3 : w.cell? ⟨m, 3, none⟩ = some (.int .i64 c))
    (hl : ¬ 0 < l) (h : ty = tyIS ∨ ty = tyWT) (hdn : Down w m xs) :
    Calls Yba.prog 9 #[.pointer (some ⟨m, 0, none⟩)] w fun e w' => e = .returned (.tuple #[.int .i64 (best (l, c) xs).1, .int .i64 (best (l, c) xs).2]) ∧ Same w w' := by
  have hd : decide (0 < l) = false := by simpa using hl
  rcases h with h | h
  all_goals
    subst h
    first | unfold tyIS at h0 | unfold tyWT at h0
    go_enter Yba.func9, Yba.ntmps9
    go_wp2
    go_region
    go_wp2
    go_loopg [2, 3, 4] xs.length (fun k ln cn mp wr => ∃ (cur : Pt) (ys : List Pt) (mb : Nat), k = ys.length ∧ ln = .int .i64 cur.1 ∧ cn = .int .i64 cur.2 ∧ mp = .pointer (some ⟨mb, 0, none⟩) ∧ Down wr mb ys ∧ best cur ys = best (l, c) xs ∧ Same w wr)
    case atStart => exact ⟨(l, c), xs, m, rfl, rfl, rfl, rfl, (Same.refl w).drew.down hdn, rfl, (Same.refl _).drew⟩
    case round =>
      obtain ⟨cur, ys, mb, rfl, rfl, rfl, rfl, hdw, hbest, hsame⟩ := hrel
      have HB := hide hbest
      clear hbest hdn h0 h2 h3
      cases ys with
      | nil =>
        have k12 : wr.cell? ⟨mb, 12, none⟩ = some (.slice none 0 0) := hdw
        clear hdw
        go_wp2
        go_ret2
        exact ⟨by rw [← HB.out]; rfl, hsame⟩
      | cons x ys =>
        obtain ⟨g, n, cap, m', k12, hn, hn', kg, k2, k3, hdw'⟩ := hdw
        obtain ⟨c1, c2⟩ := cur
        obtain ⟨x1, x2⟩ := x
        simp only at k2 k3
        by_cases h1 : 0 < x1
        · by_cases h2 : c1 = 0
          · have HB' := hide (show best (x1, x2) ys = best (l, c) xs from by rw [← HB.out, best_cons, step_yes h1 (Or.inl h2)])
            subst h2
            go_wp2
            go_region
            go_wp2
            go_roundg ys.length
            case measure => simp
            case rel => exact ⟨(x1, x2), ys, m', rfl, rfl, rfl, rfl, (Same.refl wr).drew.down hdw', HB'.out, hsame.drew⟩
          · have hc0 : (c1 == 0) = false := beq_eq_false_iff_ne.2 h2
            by_cases h3 : x1 < c1
            · have HB' := hide (show best (x1, x2) ys = best (l, c) xs from by rw [← HB.out, best_cons, step_yes h1 (Or.inr h3)])
              go_wp2
              go_region
              go_wp2
              go_roundg ys.length
              case measure => simp
              case rel => exact ⟨(x1, x2), ys, m', rfl, rfl, rfl, rfl, (Same.refl wr).drew.down hdw', HB'.out, hsame.drew⟩
            · have HB' := hide (show best (c1, c2) ys = best (l, c) xs from by rw [← HB.out, best_cons, step_no (by simp only; omega)])
              go_wp2
              go_roundg ys.length
              case measure => simp
              case rel => exact ⟨(c1, c2), ys, m', rfl, rfl, rfl, rfl, hdw', HB'.out, hsame⟩
        · have hd1 : decide (0 < x1) = false := by simpa using h1
          have HB' := hide (show best (c1, c2) ys = best (l, c) xs from by rw [← HB.out, best_cons, step_no (by simp only; omega)])
          go_wp2
          go_roundg ys.length
          case measure => simp
          case rel => exact ⟨(c1, c2), ys, m', rfl, rfl, rfl, rfl, hdw', HB'.out, hsame⟩

/-- a line that is not 0, or another type: its own place -/
theorem place_fix (m : Nat) (ty : ByteArray) (l c : Int) (xs : List Pt) (w : World) (h0 : w.cell? ⟨m, 0, none⟩ = some (.string ty)) (h2 : w.cell? ⟨m, 2, none⟩ = some (.int .i64 l)) (h3 : w.cell? ⟨m, 3, none⟩ = some (.int .i64 c))
    (hty : ty = tyIS ∨ ty = tyWT ∨ ty = tyWN ∨ ty = tyI) (h : l ≠ 0 ∨ ty = tyWN ∨ ty = tyI) (hdn : Down w m xs) :
    Calls Yba.prog 9 #[.pointer (some ⟨m, 0, none⟩)] w fun e w' => e = .returned (.tuple #[.int .i64 l, .int .i64 c]) ∧ Same w w' := by
  by_cases hp : 0 < l
  · exact place_own m ty l c w h0 h2 h3 (Or.inl hp)
  · by_cases ht : ty = tyWN ∨ ty = tyI
    · exact place_own m ty l c w h0 h2 h3 (Or.inr ht)
    · have hl : l < 0 := by
        rcases h with h | h
        · omega
        · exact absurd h ht
      have hty' : ty = tyIS ∨ ty = tyWT := by
        rcases hty with h | h | h
        · exact Or.inl h
        · exact Or.inr h
        · exact absurd h ht
      have := place_way m ty l c xs w h0 h2 h3 hp hty' hdn
      rw [best_neg (l, c) hl] at this
      exact this

end Go.Proofs.Ybulkchcm
