/- 'tree.LawS4159AExact' returns true at every input. -/
import Derived.Test.YbulkchcmExactWalk
import Derived.ProofKit
import Derived.OpenShut
import Derived.ShutString
import Derived.ChangeOld
import Derived.Deep.Slices
namespace Go.Proofs.Ybulkchcm.lawS4159AExact
open Go.ChangeShapes Go.WideShapes Go.ChangeAt Go.RowKit Go.Deep
set_option linter.unusedVariables false

theorem own : ownKnob Yba.prog.godebug = none := by kernel_rfl
theorem laidOut : laidOutB Yba.prog = true := by kernel_rfl
theorem cells27 : Yba.prog.cellsOf 27 = 3 := by kernel_rfl
theorem cells3 : Yba.prog.cellsOf 3 = 1 := by kernel_rfl
theorem cells4 : Yba.prog.cellsOf 4 = 1 := by kernel_rfl

/-- an address that leads to a cell has no spot -/
theorem plain_addr {w : World} {a : Addr} {v : Value} (h : w.cell? a = some v) : a = ⟨a.block, a.off, none⟩ := by
  cases a with
  | mk b o s =>
    cases s with
    | none => rfl
    | some s =>
      exfalso
      unfold World.cell? at h
      split at h <;> simp at h

set_option maxRecDepth 100000 in
/-- THE CHAIN, READ: its steps' three cells by index -/
theorem steps_of {H : Type} {enc : TypeId × Value → H} {W : World} {fuel : Nat} {a0 : Option Addr} {len cap : Nat} {x : DataW H × List MemPlace}
    (hf : DataW.trod enc Yba.prog W 0 (fun _ => true) true fuel 22 [.slice a0 len cap] = some x) :
    len ≤ 9223372036854775807 ∧ ∃ (b off : Nat) (f : Nat → Int × Int × Bool), (0 < len → a0 = some ⟨b, off, none⟩) ∧ (0 < len → b < W.heap.size) ∧ ∀ k, k < len → stepAt W b off f k := by
  rcases open_slice Yba.underlying22 hf with ⟨hcs, _⟩ | ⟨a, l, c, m, n, D, Pl, hcs, _, hl, hm, hmm, _, hx⟩
  · simp at hcs
    obtain ⟨_, rfl, _⟩ := hcs
    exact ⟨by omega, 0, 0, fun _ => (0, 0, false), by omega, by omega, by intro k hk; omega⟩
  · simp at hcs
    obtain ⟨rfl, rfl, rfl⟩ := hcs
    simp at hmm
    subst hmm
    have each : ∀ i, i < len → ∃ q : Int × Int × Bool, W.cell? (a.add (i * 3)) = some (.int .i64 q.1) ∧ W.cell? (a.add (i * 3 + 1)) = some (.int .i64 q.2.1) ∧ W.cell? (a.add (i * 3 + 2)) = some (.bool q.2.2) := by
      intro i hi
      obtain ⟨cs', h1, h2⟩ := hx i (by omega)
      rw [cells27] at h1
      obtain ⟨_, hlen, hcell⟩ := World.cells?_some h1
      obtain ⟨xs, k, _, _, _, hxl, hfd⟩ := DataW.trod_struct Yba.underlying27 h2
      match xs, hxl, cs', hlen with
      | [y0, y1, y2], _, [v0, v1, v2], _ =>
        have g0 := hfd 0 _ rfl
        have g1 := hfd 1 _ rfl
        have g2 := hfd 2 _ rfl
        simp [cells3, cells4] at g0 g1 g2
        obtain ⟨n0, e0, _, b0⟩ := DataW.trod_int Yba.underlying3 g0
        obtain ⟨n1, e1, _, b1⟩ := DataW.trod_int Yba.underlying3 g1
        obtain ⟨n2, e2, _⟩ := DataW.trod_bool Yba.underlying4 g2
        simp at e0 e1 e2
        subst e0 e1 e2
        have k0 := hcell 0 (by omega)
        have k1 := hcell 1 (by omega)
        have k2 := hcell 2 (by omega)
        rw [add_add] at k0 k1 k2
        exact ⟨(n0, n1, n2), by simpa using k0, by simpa using k1, by simpa using k2⟩
    obtain ⟨f, hfx⟩ := choose_lt each
    refine ⟨by unfold maxLen at hm; omega, a.block, a.off, f, ?_, ?_, ?_⟩
    · intro h0
      have := (hfx 0 h0).1
      rw [Nat.zero_mul, show a.add 0 = a by simp [Addr.add]] at this
      rw [← plain_addr this]
    · intro h0
      have := (hfx 0 h0).1
      rw [Nat.zero_mul, show a.add 0 = a by simp [Addr.add]] at this
      exact World.block_lt_of_cell? W a this
    · intro k hk
      obtain ⟨k0, k1, k2⟩ := hfx k hk
      have h0 := (hfx 0 (by omega)).1
      rw [Nat.zero_mul, show a.add 0 = a by simp [Addr.add]] at h0
      rw [plain_addr h0] at k0 k1 k2
      rw [Addr.add_lit] at k0 k1 k2
      exact ⟨k0, by rw [Nat.add_assoc]; exact k1, by rw [Nat.add_assoc]; exact k2⟩

theorem walk {H : Type} {enc : TypeId × Value → H} (W : World) (s l c : Int) (ws : (Lit.int .u8 s).wf = true) (fuel : Nat) (a0 : Option Addr) (len cap : Nat) (x : DataW H × List MemPlace)
    (hf : DataW.trod enc Yba.prog W 0 (fun _ => true) true fuel 22 [.slice a0 len cap] = some x) :
    Calls Yba.prog 3 #[.int .u8 s, .int .i64 l, .int .i64 c, .slice a0 len cap] W fun e w' => e = .returned (.bool true) ∧ Below W.heap.size W w' := by
  obtain ⟨hm, b, off, f, h1, h2, h3⟩ := steps_of hf
  have hb := bounds_u8 ws
  obtain ⟨n, rfl⟩ := Int.eq_ofNat_of_zero_le hb.1
  by_cases h : len ≤ 1024
  · exact walk_short n l c a0 b off len cap f W (by omega) h h1 h2 h3
  · exact walk_long n l c a0 len cap W (by omega) hm

set_option maxRecDepth 100000 in
theorem lifted (os : Os) (started : os.Started) (H : Type) (enc : TypeId × Value → H) :
    ReturnsInHanded {} Yba.checked os 3 .any (Rows.lawS4159AExactSpec.pre6 enc Yba.prog Yba.f3 Rows.lawS4159AExactRow.domain false) (Rows.lawS4159AExactSpec.post enc Yba.prog Yba.f3 false true false false) := by
  refine returnsInHanded_of_change (C := Yba.checked) own started (by kernel_rfl) Yba.func3
    (ChangeSpec.witness6 (enc := enc) (C := Yba.checked) false ⟨#[], #[.int .u8 0, .int .i64 0, .int .i64 0, .slice none 0 0], []⟩ 8 (by kernel_rfl) (by kernel_rfl) (by kernel_rfl) (by kernel_rfl)) ?_
  intro W base args ds gs before hval0 hW hcnd _
  have hval : ∀ (j : Nat) t v, Yba.f3.params[j]? = some t → args[j]? = some v → Value.okWide Yba.prog W .any base t v := hval0
  have hW' := hW
  obtain ⟨p, q, hA0, hV, rfl, hfz, hnd⟩ := hW
  have hA : DataW.TrodAll enc Yba.prog W 0 (fun _ => true) true Yba.f3.params.toList args.toList ds p := hA0
  rw [Yba.params3] at hA hval
  obtain ⟨v0, vs0, d0, ds0, p0, q0, hargs, rfl, rfl, h0, r0⟩ := trodAll_cons hA
  obtain ⟨v1, vs1, d1, ds1, p1, q1, rfl, rfl, rfl, h1, r1⟩ := trodAll_cons r0
  obtain ⟨v2, vs2, d2, ds2, p2, q2, rfl, rfl, rfl, h2, r2⟩ := trodAll_cons r1
  obtain ⟨v3, vs3, d3, ds3, p3, q3, rfl, rfl, rfl, h3, r3⟩ := trodAll_cons r2
  obtain ⟨rfl, rfl, rfl⟩ := trodAll_nil r3
  obtain rfl : args = #[v0, v1, v2, v3] := by cases args; simp_all
  obtain ⟨rfl, rfl⟩ := trodVars_none hV
  obtain ⟨a0, rfl, rfl, rfl, w0⟩ := open_int Yba.underlying5 (hval 0 5 v0 rfl rfl) h0
  obtain ⟨a1, rfl, rfl, rfl, w1⟩ := open_int Yba.underlying3 (hval 1 3 v1 rfl rfl) h1
  obtain ⟨a2, rfl, rfl, rfl, w2⟩ := open_int Yba.underlying3 (hval 2 3 v2 rfl rfl) h2
  obtain ⟨a3, len0, cap0, rfl⟩ := okWide_slice Yba.underlying22 (hval 3 22 v3 rfl rfl)
  have k3 := h3
  have lt3 : ∀ x ∈ p3, x.block < W.heap.size := by obtain ⟨m, hm⟩ := k3; exact DataW.trod_lt m _ _ _ hm
  obtain ⟨fuel, hf⟩ := h3
  clear hA0 hval0
  refine (walk W a0 a1 a2 w0 fuel a3 len0 cap0 _ (by simpa [Value.cells] using hf)).mono fun e W' ⟨he, bel⟩ => ?_
  subst he
  exact ⟨_, rfl, _, _, _, [], _, [], hW', trodAll_mk1 (shut_bool Yba.underlying4 _), (trodAll_cons_mk (shut_int Yba.underlying5 w0) (trodAll_cons_mk (shut_int Yba.underlying3 w1) (trodAll_cons_mk (shut_int Yba.underlying3 w2) (trodAll_cons_mk (Below.trod laidOut (by kernel_rfl) (of_decide_eq_true (by kernel_rfl)) k3 bel lt3) trodAll_mk0)))), rfl, bel.frame _, fun h => by cases h⟩

theorem over : Rows.lawS4159AExactRow.holds Yba.pinned (OpenSpec.ofChange Rows.lawS4159AExactSpec) :=
  OpenClaim.holds_of_wide 3 Yba.f3 rfl rfl rfl rfl rfl rfl rfl ⟨rfl, rfl, rfl, rfl, rfl⟩ rfl rfl rfl rfl rfl (by kernel_rfl) Yba.func3 (by kernel_rfl)
    (of_decide_eq_true (by kernel_rfl)) (by unfold Func.isWrapper; first | (rw [if_pos (by decide +kernel)]; kernel_rfl) | (rw [if_neg (by decide +kernel)]; exact ⟨rfl, rfl⟩))
    (fun os started H enc _ => lifted os started H enc)

/-- THE STATEMENT -/
theorem proved : Rows.LawS4159AExactSaid := over
end Go.Proofs.Ybulkchcm.lawS4159AExact
