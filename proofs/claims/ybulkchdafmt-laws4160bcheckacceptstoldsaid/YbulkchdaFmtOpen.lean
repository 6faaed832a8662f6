/- What a call of the two laws starts from: the table as the row lists it; an argument that is an array of sixteen numbers. -/
import Derived.Test.YbulkchdaFmtLaw3
import Derived.Test.YbulkchdaFmtTie
import Derived.Test.YbulkchdaFmtCards
import Derived.ProofKit
import Derived.OpenVars
import Derived.OpenShut
import Derived.LaidMore
import Derived.Lay
import Derived.LaidOnce
import Derived.SevenTiedAt
import Derived.Stop.JoinedTold
import Derived.Stop.JoinedAt
import Derived.ChangeVars
import Derived.Deep.Slices
namespace Go.Proofs.YbulkchdaFmt
open Go.ChangeShapes Go.WideShapes Go.ChangeAt Go.RowKit Go.Deep Bits

theorem own : ownKnob Ybaf.prog.godebug = none := by kernel_rfl
theorem laidOut : laidOutB Ybaf.prog = true := by kernel_rfl
abbrev lay : List (String × DataW Unit) := Rows.lawS4160BBuildModelRow.laid

theorem laid_gl {W : World} (h : laidMetH Ybaf.prog lay W) : W.rangeAt 0 0 gl := by
  rw [MakeChecks.laidMetH_plain _ _ _ (by kernel_rfl)] at h
  obtain ⟨ps, ⟨g, t, cs, fuel, p, q, hg, ht, hv, hd, _, _⟩, _, _⟩ := h
  obtain rfl := Option.some.inj ((show Ybaf.prog.globalNamed _ = some 0 by kernel_rfl).symm.trans hg)
  obtain rfl := Option.some.inj ((show (Ybaf.prog.globals[0]?).map (·.type) = some 42 by kernel_rfl).symm.trans ht)
  have c41 : Ybaf.prog.cellsOf 41 = 4 := by kernel_rfl
  have c3 : Ybaf.prog.cellsOf 3 = 1 := by kernel_rfl
  obtain ⟨xs, m, _, ex, _, hl, hel⟩ := DataW.trod_array Ybaf.underlying42 hd
  have e3 : xs.map (·.1) = gtab.map fun l => .agg (l.map fun (n : Nat) => .lit (.int .i64 (n : Nat))) := by
    have h5 := (Prod.mk.inj ex).1
    exact DataW.agg.inj (h5.symm.trans (by kernel_rfl))
  intro i u hu
  have hi : i < 32 := (List.getElem?_eq_some_iff.1 hu).1
  obtain ⟨j, r, hj, hr, rfl⟩ : ∃ j r, j < 8 ∧ r < 4 ∧ i = j * 4 + r := ⟨i / 4, i % 4, by omega, by omega, by omega⟩
  rw [gl_get hj hr] at hu
  cases hu
  have hE := hel j hj
  rw [c41, List.getElem?_eq_getElem (by omega)] at hE
  have e4 : (xs.map (·.1))[j]? = (gtab.map fun l => (DataW.agg (l.map fun (n : Nat) => .lit (.int .i64 (n : Nat))) : DataW Unit))[j]? := by rw [e3]
  have hjt : j < gtab.length := hj
  rw [List.getElem?_map, List.getElem?_map, List.getElem?_eq_getElem (by omega : j < xs.length), List.getElem?_eq_getElem hjt] at e4
  simp only [Option.map_some, Option.some.injEq] at e4
  obtain ⟨ys, m2, _, ey, hyl, hl2, hel2⟩ := DataW.trod_array Ybaf.underlying41 hE
  rw [ey] at e4
  have e5 := DataW.agg.inj e4
  have hF := hel2 r hr
  rw [c3, Nat.mul_one, List.getElem?_eq_getElem (by omega)] at hF
  obtain ⟨z, f1, f2, _⟩ := DataW.trod_int Ybaf.underlying3 hF
  have hrl : r < gtab[j].length := by
    have : gtab[j].length = 4 := by rcases eight hj with rfl | rfl | rfl | rfl | rfl | rfl | rfl | rfl <;> rfl
    omega
  have e6 : (ys.map (·.1))[r]? = (gtab[j].map fun (n : Nat) => (DataW.lit (.int .i64 (n : Nat)) : DataW Unit))[r]? := by rw [e5]
  rw [List.getElem?_map, List.getElem?_map, List.getElem?_eq_getElem (by omega : r < ys.length), List.getElem?_eq_getElem hrl, f2] at e6
  simp only [Option.map_some, Option.some.injEq, DataW.lit.injEq, Lit.int.injEq, true_and] at e6
  have hz : z = (ix j r : Nat) := by
    rw [e6]
    unfold ix
    rw [List.getD_eq_getElem?_getD, List.getD_eq_getElem?_getD, List.getElem?_eq_getElem hjt, Option.getD_some, List.getElem?_eq_getElem hrl, Option.getD_some]
  rw [Nat.zero_add, World.var?_cell hg hv (j * 4 + r), ← hz]
  have h0 : ((((cs.toList.drop (j * 4)).take 4).drop r).take 1)[0]? = some (.int .i64 z) := by rw [f1]; rfl
  have h1 : cs.toList[j * 4 + r]? = some (.int .i64 z) := by
    rw [List.getElem?_take_of_lt (by omega), List.getElem?_drop, List.getElem?_take_of_lt (by omega), List.getElem?_drop] at h0
    simpa using h0
  simpa using h1

set_option maxRecDepth 100000 in
/-- an argument of type [16]uint32 -/
theorem open_arr {H : Type} {enc : TypeId × Value → H} {W : World} {fuel : Nat} {v : Value} {x : DataW H × List MemPlace}
    (h : DataW.trod enc Ybaf.prog W 0 (fun _ => true) true fuel 23 v.cells.toList = some x) : ∃ V : Nat → Nat, v = .agg (ncells V) ∧ ∀ i, V i < 4294967296 := by
  have c22 : Ybaf.prog.cellsOf 22 = 1 := by kernel_rfl
  have c23 : Ybaf.prog.cellsOf 23 = 16 := by kernel_rfl
  obtain ⟨xs, m, _, _, hlen, hl, hel⟩ := DataW.trod_array Ybaf.underlying23 h
  rw [c23] at hlen
  have hagg : ∃ cs, v = .agg cs := by
    cases v <;> first | exact ⟨_, rfl⟩ | simp [Value.cells] at hlen
  obtain ⟨cs, rfl⟩ := hagg
  simp only [Value.cells] at hlen hel
  have each : ∀ i, i < 16 → ∃ z : Nat, z < 4294967296 ∧ cs[i]? = some (.int .u32 (z : Nat)) := by
    intro i hi
    have hE := hel i hi
    rw [c22, Nat.mul_one, List.getElem?_eq_getElem (by omega)] at hE
    obtain ⟨z, f1, _, f3⟩ := DataW.trod_int Ybaf.underlying22 hE
    have hb : 0 ≤ z ∧ z ≤ 4294967295 := by simpa [Lit.wf, IntKind.min, IntKind.max, IntKind.signed, IntKind.bits] using f3
    have h0 : ((cs.toList.drop i).take 1)[0]? = some (.int .u32 z) := by rw [f1]; rfl
    refine ⟨z.toNat, by omega, ?_⟩
    rw [List.getElem?_take_of_lt (by omega), List.getElem?_drop] at h0
    have : cs[i]? = some (.int .u32 z) := by simpa using h0
    rw [this, show ((z.toNat : Nat) : Int) = z by omega]
  obtain ⟨V, hV⟩ := choose_lt each
  refine ⟨fun i => if i < 16 then V i else 0, ?_, fun i => ?_⟩
  · congr 1
    apply Array.ext_getElem?
    intro i
    by_cases hi : i < 16
    · rw [ncells_get _ hi, if_pos hi]; exact (hV i hi).2
    · rw [Array.getElem?_eq_none (xs := cs) (by simpa using (show cs.toList.length ≤ i by omega)), Array.getElem?_eq_none (by rw [ncells_size]; omega)]
  · dsimp only
    split
    · exact (hV i (by assumption)).1
    · omega
end Go.Proofs.YbulkchdaFmt
