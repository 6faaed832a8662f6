/-
  No cell of these rows narrows 'for every input' (looked for: loops, veiled, ifaces, maps, wideKeys, modest, calm, conditions, laid).
  DERIVED. THE GIVEN ROWS OF THIS SEAT. 5 by the template 'for every input the law returns true; each argument reads behind the call as it read before'; 0 by the template 'total and deterministic' (their statements: YbulkchcmTotals.lean).
  GIVEN WITH THE SEED: the statements are not yours to turn. If you find one false, say at which input.
  Laid BY PROGRAM, IN A SANDBOX (cutbox-rows.mjs): the forced cells as the released guide's own fill.sh prints them over the translation 400113fece948381… (all of the seat's roots in one cut). By AI agents, Wed Nov 11 2026. No macro, syntax, notation, axiom, sorry.
-/
import Derived.Test.YbulkchcmChecked
import GoSem.Claim
import GoSem.ClaimJoined
import GoSem.ClaimMapViews
import Derived.JoinedTies
import Derived.KernelRfl
namespace Go.Proofs.Ybulkchcm
/- THE CELL 'sum', in the pinned program and in every row, IS THE sha256 OF THE DUMP (.gsa) THAT YbulkchcmProg.lean LOADS. Nothing in Lean hashes anything: it is a label: what it is worth is what the hold of that sum in a sandbox is worth. -/
noncomputable def Yba.pinned : Pinned := { name := "ybulkchcm", sum := "400113fece948381cc323b26e14f0aca7e24a13261053d6757e4636d53cb2386", checked := Yba.checked }
namespace Rows
def none {H : Type} : Left H := { results := [], args := [] }

/-- 'tree.LawS4159AExact': WHATEVER THE INPUT: true; the input reads as it did. -/
def lawS4159AExactSpec : ChangeSpec := { name := "lawS4159AExact", fn := fun _ => fun
  | [d1, d2, d3, d4] => { results := [.lit (.bool true)], args := [d1, d2, d3, d4] }
  | _ => none }
def lawS4159AExactRow : OpenClaim := { program := "ybulkchcm", sum := "400113fece948381cc323b26e14f0aca7e24a13261053d6757e4636d53cb2386", func := "example.com/dastur/dastur/tree.LawS4159AExact", spec := "lawS4159AExact", plainKeys := false, apart := false }
def LawS4159AExactSaid : Prop := lawS4159AExactRow.holds Yba.pinned (OpenSpec.ofChange lawS4159AExactSpec)

/-- ITS FALSE NEIGHBOUR: 'it returns false'. Refute it at one input. -/
def lawS4159AExactWrong : ChangeSpec := { name := "lawS4159AExact", fn := fun _ => fun
  | [d1, d2, d3, d4] => { results := [.lit (.bool false)], args := [d1, d2, d3, d4] }
  | _ => none }
def LawS4159AExactWrongFalsely : Prop := lawS4159AExactRow.holds Yba.pinned (OpenSpec.ofChange lawS4159AExactWrong)

/-- 'rules.LawS4159BExact': WHATEVER THE INPUT: true; the input reads as it did. -/
def lawS4159BExactSpec : ChangeSpec := { name := "lawS4159BExact", fn := fun _ => fun
  | [d1, d2, d3, d4, d5, d6] => { results := [.lit (.bool true)], args := [d1, d2, d3, d4, d5, d6] }
  | _ => none }
def lawS4159BExactRow : OpenClaim := { program := "ybulkchcm", sum := "400113fece948381cc323b26e14f0aca7e24a13261053d6757e4636d53cb2386", func := "example.com/dastur/dastur/rules.LawS4159BExact", spec := "lawS4159BExact", inPlace := ["math.Float64bits"], plainKeys := false, apart := false }
def LawS4159BExactSaid : Prop := lawS4159BExactRow.holds Yba.pinned (OpenSpec.ofChange lawS4159BExactSpec)

/-- ITS FALSE NEIGHBOUR: 'it returns false'. Refute it at one input. -/
def lawS4159BExactWrong : ChangeSpec := { name := "lawS4159BExact", fn := fun _ => fun
  | [d1, d2, d3, d4, d5, d6] => { results := [.lit (.bool false)], args := [d1, d2, d3, d4, d5, d6] }
  | _ => none }
def LawS4159BExactWrongFalsely : Prop := lawS4159BExactRow.holds Yba.pinned (OpenSpec.ofChange lawS4159BExactWrong)

/-- 'rules.LawS4159BEqual': WHATEVER THE INPUT: true; the input reads as it did. -/
def lawS4159BEqualSpec : ChangeSpec := { name := "lawS4159BEqual", fn := fun _ => fun
  | [d1, d2, d3, d4, d5, d6, d7, d8] => { results := [.lit (.bool true)], args := [d1, d2, d3, d4, d5, d6, d7, d8] }
  | _ => none }
def lawS4159BEqualRow : OpenClaim := { program := "ybulkchcm", sum := "400113fece948381cc323b26e14f0aca7e24a13261053d6757e4636d53cb2386", func := "example.com/dastur/dastur/rules.LawS4159BEqual", spec := "lawS4159BEqual", plainKeys := false, apart := false }
def LawS4159BEqualSaid : Prop := lawS4159BEqualRow.holds Yba.pinned (OpenSpec.ofChange lawS4159BEqualSpec)

/-- ITS FALSE NEIGHBOUR: 'it returns false'. Refute it at one input. -/
def lawS4159BEqualWrong : ChangeSpec := { name := "lawS4159BEqual", fn := fun _ => fun
  | [d1, d2, d3, d4, d5, d6, d7, d8] => { results := [.lit (.bool false)], args := [d1, d2, d3, d4, d5, d6, d7, d8] }
  | _ => none }
def LawS4159BEqualWrongFalsely : Prop := lawS4159BEqualRow.holds Yba.pinned (OpenSpec.ofChange lawS4159BEqualWrong)

/-- 'rules.LawS4159CFresh': WHATEVER THE INPUT: true; the input reads as it did. -/
def lawS4159CFreshSpec : ChangeSpec := { name := "lawS4159CFresh", fn := fun _ => fun
  | [d1, d2] => { results := [.lit (.bool true)], args := [d1, d2] }
  | _ => none }
def lawS4159CFreshRow : OpenClaim := { program := "ybulkchcm", sum := "400113fece948381cc323b26e14f0aca7e24a13261053d6757e4636d53cb2386", func := "example.com/dastur/dastur/rules.LawS4159CFresh", spec := "lawS4159CFresh", plainKeys := false, apart := false }
def LawS4159CFreshSaid : Prop := lawS4159CFreshRow.holds Yba.pinned (OpenSpec.ofChange lawS4159CFreshSpec)

/-- ITS FALSE NEIGHBOUR: 'it returns false'. Refute it at one input. -/
def lawS4159CFreshWrong : ChangeSpec := { name := "lawS4159CFresh", fn := fun _ => fun
  | [d1, d2] => { results := [.lit (.bool false)], args := [d1, d2] }
  | _ => none }
def LawS4159CFreshWrongFalsely : Prop := lawS4159CFreshRow.holds Yba.pinned (OpenSpec.ofChange lawS4159CFreshWrong)

/-- 'rules.LawS4159CCached': WHATEVER THE INPUT: true; the input reads as it did. -/
def lawS4159CCachedSpec : ChangeSpec := { name := "lawS4159CCached", fn := fun _ => fun
  | [d1, d2, d3, d4] => { results := [.lit (.bool true)], args := [d1, d2, d3, d4] }
  | _ => none }
def lawS4159CCachedRow : OpenClaim := { program := "ybulkchcm", sum := "400113fece948381cc323b26e14f0aca7e24a13261053d6757e4636d53cb2386", func := "example.com/dastur/dastur/rules.LawS4159CCached", spec := "lawS4159CCached", plainKeys := false, apart := false }
def LawS4159CCachedSaid : Prop := lawS4159CCachedRow.holds Yba.pinned (OpenSpec.ofChange lawS4159CCachedSpec)

/-- ITS FALSE NEIGHBOUR: 'it returns false'. Refute it at one input. -/
def lawS4159CCachedWrong : ChangeSpec := { name := "lawS4159CCached", fn := fun _ => fun
  | [d1, d2, d3, d4] => { results := [.lit (.bool false)], args := [d1, d2, d3, d4] }
  | _ => none }
def LawS4159CCachedWrongFalsely : Prop := lawS4159CCachedRow.holds Yba.pinned (OpenSpec.ofChange lawS4159CCachedWrong)

end Rows
end Go.Proofs.Ybulkchcm
