/-
  NARROWER THAN 'FOR EVERY INPUT', by the rows' own cells (each row's printed sentence says how): LawS4160BBuildModel: laid · LawS4160BCheckAccepts: laid.
  DERIVED. THE GIVEN ROWS OF THIS SEAT. 2 by the template 'for every input the law returns true; each argument reads behind the call as it read before'; 0 by the template 'total and deterministic' (their statements: YbulkchdaFmtTotals.lean).
  GIVEN WITH THE SEED: the statements are not yours to turn. If you find one false, say at which input.
  Laid BY PROGRAM, IN A SANDBOX (cutbox-rows.mjs): the forced cells as the released guide's own fill.sh prints them over the translation 48bbc382323ae342… (all of the seat's roots in one cut). By AI agents, Wed Nov 11 2026. No macro, syntax, notation, axiom, sorry.
-/
import Derived.Test.YbulkchdaFmtChecked
import GoSem.Claim
import GoSem.ClaimJoined
import GoSem.ClaimMapViews
import Derived.JoinedTies
import Derived.KernelRfl
namespace Go.Proofs.YbulkchdaFmt
/- THE CELL 'sum', in the pinned program and in every row, IS THE sha256 OF THE DUMP (.gsa) THAT YbulkchdaFmtProg.lean LOADS. Nothing in Lean hashes anything: it is a label: what it is worth is what the hold of that sum in a sandbox is worth. -/
noncomputable def Ybaf.pinned : Pinned := { name := "ybulkchdafmt", sum := "48bbc382323ae34261ad244e77e12f1cfdc12bb9365a2911e05198d5b5d0bae8", checked := Ybaf.checked }
namespace Rows
def none {H : Type} : Left H := { results := [], args := [] }

/- WHAT THE LISTED PACKAGE-LEVEL VARIABLES READ AS WHEN THE CALL BEGINS. Each datum BY PROGRAM (the guide's laid-datum.mjs) off the statement by which the dump's own 'gosem.cut.vars' lays the variable. In a bare row this is a premise. The card (YbulkchdaFmtCards.lean) ties it to the program's text. -/
def laid_example_com_carnelian_carnelian_internal_air_gWords {H : Type} : DataW H := .agg [.agg [.lit (.int .i64 0), .lit (.int .i64 4), .lit (.int .i64 8), .lit (.int .i64 12)], .agg [.lit (.int .i64 1), .lit (.int .i64 5), .lit (.int .i64 9), .lit (.int .i64 13)], .agg [.lit (.int .i64 2), .lit (.int .i64 6), .lit (.int .i64 10), .lit (.int .i64 14)], .agg [.lit (.int .i64 3), .lit (.int .i64 7), .lit (.int .i64 11), .lit (.int .i64 15)], .agg [.lit (.int .i64 0), .lit (.int .i64 5), .lit (.int .i64 10), .lit (.int .i64 15)], .agg [.lit (.int .i64 1), .lit (.int .i64 6), .lit (.int .i64 11), .lit (.int .i64 12)], .agg [.lit (.int .i64 2), .lit (.int .i64 7), .lit (.int .i64 8), .lit (.int .i64 13)], .agg [.lit (.int .i64 3), .lit (.int .i64 4), .lit (.int .i64 9), .lit (.int .i64 14)]]

/-- 'air.LawS4160BBuildModel': WHATEVER THE INPUT: true; the input reads as it did. -/
def lawS4160BBuildModelSpec : ChangeSpec := { name := "lawS4160BBuildModel", vars := ["example.com/carnelian/carnelian/internal/air.gWords"], fn := fun _ => fun
  | [d1, d2, g1] => { results := [.lit (.bool true)], args := [d1, d2], vars := [g1] }
  | _ => none }
def lawS4160BBuildModelRow : OpenClaim := { program := "ybulkchdafmt", sum := "48bbc382323ae34261ad244e77e12f1cfdc12bb9365a2911e05198d5b5d0bae8", func := "example.com/carnelian/carnelian/internal/air.LawS4160BBuildModel", spec := "lawS4160BBuildModel", stops := ["fmt.errorf", "fmt.Sprintf"], inPlace := ["fmt.Sprintf", "fmt.errorf"], named := ["example.com/carnelian/carnelian/internal/air.gWords"], apart := false, laid := [("example.com/carnelian/carnelian/internal/air.gWords", laid_example_com_carnelian_carnelian_internal_air_gWords)] }
/-- NO THEOREM (fmt's text is open here; it may be false): for the released tool's asking of the row's closed facts alone. THE STATEMENT IS 'LawS4160BBuildModelToldSaid' (YbulkchdaFmtCards.lean). -/
def LawS4160BBuildModelFormAsk : Prop := lawS4160BBuildModelRow.holds Ybaf.pinned (OpenSpec.ofChange lawS4160BBuildModelSpec)

/-- ITS FALSE NEIGHBOUR: 'it returns false'. Refute it at one input. -/
def lawS4160BBuildModelWrong : ChangeSpec := { name := "lawS4160BBuildModel", vars := ["example.com/carnelian/carnelian/internal/air.gWords"], fn := fun _ => fun
  | [d1, d2, g1] => { results := [.lit (.bool false)], args := [d1, d2], vars := [g1] }
  | _ => none }
def LawS4160BBuildModelWrongFormAsk : Prop := lawS4160BBuildModelRow.holds Ybaf.pinned (OpenSpec.ofChange lawS4160BBuildModelWrong)

/-- 'air.LawS4160BCheckAccepts': WHATEVER THE INPUT: true; the input reads as it did. -/
def lawS4160BCheckAcceptsSpec : ChangeSpec := { name := "lawS4160BCheckAccepts", vars := ["example.com/carnelian/carnelian/internal/air.gWords"], fn := fun _ => fun
  | [d1, d2, g1] => { results := [.lit (.bool true)], args := [d1, d2], vars := [g1] }
  | _ => none }
def lawS4160BCheckAcceptsRow : OpenClaim := { program := "ybulkchdafmt", sum := "48bbc382323ae34261ad244e77e12f1cfdc12bb9365a2911e05198d5b5d0bae8", func := "example.com/carnelian/carnelian/internal/air.LawS4160BCheckAccepts", spec := "lawS4160BCheckAccepts", stops := ["fmt.errorf", "fmt.Sprintf"], inPlace := ["fmt.Sprintf", "fmt.errorf"], named := ["example.com/carnelian/carnelian/internal/air.gWords"], apart := false, laid := [("example.com/carnelian/carnelian/internal/air.gWords", laid_example_com_carnelian_carnelian_internal_air_gWords)] }
/-- NO THEOREM (fmt's text is open here; it may be false): for the released tool's asking of the row's closed facts alone. THE STATEMENT IS 'LawS4160BCheckAcceptsToldSaid' (YbulkchdaFmtCards.lean). -/
def LawS4160BCheckAcceptsFormAsk : Prop := lawS4160BCheckAcceptsRow.holds Ybaf.pinned (OpenSpec.ofChange lawS4160BCheckAcceptsSpec)

/-- ITS FALSE NEIGHBOUR: 'it returns false'. Refute it at one input. -/
def lawS4160BCheckAcceptsWrong : ChangeSpec := { name := "lawS4160BCheckAccepts", vars := ["example.com/carnelian/carnelian/internal/air.gWords"], fn := fun _ => fun
  | [d1, d2, g1] => { results := [.lit (.bool false)], args := [d1, d2], vars := [g1] }
  | _ => none }
def LawS4160BCheckAcceptsWrongFormAsk : Prop := lawS4160BCheckAcceptsRow.holds Ybaf.pinned (OpenSpec.ofChange lawS4160BCheckAcceptsWrong)

end Rows
end Go.Proofs.YbulkchdaFmt
