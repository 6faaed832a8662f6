/-
  DERIVED. GIVEN WITH THE SEED: THE CARDS: each row of YbulkchdaFmtRows.lean that lists a variable, with what it lists TIED to the program's text (the seventh form; the later family's looks); each row that meets fmt, with fmt's text TOLD by the authors' own Lean function (tested against real Go, not proved from fmt's source: count such statements apart). THE CARD IS WHAT COUNTS. Prove the row's statement (the work); the ties are given (YbulkchdaFmtTie.lean); close each card by the builder's one call (the guide's Derived/Test/ToyasCard.lean, 'card_holds'). Laid BY PROGRAM, IN A SANDBOX (cutbox-door.mjs). By AI agents, Wed Nov 11 2026. No macro, syntax, notation, axiom, sorry.
-/
import Derived.Test.YbulkchdaFmtRows
import GoSem.ClaimSeven
namespace Go.Proofs.YbulkchdaFmt
namespace Rows

/-- THE TOLD AND TIED CARD OF 'air.LawS4160BBuildModel'. -/
def lawS4160BBuildModelCard : Claim7 := { stood := { row := lawS4160BBuildModelRow, standIns := [], harness := (true, "0d3a6645ae83922e997c8b3b2b4884d10db12205b306669d991c45b3ac29ecac"), looks := false }, told := true, laidByText := true, laidKinds := [.wider], laidTests := true, laidLooks := .later, goes := false }
def LawS4160BBuildModelToldSaid : Prop := Claim7.holds Ybaf.pinned (.plain (OpenSpec.ofChange lawS4160BBuildModelSpec)) lawS4160BBuildModelCard
/-- ITS FALSE NEIGHBOUR. Refute it at one input. -/
def LawS4160BBuildModelToldWrongFalsely : Prop := Claim7.holds Ybaf.pinned (.plain (OpenSpec.ofChange lawS4160BBuildModelWrong)) lawS4160BBuildModelCard

/-- THE TOLD AND TIED CARD OF 'air.LawS4160BCheckAccepts'. -/
def lawS4160BCheckAcceptsCard : Claim7 := { stood := { row := lawS4160BCheckAcceptsRow, standIns := [], harness := (true, "0d3a6645ae83922e997c8b3b2b4884d10db12205b306669d991c45b3ac29ecac"), looks := false }, told := true, laidByText := true, laidKinds := [.wider], laidTests := true, laidLooks := .later, goes := false }
def LawS4160BCheckAcceptsToldSaid : Prop := Claim7.holds Ybaf.pinned (.plain (OpenSpec.ofChange lawS4160BCheckAcceptsSpec)) lawS4160BCheckAcceptsCard
/-- ITS FALSE NEIGHBOUR. Refute it at one input. -/
def LawS4160BCheckAcceptsToldWrongFalsely : Prop := Claim7.holds Ybaf.pinned (.plain (OpenSpec.ofChange lawS4160BCheckAcceptsWrong)) lawS4160BCheckAcceptsCard
end Rows
end Go.Proofs.YbulkchdaFmt
