/-
  DERIVED. GIVEN WITH THE SEED: THE CARDS: each row of YbulkuisFmtRows.lean that lists a variable, with what it lists TIED to the program's text (the seventh form; the later family's looks); each row that meets fmt, with fmt's text TOLD by the authors' own Lean function (tested against real Go, not proved from fmt's source: count such statements apart). THE CARD IS WHAT COUNTS. Prove the row's statement (the work); the ties are given (YbulkuisFmtTie.lean); close each card by the builder's one call (the guide's Derived/Test/ToyasCard.lean, 'card_holds'). Laid BY PROGRAM, IN A SANDBOX (cutbox-door.mjs). By AI agents, Wed Nov 11 2026. No macro, syntax, notation, axiom, sorry.
-/
import Derived.Test.YbulkuisFmtRows
import GoSem.ClaimSeven
namespace Go.Proofs.YbulkuisFmt
namespace Rows

/-- THE TOLD CARD OF 'antecede.LawS1032BVerdicts'. -/
def lawS1032BVerdictsCard : Claim7 := { stood := { row := lawS1032BVerdictsRow, standIns := [], harness := (true, "b5833cc397b955c4b80f343ea4ec69c9f29f7f1211ce60c5aa9a9933e9d7e79b"), looks := true }, told := true, goes := false }
def LawS1032BVerdictsToldSaid : Prop := Claim7.holds Ybaf.pinned (.plain (OpenSpec.ofChange lawS1032BVerdictsSpec)) lawS1032BVerdictsCard
/-- ITS FALSE NEIGHBOUR. Refute it at one input. -/
def LawS1032BVerdictsToldWrongFalsely : Prop := Claim7.holds Ybaf.pinned (.plain (OpenSpec.ofChange lawS1032BVerdictsWrong)) lawS1032BVerdictsCard

/-- THE TOLD AND TIED CARD OF 'antecede.LawS1032CTwoWalks'. -/
def lawS1032CTwoWalksCard : Claim7 := { stood := { row := lawS1032CTwoWalksRow, standIns := [], harness := (true, "b5833cc397b955c4b80f343ea4ec69c9f29f7f1211ce60c5aa9a9933e9d7e79b"), looks := true }, told := true, laidByText := true, laidKinds := [.data], laidTests := true, laidLooks := .later, goes := false }
def LawS1032CTwoWalksToldSaid : Prop := Claim7.holds Ybaf.pinned (.plain (OpenSpec.ofChange lawS1032CTwoWalksSpec)) lawS1032CTwoWalksCard
/-- ITS FALSE NEIGHBOUR. Refute it at one input. -/
def LawS1032CTwoWalksToldWrongFalsely : Prop := Claim7.holds Ybaf.pinned (.plain (OpenSpec.ofChange lawS1032CTwoWalksWrong)) lawS1032CTwoWalksCard
end Rows
end Go.Proofs.YbulkuisFmt
