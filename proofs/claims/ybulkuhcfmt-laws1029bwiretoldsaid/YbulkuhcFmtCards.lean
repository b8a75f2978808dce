/-
  DERIVED. GIVEN WITH THE SEED: THE CARDS: each row of YbulkuhcFmtRows.lean that lists a variable, with what it lists TIED to the program's text (the seventh form; the later family's looks); each row that meets fmt, with fmt's text TOLD by the authors' own Lean function (tested against real Go, not proved from fmt's source: count such statements apart). THE CARD IS WHAT COUNTS. Prove the row's statement (the work); the ties are given (YbulkuhcFmtTie.lean); close each card by the builder's one call (the guide's Derived/Test/ToyasCard.lean, 'card_holds'). Laid BY PROGRAM, IN A SANDBOX (cutbox-door.mjs). By AI agents, Wed Nov 11 2026. No macro, syntax, notation, axiom, sorry.
-/
import Derived.Test.YbulkuhcFmtRows
import GoSem.ClaimSeven
namespace Go.Proofs.YbulkuhcFmt
namespace Rows

/-- THE TOLD CARD OF 'wardcast.LawS1029AEdges'. -/
def lawS1029AEdgesCard : Claim7 := { stood := { row := lawS1029AEdgesRow, standIns := [], harness := (true, "eb973bb6953af4ac0a0c3491f27f50c7dcb6c7d828610a261e759544c771688d"), looks := true }, told := true, goes := false }
def LawS1029AEdgesToldSaid : Prop := Claim7.holds Ybaf.pinned (.plain (OpenSpec.ofChange lawS1029AEdgesSpec)) lawS1029AEdgesCard
/-- ITS FALSE NEIGHBOUR. Refute it at one input. -/
def LawS1029AEdgesToldWrongFalsely : Prop := Claim7.holds Ybaf.pinned (.plain (OpenSpec.ofChange lawS1029AEdgesWrong)) lawS1029AEdgesCard

/-- THE TOLD CARD OF 'wardcast.LawS1029ASwap'. -/
def lawS1029ASwapCard : Claim7 := { stood := { row := lawS1029ASwapRow, standIns := [], harness := (true, "eb973bb6953af4ac0a0c3491f27f50c7dcb6c7d828610a261e759544c771688d"), looks := true }, told := true, goes := false }
def LawS1029ASwapToldSaid : Prop := Claim7.holds Ybaf.pinned (.plain (OpenSpec.ofChange lawS1029ASwapSpec)) lawS1029ASwapCard
/-- ITS FALSE NEIGHBOUR. Refute it at one input. -/
def LawS1029ASwapToldWrongFalsely : Prop := Claim7.holds Ybaf.pinned (.plain (OpenSpec.ofChange lawS1029ASwapWrong)) lawS1029ASwapCard

/-- THE TOLD AND TIED CARD OF 'wardcast.LawS1029BModel'. -/
def lawS1029BModelCard : Claim7 := { stood := { row := lawS1029BModelRow, standIns := [], harness := (true, "eb973bb6953af4ac0a0c3491f27f50c7dcb6c7d828610a261e759544c771688d"), looks := true }, told := true, laidByText := true, laidKinds := [.sentinel], laidTests := true, laidLooks := .later, goes := false }
def LawS1029BModelToldSaid : Prop := Claim7.holds Ybaf.pinned (.plain (OpenSpec.ofChange lawS1029BModelSpec)) lawS1029BModelCard
/-- ITS FALSE NEIGHBOUR. Refute it at one input. -/
def LawS1029BModelToldWrongFalsely : Prop := Claim7.holds Ybaf.pinned (.plain (OpenSpec.ofChange lawS1029BModelWrong)) lawS1029BModelCard

/-- THE TOLD AND TIED CARD OF 'wardcast.LawS1029BWire'. -/
def lawS1029BWireCard : Claim7 := { stood := { row := lawS1029BWireRow, standIns := [], harness := (true, "eb973bb6953af4ac0a0c3491f27f50c7dcb6c7d828610a261e759544c771688d"), looks := true }, told := true, laidByText := true, laidKinds := [.sentinel], laidTests := true, laidLooks := .later, goes := false }
def LawS1029BWireToldSaid : Prop := Claim7.holds Ybaf.pinned (.plain (OpenSpec.ofChange lawS1029BWireSpec)) lawS1029BWireCard
/-- ITS FALSE NEIGHBOUR. Refute it at one input. -/
def LawS1029BWireToldWrongFalsely : Prop := Claim7.holds Ybaf.pinned (.plain (OpenSpec.ofChange lawS1029BWireWrong)) lawS1029BWireCard
end Rows
end Go.Proofs.YbulkuhcFmt
