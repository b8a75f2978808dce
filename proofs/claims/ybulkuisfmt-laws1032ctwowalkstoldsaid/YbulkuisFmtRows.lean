/-
  NARROWER THAN 'FOR EVERY INPUT', by the rows' own cells (each row's printed sentence says how): LawS1032CTwoWalks: laid.
  DERIVED. THE GIVEN ROWS OF THIS SEAT. 2 by the template 'for every input the law returns true; each argument reads behind the call as it read before'; 0 by the template 'total and deterministic' (their statements: YbulkuisFmtTotals.lean).
  GIVEN WITH THE SEED: the statements are not yours to turn. If you find one false, say at which input.
  Laid BY PROGRAM, IN A SANDBOX (cutbox-rows.mjs): the forced cells as the released guide's own fill.sh prints them over the translation c73fed3a5e305349… (all of the seat's roots in one cut). By AI agents, Wed Nov 11 2026. No macro, syntax, notation, axiom, sorry.
-/
import Derived.Test.YbulkuisFmtChecked
import GoSem.Claim
import GoSem.ClaimJoined
import GoSem.ClaimMapViews
import Derived.JoinedTies
import Derived.KernelRfl
namespace Go.Proofs.YbulkuisFmt
/- THE CELL 'sum', in the pinned program and in every row, IS THE sha256 OF THE DUMP (.gsa) THAT YbulkuisFmtProg.lean LOADS. Nothing in Lean hashes anything: it is a label: what it is worth is what the hold of that sum in a sandbox is worth. -/
noncomputable def Ybaf.pinned : Pinned := { name := "ybulkuisfmt", sum := "c73fed3a5e305349fbf9220354882284fb597553dfafd39a34fb70be4f9ac4e1", checked := Ybaf.checked }
namespace Rows
def none {H : Type} : Left H := { results := [], args := [] }

/- WHAT THE LISTED PACKAGE-LEVEL VARIABLES READ AS WHEN THE CALL BEGINS. Each datum BY PROGRAM (the guide's laid-datum.mjs) off the statement by which the dump's own 'gosem.cut.vars' lays the variable. In a bare row this is a premise. The card (YbulkuisFmtCards.lean) ties it to the program's text. -/
def laid_example_com_antecede_antecede_limitFields {H : Type} : DataW H := .agg [.agg [.lit (.string [69, 110, 116, 114, 105, 101, 115]), .lit (.int .i64 65536)], .agg [.lit (.string [65, 99, 116, 111, 114, 66, 121, 116, 101, 115]), .lit (.int .i64 1024)], .agg [.lit (.string [76, 105, 110, 101, 66, 121, 116, 101, 115]), .lit (.int .i64 16777216)], .agg [.lit (.string [75, 101, 121, 115]), .lit (.int .i64 1048576)], .agg [.lit (.string [86, 97, 108, 117, 101, 115]), .lit (.int .i64 65536)], .agg [.lit (.string [67, 108, 97, 105, 109, 115]), .lit (.int .i64 65536)], .agg [.lit (.string [75, 101, 121, 66, 121, 116, 101, 115]), .lit (.int .i64 65536)], .agg [.lit (.string [86, 97, 108, 117, 101, 66, 121, 116, 101, 115]), .lit (.int .i64 16777216)], .agg [.lit (.string [82, 101, 97, 100, 115]), .lit (.int .i64 65536)], .agg [.lit (.string [87, 114, 105, 116, 101, 115]), .lit (.int .i64 65536)], .agg [.lit (.string [73, 68, 66, 121, 116, 101, 115]), .lit (.int .i64 1024)], .agg [.lit (.string [75, 105, 110, 100, 66, 121, 116, 101, 115]), .lit (.int .i64 1024)], .agg [.lit (.string [65, 116, 116, 114, 105, 98, 117, 116, 101, 66, 121, 116, 101, 115]), .lit (.int .i64 1024)], .agg [.lit (.string [65, 114, 103, 115, 66, 121, 116, 101, 115]), .lit (.int .i64 16777216)], .agg [.lit (.string [68, 97, 116, 111, 109, 115]), .lit (.int .i64 1048576)], .agg [.lit (.string [67, 111, 109, 109, 105, 116, 115]), .lit (.int .i64 1048576)], .agg [.lit (.string [77, 101, 115, 115, 97, 103, 101, 66, 121, 116, 101, 115]), .lit (.int .i64 65536)]]

/-- 'antecede.LawS1032BVerdicts': WHATEVER THE INPUT: true; the input reads as it did. -/
def lawS1032BVerdictsSpec : ChangeSpec := { name := "lawS1032BVerdicts", fn := fun _ => fun
  | [d1, d2, d3, d4] => { results := [.lit (.bool true)], args := [d1, d2, d3, d4] }
  | _ => none }
def lawS1032BVerdictsRow : OpenClaim := { program := "ybulkuisfmt", sum := "c73fed3a5e305349fbf9220354882284fb597553dfafd39a34fb70be4f9ac4e1", func := "example.com/antecede/antecede.LawS1032BVerdicts", spec := "lawS1032BVerdicts", stops := ["fmt.Sprintf"], inPlace := ["fmt.Sprintf", "internal/bytealg.Compare"], apart := false }
/-- NO THEOREM (fmt's text is open here; it may be false): for the released tool's asking of the row's closed facts alone. THE STATEMENT IS 'LawS1032BVerdictsToldSaid' (YbulkuisFmtCards.lean). -/
def LawS1032BVerdictsFormAsk : Prop := lawS1032BVerdictsRow.holds Ybaf.pinned (OpenSpec.ofChange lawS1032BVerdictsSpec)

/-- ITS FALSE NEIGHBOUR: 'it returns false'. Refute it at one input. -/
def lawS1032BVerdictsWrong : ChangeSpec := { name := "lawS1032BVerdicts", fn := fun _ => fun
  | [d1, d2, d3, d4] => { results := [.lit (.bool false)], args := [d1, d2, d3, d4] }
  | _ => none }
def LawS1032BVerdictsWrongFormAsk : Prop := lawS1032BVerdictsRow.holds Ybaf.pinned (OpenSpec.ofChange lawS1032BVerdictsWrong)

/-- 'antecede.LawS1032CTwoWalks': WHATEVER THE INPUT: true; the input reads as it did. -/
def lawS1032CTwoWalksSpec : ChangeSpec := { name := "lawS1032CTwoWalks", vars := ["example.com/antecede/antecede.limitFields"], fn := fun _ => fun
  | [d1, d2, d3, d4, d5, d6, d7, g1] => { results := [.lit (.bool true)], args := [d1, d2, d3, d4, d5, d6, d7], vars := [g1] }
  | _ => none }
def lawS1032CTwoWalksRow : OpenClaim := { program := "ybulkuisfmt", sum := "c73fed3a5e305349fbf9220354882284fb597553dfafd39a34fb70be4f9ac4e1", func := "example.com/antecede/antecede.LawS1032CTwoWalks", spec := "lawS1032CTwoWalks", stops := ["fmt.Sprintf"], inPlace := ["fmt.Sprintf"], unfollowed := true, recurses := true, named := ["example.com/antecede/antecede.limitFields"], apart := false, laid := [("example.com/antecede/antecede.limitFields", laid_example_com_antecede_antecede_limitFields)] }
/-- NO THEOREM (fmt's text is open here; it may be false): for the released tool's asking of the row's closed facts alone. THE STATEMENT IS 'LawS1032CTwoWalksToldSaid' (YbulkuisFmtCards.lean). -/
def LawS1032CTwoWalksFormAsk : Prop := lawS1032CTwoWalksRow.holds Ybaf.pinned (OpenSpec.ofChange lawS1032CTwoWalksSpec)

/-- ITS FALSE NEIGHBOUR: 'it returns false'. Refute it at one input. -/
def lawS1032CTwoWalksWrong : ChangeSpec := { name := "lawS1032CTwoWalks", vars := ["example.com/antecede/antecede.limitFields"], fn := fun _ => fun
  | [d1, d2, d3, d4, d5, d6, d7, g1] => { results := [.lit (.bool false)], args := [d1, d2, d3, d4, d5, d6, d7], vars := [g1] }
  | _ => none }
def LawS1032CTwoWalksWrongFormAsk : Prop := lawS1032CTwoWalksRow.holds Ybaf.pinned (OpenSpec.ofChange lawS1032CTwoWalksWrong)

end Rows
end Go.Proofs.YbulkuisFmt
