/-
  NARROWER THAN 'FOR EVERY INPUT', by the rows' own cells (each row's printed sentence says how): LawS1029BModel: ifaces, laid · LawS1029BWire: ifaces, laid.
  DERIVED. THE GIVEN ROWS OF THIS SEAT. 4 by the template 'for every input the law returns true; each argument reads behind the call as it read before'; 0 by the template 'total and deterministic' (their statements: YbulkuhcFmtTotals.lean).
  GIVEN WITH THE SEED: the statements are not yours to turn. If you find one false, say at which input.
  Laid BY PROGRAM, IN A SANDBOX (cutbox-rows.mjs): the forced cells as the released guide's own fill.sh prints them over the translation a5234ee847e87d06… (all of the seat's roots in one cut). By AI agents, Wed Nov 11 2026. No macro, syntax, notation, axiom, sorry.
-/
import Derived.Test.YbulkuhcFmtChecked
import GoSem.Claim
import GoSem.ClaimJoined
import GoSem.ClaimMapViews
import Derived.JoinedTies
import Derived.KernelRfl
namespace Go.Proofs.YbulkuhcFmt
/- THE CELL 'sum', in the pinned program and in every row, IS THE sha256 OF THE DUMP (.gsa) THAT YbulkuhcFmtProg.lean LOADS. Nothing in Lean hashes anything: it is a label: what it is worth is what the hold of that sum in a sandbox is worth. -/
noncomputable def Ybaf.pinned : Pinned := { name := "ybulkuhcfmt", sum := "a5234ee847e87d069610c3a9c9e021ef9b0a06af523bee9ffa5d953a86da0294", checked := Ybaf.checked }
namespace Rows
def none {H : Type} : Left H := { results := [], args := [] }

/- WHAT THE LISTED PACKAGE-LEVEL VARIABLES READ AS WHEN THE CALL BEGINS. Each datum BY PROGRAM (the guide's laid-datum.mjs) off the statement by which the dump's own 'gosem.cut.vars' lays the variable. In a bare row this is a premise. The card (YbulkuhcFmtCards.lean) ties it to the program's text. -/
def laid_example_com_wardcast_wardcast_errCut {H : Type} : DataW H := .iface "*errors.errorString" (.ptr (.agg [.lit (.string [112, 97, 121, 108, 111, 97, 100, 32, 101, 110, 100, 115, 32, 105, 110, 115, 105, 100, 101, 32, 97, 32, 102, 105, 101, 108, 100])]))

/-- 'wardcast.LawS1029AEdges': WHATEVER THE INPUT: true; the input reads as it did. -/
def lawS1029AEdgesSpec : ChangeSpec := { name := "lawS1029AEdges", fn := fun _ => fun
  | [d1, d2, d3] => { results := [.lit (.bool true)], args := [d1, d2, d3] }
  | _ => none }
def lawS1029AEdgesRow : OpenClaim := { program := "ybulkuhcfmt", sum := "a5234ee847e87d069610c3a9c9e021ef9b0a06af523bee9ffa5d953a86da0294", func := "example.com/wardcast/wardcast.LawS1029AEdges", spec := "lawS1029AEdges", stops := ["fmt.Sprintf", "fmt.errorf"], inPlace := ["fmt.Sprintf"], apart := false }
/-- NO THEOREM (fmt's text is open here; it may be false): for the released tool's asking of the row's closed facts alone. THE STATEMENT IS 'LawS1029AEdgesToldSaid' (YbulkuhcFmtCards.lean). -/
def LawS1029AEdgesFormAsk : Prop := lawS1029AEdgesRow.holds Ybaf.pinned (OpenSpec.ofChange lawS1029AEdgesSpec)

/-- ITS FALSE NEIGHBOUR: 'it returns false'. Refute it at one input. -/
def lawS1029AEdgesWrong : ChangeSpec := { name := "lawS1029AEdges", fn := fun _ => fun
  | [d1, d2, d3] => { results := [.lit (.bool false)], args := [d1, d2, d3] }
  | _ => none }
def LawS1029AEdgesWrongFormAsk : Prop := lawS1029AEdgesRow.holds Ybaf.pinned (OpenSpec.ofChange lawS1029AEdgesWrong)

/-- 'wardcast.LawS1029ASwap': WHATEVER THE INPUT: true; the input reads as it did. -/
def lawS1029ASwapSpec : ChangeSpec := { name := "lawS1029ASwap", fn := fun _ => fun
  | [d1, d2] => { results := [.lit (.bool true)], args := [d1, d2] }
  | _ => none }
def lawS1029ASwapRow : OpenClaim := { program := "ybulkuhcfmt", sum := "a5234ee847e87d069610c3a9c9e021ef9b0a06af523bee9ffa5d953a86da0294", func := "example.com/wardcast/wardcast.LawS1029ASwap", spec := "lawS1029ASwap", stops := ["fmt.Sprintf", "fmt.errorf"], inPlace := ["fmt.Sprintf"], apart := false }
/-- NO THEOREM (fmt's text is open here; it may be false): for the released tool's asking of the row's closed facts alone. THE STATEMENT IS 'LawS1029ASwapToldSaid' (YbulkuhcFmtCards.lean). -/
def LawS1029ASwapFormAsk : Prop := lawS1029ASwapRow.holds Ybaf.pinned (OpenSpec.ofChange lawS1029ASwapSpec)

/-- ITS FALSE NEIGHBOUR: 'it returns false'. Refute it at one input. -/
def lawS1029ASwapWrong : ChangeSpec := { name := "lawS1029ASwap", fn := fun _ => fun
  | [d1, d2] => { results := [.lit (.bool false)], args := [d1, d2] }
  | _ => none }
def LawS1029ASwapWrongFormAsk : Prop := lawS1029ASwapRow.holds Ybaf.pinned (OpenSpec.ofChange lawS1029ASwapWrong)

/-- 'wardcast.LawS1029BModel': WHATEVER THE INPUT: true; the input reads as it did. -/
def lawS1029BModelSpec : ChangeSpec := { name := "lawS1029BModel", vars := ["example.com/wardcast/wardcast.errCut"], fn := fun _ => fun
  | [d, g1] => { results := [.lit (.bool true)], args := [d], vars := [g1] }
  | _ => none }
def lawS1029BModelRow : OpenClaim := { program := "ybulkuhcfmt", sum := "a5234ee847e87d069610c3a9c9e021ef9b0a06af523bee9ffa5d953a86da0294", func := "example.com/wardcast/wardcast.LawS1029BModel", spec := "lawS1029BModel", stops := ["fmt.Sprintf", "fmt.errorf"], inPlace := ["fmt.errorf"], named := ["example.com/wardcast/wardcast.errCut", "encoding/binary.BigEndian"], ifaces := true, apart := false, laid := [("example.com/wardcast/wardcast.errCut", laid_example_com_wardcast_wardcast_errCut)] }
/-- NO THEOREM (fmt's text is open here; it may be false): for the released tool's asking of the row's closed facts alone. THE STATEMENT IS 'LawS1029BModelToldSaid' (YbulkuhcFmtCards.lean). -/
def LawS1029BModelFormAsk : Prop := lawS1029BModelRow.holds Ybaf.pinned (OpenSpec.ofChange lawS1029BModelSpec)

/-- ITS FALSE NEIGHBOUR: 'it returns false'. Refute it at one input. -/
def lawS1029BModelWrong : ChangeSpec := { name := "lawS1029BModel", vars := ["example.com/wardcast/wardcast.errCut"], fn := fun _ => fun
  | [d, g1] => { results := [.lit (.bool false)], args := [d], vars := [g1] }
  | _ => none }
def LawS1029BModelWrongFormAsk : Prop := lawS1029BModelRow.holds Ybaf.pinned (OpenSpec.ofChange lawS1029BModelWrong)

/-- 'wardcast.LawS1029BWire': WHATEVER THE INPUT: true; the input reads as it did. -/
def lawS1029BWireSpec : ChangeSpec := { name := "lawS1029BWire", vars := ["example.com/wardcast/wardcast.errCut"], fn := fun _ => fun
  | [d1, d2, d3, g1] => { results := [.lit (.bool true)], args := [d1, d2, d3], vars := [g1] }
  | _ => none }
def lawS1029BWireRow : OpenClaim := { program := "ybulkuhcfmt", sum := "a5234ee847e87d069610c3a9c9e021ef9b0a06af523bee9ffa5d953a86da0294", func := "example.com/wardcast/wardcast.LawS1029BWire", spec := "lawS1029BWire", stops := ["fmt.Sprintf", "fmt.errorf"], inPlace := ["fmt.errorf"], named := ["example.com/wardcast/wardcast.errCut", "encoding/binary.BigEndian"], ifaces := true, apart := false, laid := [("example.com/wardcast/wardcast.errCut", laid_example_com_wardcast_wardcast_errCut)] }
/-- NO THEOREM (fmt's text is open here; it may be false): for the released tool's asking of the row's closed facts alone. THE STATEMENT IS 'LawS1029BWireToldSaid' (YbulkuhcFmtCards.lean). -/
def LawS1029BWireFormAsk : Prop := lawS1029BWireRow.holds Ybaf.pinned (OpenSpec.ofChange lawS1029BWireSpec)

/-- ITS FALSE NEIGHBOUR: 'it returns false'. Refute it at one input. -/
def lawS1029BWireWrong : ChangeSpec := { name := "lawS1029BWire", vars := ["example.com/wardcast/wardcast.errCut"], fn := fun _ => fun
  | [d1, d2, d3, g1] => { results := [.lit (.bool false)], args := [d1, d2, d3], vars := [g1] }
  | _ => none }
def LawS1029BWireWrongFormAsk : Prop := lawS1029BWireRow.holds Ybaf.pinned (OpenSpec.ofChange lawS1029BWireWrong)

end Rows
end Go.Proofs.YbulkuhcFmt
