/-
  No cell of these rows narrows 'for every input' (looked for: loops, veiled, ifaces, maps, wideKeys, modest, calm, conditions, laid).
  DERIVED. THE GIVEN ROWS OF THIS SEAT. 4 by the template 'for every input the law returns true; each argument reads behind the call as it read before'; 0 by the template 'total and deterministic' (their statements: YbulkugaTotals.lean).
  GIVEN WITH THE SEED: the statements are not yours to turn. If you find one false, say at which input.
  Laid BY PROGRAM, IN A SANDBOX (cutbox-rows.mjs): the forced cells as the released guide's own fill.sh prints them over the translation b8316216bcb4a412… (all of the seat's roots in one cut). By AI agents, Wed Nov 11 2026. No macro, syntax, notation, axiom, sorry.
-/
import Derived.Test.YbulkugaChecked
import GoSem.Claim
import GoSem.ClaimJoined
import GoSem.ClaimMapViews
import Derived.JoinedTies
import Derived.KernelRfl
namespace Go.Proofs.Ybulkuga
/- THE CELL 'sum', in the pinned program and in every row, IS THE sha256 OF THE DUMP (.gsa) THAT YbulkugaProg.lean LOADS. Nothing in Lean hashes anything: it is a label: what it is worth is what the hold of that sum in a sandbox is worth. -/
noncomputable def Yba.pinned : Pinned := { name := "ybulkuga", sum := "b8316216bcb4a412d998e364704f7320b7b6a96ce90fd76f785bef886067a7b2", checked := Yba.checked }
namespace Rows
def none {H : Type} : Left H := { results := [], args := [] }

/-- 'linear.LawS1027BShape': WHATEVER THE INPUT: true; the input reads as it did. -/
def lawS1027BShapeSpec : ChangeSpec := { name := "lawS1027BShape", fn := fun _ => fun
  | [d] => { results := [.lit (.bool true)], args := [d] }
  | _ => none }
def lawS1027BShapeRow : OpenClaim := { program := "ybulkuga", sum := "b8316216bcb4a412d998e364704f7320b7b6a96ce90fd76f785bef886067a7b2", func := "example.com/antecede/antecede/linear.LawS1027BShape", spec := "lawS1027BShape", apart := false }
def LawS1027BShapeSaid : Prop := lawS1027BShapeRow.holds Yba.pinned (OpenSpec.ofChange lawS1027BShapeSpec)

/-- ITS FALSE NEIGHBOUR: 'it returns false'. Refute it at one input. -/
def lawS1027BShapeWrong : ChangeSpec := { name := "lawS1027BShape", fn := fun _ => fun
  | [d] => { results := [.lit (.bool false)], args := [d] }
  | _ => none }
def LawS1027BShapeWrongFalsely : Prop := lawS1027BShapeRow.holds Yba.pinned (OpenSpec.ofChange lawS1027BShapeWrong)

/-- 'linear.LawS1027BRangeMax': WHATEVER THE INPUT: true; the input reads as it did. -/
def lawS1027BRangeMaxSpec : ChangeSpec := { name := "lawS1027BRangeMax", fn := fun _ => fun
  | [d] => { results := [.lit (.bool true)], args := [d] }
  | _ => none }
def lawS1027BRangeMaxRow : OpenClaim := { program := "ybulkuga", sum := "b8316216bcb4a412d998e364704f7320b7b6a96ce90fd76f785bef886067a7b2", func := "example.com/antecede/antecede/linear.LawS1027BRangeMax", spec := "lawS1027BRangeMax", apart := false }
def LawS1027BRangeMaxSaid : Prop := lawS1027BRangeMaxRow.holds Yba.pinned (OpenSpec.ofChange lawS1027BRangeMaxSpec)

/-- ITS FALSE NEIGHBOUR: 'it returns false'. Refute it at one input. -/
def lawS1027BRangeMaxWrong : ChangeSpec := { name := "lawS1027BRangeMax", fn := fun _ => fun
  | [d] => { results := [.lit (.bool false)], args := [d] }
  | _ => none }
def LawS1027BRangeMaxWrongFalsely : Prop := lawS1027BRangeMaxRow.holds Yba.pinned (OpenSpec.ofChange lawS1027BRangeMaxWrong)

/-- 'delivery.LawS1027CAgrees': WHATEVER THE INPUT: true; the input reads as it did. -/
def lawS1027CAgreesSpec : ChangeSpec := { name := "lawS1027CAgrees", fn := fun _ => fun
  | [d1, d2] => { results := [.lit (.bool true)], args := [d1, d2] }
  | _ => none }
def lawS1027CAgreesRow : OpenClaim := { program := "ybulkuga", sum := "b8316216bcb4a412d998e364704f7320b7b6a96ce90fd76f785bef886067a7b2", func := "example.com/antecede/antecede/delivery.LawS1027CAgrees", spec := "lawS1027CAgrees", apart := false }
def LawS1027CAgreesSaid : Prop := lawS1027CAgreesRow.holds Yba.pinned (OpenSpec.ofChange lawS1027CAgreesSpec)

/-- ITS FALSE NEIGHBOUR: 'it returns false'. Refute it at one input. -/
def lawS1027CAgreesWrong : ChangeSpec := { name := "lawS1027CAgrees", fn := fun _ => fun
  | [d1, d2] => { results := [.lit (.bool false)], args := [d1, d2] }
  | _ => none }
def LawS1027CAgreesWrongFalsely : Prop := lawS1027CAgreesRow.holds Yba.pinned (OpenSpec.ofChange lawS1027CAgreesWrong)

/-- 'delivery.LawS1027CBuilt': WHATEVER THE INPUT: true; the input reads as it did. -/
def lawS1027CBuiltSpec : ChangeSpec := { name := "lawS1027CBuilt", fn := fun _ => fun
  | [d1, d2] => { results := [.lit (.bool true)], args := [d1, d2] }
  | _ => none }
def lawS1027CBuiltRow : OpenClaim := { program := "ybulkuga", sum := "b8316216bcb4a412d998e364704f7320b7b6a96ce90fd76f785bef886067a7b2", func := "example.com/antecede/antecede/delivery.LawS1027CBuilt", spec := "lawS1027CBuilt", apart := false }
def LawS1027CBuiltSaid : Prop := lawS1027CBuiltRow.holds Yba.pinned (OpenSpec.ofChange lawS1027CBuiltSpec)

/-- ITS FALSE NEIGHBOUR: 'it returns false'. Refute it at one input. -/
def lawS1027CBuiltWrong : ChangeSpec := { name := "lawS1027CBuilt", fn := fun _ => fun
  | [d1, d2] => { results := [.lit (.bool false)], args := [d1, d2] }
  | _ => none }
def LawS1027CBuiltWrongFalsely : Prop := lawS1027CBuiltRow.holds Yba.pinned (OpenSpec.ofChange lawS1027CBuiltWrong)

end Rows
end Go.Proofs.Ybulkuga
