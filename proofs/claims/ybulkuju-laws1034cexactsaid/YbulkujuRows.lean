/-
  No cell of these rows narrows 'for every input' (looked for: loops, veiled, ifaces, maps, wideKeys, modest, calm, conditions, laid).
  DERIVED. THE GIVEN ROWS OF THIS SEAT. 3 by the template 'for every input the law returns true; each argument reads behind the call as it read before'; 0 by the template 'total and deterministic' (their statements: YbulkujuTotals.lean).
  GIVEN WITH THE SEED: the statements are not yours to turn. If you find one false, say at which input.
  Laid BY PROGRAM, IN A SANDBOX (cutbox-rows.mjs): the forced cells as the released guide's own fill.sh prints them over the translation a3e8b474555c5198… (all of the seat's roots in one cut). By AI agents, Wed Nov 11 2026. No macro, syntax, notation, axiom, sorry.
-/
import Derived.Test.YbulkujuChecked
import GoSem.Claim
import GoSem.ClaimJoined
import GoSem.ClaimMapViews
import Derived.JoinedTies
import Derived.KernelRfl
namespace Go.Proofs.Ybulkuju
/- THE CELL 'sum', in the pinned program and in every row, IS THE sha256 OF THE DUMP (.gsa) THAT YbulkujuProg.lean LOADS. Nothing in Lean hashes anything: it is a label: what it is worth is what the hold of that sum in a sandbox is worth. -/
noncomputable def Yba.pinned : Pinned := { name := "ybulkuju", sum := "a3e8b474555c51988d95a32954c00603ef99cebbaf16dcbf56a7cb24bc00f50e", checked := Yba.checked }
namespace Rows
def none {H : Type} : Left H := { results := [], args := [] }

/-- 'ring.LawS1034CExact': WHATEVER THE INPUT: true; the input reads as it did. -/
def lawS1034CExactSpec : ChangeSpec := { name := "lawS1034CExact", fn := fun _ => fun
  | [d] => { results := [.lit (.bool true)], args := [d] }
  | _ => none }
def lawS1034CExactRow : OpenClaim := { program := "ybulkuju", sum := "a3e8b474555c51988d95a32954c00603ef99cebbaf16dcbf56a7cb24bc00f50e", func := "example.com/ringweave/ringweave/internal/ring.LawS1034CExact", spec := "lawS1034CExact", apart := false }
def LawS1034CExactSaid : Prop := lawS1034CExactRow.holds Yba.pinned (OpenSpec.ofChange lawS1034CExactSpec)

/-- ITS FALSE NEIGHBOUR: 'it returns false'. Refute it at one input. -/
def lawS1034CExactWrong : ChangeSpec := { name := "lawS1034CExact", fn := fun _ => fun
  | [d] => { results := [.lit (.bool false)], args := [d] }
  | _ => none }
def LawS1034CExactWrongFalsely : Prop := lawS1034CExactRow.holds Yba.pinned (OpenSpec.ofChange lawS1034CExactWrong)

/-- 'ring.LawS1034CIdem': WHATEVER THE INPUT: true; the input reads as it did. -/
def lawS1034CIdemSpec : ChangeSpec := { name := "lawS1034CIdem", fn := fun _ => fun
  | [d] => { results := [.lit (.bool true)], args := [d] }
  | _ => none }
def lawS1034CIdemRow : OpenClaim := { program := "ybulkuju", sum := "a3e8b474555c51988d95a32954c00603ef99cebbaf16dcbf56a7cb24bc00f50e", func := "example.com/ringweave/ringweave/internal/ring.LawS1034CIdem", spec := "lawS1034CIdem", apart := false }
def LawS1034CIdemSaid : Prop := lawS1034CIdemRow.holds Yba.pinned (OpenSpec.ofChange lawS1034CIdemSpec)

/-- ITS FALSE NEIGHBOUR: 'it returns false'. Refute it at one input. -/
def lawS1034CIdemWrong : ChangeSpec := { name := "lawS1034CIdem", fn := fun _ => fun
  | [d] => { results := [.lit (.bool false)], args := [d] }
  | _ => none }
def LawS1034CIdemWrongFalsely : Prop := lawS1034CIdemRow.holds Yba.pinned (OpenSpec.ofChange lawS1034CIdemWrong)

/-- 'ring.LawS1034CLeafTree': WHATEVER THE INPUT: true; the input reads as it did. -/
def lawS1034CLeafTreeSpec : ChangeSpec := { name := "lawS1034CLeafTree", fn := fun _ => fun
  | [d1, d2] => { results := [.lit (.bool true)], args := [d1, d2] }
  | _ => none }
def lawS1034CLeafTreeRow : OpenClaim := { program := "ybulkuju", sum := "a3e8b474555c51988d95a32954c00603ef99cebbaf16dcbf56a7cb24bc00f50e", func := "example.com/ringweave/ringweave/internal/ring.LawS1034CLeafTree", spec := "lawS1034CLeafTree", apart := false }
def LawS1034CLeafTreeSaid : Prop := lawS1034CLeafTreeRow.holds Yba.pinned (OpenSpec.ofChange lawS1034CLeafTreeSpec)

/-- ITS FALSE NEIGHBOUR: 'it returns false'. Refute it at one input. -/
def lawS1034CLeafTreeWrong : ChangeSpec := { name := "lawS1034CLeafTree", fn := fun _ => fun
  | [d1, d2] => { results := [.lit (.bool false)], args := [d1, d2] }
  | _ => none }
def LawS1034CLeafTreeWrongFalsely : Prop := lawS1034CLeafTreeRow.holds Yba.pinned (OpenSpec.ofChange lawS1034CLeafTreeWrong)

end Rows
end Go.Proofs.Ybulkuju
