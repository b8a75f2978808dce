/-
  What the two proofs over parsePVLevel share: closed facts at this dump, the start at which errCut is laid, a payload opened.
-/
import Derived.Test.YbulkuhcFmtParse
import Derived.Test.YbulkuhcFmtCards
import Derived.Test.YbulkuhcFmtTie
import Derived.ProofKit
import Derived.OpenShut
import Derived.Carry
import Derived.OpenVars
import Derived.Stop.JoinedAt
import Derived.Stop.JoinedTold
import Derived.Stop.Texts
import Derived.Stop.LaidErr
import Derived.MakeChecks
import Derived.SevenTiedAt
namespace Go.Proofs.YbulkuhcFmt
open Go.ChangeShapes Go.WideShapes Go.ChangeAt Go.RowKit Go.Kit
open Go.Extern.Stop Go.Stop Go.Extern
set_option linter.unusedVariables false

theorem Ybaf.own : ownKnob Ybaf.prog.godebug = none := by kernel_rfl
theorem Ybaf.laidOut : laidOutB Ybaf.pinned.checked.prog = true := by kernel_rfl
theorem Ybaf.stops : Ybaf.pinned.checked.prog.stops = ["fmt.Sprintf", "fmt.errorf"] := by kernel_rfl
theorem Ybaf.stopKnobs : Ybaf.pinned.checked.prog.stopKnobs = [] := by kernel_rfl
theorem Ybaf.quiet (os : Os) : Stop.quiet Ybaf.pinned.checked.prog os := by
  intro k hk
  rw [Ybaf.stopKnobs] at hk
  cases hk

/-- errCut's name, off the given specification. -/
def cutName : String := Rows.lawS1029BModelSpec.vars.getD 0 ""
theorem Ybaf.gE : Ybaf.prog.globalNamed cutName = some 0 := by kernel_rfl
theorem Ybaf.gEType : (Ybaf.prog.globals[0]?).map (·.type) = some 40 := by kernel_rfl
theorem Ybaf.cells5 : Ybaf.prog.cellsOf 5 = 1 := by kernel_rfl
theorem Ybaf.cells9 : Ybaf.prog.cellsOf 9 = 1 := by kernel_rfl
theorem Ybaf.cells64 : Ybaf.prog.cellsOf 64 = 1 := by kernel_rfl
theorem Ybaf.row62 {nm : String} (hnm : nm = String.singleton (Char.ofNat 42) ++ "errors.errorString") (u : TypeId) (h : Ybaf.prog.typeName? 3 u = some nm) : u = 62 :=
  typeName_ptr_named (nm := "errors.errorString") (by kernel_rfl) (by kernel_rfl) (by decide) u (h.trans (by rw [hnm]; kernel_rfl))

/-- errCut's text. -/
def cutS : ByteArray := { data := #[112, 97, 121, 108, 111, 97, 100, 32, 101, 110, 100, 115, 32, 105, 110, 115, 105, 100, 101, 32, 97, 32, 102, 105, 101, 108, 100] }

/-- The variable number 0 made to hold a pointer to block 'low'. -/
def layCut (w0 : World) (low : Nat) : World :=
  { w0 with heap := w0.heap.modify 0 fun
      | .cells _ t frozen => .cells #[.iface 62 (.pointer (some ⟨low, 0, none⟩))] t frozen
      | o => o }

theorem laidE_met (os : Os) (args : Array Value) :
    laidMetH Ybaf.prog Rows.lawS1029BModelRow.laid ((layCut (World.holding Ybaf.prog os ⟨#[.cells #[.string cutS] 64], #[], []⟩) (World.holding Ybaf.prog default ⟨#[], #[], []⟩).heap.size).forCall (fun _ _ => 0) ⟨#[], args, []⟩).memory := by
  rw [Go.MakeChecks.laidMetH_plain _ _ _ (by kernel_rfl)]
  exact laidMet_of_run (ps := [.cell 0 0, .cell (World.holding Ybaf.prog default ⟨#[], #[], []⟩).heap.size 0]) 8 (by kernel_rfl) (by kernel_rfl) (by kernel_rfl)

/-- A payload that came in, opened. -/
theorem pay_open {H : Type} {enc : TypeId × Value → H} {W : World} {a : Option Addr} {len cap : Nat} {d : DataW H} {ps : List MemPlace}
    (h : DataW.Trod enc Ybaf.prog W 0 (fun _ => true) true 38 (.slice a len cap) d ps) : len ≤ cap ∧ ∃ B, IsPay W a len B := by
  obtain ⟨fuel, hf⟩ := h
  rcases open_ints Ybaf.underlying38 Ybaf.underlying5 Ybaf.cells5 hf with ⟨hcs, _⟩ | ⟨x, l, c, zs, hcs, _, hl, hm, hz, _, hcell, hwz⟩
  · simp [Value.cells] at hcs
    obtain ⟨rfl, rfl, rfl⟩ := hcs
    exact ⟨Nat.le_refl _, fun _ => 0, fun i hi => by omega⟩
  · simp [Value.cells] at hcs
    obtain ⟨rfl, rfl, rfl⟩ := hcs
    simp only [if_true] at hz
    refine ⟨hl, fun i => zs.getD i 0, fun i hi => ?_⟩
    have c0 := hcell 0 (by omega)
    obtain ⟨b, off, spot⟩ := x
    have hspot : spot = none := by simpa [Addr.add] using World.cell?_spot c0
    subst hspot
    refine ⟨b, off, rfl, ?_, ?_⟩
    · rw [← add_plain]; exact hcell i (by omega)
    · have hi' : i < zs.length := by omega
      have e : zs.getD i 0 = zs[i] := by rw [List.getD_eq_getElem?_getD, List.getElem?_eq_getElem hi']; rfl
      show Byte (zs.getD i 0)
      rw [e]
      exact bounds_u8 (hwz _ (List.getElem_mem hi'))
end Go.Proofs.YbulkuhcFmt
