/-
  The contract of errNegative: a new error, its text told by fmt's stop.
-/
import Derived.Test.YbulkuisFmtLim
import Derived.Stop.CallBack
import Derived.Stop.Texts
import Derived.Stop.Told
import Derived.Stop.FmtTextKit
import Derived.Stop.FmtTextVerbs
import GoSem.ClaimData
namespace Go.Proofs.YbulkuisFmt
open Go.RowKit Go.Extern.Stop Go.Stop Go.Extern
set_option linter.unusedVariables false

theorem Ybaf.call18 (args : Array Value) (w : World) : (callFunc 18 args).run Ybaf.prog w = ((FmtStop.sprintf #[9, 77] #[9] args).run Ybaf.prog w).andThen fun v w' => .ok (.value v) w' :=
  run_callFunc_extern Ybaf.func18 (by kernel_rfl) (by kernel_rfl) (by kernel_rfl) (by kernel_rfl) args w
theorem Ybaf.guard (name : String) (w : World) : (FmtStop.guard name).run Ybaf.prog w = .ok () w := by kernel_rfl

/-- errNegative's format. -/
def fmtNeg : ByteArray := ⟨#[76, 105, 109, 105, 116, 115, 46, 37, 115, 32, 105, 115, 32, 37, 100, 59, 32, 97, 32, 108, 105, 109, 105, 116, 32, 105, 115, 32, 48, 44, 32, 102, 111, 114, 32, 105, 116, 115, 32, 100, 101, 102, 97, 117, 108, 116, 44, 32, 111, 114, 32, 109, 111, 114, 101]⟩
theorem Ybaf.fmt0 : FmtStop.printed? fmtNeg 2 = some [(0, 115, false), (1, 100, false)] := by kernel_rfl
theorem Ybaf.fmt0r (w : World) : (FmtDoors.printed fmtNeg 2).run Ybaf.prog w = .ok [(0, 115, false), (1, 100, false)] w := by kernel_rfl
def Ybaf.shape3 : List UInt8 := [5, 3, 0, 0, 0, 0, 0, 0, 0, 105, 110, 116]
def Ybaf.shape9 : List UInt8 := [12, 6, 0, 0, 0, 0, 0, 0, 0, 115, 116, 114, 105, 110, 103]
theorem Ybaf.op3_100 (name : String) (x : Int) (w : World) : (FmtStop.operand name false 100 false (.iface 3 (.int .i64 x))).run Ybaf.prog w = .ok (Ybaf.shape3, Go.Extern.Stop.digits 8 (x % 2 ^ 64).toNat) w := by kernel_rfl
theorem Ybaf.op9_115 (name : String) (x : ByteArray) (w : World) : (FmtStop.operand name false 115 false (.iface 9 (.string x))).run Ybaf.prog w = .ok (Ybaf.shape9, FmtStop.pack x.data.toList) w := by kernel_rfl
attribute [local go_sem] Ybaf.call18 Ybaf.guard Ybaf.fmt0 Ybaf.fmt0r Ybaf.op3_100 Ybaf.op9_115

/-- What fmt is asked. -/
def reading (nm : List UInt8) (n : Int) : List (List UInt8) := [fmtNeg.data.toList, Ybaf.shape9, FmtStop.pack nm, Ybaf.shape3, digits 8 (n % 18446744073709551616).toNat]
/-- The text that it gives. -/
def negText (nm : List UInt8) (n : Int) : List UInt8 := [76, 105, 109, 105, 116, 115, 46] ++ (nm ++ ([32, 105, 115, 32] ++ (Lib.itoa n ++ [59, 32, 97, 32, 108, 105, 109, 105, 116, 32, 105, 115, 32, 48, 44, 32, 102, 111, 114, 32, 105, 116, 115, 32, 100, 101, 102, 97, 117, 108, 116, 44, 32, 111, 114, 32, 109, 111, 114, 101])))
theorem neg_parse : (FmtText.parse fmtNeg.data.toList).map FmtText.glue = some [.lit [76, 105, 109, 105, 116, 115, 46], .verb {} 115, .lit [32, 105, 115, 32], .verb {} 100, .lit [59, 32, 97, 32, 108, 105, 109, 105, 116, 32, 105, 115, 32, 48, 44, 32, 102, 111, 114, 32, 105, 116, 115, 32, 100, 101, 102, 97, 117, 108, 116, 44, 32, 111, 114, 32, 109, 111, 114, 101]] := by rfl
set_option maxRecDepth 100000 in
theorem neg_text (nm : List UInt8) (n : Int) (hs : nm.length < 2 ^ 64) (hw : (Lit.int .i64 n).wf = true) : FmtText.text "fmt.Sprintf" (reading nm n) = some (negText nm n) := by
  have hi := FmtText.operand_int_at (sh := Ybaf.shape3) (k := .i64) rfl rfl n hw
  have hn := FmtText.operand_str_at (sh := Ybaf.shape9) rfl rfl nm hs
  rw [reading, FmtText.text_sprintf_glued neg_parse (FmtText.operands_cons hn (FmtText.operands_cons hi FmtText.operands_nil))]
  simp [FmtText.render, FmtText.printArg_d _ _ hw, FmtText.printArg_s_str, negText]
set_option maxRecDepth 100000 in
theorem neg_len (F : Interp) (nm : List UInt8) (n : Int) (hs : nm.length ≤ 1000) (hw : (Lit.int .i64 n).wf = true) : (FmtStop.textOf (F.told "fmt.Sprintf" (reading nm n) 0)).size ≤ 2000 := by
  have h1 := FmtText.itoa_length_le hw
  have hl : (negText nm n).length ≤ 2000 := by simp [negText]; omega
  have h := told_string F (neg_text nm n (by omega) hw) (by omega)
  have h2 := Go.Kit.textOf_list F.told "fmt.Sprintf" (reading nm n)
  rw [h] at h2
  have h3 : (FmtStop.textOf (F.told "fmt.Sprintf" (reading nm n) 0)).data.toList.length ≤ 2000 := by rw [h2]; exact hl
  generalize FmtStop.textOf (F.told "fmt.Sprintf" (reading nm n) 0) = t at h3 ⊢
  show t.data.size ≤ 2000
  rw [← Array.length_toList]
  exact h3

set_option maxHeartbeats 400000 in
theorem msg_any (F : Interp) (nm : ByteArray) (n : Int) (g : Nat) (w : World) (hF : F.answers w.tape) (hlen : (FmtStop.textOf (F "fmt.Sprintf" (reading nm.data.toList n) 0)).size ≤ 2000)
    (hc : w.cell? ⟨g, 0, none⟩ = some (.iface 9 (.string nm))) (hd : w.cell? ⟨g, 1, none⟩ = some (.iface 3 (.int .i64 n))) :
    Calls Ybaf.prog 19 #[.string fmtNeg, .slice (some ⟨g, 0, none⟩) 2 2] w fun e w' => ∃ s, e = .returned (.string s) ∧ w' = w.drew := by
  have hF' := answers_open hF
  unfold reading at hlen
  go_enter Ybaf.func19, Ybaf.ntmps19
  go_wp2
  go_ret
  exact ⟨_, rfl, rfl⟩

set_option maxHeartbeats 400000 in
/-- errNegative: a new error. -/
theorem neg_any (F : Interp) (nm : ByteArray) (n : Int) (w : World) (hF : F.answers w.tape) (hlen : (FmtStop.textOf (F "fmt.Sprintf" (reading nm.data.toList n) 0)).size ≤ 2000) :
    Calls Ybaf.prog 23 #[.string nm, .int .i64 n] w fun e w' => ∃ s, e = .returned (.iface 71 (.pointer (some ⟨w.heap.size + 1, 0, none⟩))) ∧ w' = ((w.alloc (.cells #[.iface 9 (.string nm), .iface 3 (.int .i64 n)] 20)).alloc (.cells #[.string s] 73)).drew := by
  have M := msg_any F nm n w.heap.size (w.alloc (.cells #[.iface 9 (.string nm), .iface 3 (.int .i64 n)] 20)) hF hlen (by simp [go_sem]) (by simp [go_sem])
  unfold fmtNeg at M
  clear hlen
  go_enter Ybaf.func23, Ybaf.ntmps23
  go_wp2_with fail
  refine M.mono ?_
  clear M
  rintro e w' ⟨s, rfl, rfl⟩
  go_wp2
  go_ret
  exact ⟨s, rfl, rfl⟩
end Go.Proofs.YbulkuisFmt
