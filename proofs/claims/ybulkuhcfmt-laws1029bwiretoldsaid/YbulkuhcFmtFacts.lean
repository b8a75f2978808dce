/-
  What the walks over fmt.Errorf want: closed facts at this dump, and the contract of the two calls. And '==' between a new error and one that was there.
-/
import Derived.Test.YbulkuhcFmtRows
import Derived.WalkKit
import Derived.WalkSpells
import Derived.WalkLawsBesides
import Derived.Stop.CallBack
import Derived.Stop.IfaceNil
import Derived.Stop.LaidErr
import Derived.Stop.Texts
import Derived.LaidEql
import GoSem.ClaimData
namespace Go.Proofs.YbulkuhcFmt
open Go.RowKit Go.Extern.Stop Go.Stop Go.Extern

theorem Ybaf.call18 (args : Array Value) (w : World) : (callFunc 18 args).run Ybaf.prog w = ((FmtStop.errorf #[9, 60] #[40] args).run Ybaf.prog w).andThen fun v w' => .ok (.value v) w' :=
  run_callFunc_extern Ybaf.func18 (by kernel_rfl) (by kernel_rfl) (by kernel_rfl) (by kernel_rfl) args w
theorem Ybaf.guard (name : String) (w : World) : (FmtStop.guard name).run Ybaf.prog w = .ok () w := by kernel_rfl

/-- "%d bytes past the end of the level" -/
def fmtPast : ByteArray := ⟨#[37, 100, 32, 98, 121, 116, 101, 115, 32, 112, 97, 115, 116, 32, 116, 104, 101, 32, 101, 110, 100, 32, 111, 102, 32, 116, 104, 101, 32, 108, 101, 118, 101, 108]⟩
/-- "payload of kind %d, want %d" -/
def fmtKind : ByteArray := ⟨#[112, 97, 121, 108, 111, 97, 100, 32, 111, 102, 32, 107, 105, 110, 100, 32, 37, 100, 44, 32, 119, 97, 110, 116, 32, 37, 100]⟩

theorem Ybaf.fmt0 : FmtStop.printed? fmtPast 1 = some [(0, 100, false)] := by kernel_rfl
theorem Ybaf.fmt0r (w : World) : (FmtDoors.printed fmtPast 1).run Ybaf.prog w = .ok [(0, 100, false)] w := by kernel_rfl
theorem Ybaf.fmt1 : FmtStop.printed? fmtKind 2 = some [(0, 100, false), (1, 100, false)] := by kernel_rfl
theorem Ybaf.fmt1r (w : World) : (FmtDoors.printed fmtKind 2).run Ybaf.prog w = .ok [(0, 100, false), (1, 100, false)] w := by kernel_rfl

def Ybaf.shape3 : List UInt8 := [5, 3, 0, 0, 0, 0, 0, 0, 0, 105, 110, 116]
theorem Ybaf.op3_100w (name : String) (x : Int) (w : World) : (FmtStop.operand name true 100 false (.iface 3 (.int .i64 x))).run Ybaf.prog w = .ok (Ybaf.shape3, Go.Extern.Stop.digits 8 (x % 2 ^ 64).toNat) w := by kernel_rfl
theorem Ybaf.op3_100 (name : String) (x : Int) (w : World) : (FmtStop.operand name false 100 false (.iface 3 (.int .i64 x))).run Ybaf.prog w = .ok (Ybaf.shape3, Go.Extern.Stop.digits 8 (x % 2 ^ 64).toNat) w := by kernel_rfl
def Ybaf.shape5 : List UInt8 := [6, 5, 0, 0, 0, 0, 0, 0, 0, 117, 105, 110, 116, 56]
theorem Ybaf.op5_100w (name : String) (x : Int) (w : World) : (FmtStop.operand name true 100 false (.iface 5 (.int .u8 x))).run Ybaf.prog w = .ok (Ybaf.shape5, Go.Extern.Stop.digits 8 (x % 2 ^ 64).toNat) w := by kernel_rfl
theorem Ybaf.op5_100 (name : String) (x : Int) (w : World) : (FmtStop.operand name false 100 false (.iface 5 (.int .u8 x))).run Ybaf.prog w = .ok (Ybaf.shape5, Go.Extern.Stop.digits 8 (x % 2 ^ 64).toNat) w := by kernel_rfl
theorem Ybaf.ptr62 (w : World) : (FmtStop.ptrTo "errors.errorString").run Ybaf.prog w = .ok 62 w := by kernel_rfl
theorem Ybaf.elem62 (w : World) : (elemOf 62).run Ybaf.prog w = .ok 64 w := by kernel_rfl
theorem Ybaf.isError62 (w : World) : (FmtDoors.textMethod 62 "Error").run Ybaf.prog w = .ok true w := by kernel_rfl
theorem Ybaf.ptr61 (w : World) : (FmtStop.ptrTo "fmt.wrapError").run Ybaf.prog w = .ok 61 w := by kernel_rfl
theorem Ybaf.isError61 (w : World) : (FmtDoors.textMethod 61 "Error").run Ybaf.prog w = .ok true w := by kernel_rfl
attribute [local go_sem] Ybaf.call18 Ybaf.guard Ybaf.fmt0 Ybaf.fmt0r Ybaf.fmt1 Ybaf.fmt1r Ybaf.op3_100w Ybaf.op3_100 Ybaf.op5_100w Ybaf.op5_100 Ybaf.ptr62 Ybaf.elem62 Ybaf.isError62 Ybaf.ptr61 Ybaf.isError61

set_option maxHeartbeats 400000 in
theorem errorf_past (F : Interp) (n : Int) (g : Nat) (w : World) (hF : F.answers w.tape) (hc : w.cell? ⟨g, 0, none⟩ = some (.iface 3 (.int .i64 n))) :
    Calls Ybaf.prog 14 #[.string fmtPast, .slice (some ⟨g, 0, none⟩) 1 1] w fun e w' => e = .returned (.iface 62 (.pointer (some ⟨w.heap.size, 0, none⟩))) ∧ ∃ s, w' = (w.alloc (.cells #[.string s] 64)).drew := by
  have hF' := answers_open hF
  go_enter Ybaf.func14, Ybaf.ntmps14
  go_wp2
  go_ret
  exact ⟨rfl, _, rfl⟩

set_option maxHeartbeats 400000 in
theorem errorf_kind (F : Interp) (x y : Int) (g : Nat) (w : World) (hF : F.answers w.tape) (hc : w.cell? ⟨g, 0, none⟩ = some (.iface 5 (.int .u8 x))) (hd : w.cell? ⟨g, 1, none⟩ = some (.iface 5 (.int .u8 y))) :
    Calls Ybaf.prog 14 #[.string fmtKind, .slice (some ⟨g, 0, none⟩) 2 2] w fun e w' => e = .returned (.iface 62 (.pointer (some ⟨w.heap.size, 0, none⟩))) ∧ ∃ s, w' = (w.alloc (.cells #[.string s] 64)).drew := by
  have hF' := answers_open hF
  go_enter Ybaf.func14, Ybaf.ntmps14
  go_wp2
  go_ret
  exact ⟨rfl, _, rfl⟩

/-- A new error's address is no address that was there: whatever block the old one lies in. -/
theorem run_sameAddr_new {P : Program} (w : World) {p b : Addr} {c : Array Value} {t : TypeId} {v : Value} (hne : p.block ≠ b.block) (hp : w.heap[p.block]? = some (.cells c t (0, 0))) (hpc : c.size ≠ 0) (hb : w.cell? b = some v) :
    (sameAddr p b).run P w = .ok false w := by
  obtain ⟨cb, tb, fr, hbb, hcb⟩ : ∃ cb tb fr, w.heap[b.block]? = some (.cells cb tb fr) ∧ 0 < cb.size := by
    unfold World.cell? at hb
    split at hb
    · rename_i cb tb fr hh
      refine ⟨cb, tb, fr, hh, ?_⟩
      split at hb
      · cases hb
      · rcases Array.getElem?_eq_some_iff.1 hb with ⟨h, _⟩
        omega
    · cases hb
  have hcb' : ¬ cb = #[] := fun e => by rw [e] at hcb; simp at hcb
  have hc' : ¬ c = #[] := fun e => hpc (by rw [e]; rfl)
  simp [sameAddr, hne, World.frozen?, hp, hbb, noView, viewAt, World.shape?, mayBeOne, stringish, hcb', hc']

theorem Ybaf.info62 : (Ybaf.prog.info? 62).map (·.comparable) = some true := by kernel_rfl
theorem Ybaf.info64 : (Ybaf.prog.info? 64).map (·.size) = some 1 := by kernel_rfl

/-- A new error against an error that was there: they differ. -/
theorem neq_new (w : World) {p b : Addr} {c : Array Value} {t : TypeId} {v : Value} (hne : p.block ≠ b.block) (hp : w.heap[p.block]? = some (.cells c t (0, 0))) (hpc : c.size ≠ 0) (hb : w.cell? b = some v) :
    (binOp .neq 40 (.iface 62 (.pointer (some p))) (.iface 62 (.pointer (some b)))).run Ybaf.prog w = .ok (.bool true) w := by
  obtain ⟨i, hi, hcomp⟩ := Option.map_eq_some_iff.1 Ybaf.info62
  obtain ⟨j, hj, hsz⟩ := Option.map_eq_some_iff.1 Ybaf.info64
  have h : ∀ d : Nat, (Op.equalIn (d + 2) 40 (.iface 62 (.pointer (some p))) (.iface 62 (.pointer (some b)))).run Ybaf.prog w = .ok false w := fun d => by
    simp [Op.equalIn, run_underlying Ybaf.underlying40, run_underlying Ybaf.underlying62, typeInfo, hi, hcomp, sizeOf, hj, hsz, run_sameAddr_new w hne hp hpc hb]
  simp only [binOp]
  simp [Op.equal, Op.maxDepth, h 9998]

/-- An error against itself. -/
theorem eql_same (w : World) (a : Addr) : (binOp .eql 40 (.iface 62 (.pointer (some a))) (.iface 62 (.pointer (some a)))).run Ybaf.prog w = .ok (.bool true) w := by
  obtain ⟨i, hi, hcomp⟩ := Option.map_eq_some_iff.1 Ybaf.info62
  obtain ⟨j, hj, hsz⟩ := Option.map_eq_some_iff.1 Ybaf.info64
  exact run_eql_iface_ptr_same w a Ybaf.underlying40 Ybaf.underlying62 hi hcomp hj
end Go.Proofs.YbulkuhcFmt
