/-
  Seat b1032aF: the Limits as a value of seventeen numbers; cmp.Or; small laws.
-/
import Derived.Test.YbulkuisFmtRows
import Derived.WalkKit
import Derived.WalkSpells
import Derived.WalkLawsBesides
import Derived.Deep.LoopGhost
import Derived.Deep.OwnRows
import Derived.Deep.MidRow
import Derived.Deep.RegionWith
import Derived.Deep.RegionHeld
import Derived.Deep.DeepCutAuto
import Derived.RegionTactic
import Derived.BigRegion
import Derived.Deep.QuietTactic
import Derived.BigQuiet
import Derived.Stop.IfaceNil
import Derived.LaidEql
import Derived.Deep.WholeRow
namespace Go.Proofs.YbulkuisFmt
open Go.RowKit
set_option linter.unusedVariables false

/-- The seventeen cells of a Limits whose fields are X 0, .., X 16. -/
def lim (X : Nat → Int) : List Value := [.int .i64 (X 0), .int .i64 (X 1), .int .i64 (X 2), .int .i64 (X 3), .int .i64 (X 4), .int .i64 (X 5), .int .i64 (X 6), .int .i64 (X 7), .int .i64 (X 8), .int .i64 (X 9), .int .i64 (X 10), .int .i64 (X 11), .int .i64 (X 12), .int .i64 (X 13), .int .i64 (X 14), .int .i64 (X 15), .int .i64 (X 16)]
theorem lim_length (X : Nat → Int) : (lim X).length = 17 := rfl
theorem lim_get (X : Nat → Int) : ∀ j, j < 17 → (lim X)[j]? = some (.int .i64 (X j))
  | 0, _ => rfl
  | 1, _ => rfl
  | 2, _ => rfl
  | 3, _ => rfl
  | 4, _ => rfl
  | 5, _ => rfl
  | 6, _ => rfl
  | 7, _ => rfl
  | 8, _ => rfl
  | 9, _ => rfl
  | 10, _ => rfl
  | 11, _ => rfl
  | 12, _ => rfl
  | 13, _ => rfl
  | 14, _ => rfl
  | 15, _ => rfl
  | 16, _ => rfl
  | n + 17, h => absurd h (by omega)
theorem lim_one (X : Nat → Int) : ∀ v ∈ lim X, v.oneCell' = true := by
  intro v hv
  simp only [lim, List.mem_cons, List.not_mem_nil, or_false] at hv
  rcases hv with rfl | rfl | rfl | rfl | rfl | rfl | rfl | rfl | rfl | rfl | rfl | rfl | rfl | rfl | rfl | rfl | rfl <;> rfl

/-- The defaults. -/
def dfl (j : Nat) : Int := [65536, 1024, 16777216, 1048576, 65536, 65536, 65536, 16777216, 65536, 65536, 1024, 1024, 1024, 16777216, 1048576, 1048576, 65536].getD j 0
theorem dfl_ne : ∀ j, j < 17 → dfl j ≠ 0
  | 0, _ => by decide
  | 1, _ => by decide
  | 2, _ => by decide
  | 3, _ => by decide
  | 4, _ => by decide
  | 5, _ => by decide
  | 6, _ => by decide
  | 7, _ => by decide
  | 8, _ => by decide
  | 9, _ => by decide
  | 10, _ => by decide
  | 11, _ => by decide
  | 12, _ => by decide
  | 13, _ => by decide
  | 14, _ => by decide
  | 15, _ => by decide
  | 16, _ => by decide
  | n + 17, h => absurd h (by omega)
/-- A field resolved. -/
def res (X : Nat → Int) (j : Nat) : Int := if X j = 0 then dfl j else X j

theorem Ybaf.size33 : (Ybaf.prog.info? 33).map (·.size) = some 17 := by kernel_rfl

/-- A Limits against itself. -/
theorem neq33_same (X : Nat → Int) (w : World) : (binOp .neq 33 (.agg (lim X).toArray) (.agg (lim X).toArray)).run Ybaf.prog w = .ok (.bool false) w := by
  unfold lim
  simp [go_sem]

set_option maxHeartbeats 400000 in
/-- cmp.Or of two numbers. -/
theorem or_any (g : Nat) (x d : Int) (w : World) (hd : d ≠ 0) (c0 : w.cell? ⟨g, 0, none⟩ = some (.int .i64 x)) (c1 : w.cell? ⟨g, 1, none⟩ = some (.int .i64 d)) :
    Calls Ybaf.prog 16 #[.slice (some ⟨g, 0, none⟩) 2 2] w fun e w' => e = .returned (.int .i64 (if x = 0 then d else x)) ∧ w = w' := by
  have hd' : (d != 0) = true := by simpa using hd
  by_cases hx : x = 0
  · rw [if_pos hx]
    subst hx
    go_enter Ybaf.func16, Ybaf.ntmps16
    go_wp2
    go_loop [8] (fun i => ∃ k : Nat, k ≤ 1 ∧ i = .int .i64 k) (fun i => 2 - (intOf i).toNat)
    case atStart => exact ⟨0, by omega, rfl⟩
    case round =>
      obtain ⟨k, hk, rfl⟩ := hrel
      by_cases hk0 : k = 0
      · subst hk0
        go_wp2
        go_round
        case rel => exact ⟨1, by omega, rfl⟩
        case measure => simp [intOf]
      · obtain rfl : k = 1 := by omega
        go_wp2
        go_ret
        exact ⟨rfl, rfl⟩
  · rw [if_neg hx]
    have hx' : (x != 0) = true := by simpa using hx
    go_enter Ybaf.func16, Ybaf.ntmps16
    go_wp2
    go_loop [8] (fun i => i = .int .i64 0) (fun i => 2 - (intOf i).toNat)
    case atStart => rfl
    case round =>
      subst hrel
      go_wp2
      go_ret
      exact ⟨rfl, rfl⟩

theorem one_all {c : Array Value} (h : c.toList.all (·.oneCell') = true) : c.all (·.oneCell') = true := by
  rw [← Array.all_toList]; exact h

/-- A whole value into the block that was made last. -/
theorem wpList_store_new {P : Program} {W : World} {ops : Array Oper} {rest : List Oper} {op : Oper} {a : Act} {Q : Exit → Act → World → Prop} (hgd : op.guard = none) (ty : TypeId) (x y : Operand) (ho : op.op = .store ty x y)
    (w : World) (c c' : Array Value) (hW : W = w.alloc (.cells c ty)) (g : Nat) (hg : g = w.heap.size) (hx : a.eval x = .pointer (some ⟨g, 0, none⟩)) (hy : a.eval y = .agg c') (hi : (P.info? ty).map (·.size) = some c'.size) (hs : c.size = c'.size) (h1 : c'.toList.all (·.oneCell') = true)
    (h : wpList P ops Q rest (a.put op.dst undef) (w.alloc (.cells c' ty))) : wpList P ops Q (op :: rest) a W := by
  subst hg
  subst hW
  refine wpList_plain hgd fun K hK => ?_
  unfold Oper.wp execOp
  simp only [ho, hx, hy, Instr.storeAt, Instr.sureAddr, Sem.run_bind, Sem.run_pure, Result.andThen_ok, run_storeVar_new w ty c c' hi hs (one_all h1)]
  exact hK _ _ h

/-- A whole value into a block that is known whole. -/
theorem wpList_store_whole {P : Program} {w : World} {ops : Array Oper} {rest : List Oper} {op : Oper} {a : Act} {Q : Exit → Act → World → Prop} (hgd : op.guard = none) (ty : TypeId) (x y : Operand) (ho : op.op = .store ty x y)
    (g : Nat) (c c' : Array Value) (t : TypeId) (hb : w.heap[g]? = some (.cells c t (0, 0))) (hx : a.eval x = .pointer (some ⟨g, 0, none⟩)) (hy : a.eval y = .agg c') (hi : (P.info? ty).map (·.size) = some c'.size) (hs : c.size = c'.size) (h1 : c'.toList.all (·.oneCell') = true)
    (h : wpList P ops Q rest (a.put op.dst undef) (w.setRow g c')) : wpList P ops Q (op :: rest) a w := by
  refine wpList_plain hgd fun K hK => ?_
  unfold Oper.wp execOp
  simp only [ho, hx, hy, Instr.storeAt, Instr.sureAddr, Sem.run_bind, Sem.run_pure, Result.andThen_ok, run_storeVar_row w g t ty c c' hb hi hs (one_all h1)]
  exact hK _ _ h

theorem row_ones {c : Array Value} {f : Nat → Int} (hs : c.size = 17) (h : ∀ i, i < 17 → c[i]? = some (.int .i64 (f i))) : c.toList.all (·.oneCell') = true := by
  rw [List.all_eq_true]
  intro v hv
  obtain ⟨i, hi⟩ := List.getElem?_of_mem hv
  rw [Array.getElem?_toList] at hi
  have hlt : i < 17 := by rw [← hs]; exact (Array.getElem?_eq_some_iff.1 hi).1
  rw [h i hlt] at hi
  cases hi
  rfl

theorem row_lim {c : Array Value} {f : Nat → Int} (hs : c.size = 17) (h : ∀ i, i < 17 → c[i]? = some (.int .i64 (f i))) : c = (lim f).toArray := by
  apply Array.ext_getElem?
  intro i
  by_cases hi : i < 17
  · rw [h i hi, List.getElem?_toArray, lim_get f i hi]
  · rw [Array.getElem?_eq_none (by omega), List.getElem?_toArray, List.getElem?_eq_none (by rw [lim_length]; omega)]

theorem size33_of {c : Array Value} (hs : c.size = 17) : (Ybaf.prog.info? 33).map (·.size) = some c.size := by rw [hs]; exact Ybaf.size33
end Go.Proofs.YbulkuisFmt
