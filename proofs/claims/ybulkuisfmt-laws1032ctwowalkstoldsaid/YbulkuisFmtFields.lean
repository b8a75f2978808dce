/-
  The contract of Limits.fields.
-/
import Derived.Test.YbulkuisFmtLim
namespace Go.Proofs.YbulkuisFmt
open Go.RowKit
set_option linter.unusedVariables false

/-- The pointers to the seventeen fields of a Limits at block g. -/
def ptrs (g : Nat) : List Value := [.pointer (some ⟨g, 0, none⟩), .pointer (some ⟨g, 1, none⟩), .pointer (some ⟨g, 2, none⟩), .pointer (some ⟨g, 3, none⟩), .pointer (some ⟨g, 4, none⟩), .pointer (some ⟨g, 5, none⟩), .pointer (some ⟨g, 6, none⟩), .pointer (some ⟨g, 7, none⟩), .pointer (some ⟨g, 8, none⟩), .pointer (some ⟨g, 9, none⟩), .pointer (some ⟨g, 10, none⟩), .pointer (some ⟨g, 11, none⟩), .pointer (some ⟨g, 12, none⟩), .pointer (some ⟨g, 13, none⟩), .pointer (some ⟨g, 14, none⟩), .pointer (some ⟨g, 15, none⟩), .pointer (some ⟨g, 16, none⟩)]

set_option maxHeartbeats 1000000 in
theorem fields_any (g : Nat) (w : World) :
    Calls Ybaf.prog 22 #[.pointer (some ⟨g, 0, none⟩)] w fun e w' => e = .returned (.agg (ptrs g).toArray) ∧ w' = (w.alloc (.cells (ptrs g).toArray 68)).drew := by
  go_enter Ybaf.func22, Ybaf.ntmps22
  go_wp2
  go_region
  go_wp2
  refine bodyPost_ret (results_cell_row (P := Ybaf.prog) (p := 2) (ty := 68) rfl _ _ w.heap.size 68 (ptrs g).toArray (0, 0) _ rfl (heap_alloc_last w _) Ybaf.underlying68 rfl (by kernel_rfl)) rfl ?_
  exact ⟨rfl, rfl⟩
end Go.Proofs.YbulkuisFmt
