/-
  named, leafTree and the laws' builder, each as a contract; the two laws' walks.
-/
import Derived.Test.YbulkujuRows
import Derived.WalkKit
import Derived.ProofKit
import Derived.OpenShut
namespace Go.Proofs.Ybulkuju
open Go.ChangeShapes Go.WideShapes Go.ChangeAt Go.RowKit
set_option linter.unusedVariables false

/-- A Subtree's seven cells (the laws' input has the same seven). -/
abbrev row (h : Int) (l : Bool) (b n lo hi v : Int) : Array Value :=
  #[.int .u64 h, .bool l, .int .u64 b, .int .u8 n, .int .u64 lo, .int .u64 hi, .int .i64 v]
abbrev sub (h : Int) (l : Bool) (b n lo hi v : Int) : Value := .agg (row h l b n lo hi v)

theorem leafTree_any (k n : Int) (w : World) :
    Calls Yba.prog 8 #[.int .u64 k, .int .i64 n] w fun e w' => e = .returned (sub k true k (n % 256) k k 0) ∧
      w' = w.alloc (.cells (row k true k (n % 256) k k 0) 30) := by
  go_enter Yba.func8, Yba.ntmps8
  go_wp2
  exact bodyPost_ret (v := sub k true k (n % 256) k k 0) (by simp [results, Yba.results8, go_sem]) rfl ⟨rfl, rfl⟩

theorem named_leaf (h b n lo hi v : Int) (w : World) :
    Calls Yba.prog 7 #[sub h true b n lo hi v] w fun e w' => e = .returned (sub h true 0 0 0 0 0) ∧
      w' = (w.alloc (.cells (row h true b n lo hi v) 30)).alloc (.cells (row h true 0 0 0 0 0) 30) := by
  go_enter Yba.func7, Yba.ntmps7
  go_wp2
  exact bodyPost_ret (v := sub h true 0 0 0 0 0) (by simp [results, Yba.results7, go_sem]) rfl ⟨rfl, rfl⟩

theorem named_node (h b n lo hi v : Int) (w : World) :
    Calls Yba.prog 7 #[sub h false b n lo hi v] w fun e w' => e = .returned (sub h false 0 0 lo hi v) ∧
      w' = (w.alloc (.cells (row h false b n lo hi v) 30)).alloc (.cells (row h false 0 0 lo hi v) 30) := by
  go_enter Yba.func7, Yba.ntmps7
  go_wp2
  exact bodyPost_ret (v := sub h false 0 0 lo hi v) (by simp [results, Yba.results7, go_sem]) rfl ⟨rfl, rfl⟩

theorem build_any (h : Int) (l : Bool) (b n lo hi v : Int) (w : World) :
    Calls Yba.prog 6 #[sub h l b n lo hi v] w fun e w' => e = .returned (sub h l b n lo hi v) ∧
      w' = (w.alloc (.cells (row h l b n lo hi v) 24)).alloc (.cells (row h l b n lo hi v) 30) := by
  go_enter Yba.func6, Yba.ntmps6
  go_wp2
  exact bodyPost_ret (v := sub h l b n lo hi v) (by simp [results, Yba.results6, go_sem]) rfl ⟨rfl, rfl⟩

set_option maxHeartbeats 1600000 in
theorem leaf_walk (k u : Int) (w0 : (Lit.int .u64 k).wf = true) (w1 : (Lit.int .u8 u).wf = true) (w : World) :
    Calls Yba.prog 5 #[.int .u64 k, .int .u8 u] w fun e w' => e = .returned (.bool true) ∧ Grown w w' := by
  go_enter Yba.func5, Yba.ntmps5
  go_wp2_with (first
    | (go_at_call 8; refine (leafTree_any _ _ _).mono ?_; rintro e w2 ⟨rfl, rfl⟩)
    | (go_at_call 7; refine (named_leaf _ _ _ _ _ _ _).mono ?_; rintro e w3 ⟨rfl, rfl⟩))
  go_ret
  exact ⟨rfl, by repeat (first | exact Grown.refl _ | apply Grown.drew | apply Grown.alloc)⟩

set_option maxHeartbeats 1600000 in
theorem exact_node (h b n lo hi v : Int) (w : World) :
    Calls Yba.prog 3 #[sub h false b n lo hi v] w fun e w' => e = .returned (.bool true) ∧ Grown w w' := by
  go_enter Yba.func3, Yba.ntmps3
  go_wp2_with (first
    | (go_at_call 6; refine (build_any _ _ _ _ _ _ _ _).mono ?_; rintro e w2 ⟨rfl, rfl⟩)
    | (go_at_call 7; refine (named_node _ _ _ _ _ _ _).mono ?_; rintro e w3 ⟨rfl, rfl⟩))
  go_ret
  exact ⟨rfl, by repeat (first | exact Grown.refl _ | apply Grown.drew | apply Grown.alloc)⟩

set_option maxHeartbeats 1600000 in
theorem exact_leaf (h b n lo hi v : Int) (w : World) :
    Calls Yba.prog 3 #[sub h true b n lo hi v] w fun e w' => e = .returned (.bool true) ∧ Grown w w' := by
  go_enter Yba.func3, Yba.ntmps3
  go_wp2_with (first
    | (go_at_call 6; refine (build_any _ _ _ _ _ _ _ _).mono ?_; rintro e w2 ⟨rfl, rfl⟩)
    | (go_at_call 7; refine (named_leaf _ _ _ _ _ _ _).mono ?_; rintro e w3 ⟨rfl, rfl⟩))
  go_ret
  exact ⟨rfl, by repeat (first | exact Grown.refl _ | apply Grown.drew | apply Grown.alloc)⟩
end Go.Proofs.Ybulkuju
