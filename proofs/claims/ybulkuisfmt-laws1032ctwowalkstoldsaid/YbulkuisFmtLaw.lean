/-
  The law's walk.
-/
import Derived.Test.YbulkuisFmtZres
import Derived.Test.YbulkuisFmtDec
import Derived.LaidEql
namespace Go.Proofs.YbulkuisFmt
open Go.RowKit Go.Extern.Stop Go.Stop Go.Extern
set_option linter.unusedVariables false

theorem new_any (s : ByteArray) (w : World) : Calls Ybaf.prog 9 #[.string s] w fun e w' => e = .returned (.iface 71 (.pointer (some ⟨w.heap.size, 0, none⟩))) ∧ w' = w.alloc (.cells #[.string s] 73) := by
  go_enter Ybaf.func9, Ybaf.ntmps9
  go_wp2
  go_ret
  exact ⟨rfl, rfl⟩

theorem Ybaf.info71 : (Ybaf.prog.info? 71).map (·.comparable) = some true := by kernel_rfl
theorem Ybaf.info73 : (Ybaf.prog.info? 73).map (·.size) = some 1 := by kernel_rfl
theorem eql_self (w : World) (a : Addr) : (binOp .eql 48 (.iface 71 (.pointer (some a))) (.iface 71 (.pointer (some a)))).run Ybaf.prog w = .ok (.bool true) w := by
  obtain ⟨i, hi, hcomp⟩ := Option.map_eq_some_iff.1 Ybaf.info71
  obtain ⟨j, hj, hsz⟩ := Option.map_eq_some_iff.1 Ybaf.info73
  exact run_eql_iface_ptr_same w a Ybaf.underlying48 Ybaf.underlying71 hi hcomp hj

theorem heap_new' (w : World) (o : Obj) (k : Nat) (h : k = w.heap.size) : (w.alloc o).heap[k]? = some o := by
  subst h; exact heap_alloc_new _ _

/-- The law's seven boxes. -/
def boxes (w : World) (X : Nat → Int) (a : Option Addr) (len cap : Nat) (fs : ByteArray) (f1 f2 : Bool) (vl ad : Int) : World :=
  ((((((w.alloc (.cells (lim X).toArray 33)).alloc (.cells #[.slice a len cap] 25)).alloc (.cells #[.string fs] 9)).alloc (.cells #[.bool f1] 4)).alloc (.cells #[.bool f2] 4)).alloc (.cells #[.int .i64 vl] 3)).alloc (.cells #[.int .u8 ad] 5)

/-- What they hold, in any later world. -/
structure Boxed (w : World) (X : Nat → Int) (a : Option Addr) (len cap : Nat) (fs : ByteArray) (f1 f2 : Bool) (vl ad : Int) (w' : World) : Prop where
  below : Below w.heap.size w w'
  size : w.heap.size + 7 ≤ w'.heap.size
  b0 : w'.heap[w.heap.size]? = some (.cells (lim X).toArray 33 (0, 0))
  b1 : w'.heap[w.heap.size + 1]? = some (.cells #[.slice a len cap] 25 (0, 0))
  b2 : w'.heap[w.heap.size + 2]? = some (.cells #[.string fs] 9 (0, 0))
  b3 : w'.heap[w.heap.size + 3]? = some (.cells #[.bool f1] 4 (0, 0))
  b4 : w'.heap[w.heap.size + 4]? = some (.cells #[.bool f2] 4 (0, 0))
  b5 : w'.heap[w.heap.size + 5]? = some (.cells #[.int .i64 vl] 3 (0, 0))
  b6 : w'.heap[w.heap.size + 6]? = some (.cells #[.int .u8 ad] 5 (0, 0))

theorem boxed (w : World) (X : Nat → Int) (a : Option Addr) (len cap : Nat) (fs : ByteArray) (f1 f2 : Bool) (vl ad : Int) : Boxed w X a len cap fs f1 f2 vl ad (boxes w X a len cap fs f1 f2 vl ad) := by
  unfold boxes
  refine ⟨?_, by simp, ?_, ?_, ?_, ?_, ?_, ?_, ?_⟩
  · exact ((((((((Below.refl _ w).alloc (Nat.le_refl _) _).alloc (by simp) _).alloc (by simp; omega) _).alloc (by simp; omega) _).alloc (by simp; omega) _).alloc (by simp; omega) _).alloc (by simp; omega) _)
  all_goals (repeat (first | exact heap_new' _ _ _ (by simp only [World.size_alloc]) | rw [Below.heap_alloc _ _ _ (by simp only [World.size_alloc]; omega)]))

theorem Boxed.later {w : World} {X : Nat → Int} {a : Option Addr} {len cap : Nat} {fs : ByteArray} {f1 f2 : Bool} {vl ad : Int} {w' w2 : World} (h : Boxed w X a len cap fs f1 f2 vl ad w') {B : Nat} (hB : w.heap.size + 7 ≤ B) (hb : Below B w' w2) : Boxed w X a len cap fs f1 f2 vl ad w2 :=
  ⟨h.below.trans (hb.mono (by omega)), Nat.le_trans h.size hb.size, by rw [hb.block _ (by omega)]; exact h.b0, by rw [hb.block _ (by omega)]; exact h.b1, by rw [hb.block _ (by omega)]; exact h.b2, by rw [hb.block _ (by omega)]; exact h.b3,
   by rw [hb.block _ (by omega)]; exact h.b4, by rw [hb.block _ (by omega)]; exact h.b5, by rw [hb.block _ (by omega)]; exact h.b6⟩

/-- The law's later variables, laid behind w1. -/
def laters (w1 : World) (c : Array Value) (s1 s2 : ByteArray) : World :=
  (((((((w1.alloc (.cells c 33)).alloc (.cells #[.string s1] 73)).alloc (.cells #[.iface 71 (.pointer (some ⟨w1.heap.size + 1, 0, none⟩))] 48)).alloc (.cells #[.string s2] 73)).alloc (.cells #[.iface 71 (.pointer (some ⟨w1.heap.size + 3, 0, none⟩))] 48)).alloc (.cells #[.int .i64 0] 3)).alloc (.cells #[.bool true] 4)).alloc (.cells #[.int .i64 (-1)] 3)

structure Latered (w1 : World) (c : Array Value) (w' : World) : Prop where
  below : Below w1.heap.size w1 w'
  size : w'.heap.size = w1.heap.size + 8
  b0 : w'.heap[w1.heap.size]? = some (.cells c 33 (0, 0))
  b2 : w'.heap[w1.heap.size + 2]? = some (.cells #[.iface 71 (.pointer (some ⟨w1.heap.size + 1, 0, none⟩))] 48 (0, 0))
  b4 : w'.heap[w1.heap.size + 4]? = some (.cells #[.iface 71 (.pointer (some ⟨w1.heap.size + 3, 0, none⟩))] 48 (0, 0))
  b5 : w'.heap[w1.heap.size + 5]? = some (.cells #[.int .i64 0] 3 (0, 0))
  b6 : w'.heap[w1.heap.size + 6]? = some (.cells #[.bool true] 4 (0, 0))
  b7 : w'.heap[w1.heap.size + 7]? = some (.cells #[.int .i64 (-1)] 3 (0, 0))

theorem latered (w1 : World) (c : Array Value) (s1 s2 : ByteArray) : Latered w1 c (laters w1 c s1 s2) := by
  unfold laters
  refine ⟨?_, by simp, ?_, ?_, ?_, ?_, ?_, ?_⟩
  · exact (((((((((Below.refl _ w1).alloc (Nat.le_refl _) _).alloc (by simp) _).alloc (by simp; omega) _).alloc (by simp; omega) _).alloc (by simp; omega) _).alloc (by simp; omega) _).alloc (by simp; omega) _).alloc (by simp; omega) _)
  all_goals (repeat (first | exact heap_new' _ _ _ (by simp only [World.size_alloc]) | rw [Below.heap_alloc _ _ _ (by simp only [World.size_alloc]; omega)]))

/-- The captured blocks: H the first box, n the first later variable. -/
def caps (H n : Nat) : Caps := { calls := n + 5, form := H + 2, data := H + 1, want := n, good := n + 6, adv := H + 6, fail1 := H + 3, e1 := n + 2, off2 := n + 7, val := H + 5, fail2 := H + 4, e2 := n + 4 }

theorem started {w w1 w' : World} {X R : Nat → Int} {a : Option Addr} {len cap : Nat} {fs : ByteArray} {f1 f2 : Bool} {vl ad : Int} (hb : Boxed w X a len cap fs f1 f2 vl ad w1) (hl : Latered w1 (lim R).toArray w') (hp : Pay w a len) (had : 0 ≤ ad ∧ ad ≤ 255) :
    Start (caps w.heap.size w1.heap.size) w.heap.size w w' a len cap fs R ad f1 f2 vl ⟨w1.heap.size + 1, 0, none⟩ ⟨w1.heap.size + 3, 0, none⟩ := by
  have hB := hb.later (B := w1.heap.size) hb.size hl.below
  have h1 := hb.size
  have h2 := hl.size
  refine ⟨⟨?_, ?_, fun j v hj => ?_, ?_, ?_, ?_, ?_, ?_, ?_, ?_⟩, hp, hB.below, ?_, ?_, ?_, ?_, rfl, ?_, ?_, ?_, ?_, ?_, ?_, ?_, ?_, had⟩
  · exact cell_in hB.b2 0
  · exact cell_in hB.b1 0
  · exact (cell_in hl.b0 (0 + j)).trans (by simpa using hj)
  · exact cell_in hl.b6 0
  · exact cell_in hB.b6 0
  · exact cell_in hB.b3 0
  · exact cell_in hl.b2 0
  · exact cell_in hB.b5 0
  · exact cell_in hB.b4 0
  · exact cell_in hl.b4 0
  · exact cell_in hl.b5 0
  · simp [caps, World.frozen?, hl.b5]
  · exact cell_in hl.b7 0
  · simp [caps, World.frozen?, hl.b7]
  all_goals simp [caps, Caps.reads]
  all_goals omega
end Go.Proofs.YbulkuisFmt
