/-
  The contract of zzs1032cresolve.
-/
import Derived.Test.YbulkuisFmtLim
namespace Go.Proofs.YbulkuisFmt
open Go.RowKit
set_option linter.unusedVariables false

/-- A row of seventeen cells, told cell by cell. -/
theorem row17 (c : Array Value) (f : Nat → Value) (h : c.toList = (List.range 17).map f) : c.size = 17 ∧ ∀ i, i < 17 → c[i]? = some (f i) := by
  have hl : c.size = 17 := by rw [← Array.length_toList, h]; simp
  refine ⟨hl, fun i hi => ?_⟩
  rw [← Array.getElem?_toList, h, List.getElem?_map, List.getElem?_range hi]
  rfl

theorem zrow17 (w : World) (c : Array Value) (t : TypeId) (f : Nat → Value) (h : c.toList = (List.range 17).map f) : (w.alloc (.cells c t)).rowIs w.heap.size t 17 f := by
  obtain ⟨h1, h2⟩ := row17 c f h
  have := World.rowIs_alloc w c t f (by rw [h1]; exact h2)
  rwa [h1] at this

structure Zs (w wr : World) (X : Nat → Int) (i : Nat) : Prop where
  below : Below w.heap.size w wr
  size : w.heap.size + 4 ≤ wr.heap.size
  lrow : wr.rowIs w.heap.size 33 17 (fun j => .int .i64 (if j < i then res X j else X j))
  rrow : wr.rowIs (w.heap.size + 1) 33 17 (fun _ => .int .i64 0)
  frow : wr.rowIs (w.heap.size + 2) 68 17 (fun j => .pointer (some ⟨w.heap.size, j, none⟩))
  drow : wr.rowIs (w.heap.size + 3) 69 17 (fun j => .int .i64 (dfl j))

theorem zs_start (w : World) (X : Nat → Int) : Zs w ((((w.alloc (.cells (lim X).toArray 33)).alloc (.cells #[.int .i64 0, .int .i64 0, .int .i64 0, .int .i64 0, .int .i64 0, .int .i64 0, .int .i64 0, .int .i64 0, .int .i64 0, .int .i64 0, .int .i64 0, .int .i64 0, .int .i64 0, .int .i64 0, .int .i64 0, .int .i64 0, .int .i64 0] 33)).alloc (.cells #[.pointer (some ⟨w.heap.size, 0, none⟩), .pointer (some ⟨w.heap.size, 1, none⟩), .pointer (some ⟨w.heap.size, 2, none⟩), .pointer (some ⟨w.heap.size, 3, none⟩), .pointer (some ⟨w.heap.size, 4, none⟩), .pointer (some ⟨w.heap.size, 5, none⟩), .pointer (some ⟨w.heap.size, 6, none⟩), .pointer (some ⟨w.heap.size, 7, none⟩), .pointer (some ⟨w.heap.size, 8, none⟩), .pointer (some ⟨w.heap.size, 9, none⟩), .pointer (some ⟨w.heap.size, 10, none⟩), .pointer (some ⟨w.heap.size, 11, none⟩), .pointer (some ⟨w.heap.size, 12, none⟩), .pointer (some ⟨w.heap.size, 13, none⟩), .pointer (some ⟨w.heap.size, 14, none⟩), .pointer (some ⟨w.heap.size, 15, none⟩), .pointer (some ⟨w.heap.size, 16, none⟩)] 68)).alloc (.cells #[.int .i64 65536, .int .i64 1024, .int .i64 16777216, .int .i64 1048576, .int .i64 65536, .int .i64 65536, .int .i64 65536, .int .i64 16777216, .int .i64 65536, .int .i64 65536, .int .i64 1024, .int .i64 1024, .int .i64 1024, .int .i64 16777216, .int .i64 1048576, .int .i64 1048576, .int .i64 65536] 69)) X 0 := by
  refine ⟨((((Below.refl _ _).alloc (Nat.le_refl _) _).alloc (by simp) _).alloc (by simp; omega) _).alloc (by simp; omega) _, by simp, ?_, ?_, ?_, ?_⟩
  · exact ((((zrow17 w (lim X).toArray 33 (fun j => .int .i64 (X j)) rfl).alloc _).alloc _).alloc _).congr (fun j _ => by simp)
  · have := zrow17 (w.alloc (.cells (lim X).toArray 33)) #[.int .i64 0, .int .i64 0, .int .i64 0, .int .i64 0, .int .i64 0, .int .i64 0, .int .i64 0, .int .i64 0, .int .i64 0, .int .i64 0, .int .i64 0, .int .i64 0, .int .i64 0, .int .i64 0, .int .i64 0, .int .i64 0, .int .i64 0] 33 (fun _ => .int .i64 0) rfl
    rw [World.size_alloc] at this
    exact (this.alloc _).alloc _
  · have := zrow17 ((w.alloc (.cells (lim X).toArray 33)).alloc (.cells #[.int .i64 0, .int .i64 0, .int .i64 0, .int .i64 0, .int .i64 0, .int .i64 0, .int .i64 0, .int .i64 0, .int .i64 0, .int .i64 0, .int .i64 0, .int .i64 0, .int .i64 0, .int .i64 0, .int .i64 0, .int .i64 0, .int .i64 0] 33)) #[.pointer (some ⟨w.heap.size, 0, none⟩), .pointer (some ⟨w.heap.size, 1, none⟩), .pointer (some ⟨w.heap.size, 2, none⟩), .pointer (some ⟨w.heap.size, 3, none⟩), .pointer (some ⟨w.heap.size, 4, none⟩), .pointer (some ⟨w.heap.size, 5, none⟩), .pointer (some ⟨w.heap.size, 6, none⟩), .pointer (some ⟨w.heap.size, 7, none⟩), .pointer (some ⟨w.heap.size, 8, none⟩), .pointer (some ⟨w.heap.size, 9, none⟩), .pointer (some ⟨w.heap.size, 10, none⟩), .pointer (some ⟨w.heap.size, 11, none⟩), .pointer (some ⟨w.heap.size, 12, none⟩), .pointer (some ⟨w.heap.size, 13, none⟩), .pointer (some ⟨w.heap.size, 14, none⟩), .pointer (some ⟨w.heap.size, 15, none⟩), .pointer (some ⟨w.heap.size, 16, none⟩)] 68 (fun j => .pointer (some ⟨w.heap.size, j, none⟩)) rfl
    rw [World.size_alloc, World.size_alloc] at this
    exact this.alloc _
  · have := zrow17 (((w.alloc (.cells (lim X).toArray 33)).alloc (.cells #[.int .i64 0, .int .i64 0, .int .i64 0, .int .i64 0, .int .i64 0, .int .i64 0, .int .i64 0, .int .i64 0, .int .i64 0, .int .i64 0, .int .i64 0, .int .i64 0, .int .i64 0, .int .i64 0, .int .i64 0, .int .i64 0, .int .i64 0] 33)).alloc (.cells #[.pointer (some ⟨w.heap.size, 0, none⟩), .pointer (some ⟨w.heap.size, 1, none⟩), .pointer (some ⟨w.heap.size, 2, none⟩), .pointer (some ⟨w.heap.size, 3, none⟩), .pointer (some ⟨w.heap.size, 4, none⟩), .pointer (some ⟨w.heap.size, 5, none⟩), .pointer (some ⟨w.heap.size, 6, none⟩), .pointer (some ⟨w.heap.size, 7, none⟩), .pointer (some ⟨w.heap.size, 8, none⟩), .pointer (some ⟨w.heap.size, 9, none⟩), .pointer (some ⟨w.heap.size, 10, none⟩), .pointer (some ⟨w.heap.size, 11, none⟩), .pointer (some ⟨w.heap.size, 12, none⟩), .pointer (some ⟨w.heap.size, 13, none⟩), .pointer (some ⟨w.heap.size, 14, none⟩), .pointer (some ⟨w.heap.size, 15, none⟩), .pointer (some ⟨w.heap.size, 16, none⟩)] 68)) #[.int .i64 65536, .int .i64 1024, .int .i64 16777216, .int .i64 1048576, .int .i64 65536, .int .i64 65536, .int .i64 65536, .int .i64 16777216, .int .i64 65536, .int .i64 65536, .int .i64 1024, .int .i64 1024, .int .i64 1024, .int .i64 16777216, .int .i64 1048576, .int .i64 1048576, .int .i64 65536] 69 (fun j => .int .i64 (dfl j)) rfl
    rw [World.size_alloc, World.size_alloc, World.size_alloc] at this
    exact this

theorem Zs.alloc {w wr : World} {X : Nat → Int} {i : Nat} (h : Zs w wr X i) (o : Obj) : Zs w (wr.alloc o) X i := by
  have := h.size
  exact ⟨h.below.alloc (by omega) o, by simp; omega, h.lrow.alloc o, h.rrow.alloc o, h.frow.alloc o, h.drow.alloc o⟩
theorem Zs.drew {w wr : World} {X : Nat → Int} {i : Nat} (h : Zs w wr X i) : Zs w wr.drew X i := ⟨h.below.drew, h.size, h.lrow.drew, h.rrow.drew, h.frow.drew, h.drow.drew⟩
theorem Zs.step {w wr : World} {X : Nat → Int} {i : Nat} (h : Zs w wr X i) {v : Int} (hv : v = res X i) : Zs w (wr.setCell ⟨w.heap.size, i, none⟩ (.int .i64 v)) X (i + 1) := by
  subst hv
  refine ⟨h.below.setCell (Nat.le_refl _) _, by simpa using h.size, (h.lrow.set i _).congr (fun j _ => ?_), h.rrow.setOther (by show w.heap.size + 1 ≠ w.heap.size; omega) _, h.frow.setOther (by show w.heap.size + 2 ≠ w.heap.size; omega) _, h.drow.setOther (by show w.heap.size + 3 ≠ w.heap.size; omega) _⟩
  by_cases e : j = i
  · subst e; simp
  · rw [if_neg e]
    by_cases hl : j < i
    · rw [if_pos hl, if_pos (by omega)]
    · rw [if_neg hl, if_neg (by omega)]

theorem ret8 {tmps : Array Value} {W : World} {g : Nat} {c : Array Value} {t : TypeId} {fr : Nat × Nat} {b : Bool} (hp : tmps.getD 2 undef = .pointer (some ⟨g, 0, none⟩)) (hb : tmps.getD 3 undef = .bool b)
    (hg : W.heap[g]? = some (.cells c t fr)) (hc : c.size = 17) : (results Ybaf.f8 tmps).run Ybaf.prog W = .ok (.tuple #[.agg c, .bool b]) W := by
  have h1 := run_loadVar_row (P := Ybaf.prog) W g t 33 c fr _ hg Ybaf.underlying33 rfl (size33_of hc)
  have hp' : tmps[2]?.getD undef = .pointer (some ⟨g, 0, none⟩) := by simpa using hp
  have hb' : tmps[3]?.getD undef = .bool b := by simpa using hb
  simp [results, Ybaf.results8, hp', hb', asAddr, h1]

/-- What a resolved or a refused Limits is. -/
def Zpost (X : Nat → Int) (e : Ending) : Prop :=
  ((∀ j, j < 17 → 0 ≤ X j) ∧ e = .returned (.tuple #[.agg (lim (res X)).toArray, .bool true])) ∨
  ((∃ j, j < 17 ∧ X j < 0) ∧ ∃ c : Array Value, c.size = 17 ∧ c.toList.all (·.oneCell') = true ∧ e = .returned (.tuple #[.agg c, .bool false]))

theorem pos_step {X : Nat → Int} {i : Nat} (h : ∀ j, j < i → 0 ≤ X j) (hi : ¬ X i < 0) : ∀ j, j < i + 1 → 0 ≤ X j := fun j hj => by
  rcases Nat.lt_or_ge j i with h' | h'
  · exact h j h'
  · obtain rfl : j = i := by omega
    omega

set_option maxHeartbeats 4000000 in
theorem zres_any (X : Nat → Int) (w : World) :
    Calls Ybaf.prog 8 #[.agg (lim X).toArray] w fun e w' => Zpost X e ∧ Below w.heap.size w w' := by
  go_enter Ybaf.func8, Ybaf.ntmps8
  go_wp2_with (first
    | (refine wpList_store_new rfl 68 (.tmp 4) (.tmp 24) rfl _ _ _ rfl (w.heap.size + 1 + 1) (by simp) rfl rfl (by kernel_rfl) rfl rfl ?_)
    | (refine wpList_store_new rfl 69 (.tmp 5) (.tmp 25) rfl _ _ _ rfl (w.heap.size + 1 + 1 + 1) (by simp) rfl rfl (by kernel_rfl) rfl rfl ?_))
  go_loopg [6] 17 (fun g t wr => ∃ i : Nat, i ≤ 17 ∧ g = 17 - i ∧ t = .int .i64 i ∧ (∀ j, j < i → 0 ≤ X j) ∧ Zs w wr X i)
  case atStart => exact ⟨0, by omega, rfl, rfl, fun j hj => by omega, zs_start w X⟩
  case round =>
    obtain ⟨i, hi, rfl, rfl, hpos, hZ⟩ := hrel
    have HPos : Hid (∀ j, j < i → 0 ≤ X j) := hpos
    clear hpos
    obtain ⟨cl, hbl, hsl, hcl⟩ := hZ.lrow
    obtain ⟨cr, hbr, hsr, _⟩ := hZ.rrow
    have hol : cl.toList.all (·.oneCell') = true := row_ones hsl hcl
    have hrr : cr.size = cl.size := by omega
    have HL : Hid (wr.heap[w.heap.size]? = some (.cells cl 33 (0, 0))) := hbl
    have HR : Hid (wr.heap[w.heap.size + 1]? = some (.cells cr 33 (0, 0))) := hbr
    have HO : Hid (cl.toList.all (·.oneCell') = true) := hol
    have HRR : Hid (cr.size = cl.size) := hrr
    have HS : Hid (cl.size = 17) := hsl
    have HCl : Hid (∀ j, j < 17 → cl[j]? = some (.int .i64 (if j < i then res X j else X j))) := hcl
    clear hbl hbr hol hrr hsl hsr hcl
    by_cases hlt : i < 17
    · have hI : (i : Int) < 17 := by omega
      have c1 : wr.cell? ⟨w.heap.size + 2, i, none⟩ = some (.pointer (some ⟨w.heap.size, i, none⟩)) := hZ.frow.cell hlt
      have c2 : wr.cell? ⟨w.heap.size, i, none⟩ = some (.int .i64 (X i)) := by
        have := hZ.lrow.cell hlt
        rwa [if_neg (by omega)] at this
      have c3 : wr.cell? ⟨w.heap.size + 3, i, none⟩ = some (.int .i64 (dfl i)) := hZ.drow.cell hlt
      by_cases hneg : X i < 0
      · go_wp2_with (first
          | (refine wpList_load_row rfl 33 (.tmp 1) rfl w.heap.size rfl 33 cl (0, 0) _ HL.out Ybaf.underlying33 rfl (size33_of HS.out) ?_)
          | (refine wpList_store_whole rfl 33 (.tmp 2) (.tmp 36) rfl (w.heap.size + 1) cr cl 33 HR.out rfl rfl (size33_of HS.out) HRR.out HO.out ?_))
        refine bodyPost_ret (ret8 (g := w.heap.size + 1) (c := cl) (b := false) rfl rfl (setRow_heap wr _ _ _ 33 _ HR.out) HS.out) rfl ?_
        exact ⟨.inr ⟨⟨i, hlt, hneg⟩, cl, HS.out, HO.out, rfl⟩, hZ.below.trans ⟨rfl, rfl, rfl, by simp, fun k hk => setRow_other wr _ _ _ (by omega)⟩⟩
      · go_wp2
        obtain ⟨r, hr⟩ : ∃ r, r = res X i := ⟨_, rfl⟩
        have OR : Calls Ybaf.prog 16 #[.slice (some ⟨wr.heap.size, 0, none⟩) 2 2] (wr.alloc (.cells #[.int .i64 (X i), .int .i64 (dfl i)] 3)).drew fun e w' => e = .returned (.int .i64 r) ∧ (wr.alloc (.cells #[.int .i64 (X i), .int .i64 (dfl i)] 3)).drew = w' := by
          rw [hr]
          exact or_any wr.heap.size (X i) (dfl i) _ (dfl_ne i hlt) (by simp [go_sem]) (by simp [go_sem])
        have HRes : Hid (r = res X i) := hr
        have HOR : Hid (Calls Ybaf.prog 16 #[.slice (some ⟨wr.heap.size, 0, none⟩) 2 2] (wr.alloc (.cells #[.int .i64 (X i), .int .i64 (dfl i)] 3)).drew fun e w' => e = .returned (.int .i64 r) ∧ (wr.alloc (.cells #[.int .i64 (X i), .int .i64 (dfl i)] 3)).drew = w') := OR
        have f1 := hZ.lrow.frozen i
        have hsz := hZ.size
        have z0 : w.heap.size < wr.heap.size := by omega
        have z2 : w.heap.size + 1 + 1 < wr.heap.size := by omega
        have z3 : w.heap.size + 1 + 1 + 1 < wr.heap.size := by omega
        clear hr OR HL HR HO HRR HS HCl hsz
        go_region_with (go_at_call 16; refine HOR.out.mono ?_; rintro e w' ⟨rfl, rfl⟩)
        all_goals
          have hZ2 := ((hZ.step HRes.out).alloc (.cells #[.int .i64 (X i), .int .i64 (dfl i)] 3)).drew
          clear HOR f1 c1 c2 c3 z0 z2 z3 hZ
          go_wp2
          go_roundg (17 - (i + 1))
          case measure => omega
          case rel => exact ⟨i + 1, by omega, rfl, by go_num, pos_step HPos.out (by omega), hZ2⟩
    · obtain rfl : i = 17 := by omega
      go_wp2_with (first
        | (refine wpList_load_row rfl 33 (.tmp 1) rfl w.heap.size rfl 33 cl (0, 0) _ HL.out Ybaf.underlying33 rfl (size33_of HS.out) ?_)
        | (refine wpList_store_whole rfl 33 (.tmp 2) (.tmp 51) rfl (w.heap.size + 1) cr cl 33 HR.out rfl rfl (size33_of HS.out) HRR.out HO.out ?_))
      refine bodyPost_ret (ret8 (g := w.heap.size + 1) (c := cl) (b := true) rfl rfl (setRow_heap wr _ _ _ 33 _ HR.out) HS.out) rfl ?_
      have hcl : cl = (lim (res X)).toArray := row_lim HS.out (fun j hj => by have := HCl.out j hj; rwa [if_pos hj] at this)
      exact ⟨.inl ⟨HPos.out, by rw [hcl]⟩, hZ.below.trans ⟨rfl, rfl, rfl, by simp, fun k hk => setRow_other wr _ _ _ (by omega)⟩⟩
end Go.Proofs.YbulkuisFmt
