/-
  decodeReplay's two walks.
-/
import Derived.Test.YbulkuisFmtDec
namespace Go.Proofs.YbulkuisFmt
open Go.RowKit Go.Extern.Stop Go.Stop Go.Extern
set_option linter.unusedVariables false

set_option maxHeartbeats 1000000 in
theorem dec_neg (F : Interp) (X : Nat → Int) (nm : Nat → ByteArray) (a : Option Addr) (len cap : Nat) (fs : ByteArray) (fv : Value) (w : World) (hF : F.answers w.tape) (hL : Laid w nm) (hlen : ∀ j, j < 17 → (FmtStop.textOf (F "fmt.Sprintf" (reading (nm j).data.toList (X j)) 0)).size ≤ 2000)
   (hn : ∃ j, j < 17 ∧ X j < 0) :
    Calls Ybaf.prog 12 #[.agg (lim X).toArray, .slice a len cap, .string fs, fv] w fun e w' => (∃ p, e = .returned (.tuple #[.int .i64 0, .iface 71 (.pointer (some p))])) ∧ Below w.heap.size w w' := by
  have R := resolve_any F X nm ((w.alloc (.cells (lim X).toArray 33)).alloc (.cells #[.int .i64 0] 3)) hF ((hL.alloc _).alloc _) hlen
  have HRv : Hid (Calls Ybaf.prog 17 #[.agg (lim X).toArray] ((w.alloc (.cells (lim X).toArray 33)).alloc (.cells #[.int .i64 0] 3)) fun e w' => Rpost X ((w.alloc (.cells (lim X).toArray 33)).alloc (.cells #[.int .i64 0] 3)) w' e ∧ Below ((w.alloc (.cells (lim X).toArray 33)).alloc (.cells #[.int .i64 0] 3)).heap.size ((w.alloc (.cells (lim X).toArray 33)).alloc (.cells #[.int .i64 0] 3)) w') := R
  clear R hF hL hlen
  have hb0 : (w.alloc (.cells (lim X).toArray 33)).heap[w.heap.size]? = some (.cells (lim X).toArray 33 (0, 0)) := heap_alloc_new _ _
  have hb1 : ((w.alloc (.cells (lim X).toArray 33)).alloc (.cells #[.int .i64 0] 3)).heap[w.heap.size]? = some (.cells (lim X).toArray 33 (0, 0)) := by
    rw [heap_alloc_old _ _ (by simp)]; exact hb0
  have HB1 : Hid (((w.alloc (.cells (lim X).toArray 33)).alloc (.cells #[.int .i64 0] 3)).heap[w.heap.size]? = some (.cells (lim X).toArray 33 (0, 0))) := hb1
  clear hb0 hb1
  go_enter Ybaf.func12, Ybaf.ntmps12
  go_wp2_with (first
    | (refine wpList_load_row rfl 33 (.tmp 4) rfl w.heap.size rfl 33 (lim X).toArray (0, 0) _ HB1.out Ybaf.underlying33 rfl Ybaf.size33 ?_))
  refine HRv.out.mono ?_
  rintro e w1 ⟨⟨hp, _⟩ | ⟨_, cc, p, hcs, hc1, _, rfl⟩, hbel⟩
  · obtain ⟨j, hj, hneg⟩ := hn
    exact absurd hneg (by have := hp j hj; omega)
  · have hs1 := hbel.size
    simp only [World.size_alloc] at hs1
    have hbl : w1.heap[w.heap.size]? = some (.cells (lim X).toArray 33 (0, 0)) := by
      rw [hbel.block _ (by simp; omega)]; exact HB1.out
    have v0 : w1.cell? ⟨w.heap.size + 1, 0, none⟩ = some (.int .i64 0) := by
      rw [hbel.cell (p := ⟨w.heap.size + 1, 0, none⟩) (by simp)]; simp [go_sem]
    have vf : w1.frozen? ⟨w.heap.size + 1, 0, none⟩ = false := by
      rw [hbel.frozen (p := ⟨w.heap.size + 1, 0, none⟩) (by simp)]; simp [go_sem]
    have HBl : Hid (w1.heap[w.heap.size]? = some (.cells (lim X).toArray 33 (0, 0))) := hbl
    clear hbl HRv HB1
    go_wp2_with (refine wpList_store_only rfl 33 (.tmp 4) (.tmp 17) rfl w.heap.size (lim X).toArray cc 33 HBl.out rfl rfl (size33_of hcs) hcs.symm hc1 ?_)
    intro w2 HB2 hO
    have v1 := (hO.cell (p := ⟨w.heap.size + 1, 0, none⟩) (by simp)).trans v0
    have vf1 := (hO.frozen (p := ⟨w.heap.size + 1, 0, none⟩) (by simp)).trans vf
    have hs2 : w.heap.size + 1 + 1 ≤ w2.heap.size := by rw [hO.size]; exact hs1
    have hb2 := hO.below (((Below.refl w.heap.size w).alloc (Nat.le_refl _) (.cells (lim X).toArray 33)).alloc (by simp) (.cells #[.int .i64 0] 3)|>.trans (hbel.mono (by simp; omega))) (Nat.le_refl _)
    clear v0 vf HBl hO hbel hs1
    go_wp2
    have v2 : (w2.setCell ⟨w.heap.size + 1, 0, none⟩ (.int .i64 0)).cell? ⟨w.heap.size + 1, 0, none⟩ = some (.int .i64 0) := World.cell?_setCell_same _ _ _ v1
    refine bodyPost_ret (v := .tuple #[.int .i64 0, .iface 71 (.pointer (some p))]) (by simp [results, Ybaf.results12, go_sem, v2]) rfl ⟨⟨p, rfl⟩, hb2.setCell (by show _ ≤ w.heap.size + 1; omega) _⟩

set_option maxHeartbeats 1600000 in
theorem dec_pos (F : Interp) (X : Nat → Int) (nm : Nat → ByteArray) (c : Caps) (B0 : Nat) (w0 w : World) (a : Option Addr) (len cap : Nat) (fs : ByteArray) (ad : Int) (f1 f2 : Bool) (vl : Int) (p1 p2 : Addr) (hF : F.answers w.tape) (hL : Laid w nm) (hlen : ∀ j, j < 17 → (FmtStop.textOf (F "fmt.Sprintf" (reading (nm j).data.toList (X j)) 0)).size ≤ 2000)
   (hpos : ∀ j, j < 17 → 0 ≤ X j) (S : Start c B0 w0 w a len cap fs (res X) ad f1 f2 vl p1 p2) :
    Calls Ybaf.prog 12 #[.agg (lim X).toArray, .slice a len cap, .string fs, .func (.func 10) #[] c.args] w fun e w' =>
      (f1 = true ∧ e = .returned (.tuple #[.int .i64 0, .iface 71 (.pointer (some p1))]) ∧ Gone c B0 w w' 1) ∨
      (f1 = false ∧ f2 = true ∧ e = .returned (.tuple #[.int .i64 0, .iface 71 (.pointer (some p2))]) ∧ Gone c B0 w w' 2 ∧ w'.cell? ⟨c.off2, 0, none⟩ = some (.int .i64 ad)) ∨
      (f1 = false ∧ f2 = false ∧ e = .returned (.tuple #[.int .i64 vl, .nilIface]) ∧ Gone c B0 w w' 2 ∧ w'.cell? ⟨c.off2, 0, none⟩ = some (.int .i64 ad)) := by
  have R := resolve_any F X nm ((w.alloc (.cells (lim X).toArray 33)).alloc (.cells #[.int .i64 0] 3)) hF ((hL.alloc _).alloc _) hlen
  have HRv : Hid (Calls Ybaf.prog 17 #[.agg (lim X).toArray] ((w.alloc (.cells (lim X).toArray 33)).alloc (.cells #[.int .i64 0] 3)) fun e w' => Rpost X ((w.alloc (.cells (lim X).toArray 33)).alloc (.cells #[.int .i64 0] 3)) w' e ∧ Below ((w.alloc (.cells (lim X).toArray 33)).alloc (.cells #[.int .i64 0] 3)).heap.size ((w.alloc (.cells (lim X).toArray 33)).alloc (.cells #[.int .i64 0] 3)) w') := R
  clear R hF hL hlen
  have hb0 : (w.alloc (.cells (lim X).toArray 33)).heap[w.heap.size]? = some (.cells (lim X).toArray 33 (0, 0)) := heap_alloc_new _ _
  have hb1 : ((w.alloc (.cells (lim X).toArray 33)).alloc (.cells #[.int .i64 0] 3)).heap[w.heap.size]? = some (.cells (lim X).toArray 33 (0, 0)) := by
    rw [heap_alloc_old _ _ (by simp)]; exact hb0
  have HB1 : Hid (((w.alloc (.cells (lim X).toArray 33)).alloc (.cells #[.int .i64 0] 3)).heap[w.heap.size]? = some (.cells (lim X).toArray 33 (0, 0))) := hb1
  have HS : Hid (Start c B0 w0 w a len cap fs (res X) ad f1 f2 vl p1 p2) := S
  clear hb0 hb1 S
  obtain ⟨cs, hcs⟩ : ∃ cs, cs = c.args := ⟨_, rfl⟩
  rw [← hcs]
  have HCS : Hid (cs = c.args) := hcs
  clear hcs
  go_enter Ybaf.func12, Ybaf.ntmps12
  go_wp2_with (first
    | (refine wpList_load_row rfl 33 (.tmp 4) rfl w.heap.size rfl 33 (lim X).toArray (0, 0) _ HB1.out Ybaf.underlying33 rfl Ybaf.size33 ?_))
  refine HRv.out.mono ?_
  rintro e w1 ⟨hp | ⟨⟨j, hj, hneg⟩, _⟩, hbel⟩
  · obtain ⟨_, rfl⟩ := hp
    have hs1 := hbel.size
    simp only [World.size_alloc] at hs1
    have hbl : w1.heap[w.heap.size]? = some (.cells (lim X).toArray 33 (0, 0)) := by
      rw [hbel.block _ (by simp; omega)]; exact HB1.out
    have v0 : w1.cell? ⟨w.heap.size + 1, 0, none⟩ = some (.int .i64 0) := by
      rw [hbel.cell (p := ⟨w.heap.size + 1, 0, none⟩) (by simp)]; simp [go_sem]
    have vf : w1.frozen? ⟨w.heap.size + 1, 0, none⟩ = false := by
      rw [hbel.frozen (p := ⟨w.heap.size + 1, 0, none⟩) (by simp)]; simp [go_sem]
    have HBl : Hid (w1.heap[w.heap.size]? = some (.cells (lim X).toArray 33 (0, 0))) := hbl
    clear hbl HRv HB1
    go_wp2_with (refine wpList_store_only rfl 33 (.tmp 4) (.tmp 17) rfl w.heap.size (lim X).toArray (lim (res X)).toArray 33 HBl.out rfl rfl Ybaf.size33 rfl rfl ?_)
    intro w2 HB2 hO
    have v1 := (hO.cell (p := ⟨w.heap.size + 1, 0, none⟩) (by simp)).trans v0
    have vf1 := (hO.frozen (p := ⟨w.heap.size + 1, 0, none⟩) (by simp)).trans vf
    have hs2 : w.heap.size + 1 + 1 ≤ w2.heap.size := by rw [hO.size]; exact hs1
    have hb2 := hO.below (((Below.refl w.heap.size w).alloc (Nat.le_refl _) (.cells (lim X).toArray 33)).alloc (by simp) (.cells #[.int .i64 0] 3)|>.trans (hbel.mono (by simp; omega))) (Nat.le_refl _)
    clear v0 vf HBl hO hbel hs1
    have HM : Hid _ := Mid.start HS.out hb2 v1 vf1 (by omega) (by omega)
    go_wp2_with (first
      | (refine wpList_load_row rfl 33 (.tmp 4) rfl w.heap.size rfl 33 (lim (res X)).toArray (0, 0) _ HB2.out Ybaf.underlying33 rfl Ybaf.size33 ?_)
      | (refine wpList_build58 rfl rfl (res X) rfl ?_)
      | (refine wpList_store_new rfl 58 (.tmp 10) (.tmp 24) rfl _ _ _ rfl w2.heap.size rfl rfl rfl (Ybaf.size58 _) rfl (rdr_one _) ?_))
    have FC := first_call HS.out HM.out
    rw [← HCS.out] at FC
    refine FC.mono ?_
    clear FC
    rintro e w3 ⟨rfl, m3⟩
    have v3 := m3.v
    have vf3 := m3.vF
    have HM3 : Hid _ := m3
    clear m3 v1 vf1 hb2 HB2
    cases f1
    · simp only [Bool.false_eq_true, if_false]
      go_wp2_with (fail)
      have FC := second_call HS.out HM3.out
      rw [← HCS.out] at FC
      refine FC.mono ?_
      clear FC HM3
      rintro e w4 ⟨rfl, m4⟩
      have v4 := m4.v
      have vf4 := m4.vF
      have HM4 : Hid _ := m4
      clear m4 v3 vf3
      cases f2
      · simp only [Bool.false_eq_true, if_false]
        go_wp2
        have hT := HM4.out.told HS.out vl
        exact bodyPost_ret (v := .tuple #[.int .i64 vl, .nilIface]) (by simp [results, Ybaf.results12, go_sem, hT.v]) rfl (by first | exact .inr (.inr ⟨rfl, rfl, rfl, hT.gone, hT.off⟩) | exact ⟨rfl, hT.gone, hT.off⟩)
      · simp only [if_true]
        go_wp2
        have hT := HM4.out.told HS.out 0
        exact bodyPost_ret (v := .tuple #[.int .i64 0, .iface 71 (.pointer (some p2))]) (by simp [results, Ybaf.results12, go_sem, hT.v]) rfl (by first | exact .inr (.inl ⟨rfl, rfl, rfl, hT.gone, hT.off⟩) | exact ⟨rfl, hT.gone, hT.off⟩)
    · simp only [if_true]
      go_wp2
      have hT := HM3.out.told HS.out 0
      exact bodyPost_ret (v := .tuple #[.int .i64 0, .iface 71 (.pointer (some p1))]) (by simp [results, Ybaf.results12, go_sem, hT.v]) rfl (by first | exact .inl ⟨rfl, rfl, hT.gone⟩ | exact ⟨rfl, hT.gone⟩)
  · exact absurd hneg (by have := hpos j hj; omega)
end Go.Proofs.YbulkuisFmt
