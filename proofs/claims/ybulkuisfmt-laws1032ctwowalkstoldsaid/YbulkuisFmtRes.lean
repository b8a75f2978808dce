/-
  The contract of Limits.resolve.
-/
import Derived.Test.YbulkuisFmtNeg
import Derived.Test.YbulkuisFmtFields
namespace Go.Proofs.YbulkuisFmt
open Go.RowKit Go.Extern.Stop Go.Stop Go.Extern
set_option linter.unusedVariables false
set_option linter.unusedSimpArgs false

theorem index68 (g : Nat) (w : World) : ∀ i : Nat, i < 17 → (Instr.index 68 (.agg (ptrs g).toArray) (.int .i64 (i : Int))).run Ybaf.prog w = .ok (.pointer (some ⟨g, i, none⟩)) w
  | 0, _ => by kernel_rfl
  | 1, _ => by kernel_rfl
  | 2, _ => by kernel_rfl
  | 3, _ => by kernel_rfl
  | 4, _ => by kernel_rfl
  | 5, _ => by kernel_rfl
  | 6, _ => by kernel_rfl
  | 7, _ => by kernel_rfl
  | 8, _ => by kernel_rfl
  | 9, _ => by kernel_rfl
  | 10, _ => by kernel_rfl
  | 11, _ => by kernel_rfl
  | 12, _ => by kernel_rfl
  | 13, _ => by kernel_rfl
  | 14, _ => by kernel_rfl
  | 15, _ => by kernel_rfl
  | 16, _ => by kernel_rfl
  | n + 17, h => absurd h (by omega)

/-- limitFields as the row lists it: names of some length, and the defaults. -/
def Laid (w : World) (nm : Nat → ByteArray) : Prop :=
  ∀ j, j < 17 → w.cell? ⟨0, j * 2, none⟩ = some (.string (nm j)) ∧ w.cell? ⟨0, j * 2 + 1, none⟩ = some (.int .i64 (dfl j)) ∧ (nm j).data.toList.length ≤ 1000

theorem heap_setCells_other (b : Nat) : ∀ (vs : List Value) (o : Nat) (w : World) (k : Nat), k ≠ b → (w.setCells b o vs).heap[k]? = w.heap[k]?
  | [], _, _, _, _ => rfl
  | v :: r, o, w, k, h => by
    rw [World.setCells, heap_setCells_other b r (o + 1) _ k h]
    exact Below.heap_setCell _ _ _ _ h
theorem setCells_same (b : Nat) : ∀ (vs : List Value) (o : Nat) (w : World), (w.setCells b o vs).os = w.os ∧ (w.setCells b o vs).tape = w.tape ∧ (w.setCells b o vs).output = w.output ∧ (w.setCells b o vs).heap.size = w.heap.size
  | [], _, _ => ⟨rfl, rfl, rfl, rfl⟩
  | v :: r, o, w => by
    obtain ⟨h1, h2, h3, h4⟩ := setCells_same b r (o + 1) (w.setCell ⟨b, o, none⟩ v)
    rw [World.setCells]
    exact ⟨h1, h2, h3, h4.trans (World.size_setCell _ _ _)⟩
/-- A whole row stored over a whole row. -/
theorem heap_setCells (w : World) (b : Nat) (cr cl : Array Value) (t : TypeId) (h : w.heap[b]? = some (.cells cr t (0, 0))) (hs : cr.size = cl.size) : (w.setCells b 0 cl.toList).heap[b]? = some (.cells cl t (0, 0)) := by
  have key : ∀ (vs : List Value) (o : Nat) (w : World) (c : Array Value), w.heap[b]? = some (.cells c t (0, 0)) → o + vs.length = c.size → (w.setCells b o vs).heap[b]? = some (.cells (c.toList.take o ++ vs).toArray t (0, 0)) := by
    intro vs
    induction vs with
    | nil =>
      intro o w c h ho
      rw [World.setCells, h, List.append_nil, List.take_of_length_le (by simp at ho ⊢; omega)]
    | cons v r ih =>
      intro o w c h ho
      have hoc : o < c.size := by simp at ho; omega
      rw [World.setCells, ih (o + 1) _ (c.setIfInBounds o v) (heap_setCell_same w b o c t v h) (by simp at ho ⊢; omega)]
      congr 3
      rw [Array.toList_setIfInBounds, List.take_succ_eq_append_getElem (by simpa using hoc), List.take_set_of_le (Nat.le_refl _)]
      simp
  have := key cl.toList 0 w cr h (by simp; omega)
  simpa using this

structure Rs (w wr : World) (X : Nat → Int) (i : Nat) : Prop where
  below : Below w.heap.size w wr
  size : w.heap.size + 2 ≤ wr.heap.size
  lrow : wr.rowIs w.heap.size 33 17 (fun j => .int .i64 (if j < i then res X j else X j))
  rrow : wr.rowIs (w.heap.size + 1) 33 17 (fun _ => .int .i64 0)

theorem rowIs17 (w : World) (c : Array Value) (t : TypeId) (f : Nat → Value) (h : c.toList = (List.range 17).map f) : (w.alloc (.cells c t)).rowIs w.heap.size t 17 f := by
  have h1 : c.size = 17 := by rw [← Array.length_toList, h]; simp
  have h2 : ∀ i, i < c.size → c[i]? = some (f i) := fun i hi => by
    rw [← Array.getElem?_toList, h, List.getElem?_map, List.getElem?_range (by omega)]
    rfl
  have := World.rowIs_alloc w c t f h2
  rwa [h1] at this

theorem rs_start (w : World) (X : Nat → Int) (o : Obj) : Rs w (((w.alloc (.cells (lim X).toArray 33)).alloc (.cells #[.int .i64 0, .int .i64 0, .int .i64 0, .int .i64 0, .int .i64 0, .int .i64 0, .int .i64 0, .int .i64 0, .int .i64 0, .int .i64 0, .int .i64 0, .int .i64 0, .int .i64 0, .int .i64 0, .int .i64 0, .int .i64 0, .int .i64 0] 33)).alloc o).drew X 0 := by
  refine ⟨((((Below.refl _ _).alloc (Nat.le_refl _) _).alloc (by simp) _).alloc (by simp; omega) _).drew, by simp, ?_, ?_⟩
  · exact (((rowIs17 w (lim X).toArray 33 (fun j => .int .i64 (X j)) rfl).alloc _).alloc _).congr (fun j _ => by simp)
  · have := rowIs17 (w.alloc (.cells (lim X).toArray 33)) #[.int .i64 0, .int .i64 0, .int .i64 0, .int .i64 0, .int .i64 0, .int .i64 0, .int .i64 0, .int .i64 0, .int .i64 0, .int .i64 0, .int .i64 0, .int .i64 0, .int .i64 0, .int .i64 0, .int .i64 0, .int .i64 0, .int .i64 0] 33 (fun _ => .int .i64 0) rfl
    rw [World.size_alloc] at this
    exact this.alloc _

theorem Rs.alloc {w wr : World} {X : Nat → Int} {i : Nat} (h : Rs w wr X i) (o : Obj) : Rs w (wr.alloc o) X i := by
  have := h.size
  exact ⟨h.below.alloc (by omega) o, by simp; omega, h.lrow.alloc o, h.rrow.alloc o⟩
theorem Rs.drew {w wr : World} {X : Nat → Int} {i : Nat} (h : Rs w wr X i) : Rs w wr.drew X i := ⟨h.below.drew, h.size, h.lrow.drew, h.rrow.drew⟩
theorem Rs.step {w wr : World} {X : Nat → Int} {i : Nat} (h : Rs w wr X i) {v : Int} (hv : v = res X i) : Rs w (wr.setCell ⟨w.heap.size, i, none⟩ (.int .i64 v)) X (i + 1) := by
  subst hv
  refine ⟨h.below.setCell (Nat.le_refl _) _, by simpa using h.size, (h.lrow.set i _).congr (fun j _ => ?_), h.rrow.setOther (by show w.heap.size + 1 ≠ w.heap.size; omega) _⟩
  by_cases e : j = i
  · subst e; simp
  · rw [if_neg e]
    by_cases hl : j < i
    · rw [if_pos hl, if_pos (by omega)]
    · rw [if_neg hl, if_neg (by omega)]

theorem ret17 {tmps : Array Value} {W : World} {g : Nat} {c : Array Value} {t : TypeId} {fr : Nat × Nat} {v : Value} (hp : tmps.getD 2 undef = .pointer (some ⟨g, 0, none⟩)) (hb : tmps.getD 3 undef = v)
    (hg : W.heap[g]? = some (.cells c t fr)) (hc : c.size = 17) : (results Ybaf.f17 tmps).run Ybaf.prog W = .ok (.tuple #[.agg c, v]) W := by
  have h1 := run_loadVar_row (P := Ybaf.prog) W g t 33 c fr _ hg Ybaf.underlying33 rfl (size33_of hc)
  have hp' : tmps[2]?.getD undef = .pointer (some ⟨g, 0, none⟩) := by simpa using hp
  have hb' : tmps[3]?.getD undef = v := by simpa using hb
  simp [results, Ybaf.results17, hp', hb', asAddr, h1]

/-- A new error: its block is new and holds one cell. -/
def NewErr (w w' : World) (p : Addr) : Prop := w.heap.size ≤ p.block ∧ ∃ s, w'.heap[p.block]? = some (.cells #[.string s] 73 (0, 0))

/-- What resolve gives. -/
def Rpost (X : Nat → Int) (w w' : World) (e : Ending) : Prop :=
  ((∀ j, j < 17 → 0 ≤ X j) ∧ e = .returned (.tuple #[.agg (lim (res X)).toArray, .nilIface])) ∨
  ((∃ j, j < 17 ∧ X j < 0) ∧ ∃ (c : Array Value) (p : Addr), c.size = 17 ∧ c.toList.all (·.oneCell') = true ∧ NewErr w w' p ∧ e = .returned (.tuple #[.agg c, .iface 71 (.pointer (some p))]))

theorem rpos_step {X : Nat → Int} {i : Nat} (h : ∀ j, j < i → 0 ≤ X j) (hi : ¬ X i < 0) : ∀ j, j < i + 1 → 0 ≤ X j := fun j hj => by
  rcases Nat.lt_or_ge j i with h' | h'
  · exact h j h'
  · obtain rfl : j = i := by omega
    omega

set_option maxHeartbeats 4000000 in
theorem resolve_any (F : Interp) (X : Nat → Int) (nm : Nat → ByteArray) (w : World) (hF : F.answers w.tape) (hL : Laid w nm) (hlen : ∀ j, j < 17 → (FmtStop.textOf (F "fmt.Sprintf" (reading (nm j).data.toList (X j)) 0)).size ≤ 2000) :
    Calls Ybaf.prog 17 #[.agg (lim X).toArray] w fun e w' => Rpost X w w' e ∧ Below w.heap.size w w' := by
  have FL := fun wx => fields_any w.heap.size wx
  have HFL : Hid (∀ wx, Calls Ybaf.prog 22 #[.pointer (some ⟨w.heap.size, 0, none⟩)] wx fun e w' => e = .returned (.agg (ptrs w.heap.size).toArray) ∧ w' = (wx.alloc (.cells (ptrs w.heap.size).toArray 68)).drew) := FL
  have HLd : Hid (Laid w nm) := hL
  have HLen : Hid (∀ j, j < 17 → (FmtStop.textOf (F "fmt.Sprintf" (reading (nm j).data.toList (X j)) 0)).size ≤ 2000) := hlen
  clear FL hL hlen
  go_enter Ybaf.func17, Ybaf.ntmps17
  go_wp2_with fail
  refine (HFL.out _).mono ?_
  clear HFL
  rintro e w' ⟨rfl, rfl⟩
  go_wp2
  go_loopg [7] 17 (fun g t wr => ∃ i : Nat, i ≤ 17 ∧ g = 17 - i ∧ t = .int .i64 i ∧ (∀ j, j < i → 0 ≤ X j) ∧ Rs w wr X i)
  case atStart => exact ⟨0, by omega, rfl, rfl, fun j hj => by omega, rs_start w X _⟩
  case round =>
    obtain ⟨i, hi, rfl, rfl, hpos, hZ⟩ := hrel
    have HPos : Hid (∀ j, j < i → 0 ≤ X j) := hpos
    clear hpos
    obtain ⟨cl, hbl, hsl, hcl⟩ := hZ.lrow
    obtain ⟨cr, hbr, hsr, _⟩ := hZ.rrow
    have hol : cl.toList.all (·.oneCell') = true := row_ones hsl hcl
    have hrr : cr.size = cl.size := by omega
    have HL : Hid (wr.heap[w.heap.size]? = some (.cells cl 33 (0, 0))) := hbl
    have HR : Hid (wr.heap[w.heap.size + 1]? = some (.cells cr 33 (0, 0))) := hbr
    have HO : Hid (cl.toList.all (·.oneCell') = true) := hol
    have HRR : Hid (cr.size = cl.size) := hrr
    have HS : Hid (cl.size = 17) := hsl
    have HCl : Hid (∀ j, j < 17 → cl[j]? = some (.int .i64 (if j < i then res X j else X j))) := hcl
    clear hbl hbr hol hrr hsl hsr hcl
    by_cases hlt : i < 17
    · have hI : (i : Int) < 17 := by omega
      have hix := fun wx => index68 w.heap.size wx i hlt
      have c2 : wr.cell? ⟨w.heap.size, i, none⟩ = some (.int .i64 (X i)) := by
        have := hZ.lrow.cell hlt
        rwa [if_neg (by omega)] at this
      obtain ⟨d1, d2, hnl⟩ := HLd.out i hlt
      have hz0 : 0 < w.heap.size := World.block_lt_of_cell? _ _ d1
      have c3 : wr.cell? ⟨0, i * 2, none⟩ = some (.string (nm i)) := (hZ.below.cell (p := ⟨0, i * 2, none⟩) hz0).trans d1
      have c4 : wr.cell? ⟨0, i * 2 + 1, none⟩ = some (.int .i64 (dfl i)) := (hZ.below.cell (p := ⟨0, i * 2 + 1, none⟩) hz0).trans d2
      clear d1 d2 hnl
      by_cases hneg : X i < 0
      · have hsz := hZ.size
        have hrg : wr.rangeAt w.heap.size 0 cl.toList := fun j v hv => by
          rw [Nat.zero_add, cell_of_row wr _ _ cl 33 _ HL.out, ← Array.getElem?_toList]; exact hv
        have hth : wr.there (w.heap.size + 1) 0 17 := fun j hj => by
          rw [Nat.zero_add]
          exact ⟨by rw [hZ.rrow.cell hj]; rfl, hZ.rrow.frozen j⟩
        have hlen17 : cl.toList.length = 17 := by rw [Array.length_toList]; exact HS.out
        have hinf : (Ybaf.prog.info? 33).map (·.size) = some cl.toList.length := by rw [hlen17]; exact Ybaf.size33
        have hone : ∀ v ∈ cl.toList, v.oneCell' = true := List.all_eq_true.1 HO.out
        have hund := Ybaf.underlying33
        have NG := fun wx (h : wx.tape = w.tape) => neg_any F (nm i) (X i) wx (by rw [h]; exact hF) (HLen.out i hlt)
        have HNG : Hid (∀ wx : World, wx.tape = w.tape → Calls Ybaf.prog 23 #[.string (nm i), .int .i64 (X i)] wx fun e w' => ∃ s, e = .returned (.iface 71 (.pointer (some ⟨wx.heap.size + 1, 0, none⟩))) ∧ w' = ((wx.alloc (.cells #[.iface 9 (.string (nm i)), .iface 3 (.int .i64 (X i))] 20)).alloc (.cells #[.string s] 73)).drew) := NG
        have htp : wr.tape = w.tape := hZ.below.tape
        have HT : Hid (wr.tape = w.tape) := htp
        clear NG htp
        go_wp2
        refine wp_region_held_drew (S := fun w' => w'.rangeAt w.heap.size 0 cl.toList ∧ w'.there (w.heap.size + 1) 0 17 ∧ w'.cell? ⟨0, i * 2, none⟩ = some (.string (nm i)) ∧ w'.cell? ⟨w.heap.size, i, none⟩ = some (.int .i64 (X i))) (by kernel_rfl) ⟨hrg, hth, c3, c2⟩ (fun hHeld => ?_)
        refine wpAnyH_take (i := 0) rfl (by kernel_rfl) (by kernel_rfl) (by kernel_rfl) (fun _ _ _ h => h) (yieldsIf_load_mid (by rfl) 33 (.tmp 1) rfl w.heap.size 0 rfl cl.toList _ (fun wx h => h.1) Ybaf.underlying33 rfl hinf) hHeld ?_
        simp only [Act.put, List.setIfInBounds_toArray, List.set_cons_zero, List.set_cons_succ]
        refine wpAnyH_take (i := 1) (v := .int .i64 (i : Int)) rfl (by kernel_rfl) (by kernel_rfl) (by kernel_rfl) (fun _ _ _ h => h) (Or.inl ⟨by rfl, ?_⟩) hHeld ?_
        · intro w0 hSw
          obtain ⟨_, _, e1, e2⟩ := hSw
          go_simp
        simp only [Act.put, List.setIfInBounds_toArray, List.set_cons_zero, List.set_cons_succ]
        refine wpAnyH_take (i := 2) (v := .pointer (some ⟨0, i * 2, none⟩)) rfl (by kernel_rfl) (by kernel_rfl) (by kernel_rfl) (fun _ _ _ h => h) (Or.inl ⟨by rfl, ?_⟩) hHeld ?_
        · intro w0 hSw
          obtain ⟨_, _, e1, e2⟩ := hSw
          go_simp
        simp only [Act.put, List.setIfInBounds_toArray, List.set_cons_zero, List.set_cons_succ]
        refine wpAnyH_take (i := 3) (v := .pointer (some ⟨0, i * 2, none⟩)) rfl (by kernel_rfl) (by kernel_rfl) (by kernel_rfl) (fun _ _ _ h => h) (Or.inl ⟨by rfl, ?_⟩) hHeld ?_
        · intro w0 hSw
          obtain ⟨_, _, e1, e2⟩ := hSw
          go_simp
        simp only [Act.put, List.setIfInBounds_toArray, List.set_cons_zero, List.set_cons_succ]
        refine wpAnyH_take (i := 4) (v := .string (nm i)) rfl (by kernel_rfl) (by kernel_rfl) (by kernel_rfl) (fun _ _ _ h => h) (Or.inl ⟨by rfl, ?_⟩) hHeld ?_
        · intro w0 hSw
          obtain ⟨_, _, e1, e2⟩ := hSw
          go_simp
        simp only [Act.put, List.setIfInBounds_toArray, List.set_cons_zero, List.set_cons_succ]
        refine wpAnyH_take (i := 5) (v := .pointer (some ⟨w.heap.size, i, none⟩)) rfl (by kernel_rfl) (by kernel_rfl) (by kernel_rfl) (fun _ _ _ h => h) (Or.inl ⟨by rfl, ?_⟩) hHeld ?_
        · intro w0 hSw
          obtain ⟨_, _, e1, e2⟩ := hSw
          go_simp
        simp only [Act.put, List.setIfInBounds_toArray, List.set_cons_zero, List.set_cons_succ]
        refine wpAnyH_take (i := 6) (v := .pointer (some ⟨w.heap.size, i, none⟩)) rfl (by kernel_rfl) (by kernel_rfl) (by kernel_rfl) (fun _ _ _ h => h) (Or.inl ⟨by rfl, ?_⟩) hHeld ?_
        · intro w0 hSw
          obtain ⟨_, _, e1, e2⟩ := hSw
          go_simp
        simp only [Act.put, List.setIfInBounds_toArray, List.set_cons_zero, List.set_cons_succ]
        refine wpAnyH_take (i := 7) (v := .int .i64 (X i)) rfl (by kernel_rfl) (by kernel_rfl) (by kernel_rfl) (fun _ _ _ h => h) (Or.inl ⟨by rfl, ?_⟩) hHeld ?_
        · intro w0 hSw
          obtain ⟨_, _, e1, e2⟩ := hSw
          go_simp
        simp only [Act.put, List.setIfInBounds_toArray, List.set_cons_zero, List.set_cons_succ]
        refine wpAnyH_ready (rs := [8]) (by kernel_rfl) (by simp) ?_
        refine AllReadyH.cons rfl (fun K hK => ?_) AllReadyH.nil
        go_simp
        refine (HNG.out wr.drew HT.out).mono ?_
        rintro e w' ⟨s, rfl, rfl⟩
        go_wp2_with fail
        obtain ⟨w5, hw5⟩ : ∃ w5, w5 = ((wr.alloc (.cells #[.iface 9 (.string (nm i)), .iface 3 (.int .i64 (X i))] 20)).alloc (.cells #[.string s] 73)).drew.drew := ⟨_, rfl⟩
        have hZ5 : Rs w w5 X i := by rw [hw5]; exact ((hZ.alloc _).alloc _).drew.drew
        have hS5 : w5.rangeAt w.heap.size 0 cl.toList ∧ w5.there (w.heap.size + 1) 0 17 ∧ w5.cell? ⟨0, i * 2, none⟩ = some (.string (nm i)) ∧ w5.cell? ⟨w.heap.size, i, none⟩ = some (.int .i64 (X i)) := by
          rw [hw5]
          exact ⟨World.rangeAt_alloc (World.rangeAt_alloc hrg _) _, World.there_alloc (World.there_alloc hth _) _, (World.cell?_alloc_past _ _ _ (by rw [World.size_alloc]; omega)).trans ((World.cell?_alloc_past _ _ _ (by omega)).trans c3), (World.cell?_alloc_past _ _ _ (by rw [World.size_alloc]; omega)).trans ((World.cell?_alloc_past _ _ _ (by omega)).trans c2)⟩
        have hE5 : w5.heap[wr.heap.size + 1]? = some (.cells #[.string s] 73 (0, 0)) := by
          rw [hw5]
          have h := heap_alloc_new (wr.alloc (.cells #[.iface 9 (.string (nm i)), .iface 3 (.int .i64 (X i))] 20)) (.cells #[.string s] 73)
          rw [World.size_alloc] at h
          exact h
        have hR5 : w5.heap[w.heap.size + 1]? = some (.cells cr 33 (0, 0)) := by
          rw [hw5]
          show ((wr.alloc _).alloc _).heap[w.heap.size + 1]? = _
          rw [heap_alloc_old _ _ (by rw [World.size_alloc]; omega), heap_alloc_old _ _ (by omega)]
          exact HR.out
        rw [← hw5]
        have e17 : cl.toList.toArray.size = 17 := by rw [List.size_toArray]; exact hlen17
        have hth5 : w5.there (w.heap.size + 1) 0 cl.toList.toArray.size := by rw [e17]; exact hS5.2.1
        have hinf5 : (Ybaf.prog.info? 33).map (·.size) = some cl.toList.toArray.size := by rw [e17]; exact Ybaf.size33
        have hS6 : (w5.setCells (w.heap.size + 1) 0 cl.toList).rangeAt w.heap.size 0 cl.toList ∧ (w5.setCells (w.heap.size + 1) 0 cl.toList).there (w.heap.size + 1) 0 17 ∧ (w5.setCells (w.heap.size + 1) 0 cl.toList).cell? ⟨0, i * 2, none⟩ = some (.string (nm i)) ∧ (w5.setCells (w.heap.size + 1) 0 cl.toList).cell? ⟨w.heap.size, i, none⟩ = some (.int .i64 (X i)) := by
          obtain ⟨s1, s2, s3, s4⟩ := hS5
          exact ⟨World.rangeAt_setCells_apart s1 _ _ _ (.inl (by omega)), World.there_setCells s2 _ _ _, (World.cell?_setCells_out _ _ _ _ _ (fun h _ => by simp at h)).trans s3, (World.cell?_setCells_out _ _ _ _ _ (fun h _ => by simp at h)).trans s4⟩
        refine hK.out _ _ hS5 (fun hHeld => ?_)
        clear hw5 hK K HNG hrg hth c2 c3 c4 HL HR
        refine wpAnyH_ready (rs := [9]) (by kernel_rfl) (by simp) ?_
        refine AllReadyH.cons rfl (fun K hK => ?_) AllReadyH.nil
        rw [if_pos (by rfl)]
        refine wp_store_mid 33 (.tmp 2) (.tmp 15) rfl (w.heap.size + 1) 0 cl.toList.toArray rfl rfl hth5 hinf5 (all_oneCell_toArray hone) ?_
        simp only [Act.put, List.setIfInBounds_toArray, List.set_cons_zero, List.set_cons_succ, List.toList_toArray]
        refine hK.out _ _ hS6 (fun hHeld => ?_)
        refine wpAnyH_take (i := 10) (oi := ⟨some 3, .assign (.tmp 23), _, _, _, _⟩) (v := .iface 71 (.pointer (some ⟨wr.heap.size + 1, 0, none⟩))) rfl (by kernel_rfl) (by kernel_rfl) (by kernel_rfl) (fun _ _ _ h => h) (Or.inl ⟨by rfl, ?_⟩) hHeld ?_
        · intro w0 hSw
          go_simp
        simp only [Act.put, List.setIfInBounds_toArray, List.set_cons_zero, List.set_cons_succ]
        refine wpAnyH_done (by kernel_rfl) ?_ _
        have HE5 : Hid (w5.heap[wr.heap.size + 1]? = some (.cells #[.string s] 73 (0, 0))) := hE5
        have HR5 : Hid (w5.heap[w.heap.size + 1]? = some (.cells cr 33 (0, 0))) := hR5
        clear hHeld hK K hS6 hS5 hth5 hinf5 e17 hone hinf hlen17 hE5 hR5 hund hix
        go_wp2
        have hblk := heap_setCells w5 (w.heap.size + 1) cr cl 33 HR5.out HRR.out
        refine bodyPost_ret (ret17 (g := w.heap.size + 1) (c := cl) rfl rfl hblk HS.out) rfl ?_
        refine ⟨.inr ⟨⟨i, hlt, hneg⟩, cl, ⟨wr.heap.size + 1, 0, none⟩, HS.out, HO.out, ⟨by show w.heap.size ≤ wr.heap.size + 1; omega, s, ?_⟩, rfl⟩, ?_⟩
        · show (w5.setCells (w.heap.size + 1) 0 cl.toList).heap[wr.heap.size + 1]? = _
          rw [heap_setCells_other _ _ _ _ _ (by omega)]
          exact HE5.out
        · exact hZ5.below.trans ⟨(setCells_same _ _ _ _).1, (setCells_same _ _ _ _).2.1, (setCells_same _ _ _ _).2.2.1, by rw [(setCells_same _ _ _ _).2.2.2]; exact Nat.le_refl _, fun k hk => heap_setCells_other _ _ _ _ _ (by omega)⟩
      · go_wp2
        obtain ⟨r, hr⟩ : ∃ r, r = res X i := ⟨_, rfl⟩
        have OR : Calls Ybaf.prog 16 #[.slice (some ⟨wr.heap.size, 0, none⟩) 2 2] (wr.alloc (.cells #[.int .i64 (X i), .int .i64 (dfl i)] 3)).drew fun e w' => e = .returned (.int .i64 r) ∧ (wr.alloc (.cells #[.int .i64 (X i), .int .i64 (dfl i)] 3)).drew = w' := by
          rw [hr]
          exact or_any wr.heap.size (X i) (dfl i) _ (dfl_ne i hlt) (by simp [go_sem]) (by simp [go_sem])
        have HRes : Hid (r = res X i) := hr
        have HOR : Hid (Calls Ybaf.prog 16 #[.slice (some ⟨wr.heap.size, 0, none⟩) 2 2] (wr.alloc (.cells #[.int .i64 (X i), .int .i64 (dfl i)] 3)).drew fun e w' => e = .returned (.int .i64 r) ∧ (wr.alloc (.cells #[.int .i64 (X i), .int .i64 (dfl i)] 3)).drew = w') := OR
        have f1 := hZ.lrow.frozen i
        have hsz := hZ.size
        have z0 : w.heap.size < wr.heap.size := by omega
        have z1 : 0 < wr.heap.size := by omega
        clear hr OR HL HR HO HRR HS HCl hsz
        go_region_with (go_at_call 16; refine HOR.out.mono ?_; rintro e w' ⟨rfl, rfl⟩)
        all_goals
          have hZ2 := ((hZ.step HRes.out).alloc (.cells #[.int .i64 (X i), .int .i64 (dfl i)] 3)).drew
          clear HOR f1 c2 c3 c4 z0 z1 hZ
          go_wp2
          go_roundg (17 - (i + 1))
          case measure => omega
          case rel => exact ⟨i + 1, by omega, rfl, by go_num, rpos_step HPos.out (by omega), hZ2⟩
    · obtain rfl : i = 17 := by omega
      go_wp2_with (first
        | (refine wpList_load_row rfl 33 (.tmp 1) rfl w.heap.size rfl 33 cl (0, 0) _ HL.out Ybaf.underlying33 rfl (size33_of HS.out) ?_)
        | (refine wpList_store_whole rfl 33 (.tmp 2) (.tmp 36) rfl (w.heap.size + 1) cr cl 33 HR.out rfl rfl (size33_of HS.out) HRR.out HO.out ?_))
      refine bodyPost_ret (ret17 (g := w.heap.size + 1) (c := cl) rfl rfl (setRow_heap wr _ _ _ 33 _ HR.out) HS.out) rfl ?_
      have hcl : cl = (lim (res X)).toArray := row_lim HS.out (fun j hj => by have := HCl.out j hj; rwa [if_pos hj] at this)
      exact ⟨.inl ⟨HPos.out, by rw [hcl]; rfl⟩, hZ.below.trans ⟨rfl, rfl, rfl, by simp, fun k hk => setRow_other wr _ _ _ (by omega)⟩⟩
end Go.Proofs.YbulkuisFmt
