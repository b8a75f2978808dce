/-
  The law's walk, whole.
-/
import Derived.Test.YbulkuisFmtLaw
import Derived.Test.YbulkuisFmtDecW
namespace Go.Proofs.YbulkuisFmt
open Go.RowKit Go.Extern.Stop Go.Stop Go.Extern
set_option linter.unusedVariables false

theorem deep8 {w : World} {k : Nat} {x : Obj} (h : w.heap[k]? = some x) (hk : k < w.heap.size) (o1 o2 o3 o4 o5 o6 o7 o8 : Obj) : ((((((((w.alloc o1).alloc o2).alloc o3).alloc o4).alloc o5).alloc o6).alloc o7).alloc o8).heap[k]? = some x := by
  rw [Below.heap_alloc _ _ _ (by simp only [World.size_alloc]; omega), Below.heap_alloc _ _ _ (by simp only [World.size_alloc]; omega), Below.heap_alloc _ _ _ (by simp only [World.size_alloc]; omega), Below.heap_alloc _ _ _ (by simp only [World.size_alloc]; omega),
    Below.heap_alloc _ _ _ (by simp only [World.size_alloc]; omega), Below.heap_alloc _ _ _ (by simp only [World.size_alloc]; omega), Below.heap_alloc _ _ _ (by simp only [World.size_alloc]; omega), Below.heap_alloc _ _ _ hk]
  exact h

set_option maxHeartbeats 1600000 in
theorem law_long (X : Nat → Int) (a : Option Addr) (len cap : Nat) (fs : ByteArray) (f1 f2 : Bool) (vl ad : Int) (w : World) (h : (1048576 : Int) < len ∨ (1048576 : Int) < fs.size) :
    Calls Ybaf.prog 4 #[.agg (lim X).toArray, .slice a len cap, .string fs, .bool f1, .bool f2, .int .i64 vl, .int .u8 ad] w fun e w' => e = .returned (.bool true) ∧ Below w.heap.size w w' := by
  by_cases h1 : (1048576 : Int) < len
  · go_enter Ybaf.func4, Ybaf.ntmps4
    go_wp2
    go_ret
    exact ⟨by simp, (boxed w X a len cap fs f1 f2 vl ad).below⟩
  · have h2 : (1048576 : Int) < fs.size := h.resolve_left h1
    go_enter Ybaf.func4, Ybaf.ntmps4
    go_wp2
    go_ret
    exact ⟨by simp, (boxed w X a len cap fs f1 f2 vl ad).below⟩

theorem genW {P : Program} {ops : Array Oper} {Q : Exit → Act → World → Prop} {rest : List Oper} {a : Act} {w1 : World} {c : Array Value} {s1 s2 : ByteArray} (h : ∀ ww, Hid (Latered w1 c ww) → wpList P ops Q rest a ww) : wpList P ops Q rest a (laters w1 c s1 s2) :=
  h _ (show Latered _ _ _ from latered w1 c s1 s2)

theorem Laid.below {w w' : World} {nm : Nat → ByteArray} (h : Laid w nm) (hb : Below w.heap.size w w') : Laid w' nm := fun j hj => by
  obtain ⟨h1, h2, h3⟩ := h j hj
  exact ⟨by rw [hb.cell (World.block_lt_of_cell? _ _ h1)]; exact h1, by rw [hb.cell (World.block_lt_of_cell? _ _ h2)]; exact h2, h3⟩

theorem Latered.old {w w1 w' : World} {X : Nat → Int} {a : Option Addr} {len cap : Nat} {fs : ByteArray} {f1 f2 : Bool} {vl ad : Int} {c : Array Value} (hl : Latered w1 c w') (hb : Boxed w X a len cap fs f1 f2 vl ad w1) : Boxed w X a len cap fs f1 f2 vl ad w' :=
  hb.later (B := w1.heap.size) hb.size hl.below

set_option maxHeartbeats 1600000 in
theorem law_neg (F : Interp) (nm : Nat → ByteArray) (X : Nat → Int) (a : Option Addr) (len cap : Nat) (fs : ByteArray) (f1 f2 : Bool) (vl ad : Int) (w : World) (hF : F.answers w.tape) (hLd : Laid w nm) (hlen : ∀ j, j < 17 → (FmtStop.textOf (F "fmt.Sprintf" (reading (nm j).data.toList (X j)) 0)).size ≤ 2000)
    (h1 : ¬ (1048576 : Int) < len) (h2 : ¬ (1048576 : Int) < fs.size) (hn : ∃ j, j < 17 ∧ X j < 0) :
    Calls Ybaf.prog 4 #[.agg (lim X).toArray, .slice a len cap, .string fs, .bool f1, .bool f2, .int .i64 vl, .int .u8 ad] w fun e w' => e = .returned (.bool true) ∧ Below w.heap.size w w' := by
  have HD : Hid (∀ w2 fv, Below w.heap.size w w2 → Calls Ybaf.prog 12 #[.agg (lim X).toArray, .slice a len cap, .string fs, fv] w2 fun e w' => (∃ p, e = .returned (.tuple #[.int .i64 0, .iface 71 (.pointer (some p))])) ∧ Below w2.heap.size w2 w') := fun w2 fv hb =>
    dec_neg F X nm a len cap fs fv w2 (by rw [hb.tape]; exact hF) (hLd.below hb) hlen hn
  have HZ : Hid (Calls Ybaf.prog 8 #[.agg (lim X).toArray] (boxes w X a len cap fs f1 f2 vl ad) fun e w' => Zpost X e ∧ Below (boxes w X a len cap fs f1 f2 vl ad).heap.size (boxes w X a len cap fs f1 f2 vl ad) w') := zres_any X _
  clear hF hLd hlen
  go_enter Ybaf.func4, Ybaf.ntmps4
  go_wp2_with (refine wpList_load_row rfl 33 (.tmp 7) rfl w.heap.size rfl 33 (lim X).toArray (0, 0) _ (boxed w X a len cap fs f1 f2 vl ad).b0 Ybaf.underlying33 rfl Ybaf.size33 ?_)
  refine HZ.out.mono ?_
  rintro e w1 ⟨⟨hp, _⟩ | ⟨_, cc, hcs, hc1, rfl⟩, hbel⟩
  · obtain ⟨j, hj, hneg⟩ := hn
    exact absurd hneg (by have := hp j hj; omega)
  have hB1 := (boxed w X a len cap fs f1 f2 vl ad).later (boxed w X a len cap fs f1 f2 vl ad).size hbel
  have hsz := hB1.size
  have HB1 : Hid (Boxed w X a len cap fs f1 f2 vl ad w1) := hB1
  clear hB1 hbel HZ
  go_wp2_with (first
    | (refine wpList_store_new rfl 33 (.tmp 15) (.tmp 36) rfl _ _ _ rfl w1.heap.size rfl rfl rfl (size33_of hcs) hcs.symm hc1 ?_)
    | (go_at_call 9; refine (new_any _ _).mono ?_; rintro e w2 ⟨rfl, rfl⟩)
    | (refine wpList_load_row rfl 33 (.tmp 7) rfl w.heap.size rfl 33 (lim X).toArray (0, 0) _ ?hb Ybaf.underlying33 rfl Ybaf.size33 ?_; (exact deep8 HB1.out.b0 (by omega) _ _ _ _ _ _ _ _)
       refine genW (w1 := w1) (c := cc) ?_
       intro ww HL
       have k1 : ww.cell? ⟨w.heap.size + 1, 0, none⟩ = some (.slice a len cap) := cell_in (HL.out.old HB1.out).b1 0
       have k2 : ww.cell? ⟨w.heap.size + 1 + 1, 0, none⟩ = some (.string fs) := cell_in (HL.out.old HB1.out).b2 0))
  refine (HD.out ww _ (HL.out.old HB1.out).below).mono ?_
  rintro e w3 ⟨⟨p, rfl⟩, hb3⟩
  have q5 : w3.cell? ⟨w1.heap.size + 1 + 1 + 1 + 1 + 1, 0, none⟩ = some (.int .i64 0) := by
    rw [hb3.cell (by have := HL.out.size; show w1.heap.size + 5 < _; omega)]; exact cell_in HL.out.b5 0
  have HG : Hid (Below w.heap.size w w3) := (HL.out.old HB1.out).below.trans (hb3.mono (HL.out.old HB1.out).below.size)
  clear hb3 k1 k2 HL HB1 HD
  go_wp2
  go_ret
  exact ⟨by simp, HG.out⟩

set_option maxHeartbeats 1600000 in
theorem law_pos (F : Interp) (nm : Nat → ByteArray) (X : Nat → Int) (a : Option Addr) (len cap : Nat) (fs : ByteArray) (f1 f2 : Bool) (vl ad : Int) (w : World) (hF : F.answers w.tape) (hLd : Laid w nm) (hlen : ∀ j, j < 17 → (FmtStop.textOf (F "fmt.Sprintf" (reading (nm j).data.toList (X j)) 0)).size ≤ 2000)
    (h1 : ¬ (1048576 : Int) < len) (h2 : ¬ (1048576 : Int) < fs.size) (hpos : ∀ j, j < 17 → 0 ≤ X j) (hpay : Pay w a len) (had : 0 ≤ ad ∧ ad ≤ 255) :
    Calls Ybaf.prog 4 #[.agg (lim X).toArray, .slice a len cap, .string fs, .bool f1, .bool f2, .int .i64 vl, .int .u8 ad] w fun e w' => e = .returned (.bool true) ∧ Below w.heap.size w w' := by
  have HF : Hid (F.answers w.tape) := hF
  have HLd : Hid (Laid w nm) := hLd
  have Hlen : Hid (∀ j, j < 17 → (FmtStop.textOf (F "fmt.Sprintf" (reading (nm j).data.toList (X j)) 0)).size ≤ 2000) := hlen
  have Hpos : Hid (∀ j, j < 17 → 0 ≤ X j) := hpos
  have Hpay : Hid (Pay w a len) := hpay
  have HZ : Hid (Calls Ybaf.prog 8 #[.agg (lim X).toArray] (boxes w X a len cap fs f1 f2 vl ad) fun e w' => Zpost X e ∧ Below (boxes w X a len cap fs f1 f2 vl ad).heap.size (boxes w X a len cap fs f1 f2 vl ad) w') := zres_any X _
  clear hF hLd hlen hpos hpay
  go_enter Ybaf.func4, Ybaf.ntmps4
  go_wp2_with (refine wpList_load_row rfl 33 (.tmp 7) rfl w.heap.size rfl 33 (lim X).toArray (0, 0) _ (boxed w X a len cap fs f1 f2 vl ad).b0 Ybaf.underlying33 rfl Ybaf.size33 ?_)
  refine HZ.out.mono ?_
  rintro e w1 ⟨⟨_, rfl⟩ | ⟨⟨j, hj, hneg⟩, _⟩, hbel⟩
  rotate_left
  · exact absurd hneg (by have := Hpos.out j hj; omega)
  have hB1 := (boxed w X a len cap fs f1 f2 vl ad).later (boxed w X a len cap fs f1 f2 vl ad).size hbel
  have hsz := hB1.size
  have HB1 : Hid (Boxed w X a len cap fs f1 f2 vl ad w1) := hB1
  clear hB1 hbel HZ
  go_wp2_with (first
    | (refine wpList_store_new rfl 33 (.tmp 15) (.tmp 36) rfl _ _ _ rfl w1.heap.size rfl rfl rfl Ybaf.size33 rfl rfl ?_)
    | (go_at_call 9; refine (new_any _ _).mono ?_; rintro e w2 ⟨rfl, rfl⟩)
    | (refine wpList_load_row rfl 33 (.tmp 7) rfl w.heap.size rfl 33 (lim X).toArray (0, 0) _ ?hb Ybaf.underlying33 rfl Ybaf.size33 ?_; (exact deep8 HB1.out.b0 (by omega) _ _ _ _ _ _ _ _)
       refine genW (w1 := w1) (c := (lim (res X)).toArray) ?_
       intro ww HL
       have k1 : ww.cell? ⟨w.heap.size + 1, 0, none⟩ = some (.slice a len cap) := cell_in (HL.out.old HB1.out).b1 0
       have k2 : ww.cell? ⟨w.heap.size + 1 + 1, 0, none⟩ = some (.string fs) := cell_in (HL.out.old HB1.out).b2 0))
  have S := started HB1.out HL.out Hpay.out had
  have hbw := (HL.out.old HB1.out).below
  refine (dec_pos F X nm (caps w.heap.size w1.heap.size) w.heap.size w ww a len cap fs ad f1 f2 vl _ _ (by rw [hbw.tape]; exact HF.out) (HLd.out.below hbw) Hlen.out Hpos.out S).mono ?_
  have es := fun wx p => eql_self wx p
  rintro e w3 (⟨rfl, rfl, G⟩ | ⟨rfl, rfl, rfl, G, o2⟩ | ⟨rfl, rfl, rfl, G, o2⟩)
  all_goals
    have K := S.held.keep G.keep
    have q1 : w3.cell? ⟨w1.heap.size + 1 + 1 + 1 + 1 + 1 + 1, 0, none⟩ = some (.bool true) := K.good
    have q2 : w3.cell? ⟨w.heap.size + 1 + 1 + 1, 0, none⟩ = some (.bool _) := K.fail1
    have q3 : w3.cell? ⟨w1.heap.size + 1 + 1, 0, none⟩ = some (.iface 71 (.pointer (some ⟨w1.heap.size + 1, 0, none⟩))) := K.e1
    have q4 : w3.cell? ⟨w1.heap.size + 1 + 1 + 1 + 1 + 1, 0, none⟩ = some (.int .i64 _) := G.calls
    have q6 : w3.cell? ⟨w.heap.size + 1 + 1 + 1 + 1 + 1 + 1, 0, none⟩ = some (.int .u8 ad) := K.adv
    have q7 : w3.cell? ⟨w.heap.size + 1 + 1 + 1 + 1, 0, none⟩ = some (.bool _) := K.fail2
    have q8 : w3.cell? ⟨w1.heap.size + 1 + 1 + 1 + 1, 0, none⟩ = some (.iface 71 (.pointer (some ⟨w1.heap.size + 3, 0, none⟩))) := K.e2
    have q9 : w3.cell? ⟨w.heap.size + 1 + 1 + 1 + 1 + 1, 0, none⟩ = some (.int .i64 vl) := K.val
    try have q10 : w3.cell? ⟨w1.heap.size + 1 + 1 + 1 + 1 + 1 + 1 + 1, 0, none⟩ = some (.int .i64 ad) := o2
    have HG : Hid (Below w.heap.size w w3) := hbw.trans G.below
    try clear o2
    clear G K S hbw k1 k2 HL HB1 HF HLd Hlen Hpos Hpay
  · go_wp2
    go_ret
    exact ⟨by simp, HG.out⟩
  · go_wp2
    go_ret
    exact ⟨by simp, HG.out⟩
  · go_wp2
    go_ret
    exact ⟨by simp, HG.out⟩
end Go.Proofs.YbulkuisFmt
