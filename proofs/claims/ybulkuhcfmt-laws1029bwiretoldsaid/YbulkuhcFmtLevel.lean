/-
  The contracts of the payload reader and of parsePVLevel.
-/
import Derived.Test.YbulkuhcFmtFacts
import Derived.Lib.EndianBits
import Derived.RegionTactic
import Derived.BigRegion
import Derived.Deep.QuietTactic
import Derived.BigQuiet
namespace Go.Proofs.YbulkuhcFmt
open Go.RowKit Go.Extern.Stop Go.Stop Go.Extern
set_option linter.unusedVariables false

def Byte (x : Int) : Prop := 0 ≤ x ∧ x ≤ 255

theorem ret_int {k : IntKind} {a b : Int} (h : a = b) : Ending.returned (.int k a) = .returned (.int k b) := by rw [h]

set_option maxHeartbeats 1000000 in
theorem be_any (g o n c : Nat) (x0 x1 x2 x3 : Int) (w : World) (hn : 4 ≤ n) (h0 : Byte x0) (h1 : Byte x1) (h2 : Byte x2) (h3 : Byte x3)
    (c0 : w.cell? ⟨g, o, none⟩ = some (.int .u8 x0)) (c1 : w.cell? ⟨g, o + 1, none⟩ = some (.int .u8 x1)) (c2 : w.cell? ⟨g, o + 2, none⟩ = some (.int .u8 x2)) (c3 : w.cell? ⟨g, o + 3, none⟩ = some (.int .u8 x3)) :
    Calls Ybaf.prog 17 #[.agg #[], .slice (some ⟨g, o, none⟩) n c] w fun e w' => e = .returned (.int .u32 (x3 + x2 * 256 + x1 * 65536 + x0 * 16777216)) ∧ Below w.heap.size w w' := by
  obtain ⟨h0, k0⟩ := h0; obtain ⟨h1, k1⟩ := h1; obtain ⟨h2, k2⟩ := h2; obtain ⟨h3, k3⟩ := h3
  have i0 : (0 : Int) < (n : Int) := by omega
  have i1 : (1 : Int) < (n : Int) := by omega
  have i2 : (2 : Int) < (n : Int) := by omega
  have i3 : (3 : Int) < (n : Int) := by omega
  have j0 : 0 < n := by omega
  have hb := World.block_lt_of_cell? _ _ c0
  have hb' : g < w.heap.size := hb
  clear hb
  go_enter Ybaf.func17, Ybaf.ntmps17
  go_wp2
  go_quiet (fail)
  go_wp2
  go_ret
  refine ⟨ret_int (k := .u32) ?_, below_drewN ((Below.refl _ w).alloc (Nat.le_refl _) _) nq⟩
  rw [u32_or8 (y := x3) (x := x2 * 256) (by omega) (by omega) (by omega) (by omega) (by omega), u32_or16 (y := x3 + x2 * 256) (x := x1 * 65536) (by omega) (by omega) (by omega) (by omega) (by omega), u32_or24 (y := x3 + x2 * 256 + x1 * 65536) (x := x0 * 16777216) (by omega) (by omega) (by omega) (by omega) (by omega)]

/-- What is known of a payload: its bytes. -/
def IsPay (w : World) (a : Option Addr) (len : Nat) (B : Nat → Int) : Prop :=
  ∀ i, i < len → ∃ b off, a = some ⟨b, off, none⟩ ∧ w.cell? ⟨b, off + i, none⟩ = some (.int .u8 (B i)) ∧ Byte (B i)

/-- A new error: its block is new and holds one cell. -/
def NewErr (w w' : World) (p : Addr) : Prop := w.heap.size ≤ p.block ∧ p.spot = none ∧ ∃ s, w'.heap[p.block]? = some (.cells #[.string s] 64 (0, 0))

theorem newErr_two (w : World) (o : Obj) (s : ByteArray) : NewErr w ((w.alloc o).alloc (.cells #[.string s] 64)) ⟨w.heap.size + 1, 0, none⟩ := by
  refine ⟨by simp, rfl, s, ?_⟩
  have h := heap_alloc_new (w.alloc o) (.cells #[.string s] 64)
  have e : (w.alloc o).heap.size = w.heap.size + 1 := by simp
  rw [e] at h
  exact h

theorem newErr_three (w : World) (o o' : Obj) (s : ByteArray) : NewErr w (((w.alloc o).alloc o').alloc (.cells #[.string s] 64)).drew ⟨w.heap.size + 1 + 1, 0, none⟩ := by
  refine ⟨by simp; omega, rfl, s, ?_⟩
  have h := heap_alloc_new ((w.alloc o).alloc o') (.cells #[.string s] 64)
  have e : ((w.alloc o).alloc o').heap.size = w.heap.size + 1 + 1 := by simp
  rw [e] at h
  exact h

theorem newErr_at (w wx : World) (o : Obj) (s : ByteArray) (h : w.heap.size ≤ wx.heap.size) : NewErr w ((wx.alloc o).alloc (.cells #[.string s] 64)).drew ⟨wx.heap.size + 1, 0, none⟩ := by
  refine ⟨by simp; omega, rfl, s, ?_⟩
  have h := heap_alloc_new (wx.alloc o) (.cells #[.string s] 64)
  have e : (wx.alloc o).heap.size = wx.heap.size + 1 := by simp
  rw [e] at h
  exact h

set_option maxHeartbeats 1000000 in
theorem parse_empty (a : Option Addr) (cap : Nat) (w : World) :
    Calls Ybaf.prog 9 #[.slice a 0 cap] w fun e w' => ∃ p, e = .returned (.tuple #[.int .i64 0, .iface 62 (.pointer (some p))]) ∧ NewErr w w' p ∧ Below w.heap.size w w' := by
  have hnil := fun (w : World) (a : Option Addr) (n c : Nat) => Lib.run_eql_slice_nil (P := Ybaf.prog) w 38 _ a n c 0 0 Ybaf.underlying38
  go_enter Ybaf.func9, Ybaf.ntmps9
  go_wp2
  go_ret2
  exact ⟨⟨w.heap.size + 1, 0, none⟩, rfl, newErr_two _ _ _, ((Below.refl _ _).alloc (Nat.le_refl _) _).alloc (by simp) _⟩

set_option maxHeartbeats 1000000 in
theorem parse_kind (F : Interp) (b off len cap : Nat) (x : Int) (w : World) (hF : F.answers w.tape) (hl : 1 ≤ len) (hlc : len ≤ cap) (hl4 : len ≤ 4096) (hc : w.cell? ⟨b, off, none⟩ = some (.int .u8 x)) (hx : (x != 3) = true) :
    Calls Ybaf.prog 9 #[.slice (some ⟨b, off, none⟩) len cap] w fun e w' => ∃ p, e = .returned (.tuple #[.int .i64 0, .iface 62 (.pointer (some p))]) ∧ NewErr w w' p ∧ Below w.heap.size w w' := by
  have hnil := fun (w : World) (a : Option Addr) (n c : Nat) => Lib.run_eql_slice_nil (P := Ybaf.prog) w 38 _ a n c 0 0 Ybaf.underlying38
  have hI : (1 : Int) ≤ (len : Int) := by omega
  have hb : b < w.heap.size := World.block_lt_of_cell? _ _ hc
  go_enter Ybaf.func9, Ybaf.ntmps9
  go_wp2_with (first | (go_at_call 12; go_in) | (go_at_call 15; go_in))
  all_goals
    have E := fun o => errorf_kind F x 3 (w.heap.size + 1) ((w.alloc o).alloc (.cells #[.iface 5 (.int .u8 x), .iface 5 (.int .u8 3)] 20)) hF (by simp [go_sem]) (by simp [go_sem])
    unfold fmtKind at E
    refine (E _).mono ?_
    clear E hnil hc
    rintro e w' ⟨rfl, s, rfl⟩
    go_wp2
    go_ret2
    exact ⟨⟨w.heap.size + 1 + 1, 0, none⟩, rfl, newErr_three _ _ _ _, ((((Below.refl _ _).alloc (Nat.le_refl _) _).alloc (by simp) _).alloc (by simp; omega) _).drew⟩

set_option maxHeartbeats 1000000 in
theorem parse_cut (b off len cap : Nat) (ea : Addr) (w : World) (hl : 1 ≤ len) (hlc : len ≤ cap) (hl5 : len < 5) (hc : w.cell? ⟨b, off, none⟩ = some (.int .u8 3)) (hg : w.cell? ⟨0, 0, none⟩ = some (.iface 62 (.pointer (some ea)))) :
    Calls Ybaf.prog 9 #[.slice (some ⟨b, off, none⟩) len cap] w fun e w' => e = .returned (.tuple #[.int .i64 0, .iface 62 (.pointer (some ea))]) ∧ Below w.heap.size w w' := by
  have hnil := fun (w : World) (a : Option Addr) (n c : Nat) => Lib.run_eql_slice_nil (P := Ybaf.prog) w 38 _ a n c 0 0 Ybaf.underlying38
  have hI : (1 : Int) ≤ (len : Int) := by omega
  have hb : b < w.heap.size := World.block_lt_of_cell? _ _ hc
  have hg0 : 0 < w.heap.size := World.block_lt_of_cell? _ _ hg
  go_enter Ybaf.func9, Ybaf.ntmps9
  go_wp2
  all_goals go_quiet (fail)
  all_goals
    go_wp2
    go_ret2
    exact ⟨rfl, below_drewN ((Below.refl _ _).alloc (Nat.le_refl _) _) _⟩

set_option maxHeartbeats 1000000 in
theorem parse_past (F : Interp) (b off len cap : Nat) (x1 x2 x3 x4 : Int) (w : World) (hF : F.answers w.tape) (hl : 5 < len) (hlc : len ≤ cap) (hl4 : len ≤ 4096)
    (h1 : Byte x1) (h2 : Byte x2) (h3 : Byte x3) (h4 : Byte x4)
    (c0 : w.cell? ⟨b, off, none⟩ = some (.int .u8 3)) (c1 : w.cell? ⟨b, off + 1, none⟩ = some (.int .u8 x1)) (c2 : w.cell? ⟨b, off + 2, none⟩ = some (.int .u8 x2)) (c3 : w.cell? ⟨b, off + 3, none⟩ = some (.int .u8 x3)) (c4 : w.cell? ⟨b, off + 4, none⟩ = some (.int .u8 x4)) :
    Calls Ybaf.prog 9 #[.slice (some ⟨b, off, none⟩) len cap] w fun e w' => ∃ p, e = .returned (.tuple #[.int .i64 0, .iface 62 (.pointer (some p))]) ∧ NewErr w w' p ∧ Below w.heap.size w w' := by
  have hnil := fun (w : World) (a : Option Addr) (n c : Nat) => Lib.run_eql_slice_nil (P := Ybaf.prog) w 38 _ a n c 0 0 Ybaf.underlying38
  have hb : b < w.heap.size := World.block_lt_of_cell? _ _ c0
  have hI : (1 : Int) ≤ (len : Int) := by omega
  have hI4 : (4 : Int) ≤ (len : Int) - 1 := by omega
  go_enter Ybaf.func9, Ybaf.ntmps9
  go_wp2_with (first | (go_at_call 12; go_in) | (go_at_call 13; go_in) | (go_at_call 15; go_in))
  have d1 : ∀ o, (w.alloc o).cell? ⟨b, off + 1, none⟩ = some (.int .u8 x1) := fun o => (World.cell?_alloc_past _ _ _ hb).trans c1
  have d2 : ∀ o, (w.alloc o).cell? ⟨b, off + 1 + 1, none⟩ = some (.int .u8 x2) := fun o => (World.cell?_alloc_past _ _ _ hb).trans c2
  have d3 : ∀ o, (w.alloc o).cell? ⟨b, off + 1 + 2, none⟩ = some (.int .u8 x3) := fun o => (World.cell?_alloc_past _ _ _ hb).trans c3
  have d4 : ∀ o, (w.alloc o).cell? ⟨b, off + 1 + 3, none⟩ = some (.int .u8 x4) := fun o => (World.cell?_alloc_past _ _ _ hb).trans c4
  refine (be_any b (off + 1) 4 4 x1 x2 x3 x4 _ (Nat.le_refl _) h1 h2 h3 h4 (d1 _) (d2 _) (d3 _) (d4 _)).mono ?_
  clear d1 d2 d3 d4
  rintro e w1 ⟨rfl, hb1⟩
  obtain ⟨h1, k1⟩ := h1; obtain ⟨h2, k2⟩ := h2; obtain ⟨h3, k3⟩ := h3; obtain ⟨h4, k4⟩ := h4
  have hs1 := hb1.size
  have r0 := hb1.cell (p := ⟨w.heap.size, 0, none⟩) (by simp)
  have r1 := hb1.cell (p := ⟨w.heap.size, 1, none⟩) (by simp)
  have ht1 := hb1.tape
  simp [go_sem] at r0 r1 hs1 ht1
  have HT : Hid (w1.tape = w.tape) := ht1
  have HB := ((Below.refl w.heap.size w).alloc (Nat.le_refl _) _).trans (hb1.mono (by simp))
  clear hb1 c0 c1 c2 c3 c4 ht1
  have hzw : w.heap.size < w1.heap.size := by omega
  go_wp2_with fail
  have E := errorf_past F ((len - 1 - 4 : Nat) : Int) w1.heap.size (w1.alloc (.cells #[.iface 3 (.int .i64 ((len - 1 - 4 : Nat) : Int))] 20)) (by show F.answers w1.tape; rw [HT.out]; exact hF) (by simp [go_sem])
  unfold fmtPast at E
  refine E.mono ?_
  clear E r0 r1 hnil
  rintro e w' ⟨rfl, s, rfl⟩
  go_wp2
  go_ret2
  exact ⟨⟨w1.heap.size + 1, 0, none⟩, rfl, newErr_at w w1 _ s (by omega), ((HB.alloc (by omega) _).alloc (by simp; omega) _).drew⟩

set_option maxHeartbeats 1000000 in
theorem parse_ok (b off cap : Nat) (x1 x2 x3 x4 : Int) (w : World) (hlc : 5 ≤ cap)
    (h1 : Byte x1) (h2 : Byte x2) (h3 : Byte x3) (h4 : Byte x4)
    (c0 : w.cell? ⟨b, off, none⟩ = some (.int .u8 3)) (c1 : w.cell? ⟨b, off + 1, none⟩ = some (.int .u8 x1)) (c2 : w.cell? ⟨b, off + 2, none⟩ = some (.int .u8 x2)) (c3 : w.cell? ⟨b, off + 3, none⟩ = some (.int .u8 x3)) (c4 : w.cell? ⟨b, off + 4, none⟩ = some (.int .u8 x4)) :
    Calls Ybaf.prog 9 #[.slice (some ⟨b, off, none⟩) 5 cap] w fun e w' => e = .returned (.tuple #[.int .i64 (x4 + x3 * 256 + x2 * 65536 + x1 * 16777216), .nilIface]) ∧ Below w.heap.size w w' := by
  have hnil := fun (w : World) (a : Option Addr) (n c : Nat) => Lib.run_eql_slice_nil (P := Ybaf.prog) w 38 _ a n c 0 0 Ybaf.underlying38
  have hb : b < w.heap.size := World.block_lt_of_cell? _ _ c0
  have d1 : ∀ o, (w.alloc o).cell? ⟨b, off + 1, none⟩ = some (.int .u8 x1) := fun o => (World.cell?_alloc_past _ _ _ hb).trans c1
  have d2 : ∀ o, (w.alloc o).cell? ⟨b, off + 1 + 1, none⟩ = some (.int .u8 x2) := fun o => (World.cell?_alloc_past _ _ _ hb).trans c2
  have d3 : ∀ o, (w.alloc o).cell? ⟨b, off + 1 + 2, none⟩ = some (.int .u8 x3) := fun o => (World.cell?_alloc_past _ _ _ hb).trans c3
  have d4 : ∀ o, (w.alloc o).cell? ⟨b, off + 1 + 3, none⟩ = some (.int .u8 x4) := fun o => (World.cell?_alloc_past _ _ _ hb).trans c4
  have BE := fun o => be_any b (off + 1) 4 4 x1 x2 x3 x4 (w.alloc o) (Nat.le_refl _) h1 h2 h3 h4 (d1 o) (d2 o) (d3 o) (d4 o)
  have HBE : Hid (∀ o, Calls Ybaf.prog 17 #[.agg #[], .slice (some ⟨b, off + 1, none⟩) 4 4] (w.alloc o) fun e w' => e = .returned (.int .u32 (x4 + x3 * 256 + x2 * 65536 + x1 * 16777216)) ∧ Below (w.alloc o).heap.size (w.alloc o) w') := BE
  clear d1 d2 d3 d4 BE
  obtain ⟨h1, k1⟩ := h1; obtain ⟨h2, k2⟩ := h2; obtain ⟨h3, k3⟩ := h3; obtain ⟨h4, k4⟩ := h4
  go_enter Ybaf.func9, Ybaf.ntmps9
  go_wp2_with (first | (go_at_call 12; go_in) | (go_at_call 13; go_in) | (go_at_call 15; go_in))
  all_goals
    refine (HBE.out _).mono ?_
    rintro e w1 ⟨rfl, hb1⟩
    have hs1 := hb1.size
    have r0 := hb1.cell (p := ⟨w.heap.size, 0, none⟩) (by simp)
    have r1 := hb1.cell (p := ⟨w.heap.size, 1, none⟩) (by simp)
    simp [go_sem] at r0 r1 hs1
    have HB := ((Below.refl w.heap.size w).alloc (Nat.le_refl _) _).trans (hb1.mono (by simp))
    clear hb1 HBE c0 c1 c2 c3 c4
    go_wp2
    go_ret2
    exact ⟨rfl, HB⟩
end Go.Proofs.YbulkuhcFmt
