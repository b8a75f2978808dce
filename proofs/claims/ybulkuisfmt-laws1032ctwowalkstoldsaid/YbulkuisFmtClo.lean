/-
  The contract of the closure that LawS1032CTwoWalks hands to decodeReplay.
-/
import Derived.Test.YbulkuisFmtLim
namespace Go.Proofs.YbulkuisFmt
open Go.RowKit
set_option linter.unusedVariables false

/-- bytes.Equal of a slice with itself. -/
theorem equal_same (a : Option Addr) (len cap : Nat) (s : ByteArray) (w : World) (h : (convert 25 9 (.slice a len cap)).run Ybaf.prog w = .ok (.string s) w) :
    Calls Ybaf.prog 11 #[.slice a len cap, .slice a len cap] w fun e w' => e = .returned (.bool true) ∧ w' = w := by
  go_enter Ybaf.func11, Ybaf.ntmps11
  go_wp2
  go_ret
  exact ⟨by simp, rfl⟩

theorem wpQuiet_run {P : Program} {ops : Array Oper} {C : World → Prop} {Q : Act → Prop} {a : Act} {o : Oper} {rest : List Oper} (hw : Region.wanted o (yielded ops a.tmps) = true) (v : Value)
    (h : ∀ w, C w → (execOp a.eval o).run P w = .ok (.value v) w) (hk : wpQuiet P ops C Q rest (a.put o.dst v)) : wpQuiet P ops C Q (o :: rest) a := by
  refine wpQuiet_step fun K hK => ?_
  rw [if_pos hw]
  refine ⟨v, fun w hC => ?_, hK _ hk⟩
  unfold Oper.quietAt
  rw [h w hC]
  exact ⟨rfl, rfl⟩

theorem wpQuiet_load {P : Program} {ops : Array Oper} {C : World → Prop} {Q : Act → Prop} {a : Act} {o : Oper} {rest : List Oper} (ty : TypeId) (x : Operand) (ho : o.op = .load ty x) (hw : Region.wanted o (yielded ops a.tmps) = true)
    (b off : Nat) (hx : a.eval x = .pointer (some ⟨b, off, none⟩)) (cs : List Value) (d : TypeDesc) (hc : ∀ w, C w → w.rangeAt b off cs) (hu : P.underlying ty = some d) (hd : d.isRow = true) (hi : (P.info? ty).map (·.size) = some cs.length)
    (hk : wpQuiet P ops C Q rest (a.put o.dst (.agg cs.toArray))) : wpQuiet P ops C Q (o :: rest) a :=
  wpQuiet_run hw _ (fun w hC => by
    unfold execOp
    simp only [ho, hx, Instr.loadAt, Instr.sureAddr, Sem.run_bind, Sem.run_pure, Result.andThen_ok, run_loadVar_mid w b off ty cs d (hc w hC) hu hd hi]) hk

theorem equal33 (X : Nat → Int) (w : World) : (Op.equalIn 10000 33 (.agg (lim X).toArray) (.agg (lim X).toArray)).run Ybaf.prog w = .ok true w := by
  unfold lim
  simp [go_sem]

/-- A []byte that can be read. -/
def Pay (w : World) (a : Option Addr) (len : Nat) : Prop := a = none ∨ len = 0 ∨ ∃ (b off : Nat) (xs : List Int), a = some ⟨b, off, none⟩ ∧ xs.length = len ∧ ∀ i, i < len → w.cell? ⟨b, off + i, none⟩ = some (.int .u8 (xs.getD i 0))

theorem Pay.conv {w : World} {a : Option Addr} {len : Nat} (h : Pay w a len) (cap : Nat) : ∃ s, (convert 25 9 (.slice a len cap)).run Ybaf.prog w = .ok (.string s) w := by
  rcases h with rfl | rfl | ⟨b, off, xs, rfl, hl, hc⟩
  · exact ⟨_, run_convert_bytes_nil w 25 5 Ybaf.underlying25 Ybaf.underlying5 len cap 9 Ybaf.underlying9⟩
  · cases a with
    | none => exact ⟨_, run_convert_bytes_nil w 25 5 Ybaf.underlying25 Ybaf.underlying5 0 cap 9 Ybaf.underlying9⟩
    | some x =>
      have hl : (loadCells x 0).run Ybaf.prog w = .ok (List.map (Value.int .u8) []).toArray w := by
        simpa using run_loadCells_list (P := Ybaf.prog) w x [] (fun j v hj => by simp at hj)
      exact ⟨_, by rw [run_convert_bytes_string w 25 9 5 _ 0 cap Ybaf.underlying25 Ybaf.underlying5 Ybaf.underlying9, run_bytesToString w _ 0 cap [] hl]⟩
  · exact ⟨_, run_convert_bytes_arg w 25 5 Ybaf.underlying25 Ybaf.underlying5 b off len cap xs hl hc 9 Ybaf.underlying9⟩

theorem Pay.same {w : World} {a : Option Addr} {len cap : Nat} (h : Pay w a len) :
    Calls Ybaf.prog 11 #[.slice a len cap, .slice a len cap] w fun e w' => e = .returned (.bool true) ∧ w' = w := by
  obtain ⟨s, hs⟩ := h.conv cap
  exact equal_same a len cap s w hs

/-- The blocks of the captured variables. -/
structure Caps where
  calls : Nat
  form : Nat
  data : Nat
  want : Nat
  good : Nat
  adv : Nat
  fail1 : Nat
  e1 : Nat
  off2 : Nat
  val : Nat
  fail2 : Nat
  e2 : Nat

def Caps.args (c : Caps) : Array Value := #[.pointer (some ⟨c.calls, 0, none⟩), .pointer (some ⟨c.form, 0, none⟩), .pointer (some ⟨c.data, 0, none⟩), .pointer (some ⟨c.want, 0, none⟩), .pointer (some ⟨c.good, 0, none⟩), .pointer (some ⟨c.adv, 0, none⟩), .pointer (some ⟨c.fail1, 0, none⟩), .pointer (some ⟨c.e1, 0, none⟩), .pointer (some ⟨c.off2, 0, none⟩), .pointer (some ⟨c.val, 0, none⟩), .pointer (some ⟨c.fail2, 0, none⟩), .pointer (some ⟨c.e2, 0, none⟩)]

/-- What the closure reads of a world: its captured variables, the count of calls aside, and the reader's fields but its offset. -/
structure Env (c : Caps) (rb : Nat) (w : World) (a : Option Addr) (len cap : Nat) (fs : ByteArray) (R : Nat → Int) (ad : Int) (f1 f2 : Bool) (vl : Int) (p1 p2 : Addr) : Prop where
  form : w.cell? ⟨c.form, 0, none⟩ = some (.string fs)
  data : w.cell? ⟨c.data, 0, none⟩ = some (.slice a len cap)
  want : w.rangeAt c.want 0 (lim R)
  good : w.cell? ⟨c.good, 0, none⟩ = some (.bool true)
  adv : w.cell? ⟨c.adv, 0, none⟩ = some (.int .u8 ad)
  fail1 : w.cell? ⟨c.fail1, 0, none⟩ = some (.bool f1)
  e1 : w.cell? ⟨c.e1, 0, none⟩ = some (.iface 71 (.pointer (some p1)))
  val : w.cell? ⟨c.val, 0, none⟩ = some (.int .i64 vl)
  fail2 : w.cell? ⟨c.fail2, 0, none⟩ = some (.bool f2)
  e2 : w.cell? ⟨c.e2, 0, none⟩ = some (.iface 71 (.pointer (some p2)))
  r0 : w.cell? ⟨rb, 0, none⟩ = some (.slice a len cap)
  r2 : w.cell? ⟨rb, 2, none⟩ = some (.string fs)
  r3 : w.rangeAt rb 3 (lim R)
  bytes : Pay w a len

set_option maxHeartbeats 2000000 in
/-- The test at the closure's head, in a world in which the count has been raised. -/
theorem clo_first (c : Caps) (rb : Nat) (w : World) (a : Option Addr) (len cap : Nat) (fs : ByteArray) (R : Nat → Int) (ad : Int) (f1 f2 : Bool) (vl : Int) (p1 p2 : Addr)
    (h0 : w.cell? ⟨c.calls, 0, none⟩ = some (.int .i64 0)) (hf0 : w.frozen? ⟨c.calls, 0, none⟩ = false)
    (hE : Env c rb (w.setCell ⟨c.calls, 0, none⟩ (.int .i64 1)) a len cap fs R ad f1 f2 vl p1 p2) (hr1 : (w.setCell ⟨c.calls, 0, none⟩ (.int .i64 1)).cell? ⟨rb, 1, none⟩ = some (.int .i64 0)) (hrf : w.frozen? ⟨rb, 1, none⟩ = false) (had : 0 ≤ ad ∧ ad ≤ 255) :
    Calls Ybaf.prog 10 (#[.pointer (some ⟨rb, 0, none⟩), .pointer none] ++ c.args) w fun e w' => e = .returned (if f1 then .iface 71 (.pointer (some p1)) else .nilIface) ∧ ∃ n, w' = ((w.setCell ⟨c.calls, 0, none⟩ (.int .i64 1)).setCell ⟨rb, 1, none⟩ (.int .i64 ad)).drewN n := by
  obtain ⟨bc, bf, bd, bw, bg, ba, b1, be1, bo, bv, b2, be2⟩ := c
  simp only [Caps.args, List.append_toArray, List.cons_append, List.nil_append] at *
  have hk1 : (w.setCell ⟨bc, 0, none⟩ (.int .i64 1)).cell? ⟨bc, 0, none⟩ = some (.int .i64 1) := World.cell?_setCell_same _ _ _ h0
  have hrf1 : (w.setCell ⟨bc, 0, none⟩ (.int .i64 1)).frozen? ⟨rb, 1, none⟩ = false := by rw [World.frozen?_setCell]; exact hrf
  go_enter Ybaf.func10, Ybaf.ntmps10
  go_wp2
  obtain ⟨w1, hw1⟩ : ∃ w1, w1 = w.setCell ⟨bc, 0, none⟩ (.int .i64 1) := ⟨_, rfl⟩
  rw [← hw1] at hE hr1 hk1 hrf1 ⊢
  have HW : Hid (w1 = w.setCell ⟨bc, 0, none⟩ (.int .i64 1)) := hw1
  clear hw1 h0 hf0 hrf
  obtain ⟨g1, g2, g3, g4, g5, g6, g7, g8, g9, g10, g11, g12, g13, hs⟩ := hE
  simp only [] at g1 g2 g3 g4 g5 g6 g7 g8 g9 g10
  have HW3 : Hid (w1.rangeAt bw 0 (lim R)) := g3
  have HR3 : Hid (w1.rangeAt rb 3 (lim R)) := g13
  have HEq : Hid (∀ n, Calls Ybaf.prog 11 #[.slice a len cap, .slice a len cap] (w1.drewN n) fun e w' => e = .returned (.bool true) ∧ w' = w1.drewN n) := fun n => Pay.same (w := w1.drewN n) hs
  have heq33 := fun wx => equal33 R wx
  clear g3 g13 hs
  refine wp_region_quiet_lit (by kernel_rfl) (by kernel_rfl) ?_
  repeat (first
    | (refine wpQuiet_load 33 (.tmp 50) rfl (by rfl) rb 3 rfl (lim R) _ (by rintro _ ⟨n, rfl⟩; exact HR3.out) Ybaf.underlying33 rfl Ybaf.size33 ?_)
    | (refine wpQuiet_load 33 (.tmp 5) rfl (by rfl) bw 0 rfl (lim R) _ (by rintro _ ⟨n, rfl⟩; exact HW3.out) Ybaf.underlying33 rfl Ybaf.size33 ?_)
    | quiet_step ((go_at_call 11; exact Calls.quiet_of_same (HEq.out _))))
  refine wpQuiet_nil ?_
  rintro _ ⟨nq, rfl⟩
  clear HW3 HR3 HEq heq33
  cases f1
  · go_wp2
    go_ret
    exact ⟨by simp, nq, by rw [HW.out]; rfl⟩
  · go_wp2
    go_ret
    exact ⟨by simp, nq, by rw [HW.out]; rfl⟩

set_option maxHeartbeats 2000000 in
/-- The second call. -/
theorem clo_second (c : Caps) (rb vb : Nat) (w : World) (a : Option Addr) (len cap : Nat) (fs : ByteArray) (R : Nat → Int) (ad : Int) (f1 f2 : Bool) (vl : Int) (p1 p2 : Addr) (x0 y0 : Value)
    (h0 : w.cell? ⟨c.calls, 0, none⟩ = some (.int .i64 1)) (hf0 : w.frozen? ⟨c.calls, 0, none⟩ = false)
    (hE : Env c rb (w.setCell ⟨c.calls, 0, none⟩ (.int .i64 2)) a len cap fs R ad f1 f2 vl p1 p2) (hr1 : (w.setCell ⟨c.calls, 0, none⟩ (.int .i64 2)).cell? ⟨rb, 1, none⟩ = some (.int .i64 ad))
    (ho : (w.setCell ⟨c.calls, 0, none⟩ (.int .i64 2)).cell? ⟨c.off2, 0, none⟩ = some x0) (hof : w.frozen? ⟨c.off2, 0, none⟩ = false)
    (hv : (w.setCell ⟨c.calls, 0, none⟩ (.int .i64 2)).cell? ⟨vb, 0, none⟩ = some y0) (hvf : w.frozen? ⟨vb, 0, none⟩ = false)
    (n1 : c.off2 ≠ c.val) (n2 : c.off2 ≠ c.fail2) (n3 : c.off2 ≠ c.e2) (n4 : vb ≠ c.off2) (n5 : vb ≠ c.fail2) (n6 : vb ≠ c.e2) :
    Calls Ybaf.prog 10 (#[.pointer (some ⟨rb, 0, none⟩), .pointer (some ⟨vb, 0, none⟩)] ++ c.args) w fun e w' => e = .returned (if f2 then .iface 71 (.pointer (some p2)) else .nilIface) ∧
      ∃ n, w' = (((w.setCell ⟨c.calls, 0, none⟩ (.int .i64 2)).setCell ⟨c.off2, 0, none⟩ (.int .i64 ad)).setCell ⟨vb, 0, none⟩ (.int .i64 vl)).drewN n := by
  obtain ⟨bc, bf, bd, bw, bg, ba, b1, be1, bo, bv, b2, be2⟩ := c
  simp only [Caps.args, List.append_toArray, List.cons_append, List.nil_append] at *
  have hk1 : (w.setCell ⟨bc, 0, none⟩ (.int .i64 2)).cell? ⟨bc, 0, none⟩ = some (.int .i64 2) := World.cell?_setCell_same _ _ _ h0
  have hof1 : (w.setCell ⟨bc, 0, none⟩ (.int .i64 2)).frozen? ⟨bo, 0, none⟩ = false := by rw [World.frozen?_setCell]; exact hof
  have hvf1 : (w.setCell ⟨bc, 0, none⟩ (.int .i64 2)).frozen? ⟨vb, 0, none⟩ = false := by rw [World.frozen?_setCell]; exact hvf
  have n4' := n4.symm
  go_enter Ybaf.func10, Ybaf.ntmps10
  go_wp2
  obtain ⟨w1, hw1⟩ : ∃ w1, w1 = w.setCell ⟨bc, 0, none⟩ (.int .i64 2) := ⟨_, rfl⟩
  rw [← hw1] at hE hr1 hk1 hof1 hvf1 ho hv ⊢
  have HW : Hid (w1 = w.setCell ⟨bc, 0, none⟩ (.int .i64 2)) := hw1
  clear hw1 h0 hf0 hof hvf
  obtain ⟨g1, g2, g3, g4, g5, g6, g7, g8, g9, g10, g11, g12, g13, hs⟩ := hE
  simp only [] at g1 g2 g3 g4 g5 g6 g7 g8 g9 g10
  have HW3 : Hid (w1.rangeAt bw 0 (lim R)) := g3
  have HR3 : Hid (w1.rangeAt rb 3 (lim R)) := g13
  have HEq : Hid (∀ n, Calls Ybaf.prog 11 #[.slice a len cap, .slice a len cap] (w1.drewN n) fun e w' => e = .returned (.bool true) ∧ w' = w1.drewN n) := fun n => Pay.same (w := w1.drewN n) hs
  have heq33 := fun wx => equal33 R wx
  clear g3 g13 hs
  refine wp_region_quiet_lit (by kernel_rfl) (by kernel_rfl) ?_
  repeat (first
    | (refine wpQuiet_load 33 (.tmp 50) rfl (by rfl) rb 3 rfl (lim R) _ (by rintro _ ⟨n, rfl⟩; exact HR3.out) Ybaf.underlying33 rfl Ybaf.size33 ?_)
    | (refine wpQuiet_load 33 (.tmp 5) rfl (by rfl) bw 0 rfl (lim R) _ (by rintro _ ⟨n, rfl⟩; exact HW3.out) Ybaf.underlying33 rfl Ybaf.size33 ?_)
    | quiet_step ((go_at_call 11; exact Calls.quiet_of_same (HEq.out _))))
  refine wpQuiet_nil ?_
  rintro _ ⟨nq, rfl⟩
  clear HW3 HR3 HEq heq33
  cases f2
  · go_wp2
    go_ret
    exact ⟨by simp, nq, by rw [HW.out]; rfl⟩
  · go_wp2
    go_ret
    exact ⟨by simp, nq, by rw [HW.out]; rfl⟩
end Go.Proofs.YbulkuisFmt
