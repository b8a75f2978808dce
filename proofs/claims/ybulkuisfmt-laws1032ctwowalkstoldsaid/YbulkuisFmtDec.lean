/-
  decodeReplay, as a contract: a negative limit; else the two walks.
-/
import Derived.Test.YbulkuisFmtRes
import Derived.Test.YbulkuisFmtClo
namespace Go.Proofs.YbulkuisFmt
open Go.RowKit Go.Extern.Stop Go.Stop Go.Extern
set_option linter.unusedVariables false

/-- The reader's twenty cells as decodeReplay builds them. -/
def rdr (X : Nat → Int) : List Value := .slice none 0 0 :: .int .i64 0 :: .string ⟨#[]⟩ :: lim X
theorem build58 (X : Nat → Int) (w : World) : (Instr.build 58 #[(1, .agg (lim X).toArray)]).run Ybaf.prog w = .ok (.agg (rdr X).toArray) w := by kernel_rfl
theorem Ybaf.size58 (X : Nat → Int) : (Ybaf.prog.info? 58).map (·.size) = some (rdr X).toArray.size := by kernel_rfl
theorem rdr_one (X : Nat → Int) : (rdr X).toArray.toList.all (·.oneCell') = true := rfl

theorem wpList_build58 {w : World} {ops : Array Oper} {rest : List Oper} {op : Oper} {a : Act} {Q : Exit → Act → World → Prop} (hgd : op.guard = none) (ho : op.op = .build 58 #[(1, .tmp 23)]) (X : Nat → Int) (hx : a.eval (.tmp 23) = .agg (lim X).toArray)
    (h : wpList Ybaf.prog ops Q rest (a.put op.dst (.agg (rdr X).toArray)) w) : wpList Ybaf.prog ops Q (op :: rest) a w := by
  refine wpList_plain hgd fun K hK => ?_
  have e : (#[(1, Operand.tmp 23)] : Array (Nat × Operand)).map (fun (i, x) => (i, a.eval x)) = #[(1, .agg (lim X).toArray)] := by
    simp [hx]
  unfold Oper.wp execOp
  simp only [ho, e, Sem.run_bind, build58 X w, Result.andThen_ok]
  exact hK _ _ h

/-- Only block g has turned. -/
structure Only (g : Nat) (w w' : World) : Prop where
  os : w'.os = w.os
  tape : w'.tape = w.tape
  output : w'.output = w.output
  size : w'.heap.size = w.heap.size
  block : ∀ k, k ≠ g → w'.heap[k]? = w.heap[k]?
theorem Only.cell {g : Nat} {w w' : World} (h : Only g w w') {p : Addr} (hp : p.block ≠ g) : w'.cell? p = w.cell? p := World.cell?_of_block (w := w) (h.block _ hp)
theorem Only.frozen {g : Nat} {w w' : World} (h : Only g w w') {p : Addr} (hp : p.block ≠ g) : w'.frozen? p = w.frozen? p := World.frozen?_of_block (w := w) (h.block _ hp)
theorem Only.below {g B : Nat} {w0 w w' : World} (h : Only g w w') (hb : Below B w0 w) (hg : B ≤ g) : Below B w0 w' :=
  hb.trans ⟨h.os, h.tape, h.output, by rw [h.size]; exact Nat.le_refl _, fun k hk => h.block k (by omega)⟩

theorem wpList_store_only {P : Program} {w : World} {ops : Array Oper} {rest : List Oper} {op : Oper} {a : Act} {Q : Exit → Act → World → Prop} (hgd : op.guard = none) (ty : TypeId) (x y : Operand) (ho : op.op = .store ty x y)
    (g : Nat) (c c' : Array Value) (t : TypeId) (hb : w.heap[g]? = some (.cells c t (0, 0))) (hx : a.eval x = .pointer (some ⟨g, 0, none⟩)) (hy : a.eval y = .agg c') (hi : (P.info? ty).map (·.size) = some c'.size) (hs : c.size = c'.size) (h1 : c'.toList.all (·.oneCell') = true)
    (h : ∀ w', Hid (w'.heap[g]? = some (.cells c' t (0, 0))) → Only g w w' → wpList P ops Q rest (a.put op.dst undef) w') : wpList P ops Q (op :: rest) a w :=
  wpList_store_whole hgd ty x y ho g c c' t hb hx hy hi hs h1 (h _ (show _ = _ from setRow_heap w g _ _ t _ hb) ⟨rfl, rfl, rfl, by simp, fun k hk => setRow_other w g k _ hk⟩)

theorem Laid.alloc {w : World} {nm : Nat → ByteArray} (h : Laid w nm) (o : Obj) : Laid (w.alloc o) nm := fun j hj => by
  obtain ⟨h1, h2, h3⟩ := h j hj
  exact ⟨by rw [World.cell?_alloc_past _ _ _ (World.block_lt_of_cell? _ _ h1)]; exact h1, by rw [World.cell?_alloc_past _ _ _ (World.block_lt_of_cell? _ _ h2)]; exact h2, h3⟩

/-- The blocks that the closure reads, the count and off2 aside. -/
def Caps.reads (c : Caps) : List Nat := [c.form, c.data, c.want, c.good, c.adv, c.fail1, c.e1, c.val, c.fail2, c.e2]

/-- What those blocks hold. -/
structure Held (c : Caps) (w : World) (a : Option Addr) (len cap : Nat) (fs : ByteArray) (R : Nat → Int) (ad : Int) (f1 f2 : Bool) (vl : Int) (p1 p2 : Addr) : Prop where
  form : w.cell? ⟨c.form, 0, none⟩ = some (.string fs)
  data : w.cell? ⟨c.data, 0, none⟩ = some (.slice a len cap)
  want : w.rangeAt c.want 0 (lim R)
  good : w.cell? ⟨c.good, 0, none⟩ = some (.bool true)
  adv : w.cell? ⟨c.adv, 0, none⟩ = some (.int .u8 ad)
  fail1 : w.cell? ⟨c.fail1, 0, none⟩ = some (.bool f1)
  e1 : w.cell? ⟨c.e1, 0, none⟩ = some (.iface 71 (.pointer (some p1)))
  val : w.cell? ⟨c.val, 0, none⟩ = some (.int .i64 vl)
  fail2 : w.cell? ⟨c.fail2, 0, none⟩ = some (.bool f2)
  e2 : w.cell? ⟨c.e2, 0, none⟩ = some (.iface 71 (.pointer (some p2)))

theorem Held.keep {c : Caps} {w w' : World} {a : Option Addr} {len cap : Nat} {fs : ByteArray} {R : Nat → Int} {ad : Int} {f1 f2 : Bool} {vl : Int} {p1 p2 : Addr} (h : Held c w a len cap fs R ad f1 f2 vl p1 p2)
    (k : ∀ p : Addr, p.block ∈ c.reads → w'.cell? p = w.cell? p) : Held c w' a len cap fs R ad f1 f2 vl p1 p2 := by
  obtain ⟨h1, h2, h3, h4, h5, h6, h7, h8, h9, h10⟩ := h
  refine ⟨?_, ?_, fun j v hj => ?_, ?_, ?_, ?_, ?_, ?_, ?_, ?_⟩
  · rw [k _ (by simp [Caps.reads])]; exact h1
  · rw [k _ (by simp [Caps.reads])]; exact h2
  · rw [k _ (by simp [Caps.reads])]; exact h3 j v hj
  · rw [k _ (by simp [Caps.reads])]; exact h4
  · rw [k _ (by simp [Caps.reads])]; exact h5
  · rw [k _ (by simp [Caps.reads])]; exact h6
  · rw [k _ (by simp [Caps.reads])]; exact h7
  · rw [k _ (by simp [Caps.reads])]; exact h8
  · rw [k _ (by simp [Caps.reads])]; exact h9
  · rw [k _ (by simp [Caps.reads])]; exact h10

/-- The reader at block rb. -/
structure Rd (rb : Nat) (w : World) (a : Option Addr) (len cap : Nat) (fs : ByteArray) (R : Nat → Int) (o : Int) : Prop where
  r0 : w.cell? ⟨rb, 0, none⟩ = some (.slice a len cap)
  r1 : w.cell? ⟨rb, 1, none⟩ = some (.int .i64 o)
  r2 : w.cell? ⟨rb, 2, none⟩ = some (.string fs)
  r3 : w.rangeAt rb 3 (lim R)
  fr : w.frozen? ⟨rb, 1, none⟩ = false

theorem Rd.far {rb : Nat} {w : World} {a : Option Addr} {len cap : Nat} {fs : ByteArray} {R : Nat → Int} {o : Int} (h : Rd rb w a len cap fs R o) (p : Addr) (hp : p.block ≠ rb) (v : Value) : Rd rb (w.setCell p v) a len cap fs R o :=
  ⟨by rw [World.cell?_setCell_far _ _ _ _ hp]; exact h.r0, by rw [World.cell?_setCell_far _ _ _ _ hp]; exact h.r1, by rw [World.cell?_setCell_far _ _ _ _ hp]; exact h.r2,
   fun j v' hj => by rw [World.cell?_setCell_far _ _ _ _ hp]; exact h.r3 j v' hj, by rw [World.frozen?_setCell]; exact h.fr⟩

theorem Rd.moved {rb : Nat} {w : World} {a : Option Addr} {len cap : Nat} {fs : ByteArray} {R : Nat → Int} {o : Int} (h : Rd rb w a len cap fs R o) (o' : Int) : Rd rb (w.setCell ⟨rb, 1, none⟩ (.int .i64 o')) a len cap fs R o' :=
  ⟨by rw [World.cell?_setCell_other _ _ _ _ (by simp)]; exact h.r0, World.cell?_setCell_same _ _ _ h.r1, by rw [World.cell?_setCell_other _ _ _ _ (by simp)]; exact h.r2,
   fun j v' hj => by rw [World.cell?_setCell_other _ _ _ _ (by simp <;> omega)]; exact h.r3 j v' hj, by rw [World.frozen?_setCell]; exact h.fr⟩

theorem cell_in {w : World} {b : Nat} {cs : Array Value} {T : TypeId} {fr : Nat × Nat} (hb : w.heap[b]? = some (.cells cs T fr)) (j : Nat) : w.cell? ⟨b, j, none⟩ = cs[j]? := by
  simp [World.cell?, hb]

theorem Rd.new (w : World) (a : Option Addr) (len cap : Nat) (fs : ByteArray) (R : Nat → Int) : Rd w.heap.size (w.alloc (.cells (((rdr R).set 0 (.slice a len cap)).set 2 (.string fs)).toArray 58)) a len cap fs R 0 := by
  have hb := heap_alloc_new w (.cells (((rdr R).set 0 (.slice a len cap)).set 2 (.string fs)).toArray 58)
  refine ⟨?_, ?_, ?_, fun j v hj => ?_, by simp [go_sem]⟩
  · rw [cell_in hb]; rfl
  · rw [cell_in hb]; rfl
  · rw [cell_in hb]; rfl
  · rw [cell_in hb, ← hj]
    rw [Nat.add_comm 3 j]
    simp [rdr]

theorem Pay.keep {w w' : World} {a : Option Addr} {len : Nat} (h : Pay w a len) (k : ∀ p : Addr, p.block < w.heap.size → w'.cell? p = w.cell? p) : Pay w' a len := by
  rcases h with rfl | rfl | ⟨b, off, xs, rfl, hl, hc⟩
  · exact .inl rfl
  · exact .inr (.inl rfl)
  · exact .inr (.inr ⟨b, off, xs, rfl, hl, fun i hi => by rw [k _ (World.block_lt_of_cell? _ _ (hc i hi))]; exact hc i hi⟩)

theorem Held.env {c : Caps} {rb : Nat} {w : World} {a : Option Addr} {len cap : Nat} {fs : ByteArray} {R : Nat → Int} {ad o : Int} {f1 f2 : Bool} {vl : Int} {p1 p2 : Addr} (h : Held c w a len cap fs R ad f1 f2 vl p1 p2)
    (r : Rd rb w a len cap fs R o) (p : Pay w a len) : Env c rb w a len cap fs R ad f1 f2 vl p1 p2 :=
  ⟨h.form, h.data, h.want, h.good, h.adv, h.fail1, h.e1, h.val, h.fail2, h.e2, r.r0, r.r2, r.r3, p⟩

/-- What the captured blocks and the payload owe at the call of decodeReplay. -/
structure Start (c : Caps) (B0 : Nat) (w0 w : World) (a : Option Addr) (len cap : Nat) (fs : ByteArray) (R : Nat → Int) (ad : Int) (f1 f2 : Bool) (vl : Int) (p1 p2 : Addr) : Prop where
  held : Held c w a len cap fs R ad f1 f2 vl p1 p2
  pay : Pay w0 a len
  old : Below w0.heap.size w0 w
  calls : w.cell? ⟨c.calls, 0, none⟩ = some (.int .i64 0)
  callsF : w.frozen? ⟨c.calls, 0, none⟩ = false
  off : w.cell? ⟨c.off2, 0, none⟩ = some (.int .i64 (-1))
  offF : w.frozen? ⟨c.off2, 0, none⟩ = false
  lo : B0 = w0.heap.size
  localls : B0 ≤ c.calls
  looff : B0 ≤ c.off2
  hicalls : c.calls < w.heap.size
  hioff : c.off2 < w.heap.size
  hi : ∀ b ∈ c.reads, b < w.heap.size
  ncalls : ∀ b ∈ c.reads, b ≠ c.calls
  noff : ∀ b ∈ c.reads, b ≠ c.off2
  nco : c.calls ≠ c.off2
  adl : 0 ≤ ad ∧ ad ≤ 255

/-- How far a later world has gone. -/
structure Gone (c : Caps) (B0 : Nat) (w w' : World) (k : Int) : Prop where
  below : Below B0 w w'
  keep : ∀ p : Addr, p.block ∈ c.reads → w'.cell? p = w.cell? p
  calls : w'.cell? ⟨c.calls, 0, none⟩ = some (.int .i64 k)

/-- decodeReplay between its calls: the reader at rb, its result at vb. -/
structure Mid (c : Caps) (B0 : Nat) (w w' : World) (rb vb : Nat) (a : Option Addr) (len cap : Nat) (fs : ByteArray) (R : Nat → Int) (k o x o2 : Int) : Prop where
  gone : Gone c B0 w w' k
  callsF : w'.frozen? ⟨c.calls, 0, none⟩ = false
  rd : Rd rb w' a len cap fs R o
  v : w'.cell? ⟨vb, 0, none⟩ = some (.int .i64 x)
  vF : w'.frozen? ⟨vb, 0, none⟩ = false
  off : w'.cell? ⟨c.off2, 0, none⟩ = some (.int .i64 o2)
  offF : w'.frozen? ⟨c.off2, 0, none⟩ = false
  hv : w.heap.size ≤ vb
  hr : w.heap.size ≤ rb
  hvr : vb ≠ rb

variable {c : Caps} {B0 : Nat} {w0 w w' w2 : World} {rb vb : Nat} {a : Option Addr} {len cap : Nat} {fs : ByteArray} {R : Nat → Int} {ad : Int} {f1 f2 : Bool} {vl : Int} {p1 p2 : Addr} {k o x o2 : Int}

theorem Start.le (S : Start c B0 w0 w a len cap fs R ad f1 f2 vl p1 p2) : B0 ≤ w.heap.size := by rw [S.lo]; exact S.old.size

theorem Mid.start (S : Start c B0 w0 w a len cap fs R ad f1 f2 vl p1 p2) (hb : Below w.heap.size w w2) (v : w2.cell? ⟨vb, 0, none⟩ = some (.int .i64 0)) (vF : w2.frozen? ⟨vb, 0, none⟩ = false) (hv : w.heap.size ≤ vb) (hs : vb < w2.heap.size) :
    Mid c B0 w (w2.alloc (.cells (((rdr R).set 0 (.slice a len cap)).set 2 (.string fs)).toArray 58)) w2.heap.size vb a len cap fs R 0 0 0 (-1) := by
  have hbs := hb.size
  have hc : ∀ p : Addr, p.block < w.heap.size → (w2.alloc (.cells (((rdr R).set 0 (.slice a len cap)).set 2 (.string fs)).toArray 58)).cell? p = w.cell? p := fun p hp => by
    rw [World.cell?_of_block (w := w2) (Below.heap_alloc _ _ _ (by omega))]; exact hb.cell hp
  refine ⟨⟨(hb.mono S.le).alloc (by have := S.le; omega) _, fun p hp => hc p (S.hi _ hp), ?_⟩, ?_, Rd.new _ _ _ _ _ _, ?_, ?_, ?_, ?_, hv, hbs, by omega⟩
  · rw [hc _ S.hicalls]; exact S.calls
  · rw [frozen?_alloc_cells, hb.frozen S.hicalls]; exact S.callsF
  · rw [World.cell?_alloc_past _ _ _ hs]; exact v
  · rw [frozen?_alloc_cells]; exact vF
  · rw [hc _ S.hioff]; exact S.off
  · rw [frozen?_alloc_cells, hb.frozen S.hioff]; exact S.offF

theorem Mid.drewN (m : Mid c B0 w w' rb vb a len cap fs R k o x o2) (n : Nat) : Mid c B0 w (w'.drewN n) rb vb a len cap fs R k o x o2 :=
  ⟨⟨m.gone.below.trans ⟨rfl, rfl, rfl, Nat.le_refl _, fun _ _ => rfl⟩, m.gone.keep, m.gone.calls⟩, m.callsF, ⟨m.rd.r0, m.rd.r1, m.rd.r2, m.rd.r3, m.rd.fr⟩, m.v, m.vF, m.off, m.offF, m.hv, m.hr, m.hvr⟩

theorem Mid.count (m : Mid c B0 w w' rb vb a len cap fs R k o x o2) (S : Start c B0 w0 w a len cap fs R ad f1 f2 vl p1 p2) (k' : Int) : Mid c B0 w (w'.setCell ⟨c.calls, 0, none⟩ (.int .i64 k')) rb vb a len cap fs R k' o x o2 := by
  have h1 := S.hicalls
  have h2 := m.hr
  have h3 := m.hv
  refine ⟨⟨m.gone.below.setCell S.localls _, fun p hp => ?_, World.cell?_setCell_same _ _ _ m.gone.calls⟩, ?_, m.rd.far _ (by show c.calls ≠ rb; omega) _, ?_, ?_, ?_, ?_, m.hv, m.hr, m.hvr⟩
  · rw [World.cell?_setCell_far _ _ _ _ (fun e => S.ncalls _ hp e.symm)]; exact m.gone.keep p hp
  · rw [World.frozen?_setCell]; exact m.callsF
  · rw [World.cell?_setCell_far _ _ _ _ (by show c.calls ≠ vb; omega)]; exact m.v
  · rw [World.frozen?_setCell]; exact m.vF
  · rw [World.cell?_setCell_far _ _ _ _ S.nco]; exact m.off
  · rw [World.frozen?_setCell]; exact m.offF

theorem Mid.moved (m : Mid c B0 w w' rb vb a len cap fs R k o x o2) (S : Start c B0 w0 w a len cap fs R ad f1 f2 vl p1 p2) (o' : Int) : Mid c B0 w (w'.setCell ⟨rb, 1, none⟩ (.int .i64 o')) rb vb a len cap fs R k o' x o2 := by
  have h1 := S.hicalls
  have h2 := m.hr
  have h3 := S.hioff
  refine ⟨⟨m.gone.below.setCell (Nat.le_trans S.le m.hr) _, fun p hp => ?_, ?_⟩, ?_, m.rd.moved _, ?_, ?_, ?_, ?_, m.hv, m.hr, m.hvr⟩
  · rw [World.cell?_setCell_far _ _ _ _ (by have := S.hi _ hp; show rb ≠ p.block; omega)]; exact m.gone.keep p hp
  · rw [World.cell?_setCell_far _ _ _ _ (by show rb ≠ c.calls; omega)]; exact m.gone.calls
  · rw [World.frozen?_setCell]; exact m.callsF
  · rw [World.cell?_setCell_far _ _ _ _ m.hvr.symm]; exact m.v
  · rw [World.frozen?_setCell]; exact m.vF
  · rw [World.cell?_setCell_far _ _ _ _ (by show rb ≠ c.off2; omega)]; exact m.off
  · rw [World.frozen?_setCell]; exact m.offF

theorem Mid.noted (m : Mid c B0 w w' rb vb a len cap fs R k o x o2) (S : Start c B0 w0 w a len cap fs R ad f1 f2 vl p1 p2) (o' : Int) : Mid c B0 w (w'.setCell ⟨c.off2, 0, none⟩ (.int .i64 o')) rb vb a len cap fs R k o x o' := by
  have h1 := S.hioff
  have h2 := m.hr
  have h3 := m.hv
  refine ⟨⟨m.gone.below.setCell S.looff _, fun p hp => ?_, ?_⟩, ?_, m.rd.far _ (by show c.off2 ≠ rb; omega) _, ?_, ?_, World.cell?_setCell_same _ _ _ m.off, ?_, m.hv, m.hr, m.hvr⟩
  · rw [World.cell?_setCell_far _ _ _ _ (fun e => S.noff _ hp e.symm)]; exact m.gone.keep p hp
  · rw [World.cell?_setCell_far _ _ _ _ S.nco.symm]; exact m.gone.calls
  · rw [World.frozen?_setCell]; exact m.callsF
  · rw [World.cell?_setCell_far _ _ _ _ (by show c.off2 ≠ vb; omega)]; exact m.v
  · rw [World.frozen?_setCell]; exact m.vF
  · rw [World.frozen?_setCell]; exact m.offF

theorem Mid.told (m : Mid c B0 w w' rb vb a len cap fs R k o x o2) (S : Start c B0 w0 w a len cap fs R ad f1 f2 vl p1 p2) (x' : Int) : Mid c B0 w (w'.setCell ⟨vb, 0, none⟩ (.int .i64 x')) rb vb a len cap fs R k o x' o2 := by
  have h1 := S.hicalls
  have h2 := m.hv
  have h3 := S.hioff
  refine ⟨⟨m.gone.below.setCell (Nat.le_trans S.le m.hv) _, fun p hp => ?_, ?_⟩, ?_, m.rd.far _ m.hvr _, World.cell?_setCell_same _ _ _ m.v, ?_, ?_, ?_, m.hv, m.hr, m.hvr⟩
  · rw [World.cell?_setCell_far _ _ _ _ (by have := S.hi _ hp; show vb ≠ p.block; omega)]; exact m.gone.keep p hp
  · rw [World.cell?_setCell_far _ _ _ _ (by show vb ≠ c.calls; omega)]; exact m.gone.calls
  · rw [World.frozen?_setCell]; exact m.callsF
  · rw [World.frozen?_setCell]; exact m.vF
  · rw [World.cell?_setCell_far _ _ _ _ (by show vb ≠ c.off2; omega)]; exact m.off
  · rw [World.frozen?_setCell]; exact m.offF

theorem Mid.env (m : Mid c B0 w w' rb vb a len cap fs R k o x o2) (S : Start c B0 w0 w a len cap fs R ad f1 f2 vl p1 p2) : Env c rb w' a len cap fs R ad f1 f2 vl p1 p2 :=
  (S.held.keep m.gone.keep).env m.rd (S.pay.keep fun p hp => (S.old.trans (S.lo ▸ m.gone.below)).cell hp)

theorem first_call (S : Start c B0 w0 w a len cap fs R ad f1 f2 vl p1 p2) (m : Mid c B0 w w' rb vb a len cap fs R 0 0 0 (-1)) :
    Calls Ybaf.prog 10 (#[.pointer (some ⟨rb, 0, none⟩), .pointer none] ++ c.args) w' fun e w2 => e = .returned (if f1 then .iface 71 (.pointer (some p1)) else .nilIface) ∧ Mid c B0 w w2 rb vb a len cap fs R 1 ad 0 (-1) :=
  (clo_first c rb w' a len cap fs R ad f1 f2 vl p1 p2 m.gone.calls m.callsF ((m.count S 1).env S) (m.count S 1).rd.r1 m.rd.fr S.adl).mono fun e w2 ⟨he, n, hw⟩ =>
    ⟨he, hw ▸ ((m.count S 1).moved S ad).drewN n⟩

theorem second_call (S : Start c B0 w0 w a len cap fs R ad f1 f2 vl p1 p2) (m : Mid c B0 w w' rb vb a len cap fs R 1 ad 0 (-1)) :
    Calls Ybaf.prog 10 (#[.pointer (some ⟨rb, 0, none⟩), .pointer (some ⟨vb, 0, none⟩)] ++ c.args) w' fun e w2 => e = .returned (if f2 then .iface 71 (.pointer (some p2)) else .nilIface) ∧ Mid c B0 w w2 rb vb a len cap fs R 2 ad vl ad :=
  have h1 := S.hioff
  have h2 := m.hv
  (clo_second c rb vb w' a len cap fs R ad f1 f2 vl p1 p2 _ _ m.gone.calls m.callsF ((m.count S 2).env S) (m.count S 2).rd.r1 (m.count S 2).off m.offF (m.count S 2).v m.vF
    (fun e => S.noff c.val (by simp [Caps.reads]) e.symm) (fun e => S.noff c.fail2 (by simp [Caps.reads]) e.symm) (fun e => S.noff c.e2 (by simp [Caps.reads]) e.symm)
    (by omega) (by have := S.hi c.fail2 (by simp [Caps.reads]); omega) (by have := S.hi c.e2 (by simp [Caps.reads]); omega)).mono fun e w2 ⟨he, n, hw⟩ =>
    ⟨he, hw ▸ (((m.count S 2).noted S ad).told S vl).drewN n⟩
end Go.Proofs.YbulkuisFmt
