/-
  The contracts of AddEdge and zzs1029aeq, and what LawS1029AEdges keeps of memory.
-/
import Derived.Test.YbulkuhcFmtRows
import Derived.WalkKit
import Derived.WalkSpells
import Derived.WalkLawsBesides
import Derived.Deep.LoopGhost
import Derived.Deep.OwnRows
import Derived.Deep.RegionLaw
import Derived.RegionTactic
import Derived.BigRegion
import Derived.Deep.QuietTactic
import Derived.BigQuiet
import Derived.Lib.SmallJoins
namespace Go.Proofs.YbulkuhcFmt
open Go.RowKit

theorem Ybaf.info9 : (Ybaf.prog.info? 9).map (fun i => (i.zero, i.size, i.bytes)) = some (some (.string ByteArray.empty), 1, 16) := by kernel_rfl
theorem Ybaf.info33 : (Ybaf.prog.info? 33).map (fun i => (i.zero, i.size, i.bytes)) = some (some (.agg #[.int .i64 0, .int .i64 0]), 2, 16) := by kernel_rfl

/-- The cells of a list of edges. -/
def flat : List (Int × Int) → List Value
  | [] => []
  | e :: r => .int .i64 e.1 :: .int .i64 e.2 :: flat r

theorem flat_snoc (u v : Int) : ∀ E : List (Int × Int), flat (E ++ [(u, v)]) = flat E ++ [.int .i64 u, .int .i64 v]
  | [] => rfl
  | e :: r => by simp [flat, flat_snoc u v r]

theorem flat_get0 : ∀ (E : List (Int × Int)) (i : Nat) (h : i < E.length), (flat E)[2 * i]? = some (.int .i64 (E[i]).1)
  | e :: r, 0, _ => rfl
  | e :: r, i + 1, h => by
    have e1 : 2 * (i + 1) = 2 * i + 1 + 1 := by omega
    rw [e1, flat, List.getElem?_cons_succ, List.getElem?_cons_succ, flat_get0 r i (by simpa using h)]
    rfl
theorem flat_get1 : ∀ (E : List (Int × Int)) (i : Nat) (h : i < E.length), (flat E)[2 * i + 1]? = some (.int .i64 (E[i]).2)
  | e :: r, 0, _ => rfl
  | e :: r, i + 1, h => by
    have e1 : 2 * (i + 1) + 1 = 2 * i + 1 + 1 + 1 := by omega
    rw [e1, flat, List.getElem?_cons_succ, List.getElem?_cons_succ, flat_get1 r i (by simpa using h)]
    rfl

/-- The builder at block H+1 with its names' row at H, 'want' at H+2, the builder's edges from H+3 on. -/
structure St (w wr : World) (m C : Nat) (E F : List (Int × Int)) : Prop where
  below : Below w.heap.size w wr
  size : w.heap.size + 3 ≤ wr.heap.size
  names : wr.cell? ⟨w.heap.size + 1, 0, none⟩ = some (.slice (some ⟨w.heap.size, 0, none⟩) m m)
  idx : wr.cell? ⟨w.heap.size + 1, 1, none⟩ = some (.map none)
  ed : ∃ ao cp, wr.cell? ⟨w.heap.size + 1, 2, none⟩ = some (.slice ao E.length cp) ∧ wr.ownsRow (w.heap.size + 3) 33 2 (.slice ao E.length cp) E.length (flat E)
  fr : wr.frozen? ⟨w.heap.size + 1, 2, none⟩ = false
  want : wr.ownsRow (w.heap.size + 2) 33 2 (.slice (some ⟨w.heap.size + 2, 0, none⟩) F.length C) F.length (flat F)

theorem St.alloc {w wr : World} {m C : Nat} {E F : List (Int × Int)} (h : St w wr m C E F) (o : Obj) : St w (wr.alloc o) m C E F := by
  have hs := h.size
  obtain ⟨ao, cp, h1, h2⟩ := h.ed
  exact ⟨h.below.alloc (by omega) o, by simp; omega, by rw [World.cell?_alloc_past _ _ _ (by omega)]; exact h.names, by rw [World.cell?_alloc_past _ _ _ (by omega)]; exact h.idx,
    ⟨ao, cp, by rw [World.cell?_alloc_past _ _ _ (by omega)]; exact h1, h2.alloc o⟩, by rw [World.frozen?_alloc_past _ _ _ (by omega)]; exact h.fr, h.want.alloc o⟩

theorem ownsRow_drew {w : World} {base : Nat} {e : TypeId} {size : Nat} {v : Value} {n : Nat} {xs : List Value} (h : w.ownsRow base e size v n xs) : w.drew.ownsRow base e size v n xs := h

theorem St.drew {w wr : World} {m C : Nat} {E F : List (Int × Int)} (h : St w wr m C E F) : St w wr.drew m C E F :=
  ⟨h.below.drew, h.size, h.names, h.idx, h.ed, h.fr, h.want⟩

theorem St.drewN {w wr : World} {m C : Nat} {E F : List (Int × Int)} (h : St w wr m C E F) (n : Nat) : St w (wr.drewN n) m C E F :=
  ⟨below_drewN h.below n, h.size, h.names, h.idx, h.ed, h.fr, h.want⟩

/-- A store into a new block beyond those. -/
theorem St.setNew {w wr : World} {m C : Nat} {E F : List (Int × Int)} (h : St w wr m C E F) {ao : Option Addr} {n cp : Nat} (hc : wr.cell? ⟨w.heap.size + 1, 2, none⟩ = some (.slice ao n cp)) (g i : Nat) (hg : w.heap.size + 3 ≤ g) (hne : ∀ x, ao = some x → x.block ≠ g) (u : Value) :
    St w (wr.setCell ⟨g, i, none⟩ u) m C E F := by
  obtain ⟨ao', cp', h1, h2⟩ := h.ed
  have e1 : ∀ j, (wr.setCell ⟨g, i, none⟩ u).cell? ⟨w.heap.size + 1, j, none⟩ = wr.cell? ⟨w.heap.size + 1, j, none⟩ := fun j =>
    World.cell?_setCell_other _ _ _ _ (fun e => by have := congrArg Addr.block e; simp at this; omega)
  rw [h1] at hc
  simp at hc
  obtain ⟨rfl, _, rfl⟩ := hc
  have hgr : wr.grownBy (wr.setCell ⟨g, i, none⟩ u) (some g) := ⟨rfl, rfl, rfl, by simp, fun k _ hk => Below.heap_setCell _ _ _ _ (fun e => hk (by rw [e]))⟩
  refine ⟨h.below.setCell (by show w.heap.size ≤ g; omega) u, by simpa using h.size, by rw [e1]; exact h.names, by rw [e1]; exact h.idx, ⟨ao', cp', by rw [e1]; exact h1, h2.kept hgr ?_⟩, by simpa using h.fr, h.want.kept hgr ?_⟩
  · cases ao' with
    | none => exact .inl rfl
    | some x => exact .inr (by have := hne x rfl; simpa [Value.ownBlock] using this)
  · exact .inr (by simp [Value.ownBlock]; omega)

/-- The builder's edges have been appended to, and stored back. -/
theorem St.pushE {w wr w1 : World} {m C : Nat} {E F : List (Int × Int)} (h : St w wr m C E F) {ao ao' : Option Addr} {cp cp' : Nat} {a b : Int}
    (hc : wr.cell? ⟨w.heap.size + 1, 2, none⟩ = some (.slice ao E.length cp)) (hg : wr.grownBy w1 (Value.slice ao E.length cp).ownBlock)
    (ho : w1.ownsRow (w.heap.size + 3) 33 2 (.slice ao' (E.length + 1) cp') (E.length + 1) (flat E ++ [.int .i64 a, .int .i64 b])) :
    St w (w1.setCell ⟨w.heap.size + 1, 2, none⟩ (.slice ao' (E.length + 1) cp')) m C (E ++ [(a, b)]) F := by
  have hs := h.size
  have hs1 := hg.size
  obtain ⟨ao0, cp0, h1, h2⟩ := h.ed
  rw [h1] at hc
  simp at hc
  obtain ⟨rfl, rfl⟩ := hc
  have hlt := h2.lt
  have hblk : ∀ k, k < w.heap.size + 3 → some k ≠ (Value.slice ao0 E.length cp0).ownBlock := fun k hk e => by have := (hlt k e.symm).1; omega
  have hb1 : ∀ k, k < w.heap.size + 3 → w1.heap[k]? = wr.heap[k]? := fun k hk => hg.block k (by omega) (hblk k hk)
  have c1 : ∀ j, w1.cell? ⟨w.heap.size + 1, j, none⟩ = wr.cell? ⟨w.heap.size + 1, j, none⟩ := fun j => World.cell?_of_block (w := wr) (hb1 (w.heap.size + 1) (by omega))
  have f1 : ∀ j, w1.frozen? ⟨w.heap.size + 1, j, none⟩ = wr.frozen? ⟨w.heap.size + 1, j, none⟩ := fun j => World.frozen?_of_block (w := wr) (hb1 (w.heap.size + 1) (by omega))
  have hgr : w1.grownBy (w1.setCell ⟨w.heap.size + 1, 2, none⟩ (.slice ao' (E.length + 1) cp')) (some (w.heap.size + 1)) := ⟨rfl, rfl, rfl, by simp, fun k _ hk => Below.heap_setCell _ _ _ _ (fun e => hk (by rw [e]))⟩
  refine ⟨(h.below.grown hg (by omega) (fun k e => by have := (hlt k e).1; omega)).setCell (by show w.heap.size ≤ w.heap.size + 1; omega) _, by simp; omega, ?_, ?_, ⟨ao', cp', ?_, ?_⟩, ?_, ?_⟩
  · rw [World.cell?_setCell_other _ _ _ _ (by simp), c1]; exact h.names
  · rw [World.cell?_setCell_other _ _ _ _ (by simp), c1]; exact h.idx
  · rw [World.cell?_setCell_same _ _ _ ((c1 2).trans h1)]; simp
  · rw [flat_snoc, List.length_append]
    exact ho.kept hgr (by
      cases ao' with
      | none => exact .inl rfl
      | some x => exact .inr (by have := (ho.lt x.block rfl).1; simp [Value.ownBlock]; omega))
  · simp; rw [f1]; exact h.fr
  · refine (h.want.kept hg (.inr ?_)).kept hgr (.inr (by simp [Value.ownBlock]))
    intro e
    have := (hlt (w.heap.size + 2) e.symm).1
    omega

/-- 'want' has been appended to. -/
theorem St.pushF {w wr w1 : World} {m C : Nat} {E F : List (Int × Int)} (h : St w wr m C E F) {a b : Int}
    (hg : wr.grownBy w1 (some (w.heap.size + 2)))
    (ho : w1.ownsRow (w.heap.size + 2) 33 2 (.slice (some ⟨w.heap.size + 2, 0, none⟩) (F.length + 1) C) (F.length + 1) (flat F ++ [.int .i64 a, .int .i64 b])) :
    St w w1 m C E (F ++ [(a, b)]) := by
  have hs := h.size
  have hs1 := hg.size
  obtain ⟨ao, cp, h1, h2⟩ := h.ed
  have hb1 : w1.heap[w.heap.size + 1]? = wr.heap[w.heap.size + 1]? := hg.block _ (by omega) (by simp)
  have c1 : ∀ j, w1.cell? ⟨w.heap.size + 1, j, none⟩ = wr.cell? ⟨w.heap.size + 1, j, none⟩ := fun j => World.cell?_of_block (w := wr) hb1
  refine ⟨h.below.grown hg (by omega) (fun k e => by cases e; omega), by omega, (c1 0).trans h.names, (c1 1).trans h.idx, ⟨ao, cp, (c1 2).trans h1, h2.kept hg ?_⟩, (World.frozen?_of_block (w := wr) hb1).trans h.fr, ?_⟩
  · cases ao with
    | none => exact .inl rfl
    | some x => exact .inr (fun e => by have := (h2.lt _ e).1; omega)
  · rw [flat_snoc, List.length_append]
    exact ho

/-- What the store behind an append of the builder's edges meets. -/
theorem St.meet {w wr w1 : World} {m C : Nat} {E F : List (Int × Int)} (h : St w wr m C E F) {ao : Option Addr} {cp : Nat}
    (ho : wr.ownsRow (w.heap.size + 3) 33 2 (.slice ao E.length cp) E.length (flat E)) (hg : wr.grownBy w1 (Value.slice ao E.length cp).ownBlock) :
    ∀ j, w1.cell? ⟨w.heap.size + 1, j, none⟩ = wr.cell? ⟨w.heap.size + 1, j, none⟩ ∧ w1.frozen? ⟨w.heap.size + 1, j, none⟩ = wr.frozen? ⟨w.heap.size + 1, j, none⟩ := by
  have hs := h.size
  have hb1 : w1.heap[w.heap.size + 1]? = wr.heap[w.heap.size + 1]? := hg.block _ (by omega) (fun e => by have := (ho.lt _ e.symm).1; omega)
  exact fun j => ⟨World.cell?_of_block (w := wr) hb1, World.frozen?_of_block (w := wr) hb1⟩

set_option linter.unusedVariables false

set_option maxHeartbeats 1000000 in
theorem addEdge_lt (w wr : World) (m C : Nat) (E F : List (Int × Int)) (u v : Int) (h : St w wr m C E F) (hE : E.length ≤ 4096) (hm : m ≤ 300) (hu : 0 ≤ u) (hum : u < m) (hv : 0 ≤ v) (hvm : v < m) (huv : u < v) :
    Calls Ybaf.prog 7 #[.pointer (some ⟨w.heap.size + 1, 0, none⟩), .int .i64 u, .int .i64 v] wr fun e w' => e = .returned (.tuple #[]) ∧ St w w' m C (E ++ [(u, v)]) F := by
  obtain ⟨i0, hi, hz0, hz1, hz2⟩ := info_parts Ybaf.info33
  obtain ⟨ao, cp, h1, h2⟩ := h.ed
  have hn := h.names
  have hf := h.fr
  have hs := h.size
  go_enter Ybaf.func7, Ybaf.ntmps7
  go_wp2_with (at_builtin; go_loud (refine wpList_append_own _ rfl (.tmp 49) (.tmp 53) 27 rfl (w.heap.size + 3) 33 i0 (.agg #[.int .i64 0, .int .i64 0]) 2 16 Ybaf.underlying27 hi hz0 hz1 hz2 rfl (by decide) _ _ _ rfl (h2.alloc _) ⟨wr.heap.size, 0, none⟩ 1 1 [.int .i64 u, .int .i64 v] rfl rfl ?c1 ?c2 ?c3 ?c4 ?c5 ?_))
  case c1 => exact cell_two_new _ _ _ _
  case c2 => intro x hx; simp at hx; rcases hx with rfl | rfl <;> rfl
  case c3 => unfold maxLen; omega
  case c4 => omega
  case c5 => simp; omega
  intro v' w1 hown hgrow _
  obtain ⟨g, cap', hv'⟩ := Joins.ownsRow_form hown (by omega)
  rw [hv'] at hown ⊢
  clear hv'
  have ha := h.alloc (.cells #[.int .i64 u, .int .i64 v] 33)
  have k1 : (wr.alloc (.cells #[.int .i64 u, .int .i64 v] 33)).cell? ⟨w.heap.size + 1, 2, none⟩ = some (.slice ao E.length cp) := by rw [World.cell?_alloc_past _ _ _ (by omega)]; exact h1
  have hmt := ha.meet (h2.alloc _) hgrow 2
  have k2 := hmt.1.trans k1
  have k3 := hmt.2.trans ha.fr
  have R := ha.pushE k1 hgrow hown
  clear hmt ha h h2 hown hgrow h1 hn hf hz0 hz1 hz2 hi
  go_wp2
  go_end0
  exact ⟨rfl, R⟩
set_option maxHeartbeats 1000000 in
theorem addEdge_gt (w wr : World) (m C : Nat) (E F : List (Int × Int)) (u v : Int) (h : St w wr m C E F) (hE : E.length ≤ 4096) (hm : m ≤ 300) (hu : 0 ≤ u) (hum : u < m) (hv : 0 ≤ v) (hvm : v < m) (huv : v < u) :
    Calls Ybaf.prog 7 #[.pointer (some ⟨w.heap.size + 1, 0, none⟩), .int .i64 u, .int .i64 v] wr fun e w' => e = .returned (.tuple #[]) ∧ St w w' m C (E ++ [(v, u)]) F := by
  obtain ⟨i0, hi, hz0, hz1, hz2⟩ := info_parts Ybaf.info33
  obtain ⟨ao, cp, h1, h2⟩ := h.ed
  have hn := h.names
  have hf := h.fr
  have hs := h.size
  go_enter Ybaf.func7, Ybaf.ntmps7
  go_wp2_with (at_builtin; go_loud (refine wpList_append_own _ rfl (.tmp 49) (.tmp 53) 27 rfl (w.heap.size + 3) 33 i0 (.agg #[.int .i64 0, .int .i64 0]) 2 16 Ybaf.underlying27 hi hz0 hz1 hz2 rfl (by decide) _ _ _ rfl (h2.alloc _) ⟨wr.heap.size, 0, none⟩ 1 1 [.int .i64 v, .int .i64 u] rfl rfl ?c1 ?c2 ?c3 ?c4 ?c5 ?_))
  case c1 => exact cell_two_new _ _ _ _
  case c2 => intro x hx; simp at hx; rcases hx with rfl | rfl <;> rfl
  case c3 => unfold maxLen; omega
  case c4 => omega
  case c5 => simp; omega
  intro v' w1 hown hgrow _
  obtain ⟨g, cap', hv'⟩ := Joins.ownsRow_form hown (by omega)
  rw [hv'] at hown ⊢
  clear hv'
  have ha := h.alloc (.cells #[.int .i64 v, .int .i64 u] 33)
  have k1 : (wr.alloc (.cells #[.int .i64 v, .int .i64 u] 33)).cell? ⟨w.heap.size + 1, 2, none⟩ = some (.slice ao E.length cp) := by rw [World.cell?_alloc_past _ _ _ (by omega)]; exact h1
  have hmt := ha.meet (h2.alloc _) hgrow 2
  have k2 := hmt.1.trans k1
  have k3 := hmt.2.trans ha.fr
  have R := ha.pushE k1 hgrow hown
  clear hmt ha h h2 hown hgrow h1 hn hf hz0 hz1 hz2 hi
  go_wp2
  go_end0
  exact ⟨rfl, R⟩

theorem addEdge_eq (w wr : World) (m C : Nat) (E F : List (Int × Int)) (u : Int) (h : St w wr m C E F) (hm : m ≤ 300) (hu : 0 ≤ u) (hum : u < m) :
    Calls Ybaf.prog 7 #[.pointer (some ⟨w.heap.size + 1, 0, none⟩), .int .i64 u, .int .i64 u] wr fun e w' => e = .returned (.tuple #[]) ∧ St w w' m C E F := by
  have hn := h.names
  go_enter Ybaf.func7, Ybaf.ntmps7
  go_wp2
  refine bodyPost_ret (results_none rfl _ _ _) rfl ?_
  exact ⟨rfl, h⟩

set_option maxHeartbeats 1000000 in
/-- zzs1029aeq at two rows that hold the same edges. -/
theorem eq_any (w : World) (E : List (Int × Int)) (hE : E.length ≤ 4096) (ao bo : Option Addr) (ca cb : Nat)
    (ha : ∀ i, i < E.length → ∃ g, ao = some ⟨g, 0, none⟩ ∧ w.cell? ⟨g, i * 2, none⟩ = some (.int .i64 (E.getD i (0, 0)).1) ∧ w.cell? ⟨g, i * 2 + 1, none⟩ = some (.int .i64 (E.getD i (0, 0)).2))
    (hb : ∀ i, i < E.length → ∃ g, bo = some ⟨g, 0, none⟩ ∧ w.cell? ⟨g, i * 2, none⟩ = some (.int .i64 (E.getD i (0, 0)).1) ∧ w.cell? ⟨g, i * 2 + 1, none⟩ = some (.int .i64 (E.getD i (0, 0)).2)) :
    Calls Ybaf.prog 8 #[.slice ao E.length ca, .slice bo E.length cb] w fun e w' => e = .returned (.bool true) ∧ ∃ n, w' = w.drewN n := by
  obtain ⟨len, hlen⟩ : ∃ len, len = E.length := ⟨_, rfl⟩
  rw [← hlen] at ha hb hE ⊢
  have HL : Hid (len = E.length) := hlen
  clear hlen
  go_enter Ybaf.func8, Ybaf.ntmps8
  go_wp2
  go_loopg [13] len (fun g i wr => ∃ k n : Nat, k ≤ len ∧ g = len - k ∧ i = .int .i64 k ∧ wr = w.drewN n)
  case atStart => exact ⟨0, 0, Nat.zero_le _, rfl, rfl, rfl⟩
  case round =>
    obtain ⟨k, n, hk, rfl, rfl, rfl⟩ := hrel
    by_cases hlt : k < len
    · obtain ⟨ga, rfl, a1, a2⟩ := ha k hlt
      obtain ⟨gb, rfl, b1, b2⟩ := hb k hlt
      obtain ⟨x, hx⟩ : ∃ x, x = (E.getD k (0, 0)).1 := ⟨_, rfl⟩
      obtain ⟨y, hy⟩ : ∃ y, y = (E.getD k (0, 0)).2 := ⟨_, rfl⟩
      rw [← hx] at a1 b1
      rw [← hy] at a2 b2
      clear hx hy
      have hI : (k : Int) < (len : Int) := by omega
      go_wp2
      go_quiet (fail)
      go_wp2
      go_roundg (len - (k + 1))
      case measure => omega
      case rel => exact ⟨k + 1, _, by omega, rfl, by go_num, by first | rfl | exact World.drewN_drewN _ _ _⟩
    · go_wp2
      go_ret
      exact ⟨rfl, n, rfl⟩
end Go.Proofs.YbulkuhcFmt
