import Derived.Test.YbulkugaRows
import Derived.WalkKit
import Derived.WalkSpells
import Derived.WalkLawsBesides
import Derived.Deep.LoopGhost
import Derived.Deep.OwnRows
import Derived.Deep.Light
import Derived.Laws.CopyOwn
import Derived.RegionTactic
import Derived.BigRegion
import Derived.Deep.QuietTactic
import Derived.BigQuiet
namespace Go.Proofs.Ybulkuga
open Go.RowKit

theorem Yba.info3 : (Yba.prog.info? 3).map (fun i => (i.zero, i.size, i.bytes)) = some (some (.int .i64 0), 1, 8) := by kernel_rfl
theorem Yba.one3 : (Yba.prog.info? 3).map (·.size) = some 1 := by kernel_rfl

/-- What newRetTree has made: the row of 2n numbers T, and the struct behind it; nothing old has turned. -/
structure Tr (w wr : World) (n : Nat) (T : Nat → Int) : Prop where
  below : Below w.heap.size w wr
  row : wr.rowIs w.heap.size 3 (2 * n) (fun i => .int .i64 (T i))
  c0 : wr.cell? ⟨w.heap.size + 1, 0, none⟩ = some (.int .i64 n)
  c1 : wr.cell? ⟨w.heap.size + 1, 1, none⟩ = some (.slice (some ⟨w.heap.size, 0, none⟩) (2 * n) (2 * n))

theorem Tr.start (w : World) (n : Nat) : Tr w ((w.alloc (.cells (madeCells #[.int .i64 0] (2 * n)) 3)).alloc (.cells #[.int .i64 n, .slice (some ⟨w.heap.size, 0, none⟩) (2 * n) (2 * n)] 26)) n (fun _ => 0) :=
  ⟨((Below.refl _ _).alloc (Nat.le_refl _) _).alloc (by simp) _, (World.rowIs_made w _ (2 * n) 3).alloc _, by simp [go_sem], by simp [go_sem]⟩

theorem Tr.set {w wr : World} {n : Nat} {T : Nat → Int} (h : Tr w wr n T) (i : Nat) (v : Int) :
    Tr w (wr.setCell ⟨w.heap.size, i, none⟩ (.int .i64 v)) n (fun j => if j = i then v else T j) :=
  ⟨h.below.setCell (Nat.le_refl _) _, (h.row.set i _).congr (fun j _ => by split <;> rfl),
    by rw [World.cell?_setCell_other _ _ _ _ (fun e => by have := congrArg Addr.block e; simp at this)]; exact h.c0,
    by rw [World.cell?_setCell_other _ _ _ _ (fun e => by have := congrArg Addr.block e; simp at this)]; exact h.c1⟩

theorem Tr.drew {w wr : World} {n : Nat} {T : Nat → Int} (h : Tr w wr n T) : Tr w wr.drew n T := ⟨h.below.drew, h.row.drew, h.c0, h.c1⟩

theorem Tr.congr {w wr : World} {n : Nat} {T T' : Nat → Int} (h : Tr w wr n T) (e : ∀ i, i < 2 * n → T i = T' i) : Tr w wr n T' :=
  ⟨h.below, h.row.congr (fun i hi => by rw [e i hi]), h.c0, h.c1⟩

/-- The leaves' row behind copy(t.most[n:], rets). -/
def base (n : Nat) (R : List Int) (i : Nat) : Int := if i < n then -1 else R.getD (i - n) (-1)

theorem wpList_copy_tree {P : Program} {w0 w : World} {ops : Array Oper} {rest : List Oper} {o : Oper} {a : Act} {Q : Exit → Act → World → Prop} (hgd : o.guard = none) (d s : Operand) (dT sT : TypeId)
    (ho : o.op = .call { callee := .builtin .copy, args := #[d, s], argTypes := #[dT, sT] }) (hu : P.underlying dT = some (.slice 3)) (hsz : (P.info? 3).map (·.size) = some 1)
    (n dLen dCap len cap : Nat) (R : List Int) (sp : Option Addr) (hd : a.eval d = .slice (some ⟨w0.heap.size, n, none⟩) dLen dCap) (hs : a.eval s = .slice sp len cap)
    (hn : dLen = n) (hln : len ≤ n) (hR : R.length = len) (hT : Tr w0 w n (fun _ => -1))
    (hc : ∀ i, i < len → ∃ x, sp = some x ∧ w.cell? (x.add i) = some (.int .i64 (R.getD i 0)))
    (h : ∀ w', Tr w0 w' n (base n R) → wpList P ops Q rest (a.put o.dst (goInt len)) w') : wpList P ops Q (o :: rest) a w := by
  by_cases h0 : len = 0
  · refine wpList_copy_nothing hgd d s dT sT ho 3 hu hsz _ _ dLen dCap len cap hd hs (by rw [h0]; simp) ?_
    have hR0 : R = [] := List.eq_nil_of_length_eq_zero (by omega)
    have := h w (hT.congr fun i _ => by simp [base, hR0])
    rw [h0] at this
    exact this
  · obtain ⟨x, rfl, _⟩ := hc 0 (by omega)
    have hc' : ∀ i, i < len → w.cell? (x.add i) = some (.int .i64 (R.getD i 0)) := fun i hi => by
      obtain ⟨y, hy, hcy⟩ := hc i hi
      cases hy; exact hcy
    obtain ⟨c, hb, hcs, hci⟩ := hT.row
    refine wpList_copy_own hgd d s dT sT ho 3 hu hsz w0.heap.size n dLen dCap x len cap hd hs c 3 hb (R.map (Value.int .i64)) ?_ ?_ ?_ ?_ ?_
    · rw [hn, List.length_map, hR]; exact (Nat.min_eq_left hln).symm
    · intro j v hj
      rw [List.getElem?_map] at hj
      obtain ⟨z, hz, rfl⟩ := Option.map_eq_some_iff.1 hj
      have hjl : j < R.length := by
        rcases Nat.lt_or_ge j R.length with h | h
        · exact h
        · rw [List.getElem?_eq_none h] at hz; cases hz
      rw [hc' j (by omega), List.getD_eq_getElem?_getD, hz]; rfl
    · simp; omega
    · intro v hv
      simp at hv
      obtain ⟨z, _, rfl⟩ := hv
      rfl
    · have hl : (R.map (Value.int .i64)).length = len := by simpa using hR
      rw [hl]
      refine h _ ⟨below_setRow hT.below (Nat.le_refl _) _, ⟨_, setRow_heap w _ _ _ 3 _ hb, ?_, ?_⟩, ?_, ?_⟩
      · simp; omega
      · intro i hi
        simp only [List.getElem?_toArray, base]
        by_cases hin : i < n
        · rw [if_pos hin, List.getElem?_append_left (by simp; omega), List.getElem?_take_of_lt hin]
          have := hci i hi
          simpa using this
        · rw [if_neg hin, List.getElem?_append_right (by simp; omega)]
          have e1 : i - (c.toList.take n).length = i - n := by simp; omega
          rw [e1]
          by_cases hil : i - n < len
          · rw [List.getElem?_append_left (by simp; omega), List.getElem?_map, List.getElem?_eq_getElem (by omega), List.getD_eq_getElem?_getD, List.getElem?_eq_getElem (by omega)]; rfl
          · have e4 : R.getD (i - n) (-1) = -1 := by rw [List.getD_eq_getElem?_getD, List.getElem?_eq_none (by omega)]; rfl
            rw [e4, List.getElem?_append_right (by simp; omega)]
            have e2 : i - n - (R.map (Value.int .i64)).length = i - n - len := by rw [hl]
            rw [e2, List.getElem?_drop]
            have e3 : n + len + (i - n - len) = i := by omega
            rw [e3]
            have := hci i hi
            simpa using this
      · rw [← hT.c0]; exact World.cell?_of_block (w := w) (setRow_other w _ _ _ (by show w0.heap.size + 1 ≠ w0.heap.size; omega))
      · rw [← hT.c1]; exact World.cell?_of_block (w := w) (setRow_other w _ _ _ (by show w0.heap.size + 1 ≠ w0.heap.size; omega))

/-- The row while the inner nodes are filled from n-1 down to i+1. -/
structure Mid (n i : Nat) (R : List Int) (T : Nat → Int) : Prop where
  zero : T 0 = -1
  mid : ∀ j, i < j → j < n → T j = max (T (2 * j)) (T (2 * j + 1))
  leaf : ∀ j, j < n → T (n + j) = R.getD j (-1)

theorem Mid.start {n : Nat} (R : List Int) (hn : 1 ≤ n) : Mid n (n - 1) R (base n R) :=
  ⟨by simp [base]; omega, fun j h1 h2 => by omega, fun j hj => by unfold base; rw [if_neg (by omega), Nat.add_sub_cancel_left]⟩

theorem Mid.step {n i : Nat} {R : List Int} {T : Nat → Int} (h : Mid n (i + 1) R T) (hi : i + 1 < n) :
    Mid n i R (fun j => if j = i + 1 then max (T (2 * (i + 1))) (T (2 * (i + 1) + 1)) else T j) := by
  refine ⟨by simp [h.zero], fun j h1 h2 => ?_, fun j hj => ?_⟩
  · by_cases e : j = i + 1
    · subst e
      simp only [if_true]
      rw [if_neg (by omega), if_neg (by omega)]
    · rw [if_neg e, if_neg (by omega), if_neg (by omega)]
      exact h.mid j (by omega) h2
  · rw [if_neg (by omega)]
    exact h.leaf j hj

set_option maxHeartbeats 1000000 in
theorem tree_any (a0 : Option Addr) (len cap : Nat) (R : List Int) (w : World) (hlen : len ≤ 1024) (hR : R.length = len)
    (hc : ∀ i, i < len → ∃ x, a0 = some x ∧ w.cell? (x.add i) = some (.int .i64 (R.getD i 0))) :
    Calls Yba.prog 7 #[.slice a0 len cap] w fun e w' => e = .returned (.pointer (some ⟨w.heap.size + 1, 0, none⟩)) ∧
      ∃ n T, len ≤ n ∧ (∃ m, n = 2 ^ m) ∧ (n = 1 ∨ n < 2 * len) ∧ Tr w w' n T ∧ Mid n 0 R T := by
  go_enter Yba.func7, Yba.ntmps7
  go_wp2
  go_loop [3] (fun i => ∃ n : Nat, 1 ≤ n ∧ (n = 1 ∨ n < 2 * len) ∧ (∃ m, n = 2 ^ m) ∧ i = .int .i64 n) (fun i => 2048 - (intOf i).toNat)
  case atStart => exact ⟨1, Nat.le_refl _, .inl rfl, ⟨0, rfl⟩, rfl⟩
  case round =>
    obtain ⟨n, h1, h2, h3, rfl⟩ := hrel
    by_cases hlt : n < len
    · go_wp2
      go_round
      case rel => exact ⟨2 * n, by omega, by omega, by obtain ⟨m, rfl⟩ := h3; exact ⟨m + 1, by rw [Nat.pow_succ]; omega⟩, by go_num⟩
      case measure => simp [intOf]; omega
    · have H3 : Hid (∃ m, n = 2 ^ m) := h3
      clear h3
      have hmk := run_make_row' (P := Yba.prog) 22 3 (.int .i64 0) 8 Yba.underlying22 Yba.info3 rfl .i64 .i64 (2 * n) (by omega) (by omega)
      have ec : ((2 * n : Nat) : Int) = 2 * (n : Int) := by omega
      rw [ec] at hmk
      clear ec
      go_wp2
      clear hmk
      have hn : n ≤ 2048 := by omega
      go_loopg [24] (2 * n) (fun g i wr => ∃ k : Nat, k ≤ 2 * n ∧ g = 2 * n - k ∧ i = .int .i64 k ∧ Tr w wr n (fun j => if j < k then -1 else 0))
      case atStart => exact ⟨0, Nat.zero_le _, rfl, rfl, Tr.start w n⟩
      case round =>
        obtain ⟨k, hk, rfl, rfl, hT⟩ := hrel
        have g1 := hT.c1
        by_cases hkn : k < 2 * n
        · have g2 := hT.row.cell hkn
          have g3 := hT.row.frozen k
          have hI : (k : Int) < 2 * (n : Int) := by omega
          go_wp2
          go_roundg (2 * n - (k + 1))
          case measure => omega
          case rel => exact ⟨k + 1, by omega, rfl, by go_num, (hT.set k (-1)).congr fun j hj => by split <;> split <;> first | rfl | omega⟩
        · have hT' : Tr w wr n (fun _ => -1) := hT.congr fun j hj => by rw [if_pos (by omega)]
          clear hT
          have hcw : ∀ i, i < len → ∃ x, a0 = some x ∧ wr.cell? (x.add i) = some (.int .i64 (R.getD i 0)) := fun i hi => by
            obtain ⟨x, hx, hcx⟩ := hc i hi
            exact ⟨x, hx, by rw [hT'.below.cell (World.block_lt_of_cell? _ _ hcx)]; exact hcx⟩
          go_wp2_with (refine wpList_copy_tree rfl (.tmp 39) (.tmp 40) 22 22 rfl Yba.underlying22 Yba.one3 n (2 * n - n) (2 * n - n) len cap R _ rfl rfl (by omega) (by omega) hR hT' hcw ?_)
          intro w2 hT2
          clear hT' hcw hc g1
          go_wp2
          go_loopg [6] (n - 1) (fun g i wr => ∃ (k : Nat) (T : Nat → Int), k < n ∧ k = g ∧ i = .int .i64 k ∧ Tr w wr n T ∧ Mid n k R T)
          case atStart => exact ⟨n - 1, base n R, by omega, rfl, by go_num, hT2, Mid.start R h1⟩
          case round =>
            obtain ⟨k, T, hk, rfl, rfl, hT, hM⟩ := hrel
            have g1 := hT.c1
            by_cases hk0 : 0 < k
            · obtain ⟨x, hx⟩ : ∃ x, x = T (2 * k) := ⟨_, rfl⟩
              obtain ⟨y, hy⟩ : ∃ y, y = T (2 * k + 1) := ⟨_, rfl⟩
              obtain ⟨z, hz⟩ : ∃ z, z = T k := ⟨_, rfl⟩
              have g2 : wr.cell? ⟨w.heap.size, 2 * k, none⟩ = some (.int .i64 x) := by rw [hx]; exact hT.row.cell (i := 2 * k) (by omega)
              have g3 : wr.cell? ⟨w.heap.size, 2 * k + 1, none⟩ = some (.int .i64 y) := by rw [hy]; exact hT.row.cell (i := 2 * k + 1) (by omega)
              have g4 : wr.cell? ⟨w.heap.size, k, none⟩ = some (.int .i64 z) := by rw [hz]; exact hT.row.cell (i := k) (by omega)
              have g5 := hT.row.frozen k
              have HX : Hid (x = T (2 * k)) := hx
              have HY : Hid (y = T (2 * k + 1)) := hy
              clear hx hy hz
              have e1 : (2 * (k : Int)) < 2 * (n : Int) := by omega
              have e2 : (2 * (k : Int) + 1) < 2 * (n : Int) := by omega
              have e3 : (k : Int) < 2 * (n : Int) := by omega
              obtain ⟨q, rfl⟩ : ∃ q, k = q + 1 := ⟨k - 1, by omega⟩
              by_cases hxy : x < y
              · have hM2 : Mid n q R (fun j => if j = q + 1 then y else T j) := by
                  have := hM.step (by omega)
                  rw [← HX.out, ← HY.out, Int.max_eq_right (by omega)] at this
                  exact this
                clear hM HX HY
                go_wp2
                go_region
                go_wp2
                go_roundg q
                case measure => omega
                case rel => exact ⟨q, _, by omega, rfl, by go_num, (hT.set (q + 1) y).drew, hM2⟩
              · have hM2 : Mid n q R (fun j => if j = q + 1 then x else T j) := by
                  have := hM.step (by omega)
                  rw [← HX.out, ← HY.out, Int.max_eq_left (by omega)] at this
                  exact this
                clear hM HX HY
                go_wp2
                go_region
                go_wp2
                go_roundg q
                case measure => omega
                case rel => exact ⟨q, _, by omega, rfl, by go_num, (hT.set (q + 1) x).drew, hM2⟩
            · obtain rfl : k = 0 := by omega
              go_wp2
              go_ret
              exact ⟨rfl, n, T, by omega, H3.out, h2, hT, hM⟩
end Go.Proofs.Ybulkuga
