/-
  The walk of LawS1029AEdges.
-/
import Derived.Test.YbulkuhcFmtEdges
import Derived.Deep.DeepCutAuto
import Derived.WideShapes
namespace Go.Proofs.YbulkuhcFmt
open Go.RowKit
set_option linter.unusedVariables false

theorem mk_want (C : Nat) (hC : C ≤ 4096) (w : World) : (Instr.makeSlice 27 (.int .i64 0) (.int .i64 (C : Int))).run Ybaf.prog w =
    .ok (.slice (some ⟨w.heap.size, 0, none⟩) 0 C) (w.alloc (.cells (madeCells #[.int .i64 0, .int .i64 0] (C * 2)) 33)) := by
  obtain ⟨i0, hi, hz0, hz1, hz2⟩ := info_parts Ybaf.info33
  have h := run_make (P := Ybaf.prog) w 27 33 i0 _ Ybaf.underlying27 hi hz0 .i64 .i64 0 (C : Int) (Int.le_refl _) (by omega) (by rw [hz2]; omega) (by omega)
  simp only [Int.toNat_zero, Int.toNat_natCast, hz1] at h
  exact h

theorem st_start (w : World) (m C : Nat) (hC : C ≤ 4096) (o : Obj) : St w (((w.alloc o).alloc (.cells #[.slice (some ⟨w.heap.size, 0, none⟩) m m, .map none, .slice none 0 0] 29)).alloc (.cells (madeCells #[.int .i64 0, .int .i64 0] (C * 2)) 33)) m C [] [] := by
  refine ⟨(((Below.refl _ _).alloc (Nat.le_refl _) _).alloc (by simp) _).alloc (by simp; omega) _, by simp, by simp [go_sem], by simp [go_sem], ⟨none, 0, by simp [go_sem], World.ownsRow_nil _ _ _ _⟩, by simp [go_sem], ?_⟩
  have := World.ownsRow_made (base := w.heap.size + 2) (e := 33) (size := 2) ((w.alloc o).alloc (.cells #[.slice (some ⟨w.heap.size, 0, none⟩) m m, .map none, .slice none 0 0] 29)) (madeCells #[.int .i64 0, .int .i64 0] (C * 2)) C (by simp) (by unfold maxLen; omega) (size_madeCells _ _)
  have hsz : ((w.alloc o).alloc (.cells #[.slice (some ⟨w.heap.size, 0, none⟩) m m, .map none, .slice none 0 0] 29)).heap.size = w.heap.size + 2 := by simp
  rw [hsz] at this
  exact this

/-- The append of the builder's edges as one step of the region that draws its order. -/
theorem step_pushE {ops : Array Oper} {o : Oper} {a : Act} {w wx : World} {K : Act → World → Prop} {Q : Exit → Act → World → Prop} {Ep : Prop} {m C : Nat} {E F : List (Int × Int)}
    (hgd : o.guard = none) (s x : Operand) (hop : o.op = Op.call { callee := Callee.builtin Builtin.append, args := #[s, x], argTypes := #[27, 27] })
    (hS : St w wx m C E F) (hE : E.length ≤ 4096) (ao : Option Addr) (cp : Nat) (h1 : wx.cell? ⟨w.heap.size + 1, 2, none⟩ = some (.slice ao E.length cp))
    (hs : a.eval s = .slice ao E.length cp) (ad : Addr) (hx : a.eval x = .slice (some ad) 1 1) (p q : Int) (hc : ∀ j u, [Value.int .i64 p, .int .i64 q][j]? = some u → wx.cell? (ad.add j) = some u)
    (hK : ∀ g cap' w3, w3.cell? ⟨w.heap.size + 1, 2, none⟩ = some (.slice ao E.length cp) → w3.frozen? ⟨w.heap.size + 1, 2, none⟩ = false → wx.grownBy w3 (Value.slice ao E.length cp).ownBlock →
      St w (w3.setCell ⟨w.heap.size + 1, 2, none⟩ (.slice (some ⟨g, 0, none⟩) (E.length + 1) cap')) m C (E ++ [(p, q)]) F → K (a.put o.dst (.slice (some ⟨g, 0, none⟩) (E.length + 1) cap')) w3) :
    if Region.wanted o (yielded ops a.tmps) = true then Oper.wp Ybaf.prog o a wx K Q else Ep := by
  have hw : Region.wanted o (yielded ops a.tmps) = true := by simp [Region.wanted, hgd]
  rw [if_pos hw]
  obtain ⟨i0, hi, hz0, hz1, hz2⟩ := info_parts Ybaf.info33
  obtain ⟨ao', cp', h1', h2⟩ := hS.ed
  have hsz := hS.size
  have heq : ao' = ao ∧ cp' = cp := by
    rw [h1'] at h1
    simp at h1
    exact h1
  obtain ⟨rfl, rfl⟩ := heq
  obtain ⟨v', w3, hrun, r1, r2, _⟩ := run_append_own (P := Ybaf.prog) wx (w.heap.size + 3) 27 o.type 33 i0 _ 2 16 Ybaf.underlying27 hi hz0 hz1 hz2 rfl (by decide) (.slice ao' E.length cp') E.length (flat E) h2 ad 1 1 [.int .i64 p, .int .i64 q] rfl hc
    (by intro x hx; simp at hx; rcases hx with rfl | rfl <;> rfl) (by unfold maxLen; omega) (by omega) hsz
  obtain ⟨g, cap', hv'⟩ := Joins.ownsRow_form r1 (by omega)
  subst hv'
  have hmt := hS.meet h2 r2 2
  unfold Oper.wp
  simp [execOp, hop, resolve, invoke, builtin, hs, hx, hrun, Result.andThen]
  exact hK g cap' w3 (hmt.1.trans h1') (hmt.2.trans hS.fr) r2 (hS.pushE h1' r2 r1)

def preL (PU PV : Nat → Int) : Nat → List (Int × Int)
  | 0 => []
  | k + 1 => preL PU PV k ++ [(PU k, PV k)]
theorem preL_length (PU PV : Nat → Int) : ∀ k, (preL PU PV k).length = k
  | 0 => rfl
  | k + 1 => by simp [preL, preL_length PU PV k]

/-- What one AddEdge adds. -/
def one (u v : Int) : List (Int × Int) := if u = v then [] else if u < v then [(u, v)] else [(v, u)]

def allL (L : List (Int × Int)) (m : Int) (QU QV : Nat → Int) : Nat → List (Int × Int)
  | 0 => L
  | k + 1 => allL L m QU QV k ++ one (QU k % m) (QV k % m)
theorem one_length (u v : Int) : (one u v).length ≤ 1 := by unfold one; split; · simp
                                                            split <;> simp
theorem allL_length (L : List (Int × Int)) (m : Int) (QU QV : Nat → Int) : ∀ k, (allL L m QU QV k).length ≤ L.length + k
  | 0 => by simp [allL]
  | k + 1 => by have := allL_length L m QU QV k; have := one_length (QU k % m) (QV k % m); simp [allL]; omega

theorem St.pushF' {w wr w1 : World} {m C n : Nat} {E F : List (Int × Int)} (h : St w wr m C E F) {a b : Int} (hn : F.length = n)
    (hg : wr.grownBy w1 (some (w.heap.size + 2)))
    (ho : w1.ownsRow (w.heap.size + 2) 33 2 (.slice (some ⟨w.heap.size + 2, 0, none⟩) (n + 1) C) (n + 1) (flat F ++ [.int .i64 a, .int .i64 b])) :
    St w w1 m C E (F ++ [(a, b)]) := by
  subst hn
  exact h.pushF hg ho

/-- The rows of the builder and of 'want' as zzs1029aeq reads them. -/
theorem owned_cells {w : World} {base n : Nat} {ao : Option Addr} {cp : Nat} {E : List (Int × Int)} (h : w.ownsRow base 33 2 (.slice ao n cp) n (flat E)) (hn : E.length = n) :
    ∀ i, i < E.length → ∃ g, ao = some ⟨g, 0, none⟩ ∧ w.cell? ⟨g, i * 2, none⟩ = some (.int .i64 (E.getD i (0, 0)).1) ∧ w.cell? ⟨g, i * 2 + 1, none⟩ = some (.int .i64 (E.getD i (0, 0)).2) := by
  intro i hi
  obtain ⟨g, cap, hv⟩ := Joins.ownsRow_form h (by omega)
  cases hv
  have hc := h.cells (g := g) rfl
  have e : E.getD i (0, 0) = E[i] := by rw [List.getD_eq_getElem?_getD, List.getElem?_eq_getElem hi]; rfl
  refine ⟨g, rfl, ?_, ?_⟩
  · have := hc (2 * i) _ (flat_get0 E i hi)
    rw [WideShapes.add_plain, Nat.zero_add] at this
    rw [e, Nat.mul_comm i 2]; exact this
  · have := hc (2 * i + 1) _ (flat_get1 E i hi)
    rw [WideShapes.add_plain, Nat.zero_add] at this
    rw [e, Nat.mul_comm i 2]; exact this

/-- What is known of a slice of pairs that came in. -/
def IsPairs (w : World) (a : Option Addr) (len : Nat) (U V : Nat → Int) : Prop :=
  ∀ i, i < len → ∃ b off, a = some ⟨b, off, none⟩ ∧ w.cell? ⟨b, off + i * 2, none⟩ = some (.int .u16 (U i)) ∧ w.cell? ⟨b, off + i * 2 + 1, none⟩ = some (.int .u16 (V i)) ∧ 0 ≤ U i ∧ U i ≤ 65535 ∧ 0 ≤ V i ∧ V i ≤ 65535

set_option maxHeartbeats 1000000 in
theorem edges_any (nn : Nat) (hnn : nn ≤ 65535) (pa qa : Option Addr) (lp cp lq cq : Nat) (PU PV QU QV : Nat → Int) (w : World) (hp : IsPairs w pa lp PU PV) (hq : IsPairs w qa lq QU QV) (hlp : lp ≤ 1024) (hlq : lq ≤ 1024) :
    Calls Ybaf.prog 3 #[.int .u16 (nn : Int), .slice pa lp cp, .slice qa lq cq] w fun e w' => e = .returned (.bool true) ∧ Below w.heap.size w w' := by
  obtain ⟨m, hm⟩ : ∃ m : Nat, (nn : Int) % 300 + 1 = (m : Int) := ⟨nn % 300 + 1, by omega⟩
  obtain ⟨C, hC⟩ : ∃ C : Nat, (lp : Int) + (lq : Int) = (C : Int) := ⟨lp + lq, by omega⟩
  have hm1 : 1 ≤ m := by omega
  have hm3 : m ≤ 300 := by omega
  have hC4 : C ≤ 4096 := by omega
  have hCC : lp + lq = C := by omega
  have HCC : Hid (lp + lq = C) := hCC
  clear hCC
  have hmk := run_make_row' (P := Ybaf.prog) 25 9 (.string ByteArray.empty) 16 Ybaf.underlying25 Ybaf.info9 rfl .i64 .i64 m (by omega) (by omega)
  have hmk2 := mk_want C hC4
  obtain ⟨i0, hi, hz0, hz1, hz2⟩ := info_parts Ybaf.info33
  go_enter Ybaf.func3, Ybaf.ntmps3
  go_wp2
  clear hmk hmk2
  clear hm hC
  go_loopg [9, 40] lp (fun g u i wr => ∃ k : Nat, k ≤ lp ∧ g = lp - k ∧ i = .int .i64 k ∧ u = .slice (some ⟨w.heap.size + 2, 0, none⟩) k C ∧ St w wr m C (preL PU PV k) (preL PU PV k))
  case atStart => exact ⟨0, Nat.zero_le _, rfl, rfl, rfl, st_start w m C hC4 _⟩
  case round =>
    obtain ⟨k, hk, rfl, rfl, rfl, hS⟩ := hrel
    by_cases hlt : k < lp
    · obtain ⟨b, off, rfl, c0, c1, u0, u1, v0, v1⟩ := hp k hlt
      have hbw := World.block_lt_of_cell? _ _ c0
      have hs := hS.size
      rw [← hS.below.cell (p := ⟨b, off + k * 2, none⟩) hbw] at c0
      rw [← hS.below.cell (p := ⟨b, off + k * 2 + 1, none⟩) hbw] at c1
      have hI : (k : Int) < (lp : Int) := by omega
      go_wp2
      obtain ⟨ao, cpE, e1, e2⟩ := hS.ed
      have hpb : some wr.heap.size ≠ (Value.slice ao (preL PU PV k).length cpE).ownBlock := fun e => by have := (e2.lt _ e.symm).2; omega
      have hS2 := hS.alloc (.cells #[.int .u16 (PU k), .int .u16 (PV k)] 31)
      have e3 : (wr.alloc (.cells #[.int .u16 (PU k), .int .u16 (PV k)] 31)).cell? ⟨w.heap.size + 1, 2, none⟩ = some (.slice ao (preL PU PV k).length cpE) := by rw [World.cell?_alloc_past _ _ _ (by omega)]; exact e1
      have p0 : (wr.alloc (.cells #[.int .u16 (PU k), .int .u16 (PV k)] 31)).cell? ⟨wr.heap.size, 0, none⟩ = some (.int .u16 (PU k)) := by simp [go_sem]
      have p1 : (wr.alloc (.cells #[.int .u16 (PU k), .int .u16 (PV k)] 31)).cell? ⟨wr.heap.size, 1, none⟩ = some (.int .u16 (PV k)) := by simp [go_sem]
      have hz : (wr.alloc (.cells #[.int .u16 (PU k), .int .u16 (PV k)] 31)).heap.size = wr.heap.size + 1 := by simp
      obtain ⟨w2, hw2⟩ : ∃ w2, w2 = wr.alloc (.cells #[.int .u16 (PU k), .int .u16 (PV k)] 31) := ⟨_, rfl⟩
      obtain ⟨pb, hpb'⟩ : ∃ pb, pb = wr.heap.size := ⟨_, rfl⟩
      rw [← hw2] at hS2 e3 p0 p1 hz ⊢
      rw [← hpb'] at p0 p1 hz hpb hs ⊢
      have hw2s : w.heap.size + 1 < w2.heap.size := by omega
      have hpb2 : pb < w2.heap.size := by omega
      clear hw2 hpb' c0 c1 hS e1 e2
      have HP : Hid (some pb ≠ (Value.slice ao (preL PU PV k).length cpE).ownBlock) := hpb
      clear hz hpb
      have hwu : IntKind.i64.wrap (PU k) = PU k := by rw [IntKind.wrap_i64]; omega
      have hwv : IntKind.i64.wrap (PV k) = PV k := by rw [IntKind.wrap_i64]; omega
      have hE4 : (preL PU PV k).length ≤ 4096 := by rw [preL_length]; omega
      have e4 : ∀ o, (w2.alloc o).drew.cell? ⟨w.heap.size + 1, 2, none⟩ = some (.slice ao (preL PU PV k).length cpE) := fun o => by
        show (w2.alloc o).cell? _ = _
        rw [World.cell?_alloc_past _ _ _ hw2s]; exact e3
      go_cut [] (fun w4 => St w w4 m C (preL PU PV (k + 1)) (preL PU PV k) ∧ w4.cell? ⟨pb, 0, none⟩ = some (.int .u16 (PU k)) ∧ w4.cell? ⟨pb, 1, none⟩ = some (.int .u16 (PV k)))
      case first =>
        go_region_law (refine step_pushE rfl (.tmp 48) (.tmp 56) rfl (hS2.alloc _).drew hE4 ao cpE (e4 _) rfl ⟨w2.heap.size, 0, none⟩ rfl (PU k) (PV k) (cell_two_new w2 (.int .i64 (PU k)) (.int .i64 (PV k)) 33) ?_; intro g cap' w3 k2 k3 hg R)
        all_goals
          go_wp2
          go_meet
          case rel => exact ⟨R, (World.cell?_setCell_other _ _ _ _ (fun e => by have := congrArg Addr.block e; simp at this; omega)).trans (hg.cell (a := ⟨pb, 0, none⟩) ((World.cell?_alloc_past _ _ _ hpb2).trans p0) HP.out), (World.cell?_setCell_other _ _ _ _ (fun e => by have := congrArg Addr.block e; simp at this; omega)).trans (hg.cell (a := ⟨pb, 1, none⟩) ((World.cell?_alloc_past _ _ _ hpb2).trans p1) HP.out)⟩
      case rest =>
        clear hS2 e3 e4 p0 p1 HP hpb2 hw2s
        obtain ⟨hS3, p0, p1⟩ := hcut
        have hs3 := hS3.size
        have hpb3 : pb < wc.heap.size := World.block_lt_of_cell? _ _ p0
        have hwant := hS3.want
        have hkC : k + 1 ≤ C := by have := HCC.out; omega
        have hlk : (preL PU PV k).length = k := preL_length PU PV k
        rw [hlk] at hwant
        go_wp2_with (at_builtin; (refine wpList_append_fits _ rfl (.tmp 60) (.tmp 68) 27 rfl (w.heap.size + 2) 33 i0 2 Ybaf.underlying27 hi hz1 (w.heap.size + 2) k C (flat (preL PU PV k)) rfl (hwant.alloc _) ⟨wc.heap.size, 0, none⟩ 1 1 [.int .i64 (PU k), .int .i64 (PV k)] rfl rfl (cell_two_new wc (.int .i64 (PU k)) (.int .i64 (PV k)) 33) (by intro x hx; simp at hx; rcases hx with rfl | rfl <;> rfl) hkC ?_))
        intro w5 how hgw
        have hS5 := (hS3.alloc _).pushF' hlk hgw how
        clear how hgw hwant hS3 p0 p1 hlk
        go_wp2
        go_roundg (lp - (k + 1))
        case measure => omega
        case rel => exact ⟨k + 1, by omega, rfl, by go_num, rfl, hS5⟩
    · obtain rfl : k = lp := by omega
      go_wp2
      clear hp hlt hk
      obtain ⟨L, hL⟩ : ∃ L, L = preL PU PV k := ⟨_, rfl⟩
      rw [← hL] at hS
      have hLl : L.length = k := by rw [hL]; exact preL_length PU PV k
      have HLl : Hid (L.length = k) := hLl
      clear hL hLl
      go_loopg [9, 73] lq (fun g u i wr => ∃ j : Nat, j ≤ lq ∧ g = lq - j ∧ i = .int .i64 j ∧ u = .slice (some ⟨w.heap.size + 2, 0, none⟩) (allL L m QU QV j).length C ∧ St w wr m C (allL L m QU QV j) (allL L m QU QV j))
      case atStart => exact ⟨0, Nat.zero_le _, rfl, rfl, by simp only [allL]; rw [HLl.out], hS⟩
      case round =>
        clear hS
        obtain ⟨j, hj, rfl, rfl, rfl, hS⟩ := hrel
        have hLj := allL_length L m QU QV j
        rw [HLl.out] at hLj
        have hLC : (allL L m QU QV j).length + (lq - j) ≤ C := by have := HCC.out; omega
        have hnext : allL L m QU QV (j + 1) = allL L m QU QV j ++ one (QU j % m) (QV j % m) := rfl
        obtain ⟨G, hG⟩ : ∃ G, G = allL L m QU QV j := ⟨_, rfl⟩
        rw [← hG] at hS hLj hLC hnext ⊢
        clear hG
        by_cases hlt : j < lq
        · obtain ⟨b, off, rfl, c0, c1, u0, u1, v0, v1⟩ := hq j hlt
          have hbw := World.block_lt_of_cell? _ _ c0
          have hs := hS.size
          rw [← hS.below.cell (p := ⟨b, off + j * 2, none⟩) hbw] at c0
          rw [← hS.below.cell (p := ⟨b, off + j * 2 + 1, none⟩) hbw] at c1
          have hI : (j : Int) < (lq : Int) := by omega
          have um0 := Int.emod_nonneg (QU j) (b := (m : Int)) (by omega)
          have um1 := Int.emod_lt_of_pos (QU j) (b := (m : Int)) (by omega)
          have vm0 := Int.emod_nonneg (QV j) (b := (m : Int)) (by omega)
          have vm1 := Int.emod_lt_of_pos (QV j) (b := (m : Int)) (by omega)
          obtain ⟨u, hu⟩ : ∃ u, QU j % (m : Int) = u := ⟨_, rfl⟩
          obtain ⟨v, hv⟩ : ∃ v, QV j % (m : Int) = v := ⟨_, rfl⟩
          rw [hu, hv] at hnext
          rw [hu] at um0 um1
          rw [hv] at vm0 vm1
          have hGC : G.length + 1 ≤ C := by omega
          rcases Int.lt_trichotomy u v with huv | huv | huv
          · have HN : Hid (allL L m QU QV (j + 1) = G ++ [(u, v)]) := by
              show _ = _
              rw [hnext, one, if_neg (by omega), if_pos huv]
            clear hnext
            go_wp2_with fail
            refine (addEdge_lt w _ m C G G u v (hS.alloc _) (by omega) hm3 um0 um1 vm0 vm1 huv).mono ?_
            rintro e w6 ⟨rfl, hS6⟩
            have hwant := hS6.want
            have hs6 := hS6.size
            clear hS c0 c1 hq
            go_wp2_with (at_builtin; (refine wpList_append_fits _ rfl (.tmp 97) (.tmp 101) 27 rfl (w.heap.size + 2) 33 i0 2 Ybaf.underlying27 hi hz1 (w.heap.size + 2) G.length C (flat G) rfl (hwant.alloc _) ⟨w6.heap.size, 0, none⟩ 1 1 [.int .i64 u, .int .i64 v] rfl rfl (cell_two_new w6 (.int .i64 u) (.int .i64 v) 33) (by intro x hx; simp at hx; rcases hx with rfl | rfl <;> rfl) hGC ?_))
            intro w7 how hgw
            have hS7 := (hS6.alloc _).pushF hgw how
            clear how hgw hwant hS6
            go_wp2
            go_roundg (lq - (j + 1))
            case measure => omega
            case rel => exact ⟨j + 1, by omega, rfl, by go_num, by rw [HN.out]; simp, by rw [HN.out]; exact hS7⟩
          · have HN : Hid (allL L m QU QV (j + 1) = G) := by
              show _ = _
              rw [hnext, one, if_pos huv, List.append_nil]
            clear hnext
            subst huv
            go_wp2_with fail
            refine (addEdge_eq w _ m C G G u (hS.alloc _) hm3 um0 um1).mono ?_
            rintro e w6 ⟨rfl, hS6⟩
            clear hS c0 c1 hq
            go_wp2
            go_roundg (lq - (j + 1))
            case measure => omega
            case rel => exact ⟨j + 1, by omega, rfl, by go_num, by rw [HN.out], by rw [HN.out]; exact hS6⟩
          · have HN : Hid (allL L m QU QV (j + 1) = G ++ [(v, u)]) := by
              show _ = _
              rw [hnext, one, if_neg (by omega), if_neg (by omega)]
            clear hnext
            go_wp2_with fail
            refine (addEdge_gt w _ m C G G u v (hS.alloc _) (by omega) hm3 um0 um1 vm0 vm1 huv).mono ?_
            rintro e w6 ⟨rfl, hS6⟩
            have hwant := hS6.want
            have hs6 := hS6.size
            clear hS c0 c1 hq
            go_wp2_with (at_builtin; (refine wpList_append_fits _ rfl (.tmp 103) (.tmp 107) 27 rfl (w.heap.size + 2) 33 i0 2 Ybaf.underlying27 hi hz1 (w.heap.size + 2) G.length C (flat G) rfl (hwant.alloc _) ⟨w6.heap.size, 0, none⟩ 1 1 [.int .i64 v, .int .i64 u] rfl rfl (cell_two_new w6 (.int .i64 v) (.int .i64 u) 33) (by intro x hx; simp at hx; rcases hx with rfl | rfl <;> rfl) hGC ?_))
            intro w7 how hgw
            have hS7 := (hS6.alloc _).pushF hgw how
            clear how hgw hwant hS6
            go_wp2
            go_roundg (lq - (j + 1))
            case measure => omega
            case rel => exact ⟨j + 1, by omega, rfl, by go_num, by rw [HN.out]; simp, by rw [HN.out]; exact hS7⟩
        · have n1 := hS.names
          have n2 := hS.idx
          obtain ⟨ao, cpE, e1, e2⟩ := hS.ed
          have hnil := fun wx => run_neq_map_nil (P := Ybaf.prog) wx 26 _ _ none Ybaf.underlying26
          have EQ := eq_any wr G (by omega) ao (some ⟨w.heap.size + 2, 0, none⟩) cpE C (owned_cells e2 rfl) (owned_cells hS.want rfl)
          have HE : Hid (Calls Ybaf.prog 8 #[.slice ao G.length cpE, .slice (some ⟨w.heap.size + 2, 0, none⟩) G.length C] wr fun e w' => e = .returned (.bool true) ∧ ∃ n, w' = wr.drewN n) := EQ
          have hb := hS.below
          clear EQ e2 hS hnext hq
          go_wp2_with fail
          refine HE.out.mono ?_
          rintro e w8 ⟨rfl, nd, rfl⟩
          go_wp2
          go_ret
          exact ⟨rfl, below_drewN hb nd⟩
end Go.Proofs.YbulkuhcFmt
