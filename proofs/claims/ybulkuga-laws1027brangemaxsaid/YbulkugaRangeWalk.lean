import Derived.Test.YbulkugaTree
import Derived.Test.YbulkugaPlain
import Derived.WideShapes
namespace Go.Proofs.Ybulkuga
open Go.RowKit

theorem leaf_any (a0 : Option Addr) (len cap : Nat) (R : List Int) (j : Nat) (w : World) (hlen : len ≤ 1024) (hj : j ≤ 4096) (hR : R.length = len)
    (hc : ∀ i, i < len → ∃ x, a0 = some x ∧ w.cell? (x.add i) = some (.int .i64 (R.getD i 0))) :
    Calls Yba.prog 8 #[.slice a0 len cap, .int .i64 (j : Int)] w fun e w' => e = .returned (.int .i64 (R.getD j (-1))) ∧ w = w' := by
  by_cases hlt : j < len
  · obtain ⟨x, rfl, hcx⟩ := hc j hlt
    obtain ⟨y, hy, hc0⟩ := hc 0 (by omega)
    cases hy
    obtain ⟨b, off, spot⟩ := x
    have hspot : spot = none := by simpa [Addr.add] using World.cell?_spot hc0
    subst hspot
    have e : R.getD j (-1) = R.getD j 0 := by rw [List.getD_eq_getElem?_getD, List.getD_eq_getElem?_getD, List.getElem?_eq_getElem (by omega)]; rfl
    rw [e]
    obtain ⟨z, hz⟩ : ∃ z, z = R.getD j 0 := ⟨_, rfl⟩
    rw [← hz] at hcx ⊢
    have hcell : w.cell? ⟨b, off + j, none⟩ = some (.int .i64 z) := by rw [← WideShapes.add_plain]; exact hcx
    clear hz e hc hc0 hcx hR
    go_enter Yba.func8, Yba.ntmps8
    go_wp2
    go_ret
    exact ⟨rfl, rfl⟩
  · have e : R.getD j (-1) = -1 := by rw [List.getD_eq_getElem?_getD, List.getElem?_eq_none (by omega)]; rfl
    rw [e]
    clear e hc hR
    go_enter Yba.func8, Yba.ntmps8
    go_wp2
    go_ret
    exact ⟨rfl, rfl⟩

theorem and_pow (n : Nat) (h : ∃ m, n = 2 ^ m) (hn : n ≤ 2048) : bits .and .i64 (n : Int) ((n : Int) - 1) = 0 := by
  obtain ⟨m, rfl⟩ := h
  have hm : m < 12 := by
    rcases Nat.lt_or_ge m 12 with h | h
    · exact h
    · have := Nat.pow_le_pow_right (n := 2) (by omega) h; omega
  have : ∀ k : Fin 12, bits .and .i64 ((2 ^ k.val : Nat) : Int) (((2 ^ k.val : Nat) : Int) - 1) = 0 := by decide +kernel
  exact this ⟨m, hm⟩

set_option maxHeartbeats 1000000 in
theorem range_any (a0 : Option Addr) (len cap : Nat) (R : List Int) (w : World) (hlen : len ≤ 1024) (hR : R.length = len)
    (hc : ∀ i, i < len → ∃ x, a0 = some x ∧ w.cell? (x.add i) = some (.int .i64 (R.getD i 0))) :
    Calls Yba.prog 4 #[.slice a0 len cap] w fun e w' => e = .returned (.bool true) ∧ Below w.heap.size w w' := by
  have TA := tree_any a0 len cap R w hlen hR hc
  go_enter Yba.func4, Yba.ntmps4
  go_wp2_with (go_at_call 7; refine TA.mono ?_)
  rintro e w1 ⟨rfl, n, T, h1, h2, h3, hT, hM⟩
  clear TA
  have hn : 1 ≤ n := by obtain ⟨m, rfl⟩ := h2; exact Nat.one_le_two_pow
  have hand := and_pow n h2 (by omega)
  have g0 := hT.c0
  have g1 := hT.c1
  have hb := hT.below
  have hc1 : ∀ i, i < len → ∃ x, a0 = some x ∧ w1.cell? (x.add i) = some (.int .i64 (R.getD i 0)) := fun i hi => by
    obtain ⟨x, hx, hcx⟩ := hc i hi
    exact ⟨x, hx, by rw [hb.cell (World.block_lt_of_cell? _ _ hcx)]; exact hcx⟩
  have LF : ∀ j : Nat, j ≤ 4096 → Calls Yba.prog 8 #[.slice a0 len cap, .int .i64 (j : Int)] w1 fun e w' => e = .returned (.int .i64 (R.getD j (-1))) ∧ w1 = w' := fun j hj => leaf_any a0 len cap R j w1 hlen hj hR hc1
  have HL : Hid (∀ j : Nat, j ≤ 4096 → Calls Yba.prog 8 #[.slice a0 len cap, .int .i64 (j : Int)] w1 fun e w' => e = .returned (.int .i64 (R.getD j (-1))) ∧ w1 = w') := LF
  have H2 : Hid (∃ m, n = 2 ^ m) := h2
  have hn2 : n ≤ 2048 := by omega
  clear LF hc hc1 hR h2 h3
  go_wp2
  go_loop [5] (fun t => ∃ i : Nat, 1 ≤ i ∧ i ≤ 2 * n ∧ t = .int .i64 i) (fun t => 2 * n - (intOf t).toNat)
  case atStart => exact ⟨1, Nat.le_refl _, by omega, rfl⟩
  case round =>
    obtain ⟨i, hi1, hi2, rfl⟩ := hrel
    by_cases hlt : i < 2 * n
    · go_wp2
      go_loop [6, 7] (fun u v => ∃ t : Nat, 1 ≤ i / 2 ^ t ∧ u = .int .i64 ((n / 2 ^ t : Nat) : Int) ∧ v = .int .i64 ((i / 2 ^ t : Nat) : Int)) (fun _ v => (intOf v).toNat)
      case atStart => exact ⟨0, by simpa using hi1, by simp, by simp⟩
      case round =>
        obtain ⟨t, ht, rfl, rfl⟩ := hrel
        have hk : i / 2 ^ t ≤ i := Nat.div_le_self _ _
        by_cases hk1 : 1 < i / 2 ^ t
        · obtain ⟨x, hx⟩ : ∃ x, x = i / 2 ^ t := ⟨_, rfl⟩
          obtain ⟨y, hy⟩ : ∃ y, y = n / 2 ^ t := ⟨_, rfl⟩
          rw [← hx, ← hy]
          rw [← hx] at ht hk hk1
          have hyn : y ≤ n := by rw [hy]; exact Nat.div_le_self _ _
          have HX : Hid (x = i / 2 ^ t) := hx
          have HY : Hid (y = n / 2 ^ t) := hy
          clear hx hy
          go_wp2
          go_round
          case rel =>
            refine ⟨t + 1, ?_, ?_, ?_⟩
            all_goals rw [Nat.pow_succ, ← Nat.div_div_eq_div_mul]
            · rw [← HX.out]; omega
            · rw [← HY.out]; go_num
            · rw [← HX.out]; go_num
          case measure => simp [intOf]; omega
        · have ht1 : i / 2 ^ t = 1 := by omega
          obtain ⟨wd, p, lo, e1, e2, e3, e4, e5, e6, e7⟩ := halted T (fun j => R.getD j (-1)) n i t H2.out (fun j h h' => hM.mid j h h') hM.leaf hlt ht1
          rw [e1, ht1]
          have q1 : (n : Int) / (wd : Int) = (p : Int) := by rw [← e3]; omega
          have q2 : ((i : Int) - (p : Int)) * (wd : Int) = (lo : Int) := by rw [← e5, Int.natCast_mul]; congr 1; omega
          have E7 : Hid (T i = rmax (fun j => R.getD j (-1)) lo (wd - 1)) := e7
          have hwn : wd ≤ n := by omega
          clear ht hk hk1 ht1 e1 e3 e5 e7
          have hg : w1.cell? ⟨w.heap.size, i, none⟩ = some (.int .i64 (T i)) := hT.row.cell (i := i) hlt
          rw [E7.out] at hg
          have HG : Hid (w1.cell? ⟨w.heap.size, i, none⟩ = some (.int .i64 (rmax (fun j => R.getD j (-1)) lo (wd - 1)))) := hg
          clear hg E7
          go_wp2_with fail
          clear q1 q2
          refine (HL.out lo (by omega)).mono ?_
          rintro e w' ⟨rfl, rfl⟩
          go_wp2
          go_loop [9, 10] (fun u v => ∃ c : Nat, c + 1 ≤ wd ∧ u = .int .i64 (rmax (fun j => R.getD j (-1)) lo c) ∧ v = .int .i64 ((lo + 1 + c : Nat) : Int)) (fun _ v => lo + wd - (intOf v).toNat)
          case atStart => exact ⟨0, by omega, rfl, by go_num⟩
          case round =>
            obtain ⟨c, hc, rfl, rfl⟩ := hrel
            obtain ⟨b, hb'⟩ : ∃ b, b = rmax (fun j => R.getD j (-1)) lo c := ⟨_, rfl⟩
            rw [← hb']
            have HB : Hid (b = rmax (fun j => R.getD j (-1)) lo c) := hb'
            clear hb'
            by_cases hcw : c + 1 < wd
            · have F := HL.out (lo + 1 + c) (by omega)
              obtain ⟨z, hz⟩ : ∃ z, z = R.getD (lo + 1 + c) (-1) := ⟨_, rfl⟩
              rw [← hz] at F
              have HZ : Hid (z = R.getD (lo + 1 + c) (-1)) := hz
              clear hz
              have ec : ((lo + 1 + c : Nat) : Int) = (lo : Int) + 1 + (c : Int) := by omega
              rw [ec] at F
              have HF : Hid (Calls Yba.prog 8 #[.slice a0 len cap, .int .i64 ((lo : Int) + 1 + (c : Int))] w1 fun e w' => e = .returned (.int .i64 z) ∧ w1 = w') := F
              clear F ec
              by_cases hbz : b < z
              · have HN : Hid (rmax (fun j => R.getD j (-1)) lo (c + 1) = z) := by
                  show rmax (fun j => R.getD j (-1)) lo (c + 1) = z
                  have e : lo + (c + 1) = lo + 1 + c := by omega
                  rw [rmax, ← HB.out, e, ← HZ.out]; exact Int.max_eq_right (by omega)
                clear HB HZ
                go_wp2_with fail
                refine HF.out.mono ?_
                rintro e w' ⟨rfl, rfl⟩
                go_wp2
                go_round
                case rel => exact ⟨c + 1, by omega, by rw [HN.out], by go_num⟩
                case measure => simp [intOf]; omega
              · have HN : Hid (rmax (fun j => R.getD j (-1)) lo (c + 1) = b) := by
                  show rmax (fun j => R.getD j (-1)) lo (c + 1) = b
                  have e : lo + (c + 1) = lo + 1 + c := by omega
                  rw [rmax, ← HB.out, e, ← HZ.out]; exact Int.max_eq_left (by omega)
                clear HB HZ
                go_wp2_with fail
                refine HF.out.mono ?_
                rintro e w' ⟨rfl, rfl⟩
                go_wp2
                go_round
                case rel => exact ⟨c + 1, by omega, by rw [HN.out], by go_num⟩
                case measure => simp [intOf]; omega
            · have hcw' : c = wd - 1 := by omega
              subst hcw'
              have hg := HG.out
              rw [← HB.out] at hg
              clear HB HG
              go_wp2
              go_round
              case rel => exact ⟨i + 1, by omega, by omega, by go_num⟩
              case measure => simp [intOf]; omega
    · have hg : w1.cell? ⟨w.heap.size, 0, none⟩ = some (.int .i64 (T 0)) := hT.row.cell (i := 0) (by omega)
      rw [hM.zero] at hg
      have hpos : (0 : Int) < 2 * (n : Int) := by omega
      go_wp2
      go_ret
      exact ⟨rfl, hb⟩
end Go.Proofs.Ybulkuga
