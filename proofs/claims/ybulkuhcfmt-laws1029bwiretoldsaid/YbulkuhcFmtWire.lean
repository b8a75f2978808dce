/-
  The walk of LawS1029BWire.
-/
import Derived.Test.YbulkuhcFmtParse
import Derived.WideShapes
namespace Go.Proofs.YbulkuhcFmt
open Go.RowKit Go.Extern.Stop Go.Stop Go.Extern
set_option linter.unusedVariables false

theorem Ybaf.info5 : (Ybaf.prog.info? 5).map (fun i => (i.zero, i.size, i.bytes)) = some (some (.int .u8 0), 1, 1) := by kernel_rfl

theorem cells_new (w : World) (c : List Value) (t : TypeId) : ∀ j u, c[j]? = some u → (w.alloc (.cells c.toArray t)).cell? ((⟨w.heap.size, 0, none⟩ : Addr).add j) = some u := by
  intro j u hj
  rw [WideShapes.add_plain, Nat.zero_add, World.cell?_alloc_at _ _ _ _ rfl]
  simpa using hj

theorem ints_one (l : List Int) : ∀ u ∈ l.map (Value.int .u8), u.oneCell' = true := by
  intro u hu
  simp at hu
  obtain ⟨z, _, rfl⟩ := hu
  rfl

/-- The five bytes of a level payload. -/
def head5 (lv : Int) : List Int := [3, lv / 16777216, lv / 65536 % 256, lv / 256 % 256, lv % 256]

/-- The bytes of the whole payload. -/
def wireB (lv : Int) (B : Nat → Int) (i : Nat) : Int := if i < 5 then (head5 lv).getD i 0 else B (i - 5)

theorem head5_byte (lv : Int) (h0 : 0 ≤ lv) (h1 : lv ≤ 4294967295) (i : Nat) (hi : i < 5) : Byte ((head5 lv).getD i 0) := by
  match i, hi with
  | 0, _ => exact ⟨by show (0 : Int) ≤ 3; decide, by show (3 : Int) ≤ 255; decide⟩
  | 1, _ => exact ⟨by show 0 ≤ lv / 16777216; omega, by show lv / 16777216 ≤ 255; omega⟩
  | 2, _ => exact ⟨by show 0 ≤ lv / 65536 % 256; omega, by show lv / 65536 % 256 ≤ 255; omega⟩
  | 3, _ => exact ⟨by show 0 ≤ lv / 256 % 256; omega, by show lv / 256 % 256 ≤ 255; omega⟩
  | 4, _ => exact ⟨by show 0 ≤ lv % 256; omega, by show lv % 256 ≤ 255; omega⟩

/-- The tail's bytes as a list. -/
def tailL (B : Nat → Int) (lt : Nat) : List Int := (List.range lt).map B
theorem tailL_length (B : Nat → Int) (lt : Nat) : (tailL B lt).length = lt := by simp [tailL]

/-- What lies in the row once both are appended. -/
theorem wire_pay {w2 : World} {base g lt C : Nat} {lv : Int} {B : Nat → Int} (h0 : 0 ≤ lv) (h1 : lv ≤ 4294967295) (hB : ∀ i, i < lt → Byte (B i))
    (ho : w2.ownsRow base 5 1 (.slice (some ⟨g, 0, none⟩) (5 + lt) C) (5 + lt) ((head5 lv).map (Value.int .u8) ++ (tailL B lt).map (Value.int .u8))) (n : Nat) (hn : n ≤ 5 + lt) :
    IsPay w2 (some ⟨g, 0, none⟩) n (wireB lv B) := by
  intro i hi
  have hc := ho.cells (g := g) rfl i
  refine ⟨g, 0, rfl, ?_, ?_⟩
  · rw [WideShapes.add_plain] at hc
    apply hc
    rw [← List.map_append, List.getElem?_map]
    unfold wireB
    by_cases h5 : i < 5
    · rw [if_pos h5, List.getElem?_append_left (by exact h5), List.getD_eq_getElem?_getD, List.getElem?_eq_getElem (by exact h5)]
      rfl
    · rw [if_neg h5, List.getElem?_append_right (by show 5 ≤ i; omega)]
      have e : i - (head5 lv).length = i - 5 := rfl
      rw [e, tailL, List.getElem?_map, List.getElem?_range (by omega)]
      rfl
  · unfold wireB
    by_cases h5 : i < 5
    · rw [if_pos h5]; exact head5_byte lv h0 h1 i h5
    · rw [if_neg h5]; exact hB _ (by omega)

set_option maxHeartbeats 1000000 in
theorem wire_any (F : Interp) (lv : Int) (a : Option Addr) (lt cap : Nat) (B : Nat → Int) (ct : Nat) (ea : Addr) (v : Value) (w : World) (hF : F.answers w.tape) (hp : IsPay w a lt B) (hnone : a = none → lt = 0 ∧ cap = 0) (hlc : lt ≤ cap) (hl1 : lt ≤ 1024)
    (h0 : 0 ≤ lv) (h1 : lv ≤ 4294967295) (hct : ct ≤ 65535)
    (hg : w.cell? ⟨0, 0, none⟩ = some (.iface 62 (.pointer (some ea)))) (he : w.cell? ea = some v) :
    Calls Ybaf.prog 6 #[.int .u32 lv, .slice a lt cap, .int .u16 (ct : Int)] w fun e w' => e = .returned (.bool true) ∧ Below w.heap.size w w' := by
  obtain ⟨i0, hi, hz0, hz1, hz2⟩ := info_parts Ybaf.info5
  obtain ⟨C, hC⟩ : ∃ C : Nat, 5 + (lt : Int) = (C : Int) := ⟨5 + lt, by omega⟩
  have HC : Hid (C = 5 + lt) := by show _ = _; omega
  have hC2 : C ≤ 2048 := by omega
  have hC5 : 0 + 5 ≤ C := by omega
  go_enter Ybaf.func6, Ybaf.ntmps6
  go_wp2_with (first
    | (at_make; refine wpList_make_own _ rfl _ _ 38 rfl w.heap.size 5 i0 (.int .u8 0) 1 Ybaf.underlying38 hi hz0 hz1 .i64 .i64 (C : Int) C rfl rfl rfl (by rw [hz2]; omega) (by unfold maxLen; omega) (Nat.le_refl _) ?_))
  intro w1 ho1 hg1
  have hb1 : Below w.heap.size w w1 := (Below.refl _ w).grown hg1 (Nat.le_refl _) (fun k e => by cases e)
  clear hg1
  go_wp2_with (at_builtin; (refine wpList_append_fits _ rfl (.tmp 19) (.tmp 31) 38 rfl w.heap.size 5 i0 1 Ybaf.underlying38 hi hz1 w.heap.size 0 C [] rfl (ho1.alloc _) ⟨w1.heap.size, 0, none⟩ 5 5 ((head5 lv).map (Value.int .u8)) rfl rfl (cells_new w1 ((head5 lv).map (Value.int .u8)) 5) (ints_one _) hC5 ?_))
  intro w2 ho2 hg2
  have hs1 := hb1.size
  have hb2 : Below w.heap.size w w2 := (hb1.alloc hs1 _).grown hg2 (by simp; omega) (fun k e => by cases e; exact Nat.le_refl _)
  clear hg2 ho1 hb1 hs1
  have hsrc : ∀ ad, a = some ad → ∀ j u, ((tailL B lt).map (Value.int .u8))[j]? = some u → w2.cell? (ad.add j) = some u := fun ad ha j u hj => by
    rw [List.getElem?_map] at hj
    obtain ⟨z, hz, rfl⟩ := Option.map_eq_some_iff.1 hj
    have hjl : j < lt := by
      have := (List.getElem?_eq_some_iff.1 hz).1
      rwa [tailL_length] at this
    have hzb : z = B j := by
      rw [tailL, List.getElem?_map, List.getElem?_range hjl] at hz
      simpa using hz.symm
    obtain ⟨b, off, e, c, _⟩ := hp j hjl
    rw [ha] at e
    cases e
    rw [WideShapes.add_plain, hzb, hb2.cell (p := ⟨b, off + j, none⟩) (World.block_lt_of_cell? _ _ c)]
    exact c
  have hfit : 5 + lt ≤ C := by have := HC.out; omega
  go_wp2_with (at_builtin; (refine wpList_append_fits_any _ rfl (.tmp 33) (.tmp 34) 38 rfl w.heap.size 5 i0 1 Ybaf.underlying38 hi hz1 w.heap.size 5 C ((head5 lv).map (Value.int .u8)) rfl ho2 a lt cap ((tailL B lt).map (Value.int .u8)) rfl (by simp [tailL]) hnone hsrc (ints_one _) hfit ?_))
  intro w3 ho3 hg3
  have hb3 : Below w.heap.size w w3 := hb2.grown hg3 hb2.size (fun k e => by cases e; exact Nat.le_refl _)
  clear hg3 ho2 hb2 hsrc
  have hB : ∀ i, i < lt → Byte (B i) := fun i hi => by obtain ⟨_, _, _, _, h⟩ := hp i hi; exact h
  clear hp hnone
  obtain ⟨n, hn, hnC⟩ : ∃ n : Nat, (ct : Int) % ((C : Int) + 1) = (n : Int) ∧ n ≤ C := by
    have e : ((C + 1 : Nat) : Int) = (C : Int) + 1 := by omega
    exact ⟨ct % (C + 1), by rw [← e]; exact (Int.natCast_emod ct (C + 1)).symm, by have := Nat.mod_lt ct (show 0 < C + 1 by omega); omega⟩
  have hpay := wire_pay h0 h1 hB ho3 n (by have := HC.out; omega)
  have hgl : w3.cell? ⟨0, 0, none⟩ = some (.iface 62 (.pointer (some ea))) := (hb3.cell (World.block_lt_of_cell? _ _ hg)).trans hg
  have hel : w3.cell? ea = some v := (hb3.cell (World.block_lt_of_cell? _ _ he)).trans he
  have P := parse_any F (some ⟨w.heap.size, 0, none⟩) n C (wireB lv B) ea v w3 (by rw [hb3.tape]; exact hF) hpay hnC (by omega) hgl hel
  have HP : Hid (Calls Ybaf.prog 9 #[.slice (some ⟨w.heap.size, 0, none⟩) n C] w3 fun e w' => ∃ lv' er, e = .returned (.tuple #[.int .i64 lv', er]) ∧ Parsed w3 w' (some ⟨w.heap.size, 0, none⟩) n C (wireB lv B) lv' er) := P
  clear P hpay hgl hel ho3 hB hg he hF
  go_wp2_with fail
  refine HP.out.mono ?_
  rintro e w4 ⟨lv', er, rfl, hb4, hf, hc, h5⟩
  have HCk : Hid (Checks w4 (some ⟨w.heap.size, 0, none⟩) n C lv' er) := hc
  clear hc HP
  have hs := hb3.size
  have hs4 := hb4.size
  by_cases hn5 : n = 5
  · obtain ⟨rfl, hlv⟩ := h5 hn5 rfl
    have hlv' : lv' = lv := by
      rw [hlv]
      show lv % 256 + lv / 256 % 256 * 256 + lv / 65536 % 256 * 65536 + lv / 16777216 * 16777216 = lv
      omega
    subst hlv'
    subst hn5
    clear h5 hlv hf
    go_wp2_with fail
    refine (show Calls _ _ _ _ _ from HCk.out).mono ?_
    rintro e w5 ⟨rfl, hb5⟩
    go_wp2
    go_ret
    exact ⟨rfl, (hb3.trans (hb4.mono hs)).trans (hb5.mono (by omega))⟩
  · have hne : ((n : Int) == 5) = false := by simp; omega
    clear h5
    rcases hf with rfl | ⟨p, rfl⟩
    all_goals
      go_wp2_with fail
      refine (show Calls _ _ _ _ _ from HCk.out).mono ?_
      rintro e w5 ⟨rfl, hb5⟩
      go_wp2
      go_ret
      exact ⟨rfl, (hb3.trans (hb4.mono hs)).trans (hb5.mono (by omega))⟩

/-- At whatever length. -/
theorem wire_all (F : Interp) (lv : Int) (a : Option Addr) (lt cap : Nat) (B : Nat → Int) (ct : Nat) (ea : Addr) (v : Value) (w : World) (hF : F.answers w.tape) (hp : IsPay w a lt B) (hnone : a = none → lt = 0 ∧ cap = 0) (hlc : lt ≤ cap)
    (h0 : 0 ≤ lv) (h1 : lv ≤ 4294967295) (hct : ct ≤ 65535)
    (hg : w.cell? ⟨0, 0, none⟩ = some (.iface 62 (.pointer (some ea)))) (he : w.cell? ea = some v) :
    Calls Ybaf.prog 6 #[.int .u32 lv, .slice a lt cap, .int .u16 (ct : Int)] w fun e w' => e = .returned (.bool true) ∧ Below w.heap.size w w' := by
  by_cases hl : 1024 < lt
  · clear hp hnone
    go_enter Ybaf.func6, Ybaf.ntmps6
    go_wp2
    go_ret
    exact ⟨rfl, Below.refl _ _⟩
  · exact wire_any F lv a lt cap B ct ea v w hF hp hnone hlc (by omega) h0 h1 hct hg he
end Go.Proofs.YbulkuhcFmt
