/-
  parsePVLevel and zzs1029bcheck together, at every payload; the walk of LawS1029BModel.
-/
import Derived.Test.YbulkuhcFmtCheck
namespace Go.Proofs.YbulkuhcFmt
open Go.RowKit Go.Extern.Stop Go.Stop Go.Extern
set_option linter.unusedVariables false

/-- The check returns true of what the parse gave, in the world behind the parse. -/
def Checks (w : World) (a : Option Addr) (len cap : Nat) (lv : Int) (er : Value) : Prop :=
  Calls Ybaf.prog 10 #[.slice a len cap, .int .i64 lv, er] w fun e w' => e = .returned (.bool true) ∧ Below w.heap.size w w'

theorem checks_of_same {w : World} {a : Option Addr} {len cap : Nat} {lv : Int} {er : Value}
    (h : Calls Ybaf.prog 10 #[.slice a len cap, .int .i64 lv, er] w fun e w' => e = .returned (.bool true) ∧ w = w') : Checks w a len cap lv er :=
  h.mono fun e w' ⟨he, hw⟩ => ⟨he, by subst hw; exact Below.refl _ _⟩

/-- What a parse leaves. -/
structure Parsed (w w' : World) (a : Option Addr) (len cap : Nat) (B : Nat → Int) (lv : Int) (er : Value) : Prop where
  below : Below w.heap.size w w'
  form : er = .nilIface ∨ ∃ p, er = .iface 62 (.pointer (some p))
  checks : Checks w' a len cap lv er
  five : len = 5 → B 0 = 3 → er = .nilIface ∧ lv = B 4 + B 3 * 256 + B 2 * 65536 + B 1 * 16777216

theorem neq_behind {w w' : World} {p ea : Addr} {v : Value} (hb : Below w.heap.size w w') (hn : NewErr w w' p) (he : w.cell? ea = some v) :
    (binOp .neq 40 (.iface 62 (.pointer (some p))) (.iface 62 (.pointer (some ea)))).run Ybaf.prog w' = .ok (.bool true) w' := by
  obtain ⟨h1, _, s, h2⟩ := hn
  have hlt := World.block_lt_of_cell? _ _ he
  exact neq_new w' (by omega) h2 (by simp) ((hb.cell hlt).trans he)

theorem parse_any (F : Interp) (a : Option Addr) (len cap : Nat) (B : Nat → Int) (ea : Addr) (v : Value) (w : World) (hF : F.answers w.tape) (hp : IsPay w a len B) (hlc : len ≤ cap) (hl4 : len ≤ 4096)
    (hg : w.cell? ⟨0, 0, none⟩ = some (.iface 62 (.pointer (some ea)))) (he : w.cell? ea = some v) :
    Calls Ybaf.prog 9 #[.slice a len cap] w fun e w' => ∃ lv er, e = .returned (.tuple #[.int .i64 lv, er]) ∧ Parsed w w' a len cap B lv er := by
  have hg0 : (⟨0, 0, none⟩ : Addr).block < w.heap.size := World.block_lt_of_cell? _ _ hg
  by_cases h0 : len = 0
  · subst h0
    refine (parse_empty a cap w).mono ?_
    rintro e w' ⟨p, rfl, hn, hb⟩
    exact ⟨_, _, rfl, hb, .inr ⟨_, rfl⟩, checks_of_same (check_empty a cap p ea w' ((hb.cell hg0).trans hg) (neq_behind hb hn he)), fun h => by omega⟩
  obtain ⟨b, off, rfl, c0, b0⟩ := hp 0 (by omega)
  rw [Nat.add_zero] at c0
  have hbw : b < w.heap.size := World.block_lt_of_cell? _ _ c0
  have hcell : ∀ i, i < len → w.cell? ⟨b, off + i, none⟩ = some (.int .u8 (B i)) ∧ Byte (B i) := fun i hi => by
    obtain ⟨b', off', e, c, h⟩ := hp i hi
    cases e
    exact ⟨c, h⟩
  by_cases hx : B 0 = 3
  · rw [hx] at c0
    by_cases h5 : len < 5
    · refine (parse_cut b off len cap ea w (by omega) hlc h5 c0 hg).mono ?_
      rintro e w' ⟨rfl, hb⟩
      exact ⟨_, _, rfl, hb, .inr ⟨_, rfl⟩, checks_of_same (check_cut b off len cap ea w' (by omega) h5 ((hb.cell (p := ⟨b, off, none⟩) hbw).trans c0) ((hb.cell hg0).trans hg)), fun h => by omega⟩
    · obtain ⟨c1, b1⟩ := hcell 1 (by omega)
      obtain ⟨c2, b2⟩ := hcell 2 (by omega)
      obtain ⟨c3, b3⟩ := hcell 3 (by omega)
      obtain ⟨c4, b4⟩ := hcell 4 (by omega)
      by_cases h6 : 5 < len
      · refine (parse_past F b off len cap (B 1) (B 2) (B 3) (B 4) w hF h6 hlc hl4 b1 b2 b3 b4 c0 c1 c2 c3 c4).mono ?_
        rintro e w' ⟨p, rfl, hn, hb⟩
        exact ⟨_, _, rfl, hb, .inr ⟨_, rfl⟩, checks_of_same (check_past b off len cap p ea w' h6 hl4 ((hb.cell (p := ⟨b, off, none⟩) hbw).trans c0) ((hb.cell hg0).trans hg) (neq_behind hb hn he)), fun h => by omega⟩
      · obtain rfl : len = 5 := by omega
        refine (parse_ok b off cap (B 1) (B 2) (B 3) (B 4) w hlc b1 b2 b3 b4 c0 c1 c2 c3 c4).mono ?_
        rintro e w' ⟨rfl, hb⟩
        refine ⟨_, _, rfl, hb, .inl rfl, ?_, fun _ _ => ⟨rfl, rfl⟩⟩
        refine (check_ok b off cap (B 1) (B 2) (B 3) (B 4) w' b1 b2 b3 b4 ((hb.cell (p := ⟨b, off, none⟩) hbw).trans c0) ((hb.cell (p := ⟨b, off + 1, none⟩) hbw).trans c1) ((hb.cell (p := ⟨b, off + 2, none⟩) hbw).trans c2) ((hb.cell (p := ⟨b, off + 3, none⟩) hbw).trans c3) ((hb.cell (p := ⟨b, off + 4, none⟩) hbw).trans c4)).mono ?_
        rintro e w'' ⟨rfl, n, rfl⟩
        exact ⟨rfl, below_drewN (Below.refl _ _) n⟩
  · have hx' : (B 0 != 3) = true := by simpa using hx
    refine (parse_kind F b off len cap (B 0) w hF (by omega) hlc hl4 c0 hx').mono ?_
    rintro e w' ⟨p, rfl, hn, hb⟩
    exact ⟨_, _, rfl, hb, .inr ⟨_, rfl⟩, checks_of_same (check_kind b off len cap (B 0) p ea w' (by omega) hl4 ((hb.cell (p := ⟨b, off, none⟩) hbw).trans c0) hx' ((hb.cell hg0).trans hg) (neq_behind hb hn he)), fun _ h => absurd h hx⟩

set_option maxHeartbeats 1000000 in
/-- LawS1029BModel. -/
theorem model_any (F : Interp) (a : Option Addr) (len cap : Nat) (B : Nat → Int) (ea : Addr) (v : Value) (w : World) (hF : F.answers w.tape) (hp : IsPay w a len B) (hlc : len ≤ cap)
    (hg : w.cell? ⟨0, 0, none⟩ = some (.iface 62 (.pointer (some ea)))) (he : w.cell? ea = some v) :
    Calls Ybaf.prog 5 #[.slice a len cap] w fun e w' => e = .returned (.bool true) ∧ Below w.heap.size w w' := by
  by_cases h4 : 4096 < len
  · clear hp
    go_enter Ybaf.func5, Ybaf.ntmps5
    go_wp2
    go_ret
    exact ⟨rfl, Below.refl _ _⟩
  · have P := parse_any F a len cap B ea v w hF hp hlc (by omega) hg he
    have HP : Hid (Calls Ybaf.prog 9 #[.slice a len cap] w fun e w' => ∃ lv er, e = .returned (.tuple #[.int .i64 lv, er]) ∧ Parsed w w' a len cap B lv er) := P
    clear P hp hg he
    go_enter Ybaf.func5, Ybaf.ntmps5
    go_wp2_with fail
    refine HP.out.mono ?_
    rintro e w1 ⟨lv, er, rfl, hb, hf, hc, _⟩
    have HC : Hid (Checks w1 a len cap lv er) := hc
    clear hc HP
    have hs := hb.size
    rcases hf with rfl | ⟨p, rfl⟩
    all_goals
      go_wp2_with fail
      refine (show Calls _ _ _ _ _ from HC.out).mono ?_
      rintro e w2 ⟨rfl, hb2⟩
      go_wp2
      go_ret
      exact ⟨rfl, hb.trans (hb2.mono hs)⟩
end Go.Proofs.YbulkuhcFmt
