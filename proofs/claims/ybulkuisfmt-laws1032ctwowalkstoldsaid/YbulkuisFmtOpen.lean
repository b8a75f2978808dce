/-
  The given statement's premises, opened: limitFields as it is laid, a Limits by value, a payload.
-/
import Derived.Test.YbulkuisFmtLawW
import Derived.Test.YbulkuisFmtCards
import Derived.Test.YbulkuisFmtTie
import Derived.ProofKit
import Derived.OpenShut
import Derived.ShutString
import Derived.Carry
import Derived.OpenVars
import Derived.Stop.JoinedAt
import Derived.Stop.JoinedTold
import Derived.Stop.Texts
import Derived.Stop.LaidErr
import Derived.MakeChecks
import Derived.SevenTiedAt
namespace Go.Proofs.YbulkuisFmt
open Go.ChangeShapes Go.WideShapes Go.ChangeAt Go.RowKit Go.Kit
open Go.Extern.Stop Go.Stop Go.Extern
set_option linter.unusedVariables false

theorem Ybaf.own : ownKnob Ybaf.prog.godebug = none := by kernel_rfl
theorem Ybaf.laidOut : laidOutB Ybaf.pinned.checked.prog = true := by kernel_rfl
theorem Ybaf.stops : Ybaf.pinned.checked.prog.stops = ["fmt.Sprintf"] := by kernel_rfl
theorem Ybaf.stopKnobs : Ybaf.pinned.checked.prog.stopKnobs = [] := by kernel_rfl
theorem Ybaf.quiet (os : Os) : Stop.quiet Ybaf.pinned.checked.prog os := by
  intro k hk
  rw [Ybaf.stopKnobs] at hk
  cases hk

/-- limitFields' name, off the given specification. -/
def limName : String := Rows.lawS1032CTwoWalksSpec.vars.getD 0 ""
theorem Ybaf.gL : Ybaf.prog.globalNamed limName = some 0 := by kernel_rfl
theorem Ybaf.gLType : (Ybaf.prog.globals[0]?).map (·.type) = some 86 := by kernel_rfl
theorem Ybaf.cells85 : Ybaf.prog.cellsOf 85 = 2 := by kernel_rfl
theorem Ybaf.cells33 : Ybaf.prog.cellsOf 33 = 17 := by kernel_rfl
theorem Ybaf.cells9 : Ybaf.prog.cellsOf 9 = 1 := by kernel_rfl
theorem Ybaf.cells3 : Ybaf.prog.cellsOf 3 = 1 := by kernel_rfl
theorem Ybaf.cells5 : Ybaf.prog.cellsOf 5 = 1 := by kernel_rfl

/-- The laid datum's rows. -/
def limRows : List (DataW Unit) := match (Rows.laid_example_com_antecede_antecede_limitFields : DataW Unit) with
  | .agg l => l
  | _ => []

theorem limRows_at : ∀ j, j < 17 → ∃ t : List UInt8, limRows[j]? = some (.agg [.lit (.string t), .lit (.int .i64 (dfl j))]) ∧ t.length ≤ 1000
  | 0, _ => ⟨_, rfl, by decide⟩
  | 1, _ => ⟨_, rfl, by decide⟩
  | 2, _ => ⟨_, rfl, by decide⟩
  | 3, _ => ⟨_, rfl, by decide⟩
  | 4, _ => ⟨_, rfl, by decide⟩
  | 5, _ => ⟨_, rfl, by decide⟩
  | 6, _ => ⟨_, rfl, by decide⟩
  | 7, _ => ⟨_, rfl, by decide⟩
  | 8, _ => ⟨_, rfl, by decide⟩
  | 9, _ => ⟨_, rfl, by decide⟩
  | 10, _ => ⟨_, rfl, by decide⟩
  | 11, _ => ⟨_, rfl, by decide⟩
  | 12, _ => ⟨_, rfl, by decide⟩
  | 13, _ => ⟨_, rfl, by decide⟩
  | 14, _ => ⟨_, rfl, by decide⟩
  | 15, _ => ⟨_, rfl, by decide⟩
  | 16, _ => ⟨_, rfl, by decide⟩
  | n + 17, h => absurd h (by omega)

theorem laid_open {W : World} (h : laidMet Ybaf.prog [(limName, Rows.laid_example_com_antecede_antecede_limitFields)] W) : ∃ nm, Laid W nm := by
  obtain ⟨ps, ⟨g0, t0, cs0, f0, p0, q0, hg0, ht0, hv0, hd0, _, e0⟩, _, hrows⟩ := h
  obtain rfl := Option.some.inj (Ybaf.gL.symm.trans hg0)
  obtain rfl := Option.some.inj (Ybaf.gLType.symm.trans ht0)
  obtain ⟨xs, m, _, hx, _, hlen, hf⟩ := DataW.trod_array Ybaf.underlying86 hd0
  have hxs : xs.map (·.1) = limRows := by
    have h1 := congrArg Prod.fst hx
    have h2 : (DataW.agg limRows : DataW Unit) = .agg (xs.map (·.1)) := h1
    injection h2 with h3
    exact h3.symm
  have one : ∀ j, ∃ s : ByteArray, j < 17 → W.cell? ⟨0, j * 2, none⟩ = some (.string s) ∧ W.cell? ⟨0, j * 2 + 1, none⟩ = some (.int .i64 (dfl j)) ∧ s.data.toList.length ≤ 1000 := fun j => by
    rcases Nat.lt_or_ge j 17 with hj | hj
    · have hfj := hf j hj
      rw [List.getElem?_eq_getElem (by omega), Ybaf.cells85] at hfj
      obtain ⟨y0, y1, n, hy, _, hy0, hy1⟩ := trod_struct2 Ybaf.underlying85 hfj
      obtain ⟨s, e0, rfl, _⟩ := DataW.trod_string Ybaf.underlying9 hy0
      obtain ⟨z, e1, rfl, _⟩ := DataW.trod_int Ybaf.underlying3 hy1
      simp only [Ybaf.cells9, Ybaf.cells3] at e0 e1
      have c0 : cs0.toList[j * 2]? = some (.string s) := by
        have := congrArg (·[0]?) e0
        simpa [List.getElem?_take, List.getElem?_drop] using this
      have c1 : cs0.toList[j * 2 + 1]? = some (.int .i64 z) := by
        have := congrArg (·[0]?) e1
        simpa [List.getElem?_take, List.getElem?_drop] using this
      obtain ⟨t, ht, htl⟩ := limRows_at j hj
      rw [← hxs, List.getElem?_map, List.getElem?_eq_getElem (by omega), hy] at ht
      simp at ht
      obtain ⟨rfl, rfl⟩ := ht
      refine ⟨s, fun _ => ⟨?_, ?_, htl⟩⟩
      · rw [World.var?_cell Ybaf.gL hv0 (j * 2)]; simpa using c0
      · rw [World.var?_cell Ybaf.gL hv0 (j * 2 + 1)]; simpa using c1
    · exact ⟨⟨#[]⟩, fun h => absurd h (by omega)⟩
  obtain ⟨nm, hnm⟩ := Classical.axiomOfChoice one
  exact ⟨nm, fun j hj => hnm j hj⟩

theorem limits_open {H : Type} {enc : TypeId × Value → H} {W : World} {r : Reach} {b0 : Nat} {v : Value} {d : DataW H} {ps : List MemPlace} {sp : Nat → Bool}
    (hv : Value.okWide Ybaf.prog W r b0 33 v) (hd : DataW.Trod enc Ybaf.prog W 0 sp true 33 v d ps) : ∃ X : Nat → Int, v = .agg (lim X).toArray ∧ ∀ j, j < 17 → (Lit.int .i64 (X j)).wf = true := by
  obtain ⟨fs, hfs, hsz, hF⟩ : ∃ fs, Ybaf.prog.underlying 33 = some (.struct fs) ∧ fs.size = 17 ∧ ∀ i, i < 17 → (fs[i]?).map (fun f => (f.type, f.offset)) = some (3, i) := ⟨_, Ybaf.underlying33, rfl, by decide⟩
  obtain ⟨cs, rfl, hcs⟩ := okWide_struct hfs hv
  rw [Ybaf.cells33] at hcs
  obtain ⟨fuel, hf⟩ := hd
  obtain ⟨xs, m, _, hx, _, hlen, hf⟩ := DataW.trod_struct hfs hf
  have one : ∀ i, ∃ n : Int, i < 17 → cs[i]? = some (.int .i64 n) ∧ (Lit.int .i64 n).wf = true := fun i => by
    rcases Nat.lt_or_ge i 17 with hi | hi
    · obtain ⟨f, hf1, hf2⟩ := Option.map_eq_some_iff.1 (hF i hi)
      simp only [Prod.mk.injEq] at hf2
      have h := hf i f hf1
      rw [hf2.1, hf2.2, Ybaf.cells3, List.getElem?_eq_getElem (by omega)] at h
      obtain ⟨n, e, _, wf⟩ := DataW.trod_int Ybaf.underlying3 h
      refine ⟨n, fun _ => ⟨?_, wf⟩⟩
      have := congrArg (·[0]?) e
      simpa [Value.cells, List.getElem?_take, List.getElem?_drop] using this
    · exact ⟨0, fun h => absurd h (by omega)⟩
  obtain ⟨X, hX⟩ := Classical.axiomOfChoice one
  exact ⟨X, by rw [row_lim (c := cs) (f := X) hcs fun i hi => (hX i hi).1], fun j hj => (hX j hj).2⟩

theorem pay_open {H : Type} {enc : TypeId × Value → H} {W : World} {a : Option Addr} {len cap : Nat} {d : DataW H} {ps : List MemPlace}
    (h : DataW.Trod enc Ybaf.prog W 0 (fun _ => true) true 25 (.slice a len cap) d ps) : Pay W a len := by
  obtain ⟨fuel, hf⟩ := h
  rcases open_ints Ybaf.underlying25 Ybaf.underlying5 Ybaf.cells5 hf with ⟨hcs, _⟩ | ⟨x, l, c, zs, hcs, _, hl, hm, hz, _, hcell, hwz⟩
  · simp [Value.cells] at hcs
    obtain ⟨rfl, rfl, rfl⟩ := hcs
    exact .inl rfl
  · simp [Value.cells] at hcs
    obtain ⟨rfl, rfl, rfl⟩ := hcs
    simp only [if_true] at hz
    rcases Nat.eq_zero_or_pos len with h0 | h0
    · exact .inr (.inl h0)
    · have c0 := hcell 0 (by omega)
      obtain ⟨b, off, spot⟩ := x
      have hspot : spot = none := by simpa [Addr.add] using World.cell?_spot c0
      subst hspot
      refine .inr (.inr ⟨b, off, zs.take len, rfl, by simp; omega, fun i hi => ?_⟩)
      rw [← add_plain, hcell i (by omega)]
      simp [List.getD, hi]
end Go.Proofs.YbulkuisFmt
