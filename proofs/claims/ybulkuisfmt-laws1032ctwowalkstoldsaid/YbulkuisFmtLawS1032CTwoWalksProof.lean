/-
  The proof of 'Rows.LawS1032CTwoWalksToldSaid': the walk lies in YbulkuisFmtLawW; here the arguments are opened and the told and tied card is closed.
-/
import Derived.Test.YbulkuisFmtOpen
namespace Go.Proofs.YbulkuisFmt
open Go.ChangeShapes Go.WideShapes Go.ChangeAt Go.RowKit Go.Kit
open Go.Extern.Stop Go.Stop Go.Extern
open Go.ChangeMaps (open_string shut_string)
set_option linter.unusedVariables false

theorem law_any (F : Interp) (nm : Nat → ByteArray) (X : Nat → Int) (a : Option Addr) (len cap : Nat) (fs : ByteArray) (f1 f2 : Bool) (vl ad : Int) (w : World) (hF : F.answers w.tape) (hLd : Laid w nm) (hlen : ∀ j, j < 17 → (FmtStop.textOf (F "fmt.Sprintf" (reading (nm j).data.toList (X j)) 0)).size ≤ 2000)
    (hpay : Pay w a len) (had : 0 ≤ ad ∧ ad ≤ 255) :
    Calls Ybaf.prog 4 #[.agg (lim X).toArray, .slice a len cap, .string fs, .bool f1, .bool f2, .int .i64 vl, .int .u8 ad] w fun e w' => e = .returned (.bool true) ∧ Below w.heap.size w w' := by
  by_cases h1 : (1048576 : Int) < len
  · exact law_long X a len cap fs f1 f2 vl ad w (.inl h1)
  by_cases h2 : (1048576 : Int) < fs.size
  · exact law_long X a len cap fs f1 f2 vl ad w (.inr h2)
  by_cases hn : ∃ j, j < 17 ∧ X j < 0
  · exact law_neg F nm X a len cap fs f1 f2 vl ad w hF hLd hlen h1 h2 hn
  · exact law_pos F nm X a len cap fs f1 f2 vl ad w hF hLd hlen h1 h2 (fun j hj => Int.not_lt.1 fun h => hn ⟨j, hj, h⟩) hpay had

/-- One cell, and a table's cells, off a datum. -/
def cell1 : DataW Unit → Value
  | .lit (.string bs) => .string ⟨bs.toArray⟩
  | .lit (.int k n) => .int k n
  | _ => undef
def tabCells (l : List (DataW Unit)) : List Value := l.flatMap fun
  | .agg fs => fs.map cell1
  | _ => []

/-- The variable number 0 made to hold limitFields' cells. -/
def layLim (w0 : World) : World :=
  { w0 with heap := w0.heap.modify 0 fun
      | .cells _ t frozen => .cells (tabCells limRows).toArray t frozen
      | o => o }

/-- The witness' arguments. -/
def zeros : Array Value := #[.agg (lim fun _ => 0).toArray, .slice none 0 0, .string ⟨#[]⟩, .bool false, .bool false, .int .i64 0, .int .u8 0]

theorem laidL_met (os : Os) :
    laidMetH Ybaf.prog Rows.lawS1032CTwoWalksRow.laid ((layLim (World.holding Ybaf.prog os ⟨#[], #[], []⟩)).forCall (fun _ _ => 0) ⟨#[], zeros, []⟩).memory := by
  rw [Go.MakeChecks.laidMetH_plain _ _ _ (by kernel_rfl)]
  exact laidMet_of_run (ps := MemPlace.row ⟨0, 0, none⟩ 34) 8 (by kernel_rfl) (by kernel_rfl) (by kernel_rfl)

set_option maxRecDepth 100000 in
theorem twoWalks_lifted (os : Os) (started : os.Started) (H : Type) (enc : TypeId × Value → H) :
    ReturnsInTold none {} Ybaf.checked os 4 .any Input.okWide ((OpenSpec.ofChange Rows.lawS1032CTwoWalksSpec).preRow enc Ybaf.prog Ybaf.f4 [] false Rows.lawS1032CTwoWalksRow.laid) (fun F => ((OpenSpec.ofChange Rows.lawS1032CTwoWalksSpec).at F).post enc Ybaf.prog Ybaf.f4 false true false false) (aloneAtReturn Ybaf.prog) nothingAlways := by
  refine returnsInTold_of_row (C := Ybaf.checked) (s := OpenSpec.ofChange Rows.lawS1032CTwoWalksSpec) (by kernel_rfl) Ybaf.own started (by kernel_rfl) Ybaf.func4
    (OpenSpec.witness_stopped_at (enc := enc) (C := Ybaf.checked) false (layLim (World.holding Ybaf.prog os ⟨#[], #[], []⟩)) zeros rfl (by kernel_rfl) (by kernel_rfl) (by kernel_rfl)
      (OpenSpec.preRow_of_B rfl 8 (by kernel_rfl) (by kernel_rfl) (laidL_met os))) ?_
  intro F W base args ds gs before _ hF hval0 hW _ _ hsz hL _
  have hval : ∀ (j : Nat) t v, Ybaf.f4.params[j]? = some t → args[j]? = some v → Value.okWide Ybaf.prog W .any base t v := hval0
  have hW' := hW
  obtain ⟨p, q, hA0, hV0, rfl, _, _⟩ := hW
  have hA : DataW.TrodAll enc Ybaf.prog W 0 (fun _ => true) true Ybaf.f4.params.toList args.toList ds p := hA0
  have hV : DataW.TrodVars enc Ybaf.prog W (fun _ => true) [limName] gs q := hV0
  rw [Ybaf.params4] at hA hval
  obtain ⟨v0, vs0, d0, ds0, p0, q0, hargs, rfl, rfl, h0, r0⟩ := trodAll_cons hA
  obtain ⟨v1, vs1, d1, ds1, p1, q1, rfl, rfl, rfl, h1, r1⟩ := trodAll_cons r0
  obtain ⟨v2, vs2, d2, ds2, p2, q2, rfl, rfl, rfl, h2, r2⟩ := trodAll_cons r1
  obtain ⟨v3, vs3, d3, ds3, p3, q3, rfl, rfl, rfl, h3, r3⟩ := trodAll_cons r2
  obtain ⟨v4, vs4, d4, ds4, p4, q4, rfl, rfl, rfl, h4, r4⟩ := trodAll_cons r3
  obtain ⟨v5, vs5, d5, ds5, p5, q5, rfl, rfl, rfl, h5, r5⟩ := trodAll_cons r4
  obtain ⟨v6, vs6, d6, ds6, p6, q6, rfl, rfl, rfl, h6, r6⟩ := trodAll_cons r5
  obtain ⟨rfl, rfl, rfl⟩ := trodAll_nil r6
  obtain rfl : args = #[v0, v1, v2, v3, v4, v5, v6] := by cases args; simp_all
  have lt0 : ∀ x ∈ p0, x.block < W.heap.size := by obtain ⟨m, hm⟩ := h0; exact DataW.trod_lt m _ _ _ hm
  have lt1 : ∀ x ∈ p1, x.block < W.heap.size := by obtain ⟨m, hm⟩ := h1; exact DataW.trod_lt m _ _ _ hm
  obtain ⟨X, rfl, hX⟩ := limits_open (hval 0 33 v0 rfl rfl) h0
  obtain ⟨a, len, cap, rfl⟩ := okWide_slice Ybaf.underlying25 (hval 1 25 v1 rfl rfl)
  have hpay := pay_open h1
  obtain ⟨fs, rfl, rfl, rfl, hfs⟩ := open_string Ybaf.underlying9 (hval 2 9 v2 rfl rfl) h2
  obtain ⟨f1, rfl, rfl, rfl⟩ := open_bool Ybaf.underlying4 (hval 3 4 v3 rfl rfl) h3
  obtain ⟨f2, rfl, rfl, rfl⟩ := open_bool Ybaf.underlying4 (hval 4 4 v4 rfl rfl) h4
  obtain ⟨vl, rfl, rfl, rfl, w5⟩ := open_int Ybaf.underlying3 (hval 5 3 v5 rfl rfl) h5
  obtain ⟨ad, rfl, rfl, rfl, w6⟩ := open_int Ybaf.underlying5 (hval 6 5 v6 rfl rfl) h6
  have hL' : laidMet Ybaf.prog [(limName, Rows.laid_example_com_antecede_antecede_limitFields)] W := by
    have := hL
    rw [Go.MakeChecks.laidMetH_plain _ _ _ (by kernel_rfl)] at this
    exact this
  obtain ⟨nm, hLd⟩ := laid_open hL'
  have hlen : ∀ j, j < 17 → (FmtStop.textOf (F.told "fmt.Sprintf" (reading (nm j).data.toList (X j)) 0)).size ≤ 2000 := fun j hj => neg_len F _ _ (hLd j hj).2.2 (hX j hj)
  have had : 0 ≤ ad ∧ ad ≤ 255 := bounds_u8 w6
  obtain ⟨g1, rfl⟩ : ∃ g1, gs = [g1] := by
    match gs, hV with
    | [g1], _ => exact ⟨g1, rfl⟩
    | [], h => exact h.elim
    | _ :: _ :: _, ⟨_, _, _, _, _, _, _, _, _, _, h, _⟩ => exact h.elim
  clear hA0 hV0 hval0
  refine (law_any F.told nm X a len cap fs f1 f2 vl ad W hF hLd hlen hpay had).mono fun e W' ⟨he, bel⟩ => ?_
  subst he
  exact ⟨_, rfl, _, _, _, [], _, q, hW', trodAll_mk1 (shut_bool Ybaf.underlying4 _),
    trodAll_cons_mk (Below.trod Ybaf.laidOut (by kernel_rfl) (of_decide_eq_true (by kernel_rfl)) h0 bel lt0) (trodAll_cons_mk (Below.trod Ybaf.laidOut (by kernel_rfl) (of_decide_eq_true (by kernel_rfl)) h1 bel lt1)
      (trodAll_cons_mk (shut_string Ybaf.underlying9 hfs) (trodAll_cons_mk (shut_bool Ybaf.underlying4 _) (trodAll_cons_mk (shut_bool Ybaf.underlying4 _) (trodAll_cons_mk (shut_int Ybaf.underlying3 w5) (trodAll_cons_mk (shut_int Ybaf.underlying5 w6) trodAll_mk0)))))),
    Below.trodVars Ybaf.laidOut bel (by kernel_rfl) hV, bel.frame _, fun h => by cases h⟩

theorem lawS1032CTwoWalks_proved : Rows.LawS1032CTwoWalksToldSaid :=
  Claim7.holds_of_told_tied_any_at .later 4 Ybaf.f4 "fmt.Sprintf" [] [] _ _ _ _ _ (by kernel_rfl) rfl rfl rfl Ybaf.laidOut (by kernel_rfl) rfl ⟨rfl, rfl, rfl, rfl, rfl, rfl, rfl⟩ rfl rfl (by kernel_rfl) (by kernel_rfl) Ybaf.func4 (by kernel_rfl)
    (of_decide_eq_true (by kernel_rfl)) (of_decide_eq_true (by kernel_rfl)) Ybaf.stops.symm rfl Ybaf.stopKnobs.symm (by kernel_rfl)
    (by kernel_rfl) (by kernel_rfl) (by kernel_rfl) (by kernel_rfl) (by kernel_rfl) (by kernel_rfl) (by kernel_rfl) (by kernel_rfl) (by kernel_rfl) rfl (by kernel_rfl) rfl rfl
    rfl rfl
    rfl (by kernel_rfl) (by kernel_rfl) (by kernel_rfl) (by decide) (by kernel_rfl) lawS1032CTwoWalks_row_tie
    (OpenClaim.moreEntering_of (by kernel_rfl) (by kernel_rfl) (by kernel_rfl) (by kernel_rfl) (by kernel_rfl) (by kernel_rfl) (by kernel_rfl) (by kernel_rfl) (by kernel_rfl) (by kernel_rfl))
    ⟨_, WideRow.started_initial, Ybaf.quiet _⟩
    (fun os started _ H enc _ => twoWalks_lifted os started H enc)
end Go.Proofs.YbulkuisFmt
