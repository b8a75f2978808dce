/-
  The proof of 'Rows.LawS1029BModelToldSaid': the walk lies in YbulkuhcFmtParse; here the argument is opened and the told and tied card is closed.
-/
import Derived.Test.YbulkuhcFmtOpen
namespace Go.Proofs.YbulkuhcFmt
open Go.ChangeShapes Go.WideShapes Go.ChangeAt Go.RowKit Go.Kit
open Go.Extern.Stop Go.Stop Go.Extern
set_option linter.unusedVariables false

set_option maxRecDepth 100000 in
theorem model_lifted (os : Os) (started : os.Started) (H : Type) (enc : TypeId × Value → H) :
    ReturnsInTold none {} Ybaf.checked os 5 .any Input.okWide ((OpenSpec.ofChange Rows.lawS1029BModelSpec).preRow enc Ybaf.prog Ybaf.f5 [] false Rows.lawS1029BModelRow.laid) (fun F => ((OpenSpec.ofChange Rows.lawS1029BModelSpec).at F).post enc Ybaf.prog Ybaf.f5 false true false false) (aloneAtReturn Ybaf.prog) nothingAlways := by
  refine returnsInTold_of_row (C := Ybaf.checked) (s := OpenSpec.ofChange Rows.lawS1029BModelSpec) (by kernel_rfl) Ybaf.own started (by kernel_rfl) Ybaf.func5
    (OpenSpec.witness_stopped_at (enc := enc) (C := Ybaf.checked) false (layCut (World.holding Ybaf.prog os ⟨#[.cells #[.string cutS] 64], #[], []⟩) (World.holding Ybaf.prog default ⟨#[], #[], []⟩).heap.size) #[.slice none 0 0] rfl (by kernel_rfl) (by kernel_rfl) (by kernel_rfl)
      (OpenSpec.preRow_of_B rfl 8 (by kernel_rfl) (by kernel_rfl) (laidE_met os _))) ?_
  intro F W base args ds gs before _ hF hval0 hW _ _ hsz hL _
  have hval : ∀ (j : Nat) t v, Ybaf.f5.params[j]? = some t → args[j]? = some v → Value.okWide Ybaf.prog W .any base t v := hval0
  have hW' := hW
  obtain ⟨p, q, hA0, hV0, rfl, _, _⟩ := hW
  have hA : DataW.TrodAll enc Ybaf.prog W 0 (fun _ => true) true Ybaf.f5.params.toList args.toList ds p := hA0
  have hV : DataW.TrodVars enc Ybaf.prog W (fun _ => true) [cutName] gs q := hV0
  rw [Ybaf.params5] at hA hval
  obtain ⟨v0, d0, rfl, rfl, h0⟩ := trodAll_one hA
  obtain ⟨a0, len0, cap0, rfl⟩ := okWide_slice Ybaf.underlying38 (hval 0 38 v0 rfl rfl)
  have lt0 : ∀ x ∈ p, x.block < W.heap.size := by obtain ⟨m, hm⟩ := h0; exact DataW.trod_lt m _ _ _ hm
  obtain ⟨hlc, B, hp⟩ := pay_open h0
  have hL' : laidMet Ybaf.prog [(cutName, Rows.laid_example_com_wardcast_wardcast_errCut)] W := by
    have := hL
    rw [Go.MakeChecks.laidMetH_plain _ _ _ (by kernel_rfl)] at this
    exact this
  obtain ⟨ea, s0, hv0, hc0, hs0, hz0⟩ := laid_sentinel hL' Ybaf.gE Ybaf.gEType Ybaf.underlying40 (Ybaf.row62 (by kernel_rfl)) Ybaf.underlying62 Ybaf.underlying64 rfl rfl Ybaf.underlying9 Ybaf.cells64 Ybaf.cells9
  have hVk := hV
  obtain ⟨rfl, rfl⟩ := hV.unique (vars_read1 enc Ybaf.gE Ybaf.gEType Ybaf.underlying40 hv0 trivial _)
  clear hA0 hV0 hval0
  have hg0 : W.cell? ⟨0, 0, none⟩ = some (.iface 62 (.pointer (some ea))) := by simpa using World.var?_cell Ybaf.gE hv0 0
  refine (model_any F.told a0 len0 cap0 B ea _ W hF hp hlc hg0 hc0).mono fun e W' ⟨he, bel⟩ => ?_
  subst he
  exact ⟨_, rfl, _, _, _, [], _, [.cell 0 0], hW', trodAll_mk1 (shut_bool Ybaf.underlying4 _), trodAll_mk1 (Below.trod Ybaf.laidOut (by kernel_rfl) (of_decide_eq_true (by kernel_rfl)) h0 bel lt0), Below.trodVars Ybaf.laidOut bel (by kernel_rfl) hVk, bel.frame _, fun h => by cases h⟩

theorem lawS1029BModel_proved : Rows.LawS1029BModelToldSaid :=
  Claim7.holds_of_told_tied_any_at .later 5 Ybaf.f5 "fmt.Sprintf" ["fmt.errorf"] [] _ _ _ _ _ (by kernel_rfl) rfl rfl rfl Ybaf.laidOut (by kernel_rfl) rfl ⟨rfl, rfl, rfl, rfl, rfl, rfl, rfl⟩ rfl rfl (by kernel_rfl) (by kernel_rfl) Ybaf.func5 (by kernel_rfl)
    (of_decide_eq_true (by kernel_rfl)) (of_decide_eq_true (by kernel_rfl)) Ybaf.stops.symm rfl Ybaf.stopKnobs.symm (by kernel_rfl)
    (by kernel_rfl) (by kernel_rfl) (by kernel_rfl) (by kernel_rfl) (by kernel_rfl) (by kernel_rfl) (by kernel_rfl) (by kernel_rfl) (by kernel_rfl) rfl (by kernel_rfl) rfl rfl
    rfl rfl
    rfl (by kernel_rfl) (by kernel_rfl) (by kernel_rfl) (by decide) (by kernel_rfl) lawS1029BModel_row_tie
    (OpenClaim.moreEntering_of (by kernel_rfl) (by kernel_rfl) (by kernel_rfl) (by kernel_rfl) (by kernel_rfl) (by kernel_rfl) (by kernel_rfl) (by kernel_rfl) (by kernel_rfl) (by kernel_rfl))
    ⟨_, WideRow.started_initial, Ybaf.quiet _⟩
    (fun os started _ H enc _ => model_lifted os started H enc)
end Go.Proofs.YbulkuhcFmt
