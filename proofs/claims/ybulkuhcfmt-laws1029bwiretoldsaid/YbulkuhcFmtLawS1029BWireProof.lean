/-
  The proof of 'Rows.LawS1029BWireToldSaid': the walk lies in YbulkuhcFmtWire; here the arguments are opened and the told and tied card is closed.
-/
import Derived.Test.YbulkuhcFmtOpen
import Derived.Test.YbulkuhcFmtWire
namespace Go.Proofs.YbulkuhcFmt
open Go.ChangeShapes Go.WideShapes Go.ChangeAt Go.RowKit Go.Kit
open Go.Extern.Stop Go.Stop Go.Extern
set_option linter.unusedVariables false

/-- A nil slice has neither length nor capacity. -/
theorem pay_none {H : Type} {enc : TypeId × Value → H} {W : World} {a : Option Addr} {len cap : Nat} {d : DataW H} {ps : List MemPlace}
    (h : DataW.Trod enc Ybaf.prog W 0 (fun _ => true) true 38 (.slice a len cap) d ps) : a = none → len = 0 ∧ cap = 0 := by
  obtain ⟨fuel, hf⟩ := h
  rcases open_ints Ybaf.underlying38 Ybaf.underlying5 Ybaf.cells5 hf with ⟨hcs, _⟩ | ⟨x, l, c, zs, hcs, _⟩
  · simp [Value.cells] at hcs
    obtain ⟨rfl, rfl, rfl⟩ := hcs
    exact fun _ => ⟨rfl, rfl⟩
  · simp [Value.cells] at hcs
    obtain ⟨rfl, rfl, rfl⟩ := hcs
    exact fun h => by cases h

set_option maxRecDepth 100000 in
theorem wire_lifted (os : Os) (started : os.Started) (H : Type) (enc : TypeId × Value → H) :
    ReturnsInTold none {} Ybaf.checked os 6 .any Input.okWide ((OpenSpec.ofChange Rows.lawS1029BWireSpec).preRow enc Ybaf.prog Ybaf.f6 [] false Rows.lawS1029BWireRow.laid) (fun F => ((OpenSpec.ofChange Rows.lawS1029BWireSpec).at F).post enc Ybaf.prog Ybaf.f6 false true false false) (aloneAtReturn Ybaf.prog) nothingAlways := by
  refine returnsInTold_of_row (C := Ybaf.checked) (s := OpenSpec.ofChange Rows.lawS1029BWireSpec) (by kernel_rfl) Ybaf.own started (by kernel_rfl) Ybaf.func6
    (OpenSpec.witness_stopped_at (enc := enc) (C := Ybaf.checked) false (layCut (World.holding Ybaf.prog os ⟨#[.cells #[.string cutS] 64], #[], []⟩) (World.holding Ybaf.prog default ⟨#[], #[], []⟩).heap.size) #[.int .u32 0, .slice none 0 0, .int .u16 0] rfl (by kernel_rfl) (by kernel_rfl) (by kernel_rfl)
      (OpenSpec.preRow_of_B rfl 8 (by kernel_rfl) (by kernel_rfl) (laidE_met os _))) ?_
  intro F W base args ds gs before _ hF hval0 hW _ _ hsz hL _
  have hval : ∀ (j : Nat) t v, Ybaf.f6.params[j]? = some t → args[j]? = some v → Value.okWide Ybaf.prog W .any base t v := hval0
  have hW' := hW
  obtain ⟨p, q, hA0, hV0, rfl, _, _⟩ := hW
  have hA : DataW.TrodAll enc Ybaf.prog W 0 (fun _ => true) true Ybaf.f6.params.toList args.toList ds p := hA0
  have hV : DataW.TrodVars enc Ybaf.prog W (fun _ => true) [cutName] gs q := hV0
  rw [Ybaf.params6] at hA hval
  obtain ⟨v0, v1, v2, d0, d1, d2, p0, p1, p2, rfl, rfl, rfl, h0, h1, h2⟩ := trodAll_three hA
  obtain ⟨x, rfl, rfl, rfl, wx⟩ := open_int Ybaf.underlying45 (hval 0 45 v0 rfl rfl) h0
  obtain ⟨a1, len1, cap1, rfl⟩ := okWide_slice Ybaf.underlying38 (hval 1 38 v1 rfl rfl)
  obtain ⟨y, rfl, rfl, rfl, wy⟩ := open_int Ybaf.underlying22 (hval 2 22 v2 rfl rfl) h2
  have lt1 : ∀ x ∈ p1, x.block < W.heap.size := by obtain ⟨m, hm⟩ := h1; exact DataW.trod_lt m _ _ _ hm
  obtain ⟨hlc, B, hp⟩ := pay_open h1
  have hnone := pay_none h1
  have bx := bounds_u32 wx
  have by' := bounds_u16 wy
  obtain ⟨ct, rfl⟩ := Int.eq_ofNat_of_zero_le by'.1
  have hL' : laidMet Ybaf.prog [(cutName, Rows.laid_example_com_wardcast_wardcast_errCut)] W := by
    have := hL
    rw [Go.MakeChecks.laidMetH_plain _ _ _ (by kernel_rfl)] at this
    exact this
  obtain ⟨ea, s0, hv0, hc0, hs0, hz0⟩ := laid_sentinel hL' Ybaf.gE Ybaf.gEType Ybaf.underlying40 (Ybaf.row62 (by kernel_rfl)) Ybaf.underlying62 Ybaf.underlying64 rfl rfl Ybaf.underlying9 Ybaf.cells64 Ybaf.cells9
  have hVk := hV
  obtain ⟨rfl, rfl⟩ := hV.unique (vars_read1 enc Ybaf.gE Ybaf.gEType Ybaf.underlying40 hv0 trivial _)
  clear hA0 hV0 hval0
  have hg0 : W.cell? ⟨0, 0, none⟩ = some (.iface 62 (.pointer (some ea))) := by simpa using World.var?_cell Ybaf.gE hv0 0
  refine (wire_all F.told x a1 len1 cap1 B ct ea _ W hF hp hnone hlc bx.1 bx.2 (by omega) hg0 hc0).mono fun e W' ⟨he, bel⟩ => ?_
  subst he
  exact ⟨_, rfl, _, _, _, [], _, [.cell 0 0], hW', trodAll_mk1 (shut_bool Ybaf.underlying4 _), trodAll_mk3 (shut_int Ybaf.underlying45 wx) (Below.trod Ybaf.laidOut (by kernel_rfl) (of_decide_eq_true (by kernel_rfl)) h1 bel lt1) (shut_int Ybaf.underlying22 wy), Below.trodVars Ybaf.laidOut bel (by kernel_rfl) hVk, bel.frame _, fun h => by cases h⟩

theorem lawS1029BWire_proved : Rows.LawS1029BWireToldSaid :=
  Claim7.holds_of_told_tied_any_at .later 6 Ybaf.f6 "fmt.Sprintf" ["fmt.errorf"] [] _ _ _ _ _ (by kernel_rfl) rfl rfl rfl Ybaf.laidOut (by kernel_rfl) rfl ⟨rfl, rfl, rfl, rfl, rfl, rfl, rfl⟩ rfl rfl (by kernel_rfl) (by kernel_rfl) Ybaf.func6 (by kernel_rfl)
    (of_decide_eq_true (by kernel_rfl)) (of_decide_eq_true (by kernel_rfl)) Ybaf.stops.symm rfl Ybaf.stopKnobs.symm (by kernel_rfl)
    (by kernel_rfl) (by kernel_rfl) (by kernel_rfl) (by kernel_rfl) (by kernel_rfl) (by kernel_rfl) (by kernel_rfl) (by kernel_rfl) (by kernel_rfl) rfl (by kernel_rfl) rfl rfl
    rfl rfl
    rfl (by kernel_rfl) (by kernel_rfl) (by kernel_rfl) (by decide) (by kernel_rfl) lawS1029BWire_row_tie
    (OpenClaim.moreEntering_of (by kernel_rfl) (by kernel_rfl) (by kernel_rfl) (by kernel_rfl) (by kernel_rfl) (by kernel_rfl) (by kernel_rfl) (by kernel_rfl) (by kernel_rfl) (by kernel_rfl))
    ⟨_, WideRow.started_initial, Ybaf.quiet _⟩
    (fun os started _ H enc _ => wire_lifted os started H enc)
end Go.Proofs.YbulkuhcFmt
