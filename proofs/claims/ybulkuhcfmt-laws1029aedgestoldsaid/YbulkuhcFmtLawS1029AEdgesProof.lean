/-
  The proof of 'Rows.LawS1029AEdgesToldSaid': the walk lies in YbulkuhcFmtEdgesWalk; here the arguments are opened and the told card is closed.
-/
import Derived.Test.YbulkuhcFmtEdgesWalk
import Derived.Test.YbulkuhcFmtCards
import Derived.ProofKit
import Derived.OpenShut
import Derived.Carry
import Derived.Stop.JoinedAt
import Derived.Stop.JoinedTold
import Derived.SizedLaws
import Derived.SevenToldRow
import Derived.Deep.SlicePairs
namespace Go.Proofs.YbulkuhcFmt
open Go.ChangeShapes Go.WideShapes Go.ChangeAt Go.RowKit
open Go.Extern.Stop Go.Stop Go.Extern
set_option linter.unusedVariables false

theorem Ybaf.own : ownKnob Ybaf.prog.godebug = none := by kernel_rfl
theorem Ybaf.laidOut : laidOutB Ybaf.pinned.checked.prog = true := by kernel_rfl
theorem Ybaf.cells22 : Ybaf.prog.cellsOf 22 = 1 := by kernel_rfl
theorem Ybaf.cells31 : Ybaf.prog.cellsOf 31 = 2 := by kernel_rfl
theorem Ybaf.stops : Ybaf.pinned.checked.prog.stops = ["fmt.Sprintf", "fmt.errorf"] := by kernel_rfl
theorem Ybaf.stopKnobs : Ybaf.pinned.checked.prog.stopKnobs = [] := by kernel_rfl
theorem Ybaf.quiet (os : Os) : Stop.quiet Ybaf.pinned.checked.prog os := by
  intro k hk
  rw [Ybaf.stopKnobs] at hk
  cases hk

/-- The walk at whatever lengths. -/
theorem edges_all (nn : Nat) (hnn : nn ≤ 65535) (pa qa : Option Addr) (lp cp lq cq : Nat) (PU PV QU QV : Nat → Int) (w : World) (hp : IsPairs w pa lp PU PV) (hq : IsPairs w qa lq QU QV) :
    Calls Ybaf.prog 3 #[.int .u16 (nn : Int), .slice pa lp cp, .slice qa lq cq] w fun e w' => e = .returned (.bool true) ∧ Below w.heap.size w w' := by
  by_cases h1 : 1024 < lq
  · clear hp hq
    go_enter Ybaf.func3, Ybaf.ntmps3
    go_wp2
    go_ret
    exact ⟨rfl, Below.refl _ _⟩
  by_cases h2 : 1024 < lp
  · clear hp hq
    go_enter Ybaf.func3, Ybaf.ntmps3
    go_wp2
    go_ret
    exact ⟨rfl, Below.refl _ _⟩
  exact edges_any nn hnn pa qa lp cp lq cq PU PV QU QV w hp hq (by omega) (by omega)

/-- A slice of pairs that came in, opened. -/
theorem pairs_open {H : Type} {enc : TypeId × Value → H} {W : World} {a : Option Addr} {len cap : Nat} {d : DataW H} {ps : List MemPlace}
    (h : DataW.Trod enc Ybaf.prog W 0 (fun _ => true) true 23 (.slice a len cap) d ps) : ∃ U V, IsPairs W a len U V := by
  obtain ⟨fuel, hf⟩ := h
  rcases Deep.open_slice_pairs Ybaf.underlying23 Ybaf.underlying31 Ybaf.cells31 rfl rfl Ybaf.cells22 Ybaf.cells22 hf with ⟨hcs, _⟩ | ⟨x, len', cap', m, n, V0, V1, D0, D1, P0, P1, hcs, _, hl, hm, hmm, _, hcell⟩
  · simp [Value.cells] at hcs
    obtain ⟨rfl, rfl, rfl⟩ := hcs
    exact ⟨fun _ => 0, fun _ => 0, fun i hi => by omega⟩
  · simp [Value.cells] at hcs
    obtain ⟨rfl, rfl, rfl⟩ := hcs
    simp only [if_true] at hmm
    refine ⟨fun i => intOf (V0 i), fun i => intOf (V1 i), fun i hi => ?_⟩
    obtain ⟨c0, _⟩ := hcell 0 (by omega)
    obtain ⟨b, off, spot⟩ := x
    have hspot : spot = none := by simpa [Addr.add] using World.cell?_spot c0
    subst hspot
    obtain ⟨c1, c2, t0, t1⟩ := hcell i (by omega)
    obtain ⟨x0, e0, _, w0⟩ := DataW.trod_int Ybaf.underlying22 t0
    obtain ⟨x1, e1, _, w1⟩ := DataW.trod_int Ybaf.underlying22 t1
    simp at e0 e1
    have b0 := bounds_u16 w0
    have b1 := bounds_u16 w1
    rw [add_plain, e0] at c1
    rw [add_plain, e1] at c2
    refine ⟨b, off, rfl, ?_, ?_, ?_⟩
    · simp only [e0, intOf]; exact c1
    · simp only [e1, intOf]; exact c2
    · simp only [e0, e1, intOf]; omega

set_option maxRecDepth 100000 in
theorem edges_lifted (os : Os) (started : os.Started) (H : Type) (enc : TypeId × Value → H) :
    ReturnsInTold none {} Ybaf.checked os 3 .any Input.okWide ((OpenSpec.ofChange Rows.lawS1029AEdgesSpec).preRow enc Ybaf.prog Ybaf.f3 [] false []) (fun F => ((OpenSpec.ofChange Rows.lawS1029AEdgesSpec).at F).post enc Ybaf.prog Ybaf.f3 false true false false) (aloneAtReturn Ybaf.prog) nothingAlways := by
  refine returnsInTold_of_row (C := Ybaf.checked) (s := OpenSpec.ofChange Rows.lawS1029AEdgesSpec) (by kernel_rfl) Ybaf.own started (by kernel_rfl) Ybaf.func3
    (OpenSpec.witness_stopped (enc := enc) (C := Ybaf.checked) false ⟨#[], #[.int .u16 0, .slice none 0 0, .slice none 0 0], []⟩ 8 (by kernel_rfl) (by kernel_rfl) (by kernel_rfl) (by kernel_rfl)) ?_
  intro F W base args ds gs before _ hF hval0 hW _ _ hsz _ _
  have hval : ∀ (j : Nat) t v, Ybaf.f3.params[j]? = some t → args[j]? = some v → Value.okWide Ybaf.prog W .any base t v := hval0
  have hW' := hW
  obtain ⟨p, q, hA0, hV, rfl, _, _⟩ := hW
  have hA : DataW.TrodAll enc Ybaf.prog W 0 (fun _ => true) true Ybaf.f3.params.toList args.toList ds p := hA0
  rw [Ybaf.params3] at hA hval
  obtain ⟨v0, v1, v2, d0, d1, d2, p0, p1, p2, rfl, rfl, rfl, h0, h1, h2⟩ := trodAll_three hA
  obtain ⟨rfl, rfl⟩ := trodVars_none hV
  obtain ⟨x, rfl, rfl, rfl, wx⟩ := open_int Ybaf.underlying22 (hval 0 22 v0 rfl rfl) h0
  obtain ⟨a1, len1, cap1, rfl⟩ := okWide_slice Ybaf.underlying23 (hval 1 23 v1 rfl rfl)
  obtain ⟨a2, len2, cap2, rfl⟩ := okWide_slice Ybaf.underlying23 (hval 2 23 v2 rfl rfl)
  have lt1 : ∀ x ∈ p1, x.block < W.heap.size := by obtain ⟨m, hm⟩ := h1; exact DataW.trod_lt m _ _ _ hm
  have lt2 : ∀ x ∈ p2, x.block < W.heap.size := by obtain ⟨m, hm⟩ := h2; exact DataW.trod_lt m _ _ _ hm
  obtain ⟨PU, PV, hp⟩ := pairs_open h1
  obtain ⟨QU, QV, hq⟩ := pairs_open h2
  have hb := bounds_u16 wx
  obtain ⟨nn, rfl⟩ := Int.eq_ofNat_of_zero_le hb.1
  clear hA0 hval0
  refine (edges_all nn (by omega) a1 a2 len1 cap1 len2 cap2 PU PV QU QV W hp hq).mono fun e W' ⟨he, bel⟩ => ?_
  subst he
  exact ⟨_, rfl, _, _, _, [], _, [], hW', trodAll_mk1 (shut_bool Ybaf.underlying4 _), trodAll_mk3 (shut_int Ybaf.underlying22 wx) (Below.trod Ybaf.laidOut (by kernel_rfl) (of_decide_eq_true (by kernel_rfl)) h1 bel lt1) (Below.trod Ybaf.laidOut (by kernel_rfl) (of_decide_eq_true (by kernel_rfl)) h2 bel lt2), rfl, bel.frame _, fun h => by cases h⟩

theorem lawS1029AEdges_proved : Rows.LawS1029AEdgesToldSaid :=
  Claim7.holds_of_told_any 3 Ybaf.f3 "fmt.Sprintf" ["fmt.errorf"] [] _ _ _ (by kernel_rfl) rfl rfl rfl Ybaf.laidOut (by kernel_rfl) rfl ⟨rfl, rfl, rfl, rfl, rfl, rfl, rfl⟩ rfl rfl (by kernel_rfl) (by kernel_rfl) Ybaf.func3 (by kernel_rfl)
    (of_decide_eq_true (by kernel_rfl)) (of_decide_eq_true (by kernel_rfl)) Ybaf.stops.symm rfl Ybaf.stopKnobs.symm (by kernel_rfl)
    (by kernel_rfl) (by kernel_rfl) (by kernel_rfl) (by kernel_rfl) (by kernel_rfl) (by kernel_rfl) (by kernel_rfl) (by kernel_rfl) (by kernel_rfl) rfl (by kernel_rfl) rfl rfl
    rfl rfl
    rfl (by kernel_rfl) (by kernel_rfl) (by kernel_rfl) (by decide) (by kernel_rfl)
    (OpenClaim.moreEntering_of (by kernel_rfl) (by kernel_rfl) (by kernel_rfl) (by kernel_rfl) (by kernel_rfl) (by kernel_rfl) (by kernel_rfl) (by kernel_rfl) (by kernel_rfl) (by kernel_rfl))
    ⟨_, WideRow.started_initial, Ybaf.quiet _⟩
    (fun os started _ H enc _ => edges_lifted os started H enc)
end Go.Proofs.YbulkuhcFmt
