/-
  Exact: the walk (YbulkujuWalk) brought under the given row. The frame is the kit's template at this function's types; the struct by value is opened into its seven cells.
-/
import Derived.Test.YbulkujuWalk
import Derived.WalkKit
import Derived.ProofKit
import Derived.OpenShut
import Derived.ShutString
namespace Go.Proofs.Ybulkuju
open Go.ChangeShapes Go.WideShapes Go.ChangeAt Go.RowKit
set_option linter.unusedVariables false

theorem exactOwn : ownKnob Yba.prog.godebug = none := by kernel_rfl
theorem Yba.cells24 : Yba.prog.cellsOf 24 = 7 := by kernel_rfl
theorem Yba.cells22 : Yba.prog.cellsOf 22 = 1 := by kernel_rfl
theorem Yba.cells4 : Yba.prog.cellsOf 4 = 1 := by kernel_rfl
theorem Yba.cells5 : Yba.prog.cellsOf 5 = 1 := by kernel_rfl
theorem Yba.cells3 : Yba.prog.cellsOf 3 = 1 := by kernel_rfl

/-- The input's datum. -/
abbrev datum {H : Type} (h : Int) (l : Bool) (b n lo hi v : Int) : DataW H :=
  .agg [.lit (.int .u64 h), .lit (.bool l), .lit (.int .u64 b), .lit (.int .u8 n), .lit (.int .u64 lo), .lit (.int .u64 hi), .lit (.int .i64 v)]

theorem seven {α : Type} {l : List α} (h : l.length = 7) : ∃ a b c d e f g, l = [a, b, c, d, e, f, g] := by
  match l, h with
  | [a, b, c, d, e, f, g], _ => exact ⟨a, b, c, d, e, f, g, rfl⟩

theorem open24 {H : Type} {enc : TypeId × Value → H} {W : World} {r : Reach} {b0 : Nat} {v : Value} {d : DataW H} {ps : List MemPlace} {sp : Nat → Bool}
    (hv : Value.okWide Yba.prog W r b0 24 v) (hd : DataW.Trod enc Yba.prog W 0 sp true 24 v d ps) :
    ∃ h l b n lo hi ver, v = sub h l b n lo hi ver ∧ d = datum h l b n lo hi ver ∧ ps = [] ∧
      ∀ (W' : World) (sp' : Nat → Bool), DataW.Trod enc Yba.prog W' 0 sp' true 24 (sub h l b n lo hi ver) (datum h l b n lo hi ver) [] := by
  obtain ⟨cs, rfl, hsz⟩ := okWide_struct Yba.underlying24 hv
  rw [Yba.cells24] at hsz
  obtain ⟨cl⟩ := cs
  obtain ⟨c0, c1, c2, c3, c4, c5, c6, rfl⟩ := seven (l := cl) (by simpa using hsz)
  obtain ⟨fuel, hf⟩ := hd
  obtain ⟨xs, m, _, hx, _, hlen, hf⟩ := DataW.trod_struct Yba.underlying24 hf
  obtain ⟨x0, x1, x2, x3, x4, x5, x6, rfl⟩ := seven (l := xs) (by simpa using hlen)
  have h0 := hf 0 _ rfl
  have h1 := hf 1 _ rfl
  have h2 := hf 2 _ rfl
  have h3 := hf 3 _ rfl
  have h4 := hf 4 _ rfl
  have h5 := hf 5 _ rfl
  have h6 := hf 6 _ rfl
  obtain ⟨h, e0, rfl, k0⟩ := DataW.trod_int Yba.underlying22 h0
  obtain ⟨l, e1, rfl⟩ := DataW.trod_bool Yba.underlying4 h1
  obtain ⟨b, e2, rfl, k2⟩ := DataW.trod_int Yba.underlying22 h2
  obtain ⟨n, e3, rfl, k3⟩ := DataW.trod_int Yba.underlying5 h3
  obtain ⟨lo, e4, rfl, k4⟩ := DataW.trod_int Yba.underlying22 h4
  obtain ⟨hi, e5, rfl, k5⟩ := DataW.trod_int Yba.underlying22 h5
  obtain ⟨ver, e6, rfl, k6⟩ := DataW.trod_int Yba.underlying3 h6
  simp [Value.cells, Yba.cells22, Yba.cells4, Yba.cells5, Yba.cells3] at e0 e1 e2 e3 e4 e5 e6
  subst e0 e1 e2 e3 e4 e5 e6
  simp at hx
  obtain ⟨rfl, rfl⟩ := hx
  refine ⟨h, l, b, n, lo, hi, ver, rfl, rfl, rfl, fun W' sp' => ⟨2, ?_⟩⟩
  have := trod_struct_mk (enc := enc) (w := W') (base := 0) (spare := sp') (held := true) (n := 1) (cs := (row h l b n lo hi ver).toList)
    (xs := [(.lit (.int .u64 h), []), (.lit (.bool l), []), (.lit (.int .u64 b), []), (.lit (.int .u8 n), []), (.lit (.int .u64 lo), []), (.lit (.int .u64 hi), []), (.lit (.int .i64 ver), [])])
    Yba.underlying24 (by simp [Yba.cells24])
    (by simp [Yba.cells22, Yba.cells4, Yba.cells5, Yba.cells3, DataW.trod, Yba.underlying22, Yba.underlying4, Yba.underlying5, Yba.underlying3, k0, k2, k3, k4, k5, k6])
  simpa [Value.cells] using this

set_option maxRecDepth 100000 in
theorem exactLifted (os : Os) (started : os.Started) (H : Type) (enc : TypeId × Value → H) :
    ReturnsInHanded {} Yba.checked os 3 .any (Rows.lawS1034CExactSpec.pre6 enc Yba.prog Yba.f3 Rows.lawS1034CExactRow.domain false) (Rows.lawS1034CExactSpec.post enc Yba.prog Yba.f3 false true false false) := by
  refine returnsInHanded_of_change (C := Yba.checked) exactOwn started (by kernel_rfl) Yba.func3
    (ChangeSpec.witness6 (enc := enc) (C := Yba.checked) false ⟨#[], #[sub 0 false 0 0 0 0 0], []⟩ 8 (by kernel_rfl) (by kernel_rfl) (by kernel_rfl) (by kernel_rfl)) ?_
  intro W base args ds gs before hval0 hW hcnd _
  have hval : ∀ (j : Nat) t v, Yba.f3.params[j]? = some t → args[j]? = some v → Value.okWide Yba.prog W .any base t v := hval0
  have hW' := hW
  obtain ⟨p, q, hA0, hV, rfl, hfz, hnd⟩ := hW
  have hA : DataW.TrodAll enc Yba.prog W 0 (fun _ => true) true Yba.f3.params.toList args.toList ds p := hA0
  rw [Yba.params3] at hA hval
  obtain ⟨v0, d0, rfl, rfl, h0⟩ := trodAll_one hA
  obtain ⟨rfl, rfl⟩ := trodVars_none hV
  obtain ⟨h, l, b, n, lo, hi, ver, rfl, rfl, rfl, back⟩ := open24 (hval 0 24 v0 rfl rfl) h0
  clear hA0 hval0
  simp only [List.append_nil] at hW'
  have walk : Calls Yba.prog 3 #[sub h l b n lo hi ver] W fun e w' => e = .returned (.bool true) ∧ Grown W w' := by
    cases l
    · exact exact_node h b n lo hi ver W
    · exact exact_leaf h b n lo hi ver W
  refine walk.mono fun e W' ⟨he, hg⟩ => ?_
  subst he
  exact ⟨_, rfl, post_of_same (pa := []) (pv := []) hW' (fun _ _ _ => (trodAll_cons_mk (shut_bool Yba.underlying4 _) trodAll_mk0)) (fun sp _ => trodAll_mk1 (back _ sp)) (fun _ _ => rfl) rfl
    (hg.frame _) hg.2.1 (ok_one (by kernel_rfl) rfl (okWide_bool_mk Yba.underlying4 _))⟩

theorem exactOver : Rows.lawS1034CExactRow.holds Yba.pinned (OpenSpec.ofChange Rows.lawS1034CExactSpec) :=
  OpenClaim.holds_of_wide 3 Yba.f3 rfl rfl rfl rfl rfl rfl rfl ⟨rfl, rfl, rfl, rfl, rfl⟩ rfl rfl rfl rfl rfl (by kernel_rfl) Yba.func3 (by kernel_rfl)
    (of_decide_eq_true (by kernel_rfl)) (by unfold Func.isWrapper; first | (rw [if_pos (by decide +kernel)]; kernel_rfl) | (rw [if_neg (by decide +kernel)]; exact ⟨rfl, rfl⟩))
    (fun os started H enc _ => exactLifted os started H enc)

theorem lawS1034CExact_proved : Rows.LawS1034CExactSaid :=
  exactOver
end Go.Proofs.Ybulkuju
