/-
  The contract of zzs1029bcheck, way by way.
-/
import Derived.Test.YbulkuhcFmtLevel
namespace Go.Proofs.YbulkuhcFmt
open Go.RowKit Go.Extern.Stop Go.Stop Go.Extern
set_option linter.unusedVariables false

theorem check_empty (a : Option Addr) (cap : Nat) (p ea : Addr) (w : World) (hg : w.cell? ⟨0, 0, none⟩ = some (.iface 62 (.pointer (some ea))))
    (hq : (binOp .neq 40 (.iface 62 (.pointer (some p))) (.iface 62 (.pointer (some ea)))).run Ybaf.prog w = .ok (.bool true) w) :
    Calls Ybaf.prog 10 #[.slice a 0 cap, .int .i64 0, .iface 62 (.pointer (some p))] w fun e w' => e = .returned (.bool true) ∧ w = w' := by
  go_enter Ybaf.func10, Ybaf.ntmps10
  go_wp2
  go_ret
  exact ⟨rfl, rfl⟩

theorem check_kind (b off len cap : Nat) (x : Int) (p ea : Addr) (w : World) (hl : 1 ≤ len) (hl4 : len ≤ 4096) (hc : w.cell? ⟨b, off, none⟩ = some (.int .u8 x)) (hx : (x != 3) = true) (hg : w.cell? ⟨0, 0, none⟩ = some (.iface 62 (.pointer (some ea))))
    (hq : (binOp .neq 40 (.iface 62 (.pointer (some p))) (.iface 62 (.pointer (some ea)))).run Ybaf.prog w = .ok (.bool true) w) :
    Calls Ybaf.prog 10 #[.slice (some ⟨b, off, none⟩) len cap, .int .i64 0, .iface 62 (.pointer (some p))] w fun e w' => e = .returned (.bool true) ∧ w = w' := by
  have h0 : ((len : Int) == 0) = false := by simp; omega
  have hI : (0 : Int) < (len : Int) := by omega
  go_enter Ybaf.func10, Ybaf.ntmps10
  go_wp2
  go_ret
  exact ⟨rfl, rfl⟩

theorem check_cut (b off len cap : Nat) (ea : Addr) (w : World) (hl : 1 ≤ len) (hl5 : len < 5) (hc : w.cell? ⟨b, off, none⟩ = some (.int .u8 3)) (hg : w.cell? ⟨0, 0, none⟩ = some (.iface 62 (.pointer (some ea)))) :
    Calls Ybaf.prog 10 #[.slice (some ⟨b, off, none⟩) len cap, .int .i64 0, .iface 62 (.pointer (some ea))] w fun e w' => e = .returned (.bool true) ∧ w = w' := by
  have h0 : ((len : Int) == 0) = false := by simp; omega
  have hI : (0 : Int) < (len : Int) := by omega
  have hq := eql_same w ea
  go_enter Ybaf.func10, Ybaf.ntmps10
  go_wp2
  go_ret
  exact ⟨rfl, rfl⟩

theorem check_past (b off len cap : Nat) (p ea : Addr) (w : World) (hl : 5 < len) (hl4 : len ≤ 4096) (hc : w.cell? ⟨b, off, none⟩ = some (.int .u8 3)) (hg : w.cell? ⟨0, 0, none⟩ = some (.iface 62 (.pointer (some ea))))
    (hq : (binOp .neq 40 (.iface 62 (.pointer (some p))) (.iface 62 (.pointer (some ea)))).run Ybaf.prog w = .ok (.bool true) w) :
    Calls Ybaf.prog 10 #[.slice (some ⟨b, off, none⟩) len cap, .int .i64 0, .iface 62 (.pointer (some p))] w fun e w' => e = .returned (.bool true) ∧ w = w' := by
  have h0 : ((len : Int) == 0) = false := by simp; omega
  have hI : (0 : Int) < (len : Int) := by omega
  go_enter Ybaf.func10, Ybaf.ntmps10
  go_wp2
  go_ret
  exact ⟨rfl, rfl⟩

theorem or_i64 (i : Nat) (x y : Int) (hx₀ : 0 ≤ x) (hx : x % 2 ^ i = 0) (hx₁ : x < 2 ^ 63) (hy₀ : 0 ≤ y) (hy : y < 2 ^ i) (hy₁ : y < 2 ^ 63) : bits .or .i64 x y = x + y :=
  bits_join .i64 63 (by decide) (fun n h₀ h₁ => by rw [IntKind.wrap_i64]; omega) i x y hx₀ hx hx₁ hy₀ hy hy₁

theorem want_eq (x1 x2 x3 x4 : Int) (h1 : 0 ≤ x1) (k1 : x1 ≤ 255) (h2 : 0 ≤ x2) (k2 : x2 ≤ 255) (h3 : 0 ≤ x3) (k3 : x3 ≤ 255) (h4 : 0 ≤ x4) (k4 : x4 ≤ 255) :
    bits BinOp.or IntKind.i64 (bits BinOp.or IntKind.i64 (bits BinOp.or IntKind.i64 (x1 * 16777216) (x2 * 65536)) (x3 * 256)) x4 = x4 + x3 * 256 + x2 * 65536 + x1 * 16777216 := by
  rw [or_i64 24 (x1 * 16777216) (x2 * 65536) (by omega) (by omega) (by omega) (by omega) (by omega) (by omega),
    or_i64 16 (x1 * 16777216 + x2 * 65536) (x3 * 256) (by omega) (by omega) (by omega) (by omega) (by omega) (by omega),
    or_i64 8 (x1 * 16777216 + x2 * 65536 + x3 * 256) x4 (by omega) (by omega) (by omega) (by omega) (by omega) (by omega)]
  omega

set_option maxHeartbeats 1000000 in
theorem check_ok (b off cap : Nat) (x1 x2 x3 x4 : Int) (w : World)
    (h1 : Byte x1) (h2 : Byte x2) (h3 : Byte x3) (h4 : Byte x4)
    (c0 : w.cell? ⟨b, off, none⟩ = some (.int .u8 3)) (c1 : w.cell? ⟨b, off + 1, none⟩ = some (.int .u8 x1)) (c2 : w.cell? ⟨b, off + 2, none⟩ = some (.int .u8 x2)) (c3 : w.cell? ⟨b, off + 3, none⟩ = some (.int .u8 x3)) (c4 : w.cell? ⟨b, off + 4, none⟩ = some (.int .u8 x4)) :
    Calls Ybaf.prog 10 #[.slice (some ⟨b, off, none⟩) 5 cap, .int .i64 (x4 + x3 * 256 + x2 * 65536 + x1 * 16777216), .nilIface] w fun e w' => e = .returned (.bool true) ∧ ∃ n, w' = w.drewN n := by
  obtain ⟨h1, k1⟩ := h1; obtain ⟨h2, k2⟩ := h2; obtain ⟨h3, k3⟩ := h3; obtain ⟨h4, k4⟩ := h4
  go_enter Ybaf.func10, Ybaf.ntmps10
  go_wp2
  go_quiet (fail)
  go_wp2
  go_ret
  refine ⟨?_, _, rfl⟩
  show Ending.returned (Value.bool _) = _
  rw [want_eq x1 x2 x3 x4 h1 k1 h2 k2 h3 k3 h4 k4, beq_self_eq_true]
end Go.Proofs.YbulkuhcFmt
