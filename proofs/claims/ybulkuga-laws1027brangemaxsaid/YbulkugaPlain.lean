/-
  The plain law behind LawS1027BRangeMax: a heap-shaped row of maxima holds at each node the greatest leaf below it. No Go in sight.
-/
namespace Go.Proofs.Ybulkuga

/-- The greatest of L lo, .., L (lo + c). -/
def rmax (L : Nat → Int) (lo : Nat) : Nat → Int
  | 0 => L lo
  | c + 1 => max (rmax L lo c) (L (lo + (c + 1)))

theorem rmax_join (L : Nat → Int) (lo a : Nat) : ∀ b, rmax L lo (a + 1 + b) = max (rmax L lo a) (rmax L (lo + a + 1) b)
  | 0 => by simp [rmax, Nat.add_assoc]
  | b + 1 => by
    have ih := rmax_join L lo a b
    have e : a + 1 + (b + 1) = (a + 1 + b) + 1 := by omega
    rw [e, rmax, ih, rmax]
    have e2 : lo + (a + 1 + b + 1) = lo + a + 1 + (b + 1) := by omega
    rw [e2, Int.max_assoc]

theorem node (T L : Nat → Int) (m : Nat) (hmid : ∀ j, 0 < j → j < 2 ^ m → T j = max (T (2 * j)) (T (2 * j + 1))) (hleaf : ∀ j, j < 2 ^ m → T (2 ^ m + j) = L j) :
    ∀ e, e ≤ m → ∀ q, q < 2 ^ (m - e) → T (2 ^ (m - e) + q) = rmax L (q * 2 ^ e) (2 ^ e - 1)
  | 0, _, q, hq => by
    simp only [Nat.sub_zero, Nat.pow_zero, Nat.mul_one, Nat.sub_self, rmax] at hq ⊢
    exact hleaf q hq
  | e + 1, he, q, hq => by
    obtain ⟨d, hd⟩ : ∃ d, m = d + (e + 1) := ⟨m - (e + 1), by omega⟩
    have e1 : m - (e + 1) = d := by omega
    have e2 : m - e = d + 1 := by omega
    rw [e1] at hq ⊢
    have ih := node T L m hmid hleaf e (by omega)
    rw [e2] at ih
    have hp : (2 : Nat) ^ (d + 1) = 2 * 2 ^ d := by rw [Nat.pow_succ]; omega
    have hpe : (2 : Nat) ^ (e + 1) = 2 * 2 ^ e := by rw [Nat.pow_succ]; omega
    have hle : (2 : Nat) ^ (d + 1) ≤ 2 ^ m := Nat.pow_le_pow_right (by omega) (by omega)
    have h1 : 1 ≤ (2 : Nat) ^ d := Nat.one_le_two_pow
    have h1e : 1 ≤ (2 : Nat) ^ e := Nat.one_le_two_pow
    rw [hmid (2 ^ d + q) (by omega) (by omega)]
    have a1 : 2 * (2 ^ d + q) = 2 ^ (d + 1) + 2 * q := by omega
    have a2 : 2 * (2 ^ d + q) + 1 = 2 ^ (d + 1) + (2 * q + 1) := by omega
    rw [a2, a1, ih (2 * q) (by omega), ih (2 * q + 1) (by omega)]
    have b1 : 2 * q * 2 ^ e = q * 2 ^ (e + 1) := by rw [hpe, Nat.mul_comm 2 q, Nat.mul_assoc]
    have b2 : (2 * q + 1) * 2 ^ e = q * 2 ^ (e + 1) + (2 ^ e - 1) + 1 := by rw [Nat.add_mul, b1]; omega
    have b3 : 2 ^ (e + 1) - 1 = 2 ^ e - 1 + 1 + (2 ^ e - 1) := by omega
    rw [b1, b2, b3, rmax_join]

/-- Where the halving stops. -/
theorem halted (T L : Nat → Int) (n i t : Nat) (h2 : ∃ m, n = 2 ^ m) (hmid : ∀ j, 0 < j → j < n → T j = max (T (2 * j)) (T (2 * j + 1))) (hleaf : ∀ j, j < n → T (n + j) = L j)
    (hi : i < 2 * n) (ht : i / 2 ^ t = 1) :
    ∃ wd p lo, n / 2 ^ t = wd ∧ 1 ≤ wd ∧ n / wd = p ∧ p ≤ i ∧ (i - p) * wd = lo ∧ lo + wd ≤ n ∧ T i = rmax L lo (wd - 1) := by
  obtain ⟨m, rfl⟩ := h2
  have hp : 0 < (2 : Nat) ^ t := Nat.two_pow_pos t
  have hlo : 2 ^ t ≤ i := by
    rcases Nat.lt_or_ge i (2 ^ t) with h | h
    · rw [Nat.div_eq_of_lt h] at ht; omega
    · exact h
  have hhi : i < 2 * 2 ^ t := by
    have := Nat.lt_mul_div_succ i hp
    rw [ht] at this
    omega
  have htm : t ≤ m := by
    rcases Nat.lt_or_ge m t with h | h
    · have h3 : (2 : Nat) ^ (m + 1) ≤ 2 ^ t := Nat.pow_le_pow_right (by omega) h
      rw [Nat.pow_succ] at h3
      omega
    · exact h
  have hw : (2 : Nat) ^ m / 2 ^ t = 2 ^ (m - t) := Nat.pow_div htm (by omega)
  have hq : (2 : Nat) ^ m / 2 ^ (m - t) = 2 ^ t := by
    rw [Nat.pow_div (by omega) (by omega)]
    congr 1
    omega
  have hmul : (2 : Nat) ^ t * 2 ^ (m - t) = 2 ^ m := by rw [← Nat.pow_add]; congr 1; omega
  refine ⟨2 ^ (m - t), 2 ^ t, (i - 2 ^ t) * 2 ^ (m - t), hw, Nat.one_le_two_pow, hq, hlo, rfl, ?_, ?_⟩
  · have h4 : (i - 2 ^ t + 1) * 2 ^ (m - t) ≤ 2 ^ t * 2 ^ (m - t) := Nat.mul_le_mul_right _ (by omega)
    rw [Nat.add_mul, Nat.one_mul, hmul] at h4
    exact h4
  · have e1 : m - (m - t) = t := by omega
    have := node T L m hmid hleaf (m - t) (by omega) (i - 2 ^ t) (by rw [e1]; omega)
    rw [e1] at this
    have e2 : 2 ^ t + (i - 2 ^ t) = i := by omega
    rw [e2] at this
    exact this
end Go.Proofs.Ybulkuga
