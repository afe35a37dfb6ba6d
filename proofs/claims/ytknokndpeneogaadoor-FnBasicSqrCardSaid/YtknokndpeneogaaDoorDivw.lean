/-
  Two words by one word: the arithmetic under divWW and bitsDiv64. No program in sight.
-/
set_option linter.unusedSimpArgs false
set_option linter.unusedVariables false
namespace Go.Big

/-- divWW: the quotient's guess by the reciprocal v (v·d is W² less k, 1 ≤ k ≤ d) is short by so little that the rest is below W + d -/
theorem guess_rest {W d v k x1 x0 q f : Int} (hd0 : 0 < d) (hdW : d ≤ W) (hk0 : 0 ≤ k) (hkd : k ≤ d) (hv : v * d = W * W - k) (h1 : 0 ≤ x1) (h1d : x1 < d) (h0 : 0 ≤ x0) (h0W : x0 < W)
    (hf0 : 0 ≤ f) (hfW : f < W) (hq : v * x1 + x0 = q * W + f) : 0 ≤ x1 * W + x0 - d * q ∧ x1 * W + x0 - d * q < W + d := by
  have e : W * (x1 * W + x0 - d * q) = k * x1 + (W - d) * x0 + d * f := by grind
  have a1 : 0 ≤ k * x1 := Int.mul_nonneg hk0 h1
  have a2 : 0 ≤ (W - d) * x0 := Int.mul_nonneg (by omega) h0
  have a3 : 0 ≤ d * f := Int.mul_nonneg (by omega) hf0
  have b1 : k * x1 ≤ d * W := Int.mul_le_mul hkd (by omega) h1 (by omega)
  have b2 : (W - d) * x0 ≤ (W - d) * (W - 1) := Int.mul_le_mul_of_nonneg_left (by omega) (by omega)
  have b3 : d * f ≤ d * (W - 1) := Int.mul_le_mul_of_nonneg_left (by omega) (by omega)
  have hW : 0 < W := by omega
  constructor
  · have : 0 ≤ W * (x1 * W + x0 - d * q) := by omega
    exact Int.nonneg_of_mul_nonneg_right this hW
  · have : W * (x1 * W + x0 - d * q) < W * (W + d) := by grind
    exact Int.lt_of_mul_lt_mul_left this (by omega)

/-- the upper word of a product, by halves -/
theorem mul64_up (x y : Int) (hx0 : 0 ≤ x) (hx1 : x < 18446744073709551616) (hy0 : 0 ≤ y) (hy1 : y < 18446744073709551616) :
    (((x / 4294967296 * (y / 4294967296)) % 18446744073709551616 + ((x / 4294967296 * (y % 4294967296)) % 18446744073709551616 + (x % 4294967296 * (y % 4294967296)) % 18446744073709551616 / 4294967296) % 18446744073709551616 / 4294967296) % 18446744073709551616 +
      (((x / 4294967296 * (y % 4294967296)) % 18446744073709551616 + (x % 4294967296 * (y % 4294967296)) % 18446744073709551616 / 4294967296) % 18446744073709551616 % 4294967296 + (x % 4294967296 * (y / 4294967296)) % 18446744073709551616) % 18446744073709551616 / 4294967296) % 18446744073709551616 = x * y / 18446744073709551616 := by
  obtain ⟨a, ha⟩ : ∃ a, a = x / 4294967296 := ⟨_, rfl⟩
  obtain ⟨b, hb⟩ : ∃ b, b = x % 4294967296 := ⟨_, rfl⟩
  obtain ⟨c, hc⟩ : ∃ c, c = y / 4294967296 := ⟨_, rfl⟩
  obtain ⟨d, hd⟩ : ∃ d, d = y % 4294967296 := ⟨_, rfl⟩
  have hx : x = a * 4294967296 + b := by omega
  have hy : y = c * 4294967296 + d := by omega
  rw [← ha, ← hb, ← hc, ← hd]
  have e : x * y = a * c * 18446744073709551616 + (a * d + b * c) * 4294967296 + b * d := by rw [hx, hy]; grind
  rw [e]
  have bd : ∀ u v : Int, 0 ≤ u → u ≤ 4294967295 → 0 ≤ v → v ≤ 4294967295 → 0 ≤ u * v ∧ u * v ≤ 18446744065119617025 := fun u v h1 h2 h3 h4 =>
    ⟨Int.mul_nonneg h1 h3, Int.mul_le_mul h2 h4 h3 (by omega)⟩
  have h1 := bd a c (by omega) (by omega) (by omega) (by omega)
  have h2 := bd a d (by omega) (by omega) (by omega) (by omega)
  have h3 := bd b c (by omega) (by omega) (by omega) (by omega)
  have h4 := bd b d (by omega) (by omega) (by omega) (by omega)
  generalize a * c = p at *
  generalize a * d = q at *
  generalize b * c = r at *
  generalize b * d = s at *
  omega

end Go.Big
