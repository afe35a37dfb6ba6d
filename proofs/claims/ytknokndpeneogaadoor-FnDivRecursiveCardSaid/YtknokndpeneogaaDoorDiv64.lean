/-
  Two words by one, digit by digit: the plain arithmetic. No program in sight.
-/
set_option linter.unusedSimpArgs false
set_option linter.unusedVariables false
namespace Go.Big
/-- what a digit's guess is, at the head of the loop that lowers it: y1 and y0 are the halves of the divisor, u·H + n is what is divided -/
theorem dig_start {H u n y y1 y0 : Int} (hH : 0 < H) (hy : y = y1 * H + y0) (h0 : 0 ≤ y0) (h0H : y0 < H) (h1 : H ≤ 2 * y1) (hn : 0 ≤ n) (hnH : n < H) (hu : 0 ≤ u) (huy : u < y) :
    (u * H + n) / y ≤ u / y1 ∧ u / y1 ≤ H + 1 ∧ 0 ≤ u / y1 ∧ 0 ≤ u - u / y1 * y1 ∧ u - u / y1 * y1 < y1 := by
  have hy1 : 0 < y1 := by omega
  have hyp : 0 < y := by rw [hy]; have := Int.mul_pos hy1 hH; omega
  have e := Int.emod_add_mul_ediv u y1
  have e1 := Int.emod_nonneg u (show y1 ≠ 0 by omega)
  have e2 := Int.emod_lt_of_pos u hy1
  rw [Int.mul_comm y1] at e
  refine ⟨?_, ?_, Int.ediv_nonneg hu (by omega), by omega, by omega⟩
  · refine Int.le_ediv_of_mul_le hy1 ?_
    obtain ⟨Q, hQ⟩ : ∃ Q, Q = (u * H + n) / y := ⟨_, rfl⟩
    rw [← hQ]
    have f := Int.emod_add_mul_ediv (u * H + n) y
    have f1 := Int.emod_nonneg (u * H + n) (show y ≠ 0 by omega)
    rw [← hQ] at f
    have hQ0 : 0 ≤ Q := by rw [hQ]; exact Int.ediv_nonneg (by have := Int.mul_nonneg hu (Int.le_of_lt hH); omega) (by omega)
    have g : Q * y1 * H ≤ y * Q := by
      have : 0 ≤ Q * y0 := Int.mul_nonneg hQ0 h0
      rw [hy]; grind
    have g2 : Q * y1 * H < (u + 1) * H := by rw [Int.add_mul, Int.one_mul]; omega
    have := Int.lt_of_mul_lt_mul_right g2 (Int.le_of_lt hH)
    omega
  · have : u < y1 * (H + 2) := by rw [Int.mul_add]; omega
    have h2 : u / y1 < H + 2 := Int.ediv_lt_of_lt_mul hy1 (by rw [Int.mul_comm]; exact this)
    omega
/-- the guess is too great: it is lowered -/
theorem dig_go {H u n y y1 y0 q r : Int} (hH : 0 < H) (hy : y = y1 * H + y0) (hyp : 0 < y) (hn : 0 ≤ n) (hnH : n < H) (hu : 0 ≤ u) (huy : u < y) (hr : q * y1 + r = u) (h : H ≤ q ∨ H * r + n < q * y0) :
    (u * H + n) / y ≤ q - 1 := by
  have f := Int.emod_add_mul_ediv (u * H + n) y
  have f1 := Int.emod_nonneg (u * H + n) (show y ≠ 0 by omega)
  obtain ⟨Q, hQ⟩ : ∃ Q, Q = (u * H + n) / y := ⟨_, rfl⟩
  rw [← hQ] at f ⊢
  rcases h with h | h
  · have : Q < H := by
      have h3 : y * Q < y * H := by
        have h4 : (u + 1) * H ≤ y * H := Int.mul_le_mul_of_nonneg_right (by omega) (by omega)
        rw [Int.add_mul, Int.one_mul] at h4
        omega
      exact Int.lt_of_mul_lt_mul_left h3 (by omega)
    omega
  · have : y * Q < y * q := by
      have e : y * q = u * H - H * r + q * y0 := by rw [hy, ← hr]; grind
      omega
    have := Int.lt_of_mul_lt_mul_left this (by omega)
    omega
/-- the guess stands -/
theorem dig_stop {H u n y y1 y0 q r : Int} (hy : y = y1 * H + y0) (hyp : 0 < y) (hr : q * y1 + r = u) (hQ : (u * H + n) / y ≤ q) (h : q * y0 ≤ H * r + n) : q = (u * H + n) / y := by
  have : q * y ≤ u * H + n := by
    have e : q * y = u * H - H * r + q * y0 := by rw [hy, ← hr]; grind
    omega
  have := Int.le_ediv_of_mul_le hyp this
  omega
/-- the loop is left: the rest has grown past a digit -/
theorem dig_break {H u n y y1 y0 q r : Int} (hH : 0 < H) (hy : y = y1 * H + y0) (hyp : 0 < y) (h0 : 0 ≤ y0) (h0H : y0 < H) (hn : 0 ≤ n) (hr : q * y1 + r = u) (hQ : (u * H + n) / y ≤ q) (hq0 : 0 ≤ q) (hqH : q ≤ H) (h : H ≤ r) : q = (u * H + n) / y := by
  refine dig_stop hy hyp hr hQ ?_
  have h1 : q * y0 ≤ H * (H - 1) := Int.mul_le_mul hqH (by omega) h0 (by omega)
  have h2 : H * H ≤ H * r := Int.mul_le_mul_of_nonneg_left h (by omega)
  rw [Int.mul_sub] at h1
  omega
/-- the digit is below H, what is left is below the divisor -/
theorem dig_rest {H u n y Q : Int} (hH : 0 < H) (hyp : 0 < y) (hn : 0 ≤ n) (hnH : n < H) (hu : 0 ≤ u) (huy : u < y) (hQ : Q = (u * H + n) / y) : 0 ≤ Q ∧ Q < H ∧ 0 ≤ u * H + n - Q * y ∧ u * H + n - Q * y < y := by
  have f := Int.emod_add_mul_ediv (u * H + n) y
  have f1 := Int.emod_nonneg (u * H + n) (show y ≠ 0 by omega)
  have f2 := Int.emod_lt_of_pos (u * H + n) hyp
  rw [← hQ, Int.mul_comm y] at f
  refine ⟨?_, ?_, by omega, by omega⟩
  · rw [hQ]; exact Int.ediv_nonneg (by have := Int.mul_nonneg hu (Int.le_of_lt hH); omega) (by omega)
  · have h3 : Q * y < H * y := by
      have h4 : (u + 1) * H ≤ y * H := Int.mul_le_mul_of_nonneg_right (by omega) (by omega)
      rw [Int.add_mul, Int.one_mul, Int.mul_comm y] at h4
      omega
    exact Int.lt_of_mul_lt_mul_right h3 (by omega)
/-- the two digits together -/
theorem dig_two {H u n m y Q t R : Int} (hyp : 0 < y) (ht : t = u * H + n - Q * y) (hR : R = (t * H + m) / y) :
    (u * (H * H) + (n * H + m)) / y = Q * H + R ∧ (u * (H * H) + (n * H + m)) % y = t * H + m - R * y := by
  have e : u * (H * H) + (n * H + m) = (t * H + m) + y * (Q * H) := by rw [ht]; grind
  have f := Int.emod_add_mul_ediv (t * H + m) y
  rw [← hR] at f
  rw [e, Int.add_mul_ediv_left _ _ (by omega), Int.add_mul_emod_self_left, ← hR]
  constructor
  · omega
  · rw [Int.mul_comm R]; omega
/-- modulo a word, what is below a word stays -/
theorem wrap_diff {W a b c t : Int} (h0 : 0 ≤ t) (h1 : t < W) (h : t = a + b - c) : ((a % W + b) % W - c % W) % W = t := by
  rw [Int.sub_emod_emod]
  have e : ((a % W + b) % W - c) % W = (a + b - c) % W := by
    rw [← Int.emod_sub_emod, Int.emod_emod_of_dvd _ (Int.dvd_refl W), Int.emod_add_emod, Int.emod_sub_emod]
  rw [e, ← h]
  exact Int.emod_eq_of_lt h0 h1
end Go.Big
