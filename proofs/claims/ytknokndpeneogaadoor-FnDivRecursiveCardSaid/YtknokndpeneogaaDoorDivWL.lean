/-
  divWW whole, and the walks of the laws FnReciprocal and FnDivWW. Conditions: the arguments are words.
-/
import Derived.Test.YtknokndpeneogaaDoorDivWW
import Derived.Test.YtknokndpeneogaaDoorDivM
import Derived.Test.YtknokndpeneogaaDoorBitOps
import Derived.Test.YtknokndpeneogaaDoorgShift
import Derived.Test.YtknokndpeneogaaDoorTruncL
set_option linter.unusedSimpArgs false
set_option linter.unusedVariables false
namespace Go.Proofs.YtknokndpeneogaaDoor
open Go.Big Go.RowKit
theorem borrow_eq2 {x y c : Int} (hx0 : 0 ≤ x) (hx1 : x < 18446744073709551616) (hy0 : 0 ≤ y) (hy1 : y < 18446744073709551616) (hc0 : 0 ≤ c) (hc1 : c ≤ 1) : x - y - c = (x - y - c) % 18446744073709551616 - 18446744073709551616 * borrow x y c ∧ 0 ≤ borrow x y c ∧ borrow x y c ≤ 1 := by
  unfold borrow
  split <;> omega
/-- quotient and rest are what they must be -/
theorem quo_uniq {N y P q ρ : Int} (hy : 0 < y) (hP : 0 < P) (h : N * P = y * P * q + ρ) (h0 : 0 ≤ ρ) (h1 : ρ < y * P) : q = N / y ∧ ρ / P = N % y ∧ ρ = N % y * P := by
  have e : ρ = P * (N - y * q) := by grind
  have g0 : 0 ≤ N - y * q := Int.nonneg_of_mul_nonneg_right (by rw [← e]; exact h0) hP
  have g1 : N - y * q < y := by
    have : P * (N - y * q) < P * y := by rw [← e, Int.mul_comm P]; exact h1
    exact Int.lt_of_mul_lt_mul_left this (Int.le_of_lt hP)
  have hN : N = (N - y * q) + y * q := by omega
  have d1 : N / y = q := by
    conv => lhs; rw [hN]
    rw [Int.add_mul_ediv_left _ _ (by omega), Int.ediv_eq_zero_of_lt g0 g1, Int.zero_add]
  have d2 : N % y = N - y * q := by
    conv => lhs; rw [hN]
    rw [Int.add_mul_emod_self_left, Int.emod_eq_of_lt g0 g1]
  refine ⟨d1.symm, ?_, by rw [d2, e, Int.mul_comm]⟩
  rw [d2, e, Int.mul_ediv_cancel_left _ (by omega)]
theorem divWW_any (x1 x0 y : Int) (L : Nat) (w : World) (h10 : 0 ≤ x1) (h1y : x1 < y) (h00 : 0 ≤ x0) (h0W : x0 < 18446744073709551616) (hyW : y < 18446744073709551616) (hL : IsLen y L) :
    Calls Tryd.prog 146 #[.int .u64 x1, .int .u64 x0, .int .u64 y, .int .u64 (rcp (y * 2 ^ (64 - L)))] w fun e w' => e = .returned (.tuple #[.int .u64 ((x1 * 18446744073709551616 + x0) / y), .int .u64 ((x1 * 18446744073709551616 + x0) % y)]) ∧ w = w' := by
  have hy0 : 0 < y := by omega
  have hL64 : L ≤ 64 := by
    have := bitLen_le64 y (by omega) hyW
    rw [(isLen_word y (by omega) hyW).unique hL] at this
    exact this
  obtain ⟨n1, n2, n3⟩ := norm_word hL hy0 hL64
  have CN : Calls Tryd.prog 136 #[.int .u64 y] w fun e w' => e = .returned (.int .u64 ((64 - L : Nat) : Int)) ∧ w = w' := (nlz_any y w (by omega) hyW).mono fun e w' ⟨⟨L', he, hl, hl9⟩, hw⟩ => by
    obtain rfl := hl.unique hL
    exact ⟨by rw [he]; congr 2; omega, hw⟩
  obtain ⟨S, hS⟩ : ∃ S, S = 64 - L := ⟨_, rfl⟩
  rw [← hS] at n1 n2 CN ⊢
  have hS64 : S < 64 := by omega
  obtain ⟨P, hP⟩ : ∃ P : Int, P = 2 ^ S := ⟨_, rfl⟩
  obtain ⟨Q2, hQ2⟩ : ∃ Q2 : Int, Q2 = 2 ^ (64 - S) := ⟨_, rfl⟩
  have hP0 : 0 < P := by rw [hP]; exact pow_pos_ (by omega) _
  have hQ0 : 0 < Q2 := by rw [hQ2]; exact pow_pos_ (by omega) _
  have hPQ : P * Q2 = 18446744073709551616 := by rw [hP, hQ2, ← Int.pow_add, show S + (64 - S) = 64 by omega]; rfl
  rw [← hP] at n1 n2 ⊢
  obtain ⟨D, hD⟩ : ∃ D, D = y * P := ⟨_, rfl⟩
  rw [← hD] at n1 n2 ⊢
  obtain ⟨m0, m1, m2, m3⟩ := rcp_bounds n1 n2
  obtain ⟨m, hm⟩ : ∃ m, m = rcp D := ⟨_, rfl⟩
  rw [← hm] at m0 m1 m2 m3 ⊢
  obtain ⟨s1, s2, s3⟩ := dww_scale (y := y) (s := 0) P Q2 hP0 hPQ h10 h1y h00 h0W hQ0
  obtain ⟨X1, hX1⟩ : ∃ X1, X1 = x1 * P + x0 / Q2 := ⟨_, rfl⟩
  obtain ⟨X0, hX0⟩ : ∃ X0, X0 = (x0 * P) % 18446744073709551616 := ⟨_, rfl⟩
  rw [← hX1] at s1 s2 s3
  rw [← hX0] at s1
  rw [← hD] at s2
  have t0 : 0 ≤ X0 ∧ X0 < 18446744073709551616 := by omega
  have pA0 : 0 ≤ m * X1 := Int.mul_nonneg m0 s3
  have pA1 : m * X1 ≤ 18446744073709551615 * 18446744073709551615 := Int.mul_le_mul (by omega) (by omega) s3 (by omega)
  have CM1 := Lib.hid (fun W => bmul_any m X1 W m0 m1 s3 (by omega))
  obtain ⟨A1, hA1⟩ : ∃ A1, A1 = m * X1 / 18446744073709551616 := ⟨_, rfl⟩
  obtain ⟨A0, hA0⟩ : ∃ A0, A0 = m * X1 % 18446744073709551616 := ⟨_, rfl⟩
  simp only [← hA1, ← hA0] at CM1
  have hA : A1 * 18446744073709551616 + A0 = m * X1 := by omega
  have hA0b : 0 ≤ A0 ∧ A0 < 18446744073709551616 := by omega
  have hA1b : 0 ≤ A1 ∧ A1 < 18446744073709551616 := by omega
  have CA1 := Lib.hid (fun W => badd_any A0 X0 0 W hA0b.1 hA0b.2 t0.1 t0.2 (by omega) (by omega))
  obtain ⟨g0, hg0⟩ : ∃ g0, g0 = (A0 + X0 + 0) % 18446744073709551616 := ⟨_, rfl⟩
  obtain ⟨c1, hc1⟩ : ∃ c1, c1 = (A0 + X0 + 0) / 18446744073709551616 := ⟨_, rfl⟩
  simp only [← hg0, ← hc1] at CA1
  have hc1b : 0 ≤ c1 ∧ c1 ≤ 1 := by omega
  have CA2 := Lib.hid (fun W => badd_any A1 X1 c1 W hA1b.1 hA1b.2 s3 (by omega) hc1b.1 hc1b.2)
  obtain ⟨q, hq⟩ : ∃ q, q = (A1 + X1 + c1) % 18446744073709551616 := ⟨_, rfl⟩
  obtain ⟨c2, hc2⟩ : ∃ c2, c2 = (A1 + X1 + c1) / 18446744073709551616 := ⟨_, rfl⟩
  simp only [← hq, ← hc2] at CA2
  have hqb : 0 ≤ q ∧ q < 18446744073709551616 := by omega
  have pB0 : 0 ≤ D * q := Int.mul_nonneg (by omega) hqb.1
  have pB1 : D * q ≤ 18446744073709551615 * 18446744073709551615 := Int.mul_le_mul (by omega) (by omega) hqb.1 (by omega)
  have CM2 := Lib.hid (fun W => bmul_any D q W (by omega) n2 hqb.1 hqb.2)
  obtain ⟨B1, hB1⟩ : ∃ B1, B1 = D * q / 18446744073709551616 := ⟨_, rfl⟩
  obtain ⟨B0, hB0⟩ : ∃ B0, B0 = D * q % 18446744073709551616 := ⟨_, rfl⟩
  simp only [← hB1, ← hB0] at CM2
  have hB : B1 * 18446744073709551616 + B0 = D * q := by omega
  have hB0b : 0 ≤ B0 ∧ B0 < 18446744073709551616 := by omega
  have hB1b : 0 ≤ B1 ∧ B1 < 18446744073709551616 := by omega
  have CS1 := Lib.hid (fun W => bsub_any X0 B0 0 W t0.1 t0.2 hB0b.1 hB0b.2 (by omega) (by omega))
  obtain ⟨b1, b2, b3⟩ := borrow_eq2 t0.1 t0.2 hB0b.1 hB0b.2 (show (0 : Int) ≤ 0 by omega) (by omega)
  obtain ⟨r0, hr0⟩ : ∃ r0, r0 = (X0 - B0 - 0) % 18446744073709551616 := ⟨_, rfl⟩
  obtain ⟨bb, hbb⟩ : ∃ bb, bb = borrow X0 B0 0 := ⟨_, rfl⟩
  simp only [← hr0, ← hbb] at CS1
  rw [← hr0, ← hbb] at b1
  rw [← hbb] at b2 b3
  have CS2 := Lib.hid (fun W => bsub_any X1 B1 bb W s3 (by omega) hB1b.1 hB1b.2 b2 b3)
  obtain ⟨d1, d2, d3⟩ := borrow_eq2 s3 (show X1 < 18446744073709551616 by omega) hB1b.1 hB1b.2 b2 b3
  obtain ⟨r1, hr1⟩ : ∃ r1, r1 = (X1 - B1 - bb) % 18446744073709551616 := ⟨_, rfl⟩
  obtain ⟨bb2, hbb2⟩ : ∃ bb2, bb2 = borrow X1 B1 bb := ⟨_, rfl⟩
  simp only [← hr1, ← hbb2] at CS2
  rw [← hr1, ← hbb2] at d1
  rw [← hbb2] at d2 d3
  have hr0b : 0 ≤ r0 ∧ r0 < 18446744073709551616 := by omega
  have hr1b : 0 ≤ r1 ∧ r1 < 18446744073709551616 := by omega
  obtain ⟨k1, k2, k3⟩ := dww_core n1 n2 m0 m1 m2 m3 s3 s2 t0.1 t0.2 hA hA0b (by omega : A0 + X0 = g0 + 18446744073709551616 * c1) (by omega) (by omega : A1 + X1 + c1 = q + 18446744073709551616 * c2) hqb (by omega) hB (by omega : X0 - B0 = r0 - 18446744073709551616 * bb) hr0b d1 hr1b d2
  obtain ⟨N, hN⟩ : ∃ N, N = x1 * 18446744073709551616 + x0 := ⟨_, rfl⟩
  rw [← hN] at s1 ⊢
  have hNy : N < y * 18446744073709551616 := by
    have : (x1 + 1) * 18446744073709551616 ≤ y * 18446744073709551616 := by omega
    omega
  have hQn : N / y < 18446744073709551616 := Int.ediv_lt_of_lt_mul hy0 (by rw [Int.mul_comm]; exact hNy)
  have U : ∀ q' ρ, N * P = D * q' + ρ → 0 ≤ ρ → ρ < D → q' = N / y ∧ ρ / P = N % y ∧ ρ = N % y * P := by
    intro q' ρ h h0 h1
    rw [hD] at h h1
    exact quo_uniq hy0 hP0 h h0 h1
  have e1 : N * P = D * q + (r1 * 18446744073709551616 + r0) := by rw [← s1]; exact k1
  have V1 : r1 = 0 → r0 < D → q = N / y ∧ r0 / P = N % y ∧ r0 = N % y * P := fun h h' => U q r0 (by rw [e1, h]; omega) hr0b.1 h'
  have V2 : r1 = 0 → D ≤ r0 → q + 1 = N / y ∧ (r0 - D) / P = N % y ∧ r0 - D = N % y * P := fun h h' => U (q + 1) (r0 - D) (by rw [e1, h, Int.mul_add]; omega) (by omega) (by omega)
  have V3 : r1 = 1 → r0 + 18446744073709551616 - D < D → q + 1 = N / y ∧ (r0 + 18446744073709551616 - D) / P = N % y ∧ r0 + 18446744073709551616 - D = N % y * P := fun h h' => U (q + 1) _ (by rw [e1, h, Int.mul_add]; omega) (by omega) h'
  have V4 : r1 = 1 → D ≤ r0 + 18446744073709551616 - D → q + 2 = N / y ∧ (r0 + 18446744073709551616 - D - D) / P = N % y ∧ r0 + 18446744073709551616 - D - D = N % y * P := fun h h' => U (q + 2) _ (by rw [e1, h, Int.mul_add]; omega) (by omega) (by rw [h] at k3; omega)
  have K0 := Lib.hid (show r1 = 1 → r0 < D from fun h => by rw [h] at k3; omega)
  by_cases hS0 : S = 0
  · have hP1 : P = 1 := by rw [hP, hS0]; rfl
    have hD1 : D = y := by rw [hD, hP1, Int.mul_one]
    have hX1e : X1 = x1 := by rw [hX1, hP1, Int.mul_one, show Q2 = 18446744073709551616 by rw [hP1, Int.one_mul] at hPQ; exact hPQ, Int.ediv_eq_zero_of_lt h00 h0W]; omega
    have hX0e : X0 = x0 := by rw [hX0, hP1, Int.mul_one]; omega
    subst hD1 hX1e hX0e
    simp only [hP1, Int.mul_one] at V1 V2 V3 V4
    rw [hS0] at CN
    exact dww_s0 X1 X0 D m A1 A0 c1 g0 q c2 B1 B0 r0 bb r1 bb2 w s3 (by omega) t0.1 t0.2 m0 m1 n1 n2 CM1 CA1 CA2 CM2 CS1 CS2 hr0b.1 hr0b.2 hqb.1 hqb.2 k2 (N % D) (N / D) K0
      (Lib.hid fun h h' => ⟨(V1 h h').1, (V1 h h').2.2⟩) (Lib.hid fun h h' => ⟨(V2 h h').1, by rw [(V2 h h').1]; exact hQn, (V2 h h').2.2⟩) (Lib.hid fun h h' => ⟨(V3 h h').1, (V3 h h').2.2⟩) (Lib.hid fun h h' => ⟨(V4 h h').1, by rw [(V4 h h').1]; exact hQn, (V4 h h').2.2⟩) hQn (Lib.hid CN)
  · have ha0 : 0 ≤ x1 * P := Int.mul_nonneg h10 (by omega)
    have hbb0 : 0 ≤ x0 / Q2 := Int.ediv_nonneg h00 (by omega)
    have haW : x1 * P < 18446744073709551616 := by omega
    have hor : bits .or .u64 (x1 * P) (x0 / Q2) = X1 := by
      have h := or_shift x1 x0 S (by omega) hS64 h10 h00 h0W
      rw [← hP, ← hQ2, IntKind.wrap_u64, Int.emod_eq_of_lt ha0 haW] at h
      rw [h, hX1]
    exact dww_s1 X1 X0 D m A1 A0 c1 g0 q c2 B1 B0 r0 bb r1 bb2 w s3 (by omega) t0.1 t0.2 m0 m1 n1 n2 CM1 CA1 CA2 CM2 CS1 CS2 hr0b.1 hr0b.2 hqb.1 hqb.2 k2 (N % y) (N / y) P Q2 (x1 * P) (x0 / Q2) x1 x0 y S (by omega) hS64 hP.symm hQ2.symm rfl rfl ha0 haW hor (by rw [IntKind.wrap_u64, hX0]) hD.symm h10 h00 h0W hy0 K0
      (Lib.hid fun h h' => ⟨(V1 h h').1, (V1 h h').2.1⟩) (Lib.hid fun h h' => ⟨(V2 h h').1, by rw [(V2 h h').1]; exact hQn, (V2 h h').2.1⟩) (Lib.hid fun h h' => ⟨(V3 h h').1, (V3 h h').2.1⟩) (Lib.hid fun h h' => ⟨(V4 h h').1, by rw [(V4 h h').1]; exact hQn, (V4 h h').2.1⟩) hQn (Lib.hid CN)
end Go.Proofs.YtknokndpeneogaaDoor
