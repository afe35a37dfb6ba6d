/-
  divWW whole, and the walks of the laws FnReciprocal and FnDivWW. Conditions: the arguments are words.
-/
import Derived.Test.YtjapebgihnahjaaDivWW
import Derived.Test.YtjapebgihnahjaaDivM
import Derived.Test.YtjapebgihnahjaaBitOps
import Derived.Test.YtjapebgihnahjaaShift
import Derived.Test.YtjapebgihnahjaaTruncL
set_option linter.unusedSimpArgs false
set_option linter.unusedVariables false
namespace Go.Proofs.Ytjapebgihnahjaa
open Go.Big Go.RowKit
theorem borrow_eq2 {x y c : Int} (hx0 : 0 ≤ x) (hx1 : x < 18446744073709551616) (hy0 : 0 ≤ y) (hy1 : y < 18446744073709551616) (hc0 : 0 ≤ c) (hc1 : c ≤ 1) : x - y - c = (x - y - c) % 18446744073709551616 - 18446744073709551616 * borrow x y c ∧ 0 ≤ borrow x y c ∧ borrow x y c ≤ 1 := by
  unfold borrow
  split <;> omega
/-- quotient and rest are what they must be -/
theorem quo_uniq {N y P q ρ : Int} (hy : 0 < y) (hP : 0 < P) (h : N * P = y * P * q + ρ) (h0 : 0 ≤ ρ) (h1 : ρ < y * P) : q = N / y ∧ ρ / P = N % y ∧ ρ = N % y * P := by
  have e : ρ = P * (N - y * q) := by grind
  have g0 : 0 ≤ N - y * q := Int.nonneg_of_mul_nonneg_right (by rw [← e]; exact h0) hP
  have g1 : N - y * q < y := by
    have : P * (N - y * q) < P * y := by rw [← e, Int.mul_comm P]; exact h1
    exact Int.lt_of_mul_lt_mul_left this (Int.le_of_lt hP)
  have hN : N = (N - y * q) + y * q := by omega
  have d1 : N / y = q := by
    conv => lhs; rw [hN]
    rw [Int.add_mul_ediv_left _ _ (by omega), Int.ediv_eq_zero_of_lt g0 g1, Int.zero_add]
  have d2 : N % y = N - y * q := by
    conv => lhs; rw [hN]
    rw [Int.add_mul_emod_self_left, Int.emod_eq_of_lt g0 g1]
  refine ⟨d1.symm, ?_, by rw [d2, e, Int.mul_comm]⟩
  rw [d2, e, Int.mul_ediv_cancel_left _ (by omega)]
theorem divWW_any (x1 x0 y : Int) (L : Nat) (w : World) (h10 : 0 ≤ x1) (h1y : x1 < y) (h00 : 0 ≤ x0) (h0W : x0 < 18446744073709551616) (hyW : y < 18446744073709551616) (hL : IsLen y L) :
    Calls Try.prog 113 #[.int .u64 x1, .int .u64 x0, .int .u64 y, .int .u64 (rcp (y * 2 ^ (64 - L)))] w fun e w' => e = .returned (.tuple #[.int .u64 ((x1 * 18446744073709551616 + x0) / y), .int .u64 ((x1 * 18446744073709551616 + x0) % y)]) ∧ w = w' := by
  have hy0 : 0 < y := by omega
  have hL64 : L ≤ 64 := by
    have := bitLen_le64 y (by omega) hyW
    rw [(isLen_word y (by omega) hyW).unique hL] at this
    exact this
  obtain ⟨n1, n2, n3⟩ := norm_word hL hy0 hL64
  have CN : Calls Try.prog 122 #[.int .u64 y] w fun e w' => e = .returned (.int .u64 ((64 - L : Nat) : Int)) ∧ w = w' := (nlz_any y w (by omega) hyW).mono fun e w' ⟨⟨L', he, hl, hl9⟩, hw⟩ => by
    obtain rfl := hl.unique hL
    exact ⟨by rw [he]; congr 2; omega, hw⟩
  obtain ⟨S, hS⟩ : ∃ S, S = 64 - L := ⟨_, rfl⟩
  rw [← hS] at n1 n2 CN ⊢
  have hS64 : S < 64 := by omega
  obtain ⟨P, hP⟩ : ∃ P : Int, P = 2 ^ S := ⟨_, rfl⟩
  obtain ⟨Q2, hQ2⟩ : ∃ Q2 : Int, Q2 = 2 ^ (64 - S) := ⟨_, rfl⟩
  have hP0 : 0 < P := by rw [hP]; exact pow_pos_ (by omega) _
  have hQ0 : 0 < Q2 := by rw [hQ2]; exact pow_pos_ (by omega) _
  have hPQ : P * Q2 = 18446744073709551616 := by rw [hP, hQ2, ← Int.pow_add, show S + (64 - S) = 64 by omega]; rfl
  rw [← hP] at n1 n2 ⊢
  obtain ⟨D, hD⟩ : ∃ D, D = y * P := ⟨_, rfl⟩
  rw [← hD] at n1 n2 ⊢
  obtain ⟨m0, m1, m2, m3⟩ := rcp_bounds n1 n2
  obtain ⟨m, hm⟩ : ∃ m, m = rcp D := ⟨_, rfl⟩
  rw [← hm] at m0 m1 m2 m3 ⊢
  obtain ⟨s1, s2, s3⟩ := dww_scale (y := y) (s := 0) P Q2 hP0 hPQ h10 h1y h00 h0W hQ0
  obtain ⟨X1, hX1⟩ : ∃ X1, X1 = x1 * P + x0 / Q2 := ⟨_, rfl⟩
  obtain ⟨X0, hX0⟩ : ∃ X0, X0 = (x0 * P) % 18446744073709551616 := ⟨_, rfl⟩
  rw [← hX1] at s1 s2 s3
  rw [← hX0] at s1
  rw [← hD] at s2
  have t0 : 0 ≤ X0 ∧ X0 < 18446744073709551616 := by omega
  have pA0 : 0 ≤ m * X1 := Int.mul_nonneg m0 s3
  have pA1 : m * X1 ≤ 18446744073709551615 * 18446744073709551615 := Int.mul_le_mul (by omega) (by omega) s3 (by omega)
  have CM1 := Lib.hid (fun W => bmul_any m X1 W m0 m1 s3 (by omega))
  obtain ⟨A1, hA1⟩ : ∃ A1, A1 = m * X1 / 18446744073709551616 := ⟨_, rfl⟩
  obtain ⟨A0, hA0⟩ : ∃ A0, A0 = m * X1 % 18446744073709551616 := ⟨_, rfl⟩
  simp only [← hA1, ← hA0] at CM1
  have hA : A1 * 18446744073709551616 + A0 = m * X1 := by omega
  have hA0b : 0 ≤ A0 ∧ A0 < 18446744073709551616 := by omega
  have hA1b : 0 ≤ A1 ∧ A1 < 18446744073709551616 := by omega
  have CA1 := Lib.hid (fun W => badd_any A0 X0 0 W hA0b.1 hA0b.2 t0.1 t0.2 (by omega) (by omega))
  obtain ⟨g0, hg0⟩ : ∃ g0, g0 = (A0 + X0 + 0) % 18446744073709551616 := ⟨_, rfl⟩
  obtain ⟨c1, hc1⟩ : ∃ c1, c1 = (A0 + X0 + 0) / 18446744073709551616 := ⟨_, rfl⟩
  simp only [← hg0, ← hc1] at CA1
  have hc1b : 0 ≤ c1 ∧ c1 ≤ 1 := by omega
  have CA2 := Lib.hid (fun W => badd_any A1 X1 c1 W hA1b.1 hA1b.2 s3 (by omega) hc1b.1 hc1b.2)
  obtain ⟨q, hq⟩ : ∃ q, q = (A1 + X1 + c1) % 18446744073709551616 := ⟨_, rfl⟩
  obtain ⟨c2, hc2⟩ : ∃ c2, c2 = (A1 + X1 + c1) / 18446744073709551616 := ⟨_, rfl⟩
  simp only [← hq, ← hc2] at CA2
  have hqb : 0 ≤ q ∧ q < 18446744073709551616 := by omega
  have pB0 : 0 ≤ D * q := Int.mul_nonneg (by omega) hqb.1
  have pB1 : D * q ≤ 18446744073709551615 * 18446744073709551615 := Int.mul_le_mul (by omega) (by omega) hqb.1 (by omega)
  have CM2 := Lib.hid (fun W => bmul_any D q W (by omega) n2 hqb.1 hqb.2)
  obtain ⟨B1, hB1⟩ : ∃ B1, B1 = D * q / 18446744073709551616 := ⟨_, rfl⟩
  obtain ⟨B0, hB0⟩ : ∃ B0, B0 = D * q % 18446744073709551616 := ⟨_, rfl⟩
  simp only [← hB1, ← hB0] at CM2
  have hB : B1 * 18446744073709551616 + B0 = D * q := by omega
  have hB0b : 0 ≤ B0 ∧ B0 < 18446744073709551616 := by omega
  have hB1b : 0 ≤ B1 ∧ B1 < 18446744073709551616 := by omega
  have CS1 := Lib.hid (fun W => bsub_any X0 B0 0 W t0.1 t0.2 hB0b.1 hB0b.2 (by omega) (by omega))
  obtain ⟨b1, b2, b3⟩ := borrow_eq2 t0.1 t0.2 hB0b.1 hB0b.2 (show (0 : Int) ≤ 0 by omega) (by omega)
  obtain ⟨r0, hr0⟩ : ∃ r0, r0 = (X0 - B0 - 0) % 18446744073709551616 := ⟨_, rfl⟩
  obtain ⟨bb, hbb⟩ : ∃ bb, bb = borrow X0 B0 0 := ⟨_, rfl⟩
  simp only [← hr0, ← hbb] at CS1
  rw [← hr0, ← hbb] at b1
  rw [← hbb] at b2 b3
  have CS2 := Lib.hid (fun W => bsub_any X1 B1 bb W s3 (by omega) hB1b.1 hB1b.2 b2 b3)
  obtain ⟨d1, d2, d3⟩ := borrow_eq2 s3 (show X1 < 18446744073709551616 by omega) hB1b.1 hB1b.2 b2 b3
  obtain ⟨r1, hr1⟩ : ∃ r1, r1 = (X1 - B1 - bb) % 18446744073709551616 := ⟨_, rfl⟩
  obtain ⟨bb2, hbb2⟩ : ∃ bb2, bb2 = borrow X1 B1 bb := ⟨_, rfl⟩
  simp only [← hr1, ← hbb2] at CS2
  rw [← hr1, ← hbb2] at d1
  rw [← hbb2] at d2 d3
  have hr0b : 0 ≤ r0 ∧ r0 < 18446744073709551616 := by omega
  have hr1b : 0 ≤ r1 ∧ r1 < 18446744073709551616 := by omega
  obtain ⟨k1, k2, k3⟩ := dww_core n1 n2 m0 m1 m2 m3 s3 s2 t0.1 t0.2 hA hA0b (by omega : A0 + X0 = g0 + 18446744073709551616 * c1) (by omega) (by omega : A1 + X1 + c1 = q + 18446744073709551616 * c2) hqb (by omega) hB (by omega : X0 - B0 = r0 - 18446744073709551616 * bb) hr0b d1 hr1b d2
  obtain ⟨N, hN⟩ : ∃ N, N = x1 * 18446744073709551616 + x0 := ⟨_, rfl⟩
  rw [← hN] at s1 ⊢
  have hNy : N < y * 18446744073709551616 := by
    have : (x1 + 1) * 18446744073709551616 ≤ y * 18446744073709551616 := by omega
    omega
  have hQn : N / y < 18446744073709551616 := Int.ediv_lt_of_lt_mul hy0 (by rw [Int.mul_comm]; exact hNy)
  have U : ∀ q' ρ, N * P = D * q' + ρ → 0 ≤ ρ → ρ < D → q' = N / y ∧ ρ / P = N % y ∧ ρ = N % y * P := by
    intro q' ρ h h0 h1
    rw [hD] at h h1
    exact quo_uniq hy0 hP0 h h0 h1
  have e1 : N * P = D * q + (r1 * 18446744073709551616 + r0) := by rw [← s1]; exact k1
  have V1 : r1 = 0 → r0 < D → q = N / y ∧ r0 / P = N % y ∧ r0 = N % y * P := fun h h' => U q r0 (by rw [e1, h]; omega) hr0b.1 h'
  have V2 : r1 = 0 → D ≤ r0 → q + 1 = N / y ∧ (r0 - D) / P = N % y ∧ r0 - D = N % y * P := fun h h' => U (q + 1) (r0 - D) (by rw [e1, h, Int.mul_add]; omega) (by omega) (by omega)
  have V3 : r1 = 1 → r0 + 18446744073709551616 - D < D → q + 1 = N / y ∧ (r0 + 18446744073709551616 - D) / P = N % y ∧ r0 + 18446744073709551616 - D = N % y * P := fun h h' => U (q + 1) _ (by rw [e1, h, Int.mul_add]; omega) (by omega) h'
  have V4 : r1 = 1 → D ≤ r0 + 18446744073709551616 - D → q + 2 = N / y ∧ (r0 + 18446744073709551616 - D - D) / P = N % y ∧ r0 + 18446744073709551616 - D - D = N % y * P := fun h h' => U (q + 2) _ (by rw [e1, h, Int.mul_add]; omega) (by omega) (by rw [h] at k3; omega)
  have K0 := Lib.hid (show r1 = 1 → r0 < D from fun h => by rw [h] at k3; omega)
  by_cases hS0 : S = 0
  · have hP1 : P = 1 := by rw [hP, hS0]; rfl
    have hD1 : D = y := by rw [hD, hP1, Int.mul_one]
    have hX1e : X1 = x1 := by rw [hX1, hP1, Int.mul_one, show Q2 = 18446744073709551616 by rw [hP1, Int.one_mul] at hPQ; exact hPQ, Int.ediv_eq_zero_of_lt h00 h0W]; omega
    have hX0e : X0 = x0 := by rw [hX0, hP1, Int.mul_one]; omega
    subst hD1 hX1e hX0e
    simp only [hP1, Int.mul_one] at V1 V2 V3 V4
    rw [hS0] at CN
    exact dww_s0 X1 X0 D m A1 A0 c1 g0 q c2 B1 B0 r0 bb r1 bb2 w s3 (by omega) t0.1 t0.2 m0 m1 n1 n2 CM1 CA1 CA2 CM2 CS1 CS2 hr0b.1 hr0b.2 hqb.1 hqb.2 k2 (N % D) (N / D) K0
      (Lib.hid fun h h' => ⟨(V1 h h').1, (V1 h h').2.2⟩) (Lib.hid fun h h' => ⟨(V2 h h').1, by rw [(V2 h h').1]; exact hQn, (V2 h h').2.2⟩) (Lib.hid fun h h' => ⟨(V3 h h').1, (V3 h h').2.2⟩) (Lib.hid fun h h' => ⟨(V4 h h').1, by rw [(V4 h h').1]; exact hQn, (V4 h h').2.2⟩) hQn (Lib.hid CN)
  · have ha0 : 0 ≤ x1 * P := Int.mul_nonneg h10 (by omega)
    have hbb0 : 0 ≤ x0 / Q2 := Int.ediv_nonneg h00 (by omega)
    have haW : x1 * P < 18446744073709551616 := by omega
    have hor : bits .or .u64 (x1 * P) (x0 / Q2) = X1 := by
      have h := or_shift x1 x0 S (by omega) hS64 h10 h00 h0W
      rw [← hP, ← hQ2, IntKind.wrap_u64, Int.emod_eq_of_lt ha0 haW] at h
      rw [h, hX1]
    exact dww_s1 X1 X0 D m A1 A0 c1 g0 q c2 B1 B0 r0 bb r1 bb2 w s3 (by omega) t0.1 t0.2 m0 m1 n1 n2 CM1 CA1 CA2 CM2 CS1 CS2 hr0b.1 hr0b.2 hqb.1 hqb.2 k2 (N % y) (N / y) P Q2 (x1 * P) (x0 / Q2) x1 x0 y S (by omega) hS64 hP.symm hQ2.symm rfl rfl ha0 haW hor (by rw [IntKind.wrap_u64, hX0]) hD.symm h10 h00 h0W hy0 K0
      (Lib.hid fun h h' => ⟨(V1 h h').1, (V1 h h').2.1⟩) (Lib.hid fun h h' => ⟨(V2 h h').1, by rw [(V2 h h').1]; exact hQn, (V2 h h').2.1⟩) (Lib.hid fun h h' => ⟨(V3 h h').1, (V3 h h').2.1⟩) (Lib.hid fun h h' => ⟨(V4 h h').1, by rw [(V4 h h').1]; exact hQn, (V4 h h').2.1⟩) hQn (Lib.hid CN)
set_option maxRecDepth 100000 in
theorem implReciprocal_any (u : Int) (w : World) (h0 : 9223372036854775808 ≤ u) (h1 : u < 18446744073709551616) :
    Calls Try.prog 37 #[.int .u64 u] w fun e w' => e = .returned (.int .u64 (rcp u)) ∧ Fr [] w w' := by
  have hL : IsLen u 64 := .inr ⟨by omega, by simpa using h0, by simpa using h1⟩
  have C := recip_any u 64 w (by omega) h1 hL
  rw [show u * 2 ^ (64 - 64) = u by simp] at C
  obtain ⟨rc, hrc⟩ : ∃ rc, rc = rcp u := ⟨_, rfl⟩
  rw [← hrc] at C ⊢
  have C := Lib.hid C
  have hsh : u / 9223372036854775808 = 1 := by omega
  clear hrc hL
  go_enter Try.func37, Try.ntmps37
  go_wp2_with (first
    | (go_at_call 101; refine (Hid.out C).mono ?_; rintro e w1 ⟨rfl, f1⟩)
    | (go_at_call 74; go_in))
  go_ret
  exact ⟨rfl, f1⟩
set_option maxRecDepth 100000 in
set_option maxHeartbeats 1000000 in
theorem law_FnReciprocal (y : Int) (w : World) (h0 : 0 ≤ y) (h1 : y < 18446744073709551616) :
    Calls Try.prog 8 #[.int .u64 y] w fun e w' => e = .returned (.bool true) ∧ Fr [] w w' := by
  have hob := u64_or_bit y 63 h0 h1 (by omega)
  rw [show (2 : Int) ^ 63 = 9223372036854775808 by rfl] at hob
  obtain ⟨u, hu⟩ : ∃ u, u = y + 9223372036854775808 - 9223372036854775808 * (y / 9223372036854775808 % 2) := ⟨_, rfl⟩
  rw [← hu] at hob
  have hu0 : 9223372036854775808 ≤ u ∧ u < 18446744073709551616 := by omega
  obtain ⟨hu0, hu1⟩ := hu0
  obtain ⟨m0, m1, m2, m3⟩ := rcp_bounds hu0 hu1
  have C1 := Lib.hid (fun W => implReciprocal_any u W hu0 hu1)
  obtain ⟨rc, hrc⟩ : ∃ rc, rc = rcp u := ⟨_, rfl⟩
  rw [← hrc] at m0 m1 m2 m3
  simp only [← hrc] at C1
  have CS := Lib.hid (fun va W (h : SN W va 1) => shifted_any va 1 64 W h (word_BIG (by omega)) (by omega))
  have CT := Lib.hid (fun va W (h : SN W va 1) => shifted_any va 1 128 W h (word_BIG (by omega)) (by omega))
  rw [show (1 : Int) * 2 ^ 64 = 18446744073709551616 by rfl] at CS
  rw [show (1 : Int) * 2 ^ 128 = 340282366920938463463374607431768211456 by rfl] at CT
  obtain ⟨v, hv⟩ : ∃ v, v = rc + 18446744073709551616 := ⟨_, rfl⟩
  obtain ⟨W2, hW2⟩ : ∃ W2 : Int, W2 = 18446744073709551616 := ⟨_, rfl⟩
  obtain ⟨T, hT⟩ : ∃ T : Int, T = 340282366920938463463374607431768211456 := ⟨_, rfl⟩
  rw [← hW2] at CS
  rw [← hT] at CT
  obtain ⟨p, hp⟩ : ∃ p, p = v * u := ⟨_, rfl⟩
  rw [← hv, ← hp] at m2 m3
  have pW := pow2_BIG (k := 70) (by omega)
  have pT := pow2_BIG (k := 130) (by omega)
  have e70 : (2 : Int) ^ 70 = 1180591620717411303424 := by decide
  have e130 : (2 : Int) ^ 130 = 1361129467683753853853498429727072845824 := by decide
  rw [e70] at pW
  rw [e130] at pT
  have CADD := Lib.hid (fun va vb W (h : SN W va rc) (h' : SN W vb W2) => add_any va vb rc W2 W h h' (by omega) (by omega))
  rw [show rc + W2 = v by omega] at CADD
  have CMUL := Lib.hid (fun va vb W (h : SN W va v) (h' : SN W vb u) => mul_any va vb v u W h h' (by omega) (by omega))
  rw [← hp] at CMUL
  have CADD2 := Lib.hid (fun va vb W (h : SN W va p) (h' : SN W vb u) => add_any va vb p u W h h' (by omega) (by omega))
  have CC1 := Lib.hid (fun va vb W (h : SN W va p) (h' : SN W vb T) => cmp_at (-1) va vb p T W h h' (cmpI_lt (by omega)))
  have hc2 : ∃ c, cmpI (p + u) T = c ∧ 0 ≤ c := by
    rcases (show T < p + u ∨ p + u = T by omega) with h | h
    · exact ⟨1, cmpI_gt h, by omega⟩
    · rw [h]; exact ⟨0, cmpI_eq _, by omega⟩
  obtain ⟨c, hc2, hc0⟩ := hc2
  have CC2 := Lib.hid (fun va vb W (h : SN W va (p + u)) (h' : SN W vb T) => cmp_at c va vb (p + u) T W h h' hc2)
  have HOB := Lib.hid hob
  have CU := Lib.hid (fun W => of1_any u W (by omega) hu1)
  have CR := Lib.hid (fun W => of1_any rc W m0 m1)
  have CSM := Lib.hid (fun W => small_any 1 W (by omega) (by omega))
  clear hu hrc hv hW2 hT hp pW pT e70 e130 hc2 m2 m3
  have T1 : True := trivial
  have T2 : True := trivial
  have T3 : True := trivial
  have T4 : True := trivial
  have T5 : True := trivial
  have T6 : True := trivial
  go_enter Try.func8, Try.ntmps8
  go_wp2_with (first
    | (go_at_call 37; refine (C1.out _).mono ?_; rintro e w1 ⟨rfl, f1⟩)
    | (go_at_call 36; clear T1; refine (CR.out _).mono ?_; rintro e w2 ⟨v2, rfl, sn2, f2⟩)
    | (go_at_call 39; clear T2; refine (CSM.out _).mono ?_; rintro e w3 ⟨v3, rfl, sn3, f3⟩)
    | (go_at_call 38; clear T3; refine (CS.out _ _ sn3).mono ?_; rintro e w4 ⟨v4, rfl, sn4, f4⟩)
    | (go_at_call 34; clear T4; refine (CADD.out _ _ _ ((sn2.fr0 f3).fr0 f4) sn4).mono ?_; rintro e w5 ⟨v5, rfl, sn5, f5⟩)
    | (go_at_call 39; refine (CSM.out _).mono ?_; rintro e w6 ⟨v6, rfl, sn6, f6⟩)
    | (go_at_call 38; refine (CT.out _ _ sn6).mono ?_; rintro e w7 ⟨v7, rfl, sn7, f7⟩)
    | (go_at_call 36; clear T5; refine (CU.out _).mono ?_; rintro e w8 ⟨v8, rfl, sn8, f8⟩)
    | (go_at_call 40; refine (CMUL.out _ _ _ (((sn5.fr0 f6).fr0 f7).fr0 f8) sn8).mono ?_; rintro e w9 ⟨v9, rfl, sn9, f9⟩)
    | (go_at_call 27; clear T6; refine (CC1.out _ _ _ sn9 ((sn7.fr0 f8).fr0 f9)).mono ?_; rintro e w10 ⟨rfl, f10⟩)
    | (go_at_call 36; refine (CU.out _).mono ?_; rintro e w11 ⟨v11, rfl, sn11, f11⟩)
    | (go_at_call 34; refine (CADD2.out _ _ _ ((sn9.fr0 f10).fr0 f11) sn11).mono ?_; rintro e w12 ⟨v12, rfl, sn12, f12⟩)
    | (go_at_call 27; refine (CC2.out _ _ _ sn12 (((((sn7.fr0 f8).fr0 f9).fr0 f10).fr0 f11).fr0 f12)).mono ?_; rintro e w13 ⟨rfl, f13⟩))
  go_ret
  exact ⟨rfl, (((((((((((f1.t f2).t f3).t f4).t f5).t f6).t f7).t f8).t f9).t f10).t f11).t f12).t f13⟩
set_option maxRecDepth 100000 in
theorem implDivWW_any (x1 x0 y : Int) (w : World) (h10 : 0 ≤ x1) (h1y : x1 < y) (h00 : 0 ≤ x0) (h0W : x0 < 18446744073709551616) (hyW : y < 18446744073709551616) :
    Calls Try.prog 55 #[.int .u64 x1, .int .u64 x0, .int .u64 y] w fun e w' => e = .returned (.tuple #[.int .u64 ((x1 * 18446744073709551616 + x0) / y), .int .u64 ((x1 * 18446744073709551616 + x0) % y)]) ∧ Fr [] w w' := by
  have hL := isLen_word y (by omega) hyW
  obtain ⟨L, hLe⟩ : ∃ L, L = Lib.bitLen y.toNat := ⟨_, rfl⟩
  rw [← hLe] at hL
  have C1 := Lib.hid (fun W => recip_any y L W (by omega) hyW hL)
  have C2 := Lib.hid (fun W => divWW_any x1 x0 y L W h10 h1y h00 h0W hyW hL)
  obtain ⟨rc, hrc⟩ : ∃ rc, rc = rcp (y * 2 ^ (64 - L)) := ⟨_, rfl⟩
  obtain ⟨q, hq⟩ : ∃ q, q = (x1 * 18446744073709551616 + x0) / y := ⟨_, rfl⟩
  obtain ⟨r, hr⟩ : ∃ r, r = (x1 * 18446744073709551616 + x0) % y := ⟨_, rfl⟩
  simp only [← hrc] at C1 C2
  simp only [← hq, ← hr] at C2 ⊢
  have hy : (y == 0) = false := by rw [beq_eq_false_iff_ne]; omega
  have hle : decide (y ≤ x1) = false := by simp; omega
  clear hL hLe hrc hq hr
  go_enter Try.func55, Try.ntmps55
  go_wp2_with (first
    | (go_at_call 101; refine (C1.out _).mono ?_; rintro e w1 ⟨rfl, f1⟩)
    | (go_at_call 113; refine (C2.out _).mono ?_; rintro e w2 ⟨rfl, rfl⟩)
    | (go_at_call 87; go_in))
  go_ret2
  exact ⟨rfl, f1⟩
set_option maxRecDepth 100000 in
set_option maxHeartbeats 1000000 in
theorem law_FnDivWW (x1 x0 y : Int) (w : World) (h10 : 0 ≤ x1) (h1W : x1 < 18446744073709551616) (h00 : 0 ≤ x0) (h0W : x0 < 18446744073709551616) (hy0 : 0 ≤ y) (hyW : y < 18446744073709551616) :
    Calls Try.prog 17 #[.int .u64 x1, .int .u64 x0, .int .u64 y] w fun e w' => e = .returned (.bool true) ∧ Fr [] w w' := by
  by_cases hge : y ≤ x1
  · go_enter Try.func17, Try.ntmps17
    go_wp2_with fail
    go_ret
    exact ⟨rfl, Fr.refl _ _⟩
  have h1y : x1 < y := by omega
  have C1 := fun W => implDivWW_any x1 x0 y W h10 h1y h00 h0W hyW
  have ONE := fun W => implDivWW_any 0 1 1 W (by omega) (by omega) (by omega) (by omega) (by omega)
  simp only [show ((0 : Int) * 18446744073709551616 + 1) / 1 = 1 by decide, show ((0 : Int) * 18446744073709551616 + 1) % 1 = 0 by decide] at ONE
  have ONE := Lib.hid ONE
  obtain ⟨N, hN⟩ : ∃ N, N = x1 * 18446744073709551616 + x0 := ⟨_, rfl⟩
  obtain ⟨q, hq⟩ : ∃ q, q = N / y := ⟨_, rfl⟩
  obtain ⟨r, hr⟩ : ∃ r, r = N % y := ⟨_, rfl⟩
  simp only [← hN, ← hq, ← hr] at C1
  have C1 := Lib.hid C1
  have hr0 : 0 ≤ r := by rw [hr]; exact Int.emod_nonneg _ (by omega)
  have hr1 : r < y := by rw [hr]; exact Int.emod_lt_of_pos _ (by omega)
  have hN0 : 0 ≤ N := by omega
  have hq0 : 0 ≤ q := by rw [hq]; exact Int.ediv_nonneg hN0 hy0
  have hq1 : q < 18446744073709551616 := by rw [hq]; exact Int.ediv_lt_of_lt_mul (by omega) (by omega)
  have he := Int.emod_add_mul_ediv N y
  rw [← hq, ← hr] at he
  obtain ⟨p, hp⟩ : ∃ p, p = q * y := ⟨_, rfl⟩
  have hpe : p + r = N := by rw [hp, Int.mul_comm]; omega
  have hp0 : 0 ≤ p := by rw [hp]; exact Int.mul_nonneg hq0 hy0
  have pW := pow2_BIG (k := 130) (by omega)
  have e130 : (2 : Int) ^ 130 = 1361129467683753853853498429727072845824 := by decide
  rw [e130] at pW
  have CQ := Lib.hid (fun W => of1_any q W hq0 hq1)
  have CY := Lib.hid (fun W => of1_any y W hy0 hyW)
  have CR := Lib.hid (fun W => of1_any r W hr0 (by omega))
  have CM := Lib.hid (fun va vb W (h : SN W va q) (h' : SN W vb y) => mul_any va vb q y W h h' (by omega) (by omega))
  rw [← hp] at CM
  have CA := Lib.hid (fun va vb W (h : SN W va p) (h' : SN W vb r) => add_any va vb p r W h h' (by omega) (by omega))
  rw [hpe] at CA
  have C2 := Lib.hid (fun W => of2_any x1 x0 W h10 h1W h00 h0W)
  rw [← hN] at C2
  clear hN hq hr he hp hpe pW e130
  have T1 : True := trivial
  have T2 : True := trivial
  have T3 : True := trivial
  go_enter Try.func17, Try.ntmps17
  go_wp2_with (first
    | (go_at_call 55; clear T1; refine (C1.out _).mono ?_; rintro e w1 ⟨rfl, f1⟩)
    | (go_at_call 55; refine (ONE.out _).mono ?_; rintro e w2 ⟨rfl, f2⟩)
    | (go_at_call 36; clear T2; refine (CQ.out _).mono ?_; rintro e w3 ⟨v3, rfl, sn3, f3⟩)
    | (go_at_call 36; clear T3; refine (CY.out _).mono ?_; rintro e w4 ⟨v4, rfl, sn4, f4⟩)
    | (go_at_call 36; refine (CR.out _).mono ?_; rintro e w6 ⟨v6, rfl, sn6, f6⟩)
    | (go_at_call 40; refine (CM.out _ _ _ (sn3.fr0 f4) sn4).mono ?_; rintro e w5 ⟨v5, rfl, sn5, f5⟩)
    | (go_at_call 34; refine (CA.out _ _ _ (sn5.fr0 f6) sn6).mono ?_; rintro e w7 ⟨v7, rfl, sn7, f7⟩)
    | (go_at_call 56; refine (C2.out _).mono ?_; rintro e w8 ⟨v8, rfl, sn8, f8⟩)
    | (go_at_call 27; refine (cmp_same _ _ N _ (sn7.fr0 f8) sn8).mono ?_; rintro e w9 ⟨rfl, f9⟩))
  go_ret
  exact ⟨rfl, (((((((f1.t f2).t f3).t f4).t f5).t f6).t f7).t f8).t f9⟩
end Go.Proofs.Ytjapebgihnahjaa
