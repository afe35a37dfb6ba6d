/-
  reciprocalWord, divWW. Conditions: the divisor is not 0, the upper word is below it.
-/
import Derived.Test.YtknokndpeneogaaDoorBDiv
import Derived.Test.YtknokndpeneogaaDoorgShift
set_option linter.unusedSimpArgs false
set_option linter.unusedVariables false
namespace Go.Proofs.YtknokndpeneogaaDoor
open Go.Big Go.RowKit
set_option maxRecDepth 100000 in
theorem bitsDiv_any (u lo y : Int) (w : World) (hu0 : 0 ≤ u) (huy : u < y) (h0 : 0 ≤ lo) (h1 : lo < 18446744073709551616) (hy0 : 9223372036854775808 ≤ y) (hyW : y < 18446744073709551616) :
    Calls Tryd.prog 150 #[.int .u64 u, .int .u64 lo, .int .u64 y] w fun e w' => e = .returned (.tuple #[.int .u64 ((u * 18446744073709551616 + lo) / y), .int .u64 ((u * 18446744073709551616 + lo) % y)]) ∧ Fr [] w w' := by
  have C : Hid (Calls Tryd.prog 155 #[.int .u64 u, .int .u64 lo, .int .u64 y] w fun e w' => e = .returned (.tuple #[.int .u64 ((u * 18446744073709551616 + lo) / y), .int .u64 ((u * 18446744073709551616 + lo) % y)]) ∧ Fr [] w w') := by
    refine Lib.hid ?_
    by_cases h : u = 0
    · subst h
      rw [Int.zero_mul, Int.zero_add]
      exact bd0_any lo y w h0 h1 (by omega) hyW
    · exact (bd1_any u lo y w (by omega) huy h0 h1 hy0 hyW).mono fun e w' ⟨h, h'⟩ => ⟨h, h' ▸ Fr.refl _ _⟩
  obtain ⟨q, hq⟩ : ∃ q, q = (u * 18446744073709551616 + lo) / y := ⟨_, rfl⟩
  obtain ⟨r, hr⟩ : ∃ r, r = (u * 18446744073709551616 + lo) % y := ⟨_, rfl⟩
  rw [← hq, ← hr] at C ⊢
  clear hq hr
  go_enter Tryd.func150, Tryd.ntmps150
  go_wp2_with (go_at_call 155; refine (Hid.out C).mono ?_; rintro e w1 ⟨rfl, f1⟩)
  go_ret2
  exact ⟨rfl, f1⟩
theorem bitsDiv0_any (lo y : Int) (w : World) (h0 : 0 ≤ lo) (h1 : lo < 18446744073709551616) (hy0 : 0 < y) (hyW : y < 18446744073709551616) :
    Calls Tryd.prog 150 #[.int .u64 0, .int .u64 lo, .int .u64 y] w fun e w' => e = .returned (.tuple #[.int .u64 (lo / y), .int .u64 (lo % y)]) ∧ Fr [] w w' := by
  have C := Lib.hid (bd0_any lo y w h0 h1 hy0 hyW)
  obtain ⟨q, hq⟩ : ∃ q, q = lo / y := ⟨_, rfl⟩
  obtain ⟨r, hr⟩ : ∃ r, r = lo % y := ⟨_, rfl⟩
  rw [← hq, ← hr] at C ⊢
  clear hq hr
  go_enter Tryd.func150, Tryd.ntmps150
  go_wp2_with (go_at_call 155; refine (Hid.out C).mono ?_; rintro e w1 ⟨rfl, f1⟩)
  go_ret2
  exact ⟨rfl, f1⟩
/-- the reciprocal of a word whose upper bit is set -/
def rcp (u : Int) : Int := 340282366920938463463374607431768211455 / u - 18446744073709551616
theorem rcp_bounds {u : Int} (h0 : 9223372036854775808 ≤ u) (h1 : u < 18446744073709551616) : 0 ≤ rcp u ∧ rcp u < 18446744073709551616 ∧
    (rcp u + 18446744073709551616) * u ≤ 340282366920938463463374607431768211455 ∧ 340282366920938463463374607431768211456 ≤ (rcp u + 18446744073709551616) * u + u := by
  have e := Int.emod_add_mul_ediv 340282366920938463463374607431768211455 u
  have e1 := Int.emod_nonneg 340282366920938463463374607431768211455 (show u ≠ 0 by omega)
  have e2 := Int.emod_lt_of_pos 340282366920938463463374607431768211455 (show 0 < u by omega)
  unfold rcp
  obtain ⟨v, hv⟩ : ∃ v, v = 340282366920938463463374607431768211455 / u := ⟨_, rfl⟩
  rw [← hv] at e ⊢
  rw [Int.sub_add_cancel, Int.mul_comm v]
  refine ⟨?_, ?_, by omega, by omega⟩
  · have : 18446744073709551616 ≤ v := by
      rw [hv]; exact Int.le_ediv_of_mul_le (by omega) (by omega)
    omega
  · have : v < 36893488147419103232 := by
      rw [hv]; exact Int.ediv_lt_of_lt_mul (by omega) (by omega)
    omega
theorem rcp_div {u : Int} (h0 : 9223372036854775808 ≤ u) : ((18446744073709551615 - u) * 18446744073709551616 + 18446744073709551615) / u = rcp u := by
  unfold rcp
  have e : (18446744073709551615 - u) * 18446744073709551616 + 18446744073709551615 = 340282366920938463463374607431768211455 + u * (-18446744073709551616) := by omega
  rw [e, Int.add_mul_ediv_left _ _ (by omega)]
  omega
theorem norm_word {y : Int} {L : Nat} (h : IsLen y L) (h0 : 0 < y) (hL : L ≤ 64) : 9223372036854775808 ≤ y * 2 ^ (64 - L) ∧ y * 2 ^ (64 - L) < 18446744073709551616 ∧ 1 ≤ L := by
  rcases h with ⟨h, _⟩ | ⟨h1, h2, h3⟩
  · omega
  · have hp := pow_pos_ (B := 2) (by omega) (64 - L)
    have e1 : (2 : Int) ^ (L - 1) * 2 ^ (64 - L) = 9223372036854775808 := by rw [← Int.pow_add, show L - 1 + (64 - L) = 63 by omega]; rfl
    have e2 : (2 : Int) ^ L * 2 ^ (64 - L) = 18446744073709551616 := by rw [← Int.pow_add, show L + (64 - L) = 64 by omega]; rfl
    have g1 := Int.mul_le_mul_of_nonneg_right h2 (Int.le_of_lt hp)
    have g2 := Int.mul_lt_mul_of_pos_right h3 hp
    exact ⟨by omega, by omega, h1⟩
theorem nat_xor_ones (n : Nat) (h : n < 2 ^ 64) : (2 ^ 64 - 1) ^^^ n = 2 ^ 64 - 1 - n := by
  apply Nat.eq_of_testBit_eq
  intro i
  rw [show 2 ^ 64 - 1 - n = 2 ^ 64 - (n + 1) by omega, Nat.testBit_two_pow_sub_succ h, Nat.testBit_xor, Nat.testBit_two_pow_sub_one]
  by_cases hi : i < 64
  · simp [hi]
  · have : n.testBit i = false := Nat.testBit_lt_two_pow (Nat.lt_of_lt_of_le h (Nat.pow_le_pow_right (by omega) (by omega)))
    simp [hi, this]
theorem word_not (u : Int) (h0 : 0 ≤ u) (h1 : u < 18446744073709551616) : bits .xor .u64 (if IntKind.u64.signed = true then -1 else IntKind.u64.max) u = 18446744073709551615 - u := by
  obtain ⟨n, rfl⟩ := Int.eq_ofNat_of_zero_le h0
  have e : (if IntKind.u64.signed = true then (-1 : Int) else IntKind.u64.max) = ((2 ^ 64 - 1 : Nat) : Int) := by decide
  rw [e, u64_xor_nat _ _ (by decide) (by omega), nat_xor_ones n (by omega)]
  omega
set_option maxRecDepth 100000 in
set_option maxHeartbeats 1000000 in
theorem recip_any (y : Int) (L : Nat) (w : World) (hy0 : 0 < y) (hy1 : y < 18446744073709551616) (hL : IsLen y L) :
    Calls Tryd.prog 145 #[.int .u64 y] w fun e w' => e = .returned (.int .u64 (rcp (y * 2 ^ (64 - L)))) ∧ Fr [] w w' := by
  have CN := Lib.hid (nlz_any y w (by omega) hy1)
  have hL64 : L ≤ 64 := by
    have := bitLen_le64 y (by omega) hy1
    rw [(isLen_word y (by omega) hy1).unique hL] at this
    exact this
  obtain ⟨n1, n2, n3⟩ := norm_word hL hy0 hL64
  obtain ⟨u, hu⟩ : ∃ u, u = y * 2 ^ (64 - L) := ⟨_, rfl⟩
  rw [← hu] at n1 n2 ⊢
  have C := Lib.hid (fun W => bitsDiv_any (18446744073709551615 - u) 18446744073709551615 u W (by omega) (by omega) (by omega) (by omega) n1 n2)
  simp only [rcp_div n1] at C
  obtain ⟨rr, hrr⟩ : ∃ rr, rr = ((18446744073709551615 - u) * 18446744073709551616 + 18446744073709551615) % u := ⟨_, rfl⟩
  simp only [← hrr] at C
  obtain ⟨rc, hrc⟩ : ∃ rc, rc = rcp u := ⟨_, rfl⟩
  simp only [← hrc] at C ⊢
  have hsub : (64 : Int) - (L : Int) = ((64 - L : Nat) : Int) := by omega
  have hmin : min (64 - L) 64 = 64 - L := by omega
  have hw : IntKind.u64.wrap (y * 2 ^ (64 - L)) = u := by rw [← hu, IntKind.wrap_u64]; omega
  have hwu : y * 2 ^ (64 - L) = u := hu.symm
  have HL := Lib.hid hL
  obtain ⟨hi, hhi⟩ : ∃ hi, hi = 18446744073709551615 - u := ⟨_, rfl⟩
  have hx := word_not u (by omega) n2
  rw [← hhi] at hx
  simp only [← hhi] at C
  clear hu hrr hrc hL hhi
  go_enter Tryd.func145, Tryd.ntmps145
  go_wp2_with (first
    | (go_at_call 136; refine (Hid.out CN).mono ?_; rintro e w1 ⟨⟨L', rfl, hl, hl9⟩, rfl⟩; obtain rfl : L' = L := hl.unique HL.out)
    | (go_at_call 150; refine (C.out _).mono ?_; rintro e w2 ⟨rfl, f2⟩))
  go_ret
  exact ⟨rfl, f2⟩
theorem dww_core {d m x1 x0 A1 A0 c1 g0 q c2 B1 B0 r0 b r1 b2 : Int} (hd0 : 9223372036854775808 ≤ d) (hdW : d < 18446744073709551616) (hm0 : 0 ≤ m) (hmW : m < 18446744073709551616)
    (hm1 : (m + 18446744073709551616) * d ≤ 340282366920938463463374607431768211455) (hm2 : 340282366920938463463374607431768211456 ≤ (m + 18446744073709551616) * d + d)
    (h1 : 0 ≤ x1) (h1d : x1 < d) (h0 : 0 ≤ x0) (h0W : x0 < 18446744073709551616)
    (hA : A1 * 18446744073709551616 + A0 = m * x1) (hA0 : 0 ≤ A0 ∧ A0 < 18446744073709551616) (hc1 : A0 + x0 = g0 + 18446744073709551616 * c1) (hg0 : 0 ≤ g0 ∧ g0 < 18446744073709551616)
    (hq : A1 + x1 + c1 = q + 18446744073709551616 * c2) (hq0 : 0 ≤ q ∧ q < 18446744073709551616) (hc2 : 0 ≤ c2)
    (hB : B1 * 18446744073709551616 + B0 = d * q) (hr0 : x0 - B0 = r0 - 18446744073709551616 * b) (hr0b : 0 ≤ r0 ∧ r0 < 18446744073709551616) (hr1 : x1 - B1 - b = r1 - 18446744073709551616 * b2) (hr1b : 0 ≤ r1 ∧ r1 < 18446744073709551616) (hb2 : 0 ≤ b2) :
    x1 * 18446744073709551616 + x0 = d * q + (r1 * 18446744073709551616 + r0) ∧ (r1 = 0 ∨ r1 = 1) ∧ r1 * 18446744073709551616 + r0 < 18446744073709551616 + d := by
  have hv : (m + 18446744073709551616) * d = 18446744073709551616 * 18446744073709551616 - (340282366920938463463374607431768211456 - (m + 18446744073709551616) * d) := by omega
  have hsum : (m + 18446744073709551616) * x1 + x0 = (q + 18446744073709551616 * c2) * 18446744073709551616 + g0 := by
    rw [Int.add_mul]; omega
  obtain ⟨g1, g2⟩ := guess_rest (W := 18446744073709551616) (d := d) (v := m + 18446744073709551616) (by omega) (by omega) (by omega) (by omega) hv h1 h1d h0 h0W hg0.1 hg0.2 hsum
  have hc20 : c2 = 0 := by
    rcases (show c2 = 0 ∨ 1 ≤ c2 by omega) with h | h
    · exact h
    · exfalso
      have k1 : d * 18446744073709551616 ≤ d * (q + 18446744073709551616 * c2) := Int.mul_le_mul_of_nonneg_left (by omega) (by omega)
      have k2 : (x1 + 1) * 18446744073709551616 ≤ d * 18446744073709551616 := by omega
      omega
  subst hc20
  rw [Int.mul_zero, Int.add_zero] at g1 g2
  have hb20 : b2 = 0 := by
    rcases (show b2 = 0 ∨ 1 ≤ b2 by omega) with h | h
    · exact h
    · exfalso; omega
  subst hb20
  refine ⟨by omega, by omega, by omega⟩
/-- what divWW is called with, scaled -/
theorem dww_scale {x1 x0 y s : Int} (P Q : Int) (hP : 0 < P) (hPQ : P * Q = 18446744073709551616) (h1 : 0 ≤ x1) (h1y : x1 < y) (h0 : 0 ≤ x0) (h0W : x0 < 18446744073709551616) (hQ : 0 < Q) :
    (x1 * P + x0 / Q) * 18446744073709551616 + (x0 * P) % 18446744073709551616 = (x1 * 18446744073709551616 + x0) * P ∧ x1 * P + x0 / Q < y * P ∧ 0 ≤ x1 * P + x0 / Q := by
  have e := Int.emod_add_mul_ediv (x0 * P) 18446744073709551616
  have e2 : x0 * P / 18446744073709551616 = x0 / Q := by
    rw [← hPQ, Int.mul_comm x0, Int.mul_ediv_mul_of_pos _ _ hP]
  rw [e2] at e
  have e3 : x0 / Q < P := Int.ediv_lt_of_lt_mul hQ (by rw [hPQ]; exact h0W)
  have e4 := Int.ediv_nonneg h0 (Int.le_of_lt hQ)
  have e5 : (x1 + 1) * P ≤ y * P := Int.mul_le_mul_of_nonneg_right (by omega) (by omega)
  have e6 := Int.mul_nonneg h1 (Int.le_of_lt hP)
  rw [Int.add_mul, Int.one_mul] at e5
  refine ⟨by rw [Int.add_mul (x1 * 18446744073709551616)]; grind, by omega, by omega⟩
set_option maxRecDepth 100000 in
set_option maxHeartbeats 1000000 in
theorem dww_s0 (X1 X0 D m A1 A0 c1 g0 q c2 B1 B0 r0 b r1 b2 : Int) (w : World)
    (hX1 : 0 ≤ X1) (hX1W : X1 < 18446744073709551616) (hX0 : 0 ≤ X0) (hX0W : X0 < 18446744073709551616) (hm0 : 0 ≤ m) (hmW : m < 18446744073709551616) (hD0 : 9223372036854775808 ≤ D) (hDW : D < 18446744073709551616)
    (CM1 : Hid (∀ W, Calls Tryd.prog 124 #[.int .u64 m, .int .u64 X1] W fun e w' => e = .returned (.tuple #[.int .u64 A1, .int .u64 A0]) ∧ W = w'))
    (CA1 : Hid (∀ W, Calls Tryd.prog 131 #[.int .u64 A0, .int .u64 X0, .int .u64 0] W fun e w' => e = .returned (.tuple #[.int .u64 g0, .int .u64 c1]) ∧ W = w'))
    (CA2 : Hid (∀ W, Calls Tryd.prog 131 #[.int .u64 A1, .int .u64 X1, .int .u64 c1] W fun e w' => e = .returned (.tuple #[.int .u64 q, .int .u64 c2]) ∧ W = w'))
    (CM2 : Hid (∀ W, Calls Tryd.prog 124 #[.int .u64 D, .int .u64 q] W fun e w' => e = .returned (.tuple #[.int .u64 B1, .int .u64 B0]) ∧ W = w'))
    (CS1 : Hid (∀ W, Calls Tryd.prog 148 #[.int .u64 X0, .int .u64 B0, .int .u64 0] W fun e w' => e = .returned (.tuple #[.int .u64 r0, .int .u64 b]) ∧ W = w'))
    (CS2 : Hid (∀ W, Calls Tryd.prog 148 #[.int .u64 X1, .int .u64 B1, .int .u64 b] W fun e w' => e = .returned (.tuple #[.int .u64 r1, .int .u64 b2]) ∧ W = w'))
    (hr0 : 0 ≤ r0) (hr0W : r0 < 18446744073709551616) (hq0 : 0 ≤ q) (hqW : q < 18446744073709551616) (hr1 : r1 = 0 ∨ r1 = 1)
    (Rn : Int) (Qn : Int)
    (K0 : Hid (r1 = 1 → r0 < D))
    (K1 : Hid (r1 = 0 → r0 < D → q = Qn ∧ r0 = Rn))
    (K2 : Hid (r1 = 0 → D ≤ r0 → q + 1 = Qn ∧ q + 1 < 18446744073709551616 ∧ r0 - D = Rn))
    (K3 : Hid (r1 = 1 → r0 + 18446744073709551616 - D < D → q + 1 = Qn ∧ r0 + 18446744073709551616 - D = Rn))
    (K4 : Hid (r1 = 1 → D ≤ r0 + 18446744073709551616 - D → q + 2 = Qn ∧ q + 2 < 18446744073709551616 ∧ r0 + 18446744073709551616 - D - D = Rn))
    (hQn : Qn < 18446744073709551616)
    (CN : Hid (Calls Tryd.prog 136 #[.int .u64 D] w fun e w' => e = .returned (.int .u64 0) ∧ w = w')) :
    Calls Tryd.prog 146 #[.int .u64 X1, .int .u64 X0, .int .u64 D, .int .u64 m] w fun e w' => e = .returned (.tuple #[.int .u64 Qn, .int .u64 Rn]) ∧ w = w' := by
  have M1 : True := trivial
  have M2 : True := trivial
  have M3 : True := trivial
  rcases hr1 with rfl | rfl
  · by_cases hc : D ≤ r0
    · obtain ⟨hk1, hk2, hk3⟩ := K2.out rfl hc
      go_enter Tryd.func146, Tryd.ntmps146
      go_wp2_with (first
        | (go_at_call 136; refine (CN.out).mono ?_; rintro e w1 ⟨rfl, rfl⟩)
        | (go_at_call 124; clear M1; refine (CM1.out _).mono ?_; rintro e w1 ⟨rfl, rfl⟩)
        | (go_at_call 124; refine (CM2.out _).mono ?_; rintro e w1 ⟨rfl, rfl⟩)
        | (go_at_call 131; clear M2; refine (CA1.out _).mono ?_; rintro e w1 ⟨rfl, rfl⟩)
        | (go_at_call 131; refine (CA2.out _).mono ?_; rintro e w1 ⟨rfl, rfl⟩)
        | (go_at_call 148; clear M3; refine (CS1.out _).mono ?_; rintro e w1 ⟨rfl, rfl⟩)
        | (go_at_call 148; refine (CS2.out _).mono ?_; rintro e w1 ⟨rfl, rfl⟩))
      go_ret2
      exact ⟨rfl, rfl⟩
    · obtain ⟨rfl, rfl⟩ := K1.out rfl (by omega)
      go_enter Tryd.func146, Tryd.ntmps146
      go_wp2_with (first
        | (go_at_call 136; refine (CN.out).mono ?_; rintro e w1 ⟨rfl, rfl⟩)
        | (go_at_call 124; clear M1; refine (CM1.out _).mono ?_; rintro e w1 ⟨rfl, rfl⟩)
        | (go_at_call 124; refine (CM2.out _).mono ?_; rintro e w1 ⟨rfl, rfl⟩)
        | (go_at_call 131; clear M2; refine (CA1.out _).mono ?_; rintro e w1 ⟨rfl, rfl⟩)
        | (go_at_call 131; refine (CA2.out _).mono ?_; rintro e w1 ⟨rfl, rfl⟩)
        | (go_at_call 148; clear M3; refine (CS1.out _).mono ?_; rintro e w1 ⟨rfl, rfl⟩)
        | (go_at_call 148; refine (CS2.out _).mono ?_; rintro e w1 ⟨rfl, rfl⟩))
      go_ret2
      exact ⟨rfl, rfl⟩
  · have hw : IntKind.u64.wrap (r0 - D) = r0 + 18446744073709551616 - D := by rw [IntKind.wrap_u64]; have := K0.out rfl; omega
    obtain ⟨s1, hs1⟩ : ∃ s1, s1 = r0 + 18446744073709551616 - D := ⟨_, rfl⟩
    have K3' := Lib.hid (K3.out rfl)
    have K4' := Lib.hid (K4.out rfl)
    have k0 := K0.out rfl
    have hs10 : 0 ≤ s1 ∧ s1 < 18446744073709551616 := by omega
    rw [← hs1] at hw K3' K4'
    clear hs1 K1 K2 K3 K4 K0
    obtain ⟨hs10, hs11⟩ := hs10
    by_cases hc : D ≤ s1
    · obtain ⟨hk1, hk2, hk3⟩ := K4'.out hc
      have hq2 : q + 1 + 1 = Qn := by omega
      have hq1 : q + 1 < 18446744073709551616 := by omega
      clear hk1
      go_enter Tryd.func146, Tryd.ntmps146
      go_wp2_with (first
        | (go_at_call 136; refine (CN.out).mono ?_; rintro e w1 ⟨rfl, rfl⟩)
        | (go_at_call 124; clear M1; refine (CM1.out _).mono ?_; rintro e w1 ⟨rfl, rfl⟩)
        | (go_at_call 124; refine (CM2.out _).mono ?_; rintro e w1 ⟨rfl, rfl⟩)
        | (go_at_call 131; clear M2; refine (CA1.out _).mono ?_; rintro e w1 ⟨rfl, rfl⟩)
        | (go_at_call 131; refine (CA2.out _).mono ?_; rintro e w1 ⟨rfl, rfl⟩)
        | (go_at_call 148; clear M3; refine (CS1.out _).mono ?_; rintro e w1 ⟨rfl, rfl⟩)
        | (go_at_call 148; refine (CS2.out _).mono ?_; rintro e w1 ⟨rfl, rfl⟩))
      go_ret2
      exact ⟨rfl, rfl⟩
    · obtain ⟨hk1, hk3⟩ := K3'.out (by omega)
      have hq1 : q + 1 < 18446744073709551616 := by omega
      go_enter Tryd.func146, Tryd.ntmps146
      go_wp2_with (first
        | (go_at_call 136; refine (CN.out).mono ?_; rintro e w1 ⟨rfl, rfl⟩)
        | (go_at_call 124; clear M1; refine (CM1.out _).mono ?_; rintro e w1 ⟨rfl, rfl⟩)
        | (go_at_call 124; refine (CM2.out _).mono ?_; rintro e w1 ⟨rfl, rfl⟩)
        | (go_at_call 131; clear M2; refine (CA1.out _).mono ?_; rintro e w1 ⟨rfl, rfl⟩)
        | (go_at_call 131; refine (CA2.out _).mono ?_; rintro e w1 ⟨rfl, rfl⟩)
        | (go_at_call 148; clear M3; refine (CS1.out _).mono ?_; rintro e w1 ⟨rfl, rfl⟩)
        | (go_at_call 148; refine (CS2.out _).mono ?_; rintro e w1 ⟨rfl, rfl⟩))
      go_ret2
      exact ⟨rfl, rfl⟩
set_option maxRecDepth 100000 in
set_option maxHeartbeats 1000000 in
theorem dww_s1 (X1 X0 D m A1 A0 c1 g0 q c2 B1 B0 r0 b r1 b2 : Int) (w : World)
    (hX1 : 0 ≤ X1) (hX1W : X1 < 18446744073709551616) (hX0 : 0 ≤ X0) (hX0W : X0 < 18446744073709551616) (hm0 : 0 ≤ m) (hmW : m < 18446744073709551616) (hD0 : 9223372036854775808 ≤ D) (hDW : D < 18446744073709551616)
    (CM1 : Hid (∀ W, Calls Tryd.prog 124 #[.int .u64 m, .int .u64 X1] W fun e w' => e = .returned (.tuple #[.int .u64 A1, .int .u64 A0]) ∧ W = w'))
    (CA1 : Hid (∀ W, Calls Tryd.prog 131 #[.int .u64 A0, .int .u64 X0, .int .u64 0] W fun e w' => e = .returned (.tuple #[.int .u64 g0, .int .u64 c1]) ∧ W = w'))
    (CA2 : Hid (∀ W, Calls Tryd.prog 131 #[.int .u64 A1, .int .u64 X1, .int .u64 c1] W fun e w' => e = .returned (.tuple #[.int .u64 q, .int .u64 c2]) ∧ W = w'))
    (CM2 : Hid (∀ W, Calls Tryd.prog 124 #[.int .u64 D, .int .u64 q] W fun e w' => e = .returned (.tuple #[.int .u64 B1, .int .u64 B0]) ∧ W = w'))
    (CS1 : Hid (∀ W, Calls Tryd.prog 148 #[.int .u64 X0, .int .u64 B0, .int .u64 0] W fun e w' => e = .returned (.tuple #[.int .u64 r0, .int .u64 b]) ∧ W = w'))
    (CS2 : Hid (∀ W, Calls Tryd.prog 148 #[.int .u64 X1, .int .u64 B1, .int .u64 b] W fun e w' => e = .returned (.tuple #[.int .u64 r1, .int .u64 b2]) ∧ W = w'))
    (hr0 : 0 ≤ r0) (hr0W : r0 < 18446744073709551616) (hq0 : 0 ≤ q) (hqW : q < 18446744073709551616) (hr1 : r1 = 0 ∨ r1 = 1)
    (Rn : Int) (Qn : Int) (P Q2 a bb x1 x0 y : Int) (S : Nat) (hS0 : 0 < S) (hS : S < 64) (hP : (2 : Int) ^ S = P) (hQ2 : (2 : Int) ^ (64 - S) = Q2) (ha : x1 * P = a) (hbb : x0 / Q2 = bb) (ha0 : 0 ≤ a) (haW : a < 18446744073709551616) (hor : bits .or .u64 a bb = X1) (hx0 : IntKind.u64.wrap (x0 * P) = X0) (hD : y * P = D) (hx10 : 0 ≤ x1) (hx00 : 0 ≤ x0) (hx0W : x0 < 18446744073709551616) (hy0 : 0 < y)
    (K0 : Hid (r1 = 1 → r0 < D))
    (K1 : Hid (r1 = 0 → r0 < D → q = Qn ∧ r0 / P = Rn))
    (K2 : Hid (r1 = 0 → D ≤ r0 → q + 1 = Qn ∧ q + 1 < 18446744073709551616 ∧ (r0 - D) / P = Rn))
    (K3 : Hid (r1 = 1 → r0 + 18446744073709551616 - D < D → q + 1 = Qn ∧ (r0 + 18446744073709551616 - D) / P = Rn))
    (K4 : Hid (r1 = 1 → D ≤ r0 + 18446744073709551616 - D → q + 2 = Qn ∧ q + 2 < 18446744073709551616 ∧ (r0 + 18446744073709551616 - D - D) / P = Rn))
    (hQn : Qn < 18446744073709551616)
    (CN : Hid (Calls Tryd.prog 136 #[.int .u64 y] w fun e w' => e = .returned (.int .u64 (S : Int)) ∧ w = w')) :
    Calls Tryd.prog 146 #[.int .u64 x1, .int .u64 x0, .int .u64 y, .int .u64 m] w fun e w' => e = .returned (.tuple #[.int .u64 Qn, .int .u64 Rn]) ∧ w = w' := by
  have M1 : True := trivial
  have M2 : True := trivial
  have M3 : True := trivial
  have hSne : ((S : Int) == 0) = false := by rw [beq_eq_false_iff_ne]; omega
  have hmin1 : min S 64 = S := by omega
  have hmin2 : min (64 - S) 64 = 64 - S := by omega
  have hsub2 : (64 : Int) - (S : Int) = ((64 - S : Nat) : Int) := by omega
  rcases hr1 with rfl | rfl
  · by_cases hc : D ≤ r0
    · obtain ⟨hk1, hk2, hk3⟩ := K2.out rfl hc
      go_enter Tryd.func146, Tryd.ntmps146
      go_wp2_with (first
        | (go_at_call 136; refine (CN.out).mono ?_; rintro e w1 ⟨rfl, rfl⟩)
        | (go_at_call 124; clear M1; refine (CM1.out _).mono ?_; rintro e w1 ⟨rfl, rfl⟩)
        | (go_at_call 124; refine (CM2.out _).mono ?_; rintro e w1 ⟨rfl, rfl⟩)
        | (go_at_call 131; clear M2; refine (CA1.out _).mono ?_; rintro e w1 ⟨rfl, rfl⟩)
        | (go_at_call 131; refine (CA2.out _).mono ?_; rintro e w1 ⟨rfl, rfl⟩)
        | (go_at_call 148; clear M3; refine (CS1.out _).mono ?_; rintro e w1 ⟨rfl, rfl⟩)
        | (go_at_call 148; refine (CS2.out _).mono ?_; rintro e w1 ⟨rfl, rfl⟩))
      go_ret2
      exact ⟨rfl, rfl⟩
    · obtain ⟨rfl, hk3⟩ := K1.out rfl (by omega)
      go_enter Tryd.func146, Tryd.ntmps146
      go_wp2_with (first
        | (go_at_call 136; refine (CN.out).mono ?_; rintro e w1 ⟨rfl, rfl⟩)
        | (go_at_call 124; clear M1; refine (CM1.out _).mono ?_; rintro e w1 ⟨rfl, rfl⟩)
        | (go_at_call 124; refine (CM2.out _).mono ?_; rintro e w1 ⟨rfl, rfl⟩)
        | (go_at_call 131; clear M2; refine (CA1.out _).mono ?_; rintro e w1 ⟨rfl, rfl⟩)
        | (go_at_call 131; refine (CA2.out _).mono ?_; rintro e w1 ⟨rfl, rfl⟩)
        | (go_at_call 148; clear M3; refine (CS1.out _).mono ?_; rintro e w1 ⟨rfl, rfl⟩)
        | (go_at_call 148; refine (CS2.out _).mono ?_; rintro e w1 ⟨rfl, rfl⟩))
      go_ret2
      exact ⟨rfl, rfl⟩
  · have hw : IntKind.u64.wrap (r0 - D) = r0 + 18446744073709551616 - D := by rw [IntKind.wrap_u64]; have := K0.out rfl; omega
    obtain ⟨s1, hs1⟩ : ∃ s1, s1 = r0 + 18446744073709551616 - D := ⟨_, rfl⟩
    have K3' := Lib.hid (K3.out rfl)
    have K4' := Lib.hid (K4.out rfl)
    have k0 := K0.out rfl
    have hs10 : 0 ≤ s1 ∧ s1 < 18446744073709551616 := by omega
    rw [← hs1] at hw K3' K4'
    clear hs1 K1 K2 K3 K4 K0
    obtain ⟨hs10, hs11⟩ := hs10
    by_cases hc : D ≤ s1
    · obtain ⟨hk1, hk2, hk3⟩ := K4'.out hc
      have hq2 : q + 1 + 1 = Qn := by omega
      have hq1 : q + 1 < 18446744073709551616 := by omega
      clear hk1
      go_enter Tryd.func146, Tryd.ntmps146
      go_wp2_with (first
        | (go_at_call 136; refine (CN.out).mono ?_; rintro e w1 ⟨rfl, rfl⟩)
        | (go_at_call 124; clear M1; refine (CM1.out _).mono ?_; rintro e w1 ⟨rfl, rfl⟩)
        | (go_at_call 124; refine (CM2.out _).mono ?_; rintro e w1 ⟨rfl, rfl⟩)
        | (go_at_call 131; clear M2; refine (CA1.out _).mono ?_; rintro e w1 ⟨rfl, rfl⟩)
        | (go_at_call 131; refine (CA2.out _).mono ?_; rintro e w1 ⟨rfl, rfl⟩)
        | (go_at_call 148; clear M3; refine (CS1.out _).mono ?_; rintro e w1 ⟨rfl, rfl⟩)
        | (go_at_call 148; refine (CS2.out _).mono ?_; rintro e w1 ⟨rfl, rfl⟩))
      go_ret2
      exact ⟨rfl, rfl⟩
    · obtain ⟨hk1, hk3⟩ := K3'.out (by omega)
      have hq1 : q + 1 < 18446744073709551616 := by omega
      go_enter Tryd.func146, Tryd.ntmps146
      go_wp2_with (first
        | (go_at_call 136; refine (CN.out).mono ?_; rintro e w1 ⟨rfl, rfl⟩)
        | (go_at_call 124; clear M1; refine (CM1.out _).mono ?_; rintro e w1 ⟨rfl, rfl⟩)
        | (go_at_call 124; refine (CM2.out _).mono ?_; rintro e w1 ⟨rfl, rfl⟩)
        | (go_at_call 131; clear M2; refine (CA1.out _).mono ?_; rintro e w1 ⟨rfl, rfl⟩)
        | (go_at_call 131; refine (CA2.out _).mono ?_; rintro e w1 ⟨rfl, rfl⟩)
        | (go_at_call 148; clear M3; refine (CS1.out _).mono ?_; rintro e w1 ⟨rfl, rfl⟩)
        | (go_at_call 148; refine (CS2.out _).mono ?_; rintro e w1 ⟨rfl, rfl⟩))
      go_ret2
      exact ⟨rfl, rfl⟩
end Go.Proofs.YtknokndpeneogaaDoor
