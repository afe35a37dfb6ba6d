/-
  The division by halves, plain: a guess out of the upper parts, and its mending. Conditions: stated at each.
-/
import Derived.Test.YtknokndpeneogaaDoorKnuth
set_option linter.unusedSimpArgs false
set_option linter.unusedVariables false
namespace Go.Big
/-- quotient and rest are the only ones -/
theorem dm_uniq {U V q r : Int} (h : U = q * V + r) (h0 : 0 ≤ r) (h1 : r < V) : U / V = q ∧ U % V = r := by
  have hV : 0 < V := by omega
  have e1 : U / V = q := by
    rw [h, Int.add_comm, Int.add_mul_ediv_right _ _ (by omega), Int.ediv_eq_zero_of_lt h0 h1, Int.zero_add]
  refine ⟨e1, ?_⟩
  have := Int.emod_add_mul_ediv U V
  rw [e1, Int.mul_comm] at this
  omega
theorem dr_fit {P V V1 V0 uu uhi ulo qh rem : Int} (hV : V = V1 * P + V0) (h0 : 0 ≤ V0) (hu : uu = uhi * P + ulo) (hl : 0 ≤ ulo) (hl' : ulo < P) (hq : uhi = qh * V1 + rem) (hq0 : 0 ≤ qh) (hr1 : rem < V1) (hP : 0 < P) (hc : qh * V0 ≤ rem * P + ulo) : uu / V = qh ∧ uu % V = rem * P + ulo - qh * V0 := by
  have h1 : (rem + 1) * P ≤ V1 * P := Int.mul_le_mul_of_nonneg_right (by omega) (by omega)
  rw [Int.add_mul, Int.one_mul] at h1
  have h2 := Int.mul_nonneg hq0 h0
  exact dm_uniq (by rw [hu, hq, hV]; grind) (by omega) (by omega)
theorem dr_over {P V V1 V0 uu uhi ulo qh rem : Int} (hV : V = V1 * P + V0) (hu : uu = uhi * P + ulo) (hl : 0 ≤ ulo) (hq : uhi = qh * V1 + rem) (hr0 : 0 ≤ rem) (hP : 0 < P) (hc : rem * P + ulo < qh * V0) (he : qh * V0 ≤ V) : uu / V = qh - 1 ∧ uu % V = rem * P + ulo + V1 * P - (qh * V0 - V0) ∧ qh * V0 - V0 ≤ rem * P + ulo + V1 * P := by
  have h3 := Int.mul_nonneg hr0 (Int.le_of_lt hP)
  have := dm_uniq (U := uu) (V := V) (q := qh - 1) (r := rem * P + ulo + V1 * P - (qh * V0 - V0)) (by rw [hu, hq, hV]; grind) (by omega) (by omega)
  exact ⟨this.1, this.2, by omega⟩
theorem dr_guess {n B : Nat} {V V1 V0 uu uhi ulo qh rem : Int} (hB : 1 ≤ B) (hn : 2 * B ≤ n) (hV : V = V1 * 18446744073709551616 ^ (B - 1) + V0) (h0 : 0 ≤ V0) (h0' : V0 < 18446744073709551616 ^ (B - 1)) (hV1 : 9223372036854775808 * 18446744073709551616 ^ (n - B) ≤ V1)
    (hu : uu = uhi * 18446744073709551616 ^ (B - 1) + ulo) (hl : 0 ≤ ulo) (huu : uu < 18446744073709551616 ^ (n + B)) (hq : uhi = qh * V1 + rem) (hr0 : 0 ≤ rem) (hq0 : 0 ≤ qh) :
    qh < 2 * 18446744073709551616 ^ B ∧ qh * V0 ≤ V ∧ qh * V0 < 18446744073709551616 ^ (2 * B) := by
  obtain ⟨P, hP⟩ : ∃ P, P = (18446744073709551616 : Int) ^ (B - 1) := ⟨_, rfl⟩
  obtain ⟨R, hR⟩ : ∃ R, R = (18446744073709551616 : Int) ^ (n - B) := ⟨_, rfl⟩
  have hP0 : 0 < P := by rw [hP]; exact pow_pos_ (by omega) _
  have hR0 : 0 < R := by rw [hR]; exact pow_pos_ (by omega) _
  have eB : (18446744073709551616 : Int) ^ B = 18446744073709551616 * P := by rw [hP, show B = (B - 1) + 1 by omega, Int.pow_succ, Nat.add_sub_cancel, Int.mul_comm]
  have eN : (18446744073709551616 : Int) ^ (n + B) = R * (18446744073709551616 * P) * (18446744073709551616 * P) := by
    rw [show n + B = (n - B) + B + B by omega, Int.pow_add, Int.pow_add, eB, hR]
  have e2 : (18446744073709551616 : Int) ^ (2 * B) = (18446744073709551616 * P) * (18446744073709551616 * P) := by
    rw [show 2 * B = B + B by omega, Int.pow_add, eB]
  have hle : 18446744073709551616 * P ≤ R := by
    rw [← eB, hR]; exact pow_le_pow_ (by omega) (by omega)
  rw [← hP] at hV h0' hu
  rw [← hR] at hV1
  rw [eN] at huu
  rw [eB, e2]
  have a1 : 9223372036854775808 * R * P ≤ V1 * P := Int.mul_le_mul_of_nonneg_right hV1 (by omega)
  have hq1 : qh < 2 * (18446744073709551616 * P) := by
    rcases Int.lt_or_le qh (2 * (18446744073709551616 * P)) with h | h
    · exact h
    · exfalso
      have b1 : 2 * (18446744073709551616 * P) * (9223372036854775808 * R * P) ≤ qh * (V1 * P) := by
        have c1 : 2 * (18446744073709551616 * P) * (9223372036854775808 * R * P) ≤ qh * (9223372036854775808 * R * P) := Int.mul_le_mul_of_nonneg_right h (by have := Int.mul_pos hR0 hP0; rw [Int.mul_assoc]; omega)
        have c2 : qh * (9223372036854775808 * R * P) ≤ qh * (V1 * P) := Int.mul_le_mul_of_nonneg_left a1 hq0
        omega
      have b2 : 2 * (18446744073709551616 * P) * (9223372036854775808 * R * P) = R * (18446744073709551616 * P) * (18446744073709551616 * P) := by grind
      have b3 : qh * (V1 * P) + rem * P = uhi * P := by rw [hq]; grind
      have b4 := Int.mul_nonneg hr0 (Int.le_of_lt hP0)
      omega
  have hPR : P * P ≤ R * P := Int.mul_le_mul_of_nonneg_right (by omega) (by omega)
  have d1 : qh * V0 ≤ qh * P := Int.mul_le_mul_of_nonneg_left (by omega) hq0
  have d2 : qh * P ≤ 2 * (18446744073709551616 * P) * P := Int.mul_le_mul_of_nonneg_right (by omega) (by omega)
  have d3 : 2 * (18446744073709551616 * P) * P ≤ 2 * (R * P) := by
    have : 18446744073709551616 * P * P ≤ R * P := Int.mul_le_mul_of_nonneg_right hle (by omega)
    have e : 2 * (18446744073709551616 * P) * P = 2 * (18446744073709551616 * P * P) := by grind
    omega
  have hRP := Int.mul_pos hR0 hP0
  have hPP := Int.mul_pos hP0 hP0
  have d4 : 9223372036854775808 * R * P = 9223372036854775808 * (R * P) := by grind
  have d5 : 2 * (18446744073709551616 * P) * P = 36893488147419103232 * (P * P) := by grind
  have d6 : 18446744073709551616 * P * (18446744073709551616 * P) = 340282366920938463463374607431768211456 * (P * P) := by grind
  exact ⟨hq1, by omega, by omega⟩
theorem KnV.drop {n i : Nat} {V : List Int} (h : KnV n V) (hi : i + 2 ≤ n) : KnV (n - i) (V.drop i) :=
  ⟨by rw [List.length_drop, h.len], by omega, h.dg.drop i, by rw [getD_drop, show i + (n - i - 1) = n - 1 by omega]; exact h.top⟩
end Go.Big
