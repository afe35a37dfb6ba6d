/-
  One bit of a word, the lowest bits of a word and of words: plain arithmetic. No program in sight.
-/
import Derived.Test.YtbepihdlaidikaaDoorgBase
import Derived.Laws.BitsAllLaws
set_option linter.unusedSimpArgs false
set_option linter.unusedVariables false
namespace Go.Big

theorem or_bit0 (a c r : Nat) (hc : c < 2 ^ r) : (2 ^ (r + 1) * a + c) ||| 2 ^ r = 2 ^ (r + 1) * a + (2 ^ r + c) := by
  have h1 : c < 2 ^ (r + 1) := by rw [Nat.pow_succ]; omega
  have h2 : 2 ^ r + c < 2 ^ (r + 1) := by rw [Nat.pow_succ]; omega
  have e := Nat.two_pow_add_eq_or_of_lt hc 1
  rw [Nat.mul_one] at e
  rw [Nat.two_pow_add_eq_or_of_lt h1, Nat.two_pow_add_eq_or_of_lt h2, Nat.or_assoc, Nat.or_comm c, ← e]
theorem or_bit1 (a c r : Nat) (hc : c < 2 ^ r) : (2 ^ (r + 1) * a + (2 ^ r + c)) ||| 2 ^ r = 2 ^ (r + 1) * a + (2 ^ r + c) := by
  have h2 : 2 ^ r + c < 2 ^ (r + 1) := by rw [Nat.pow_succ]; omega
  have e := Nat.two_pow_add_eq_or_of_lt hc 1
  rw [Nat.mul_one] at e
  rw [Nat.two_pow_add_eq_or_of_lt h2, Nat.or_assoc, e, Nat.or_assoc, Nat.or_comm c, ← Nat.or_assoc (2 ^ r), Nat.or_self]
theorem bit_split (t r : Nat) : t = 2 ^ (r + 1) * (t / 2 ^ (r + 1)) + (2 ^ r * (t / 2 ^ r % 2) + t % 2 ^ r) := by
  have h1 := Nat.div_add_mod t (2 ^ (r + 1))
  have h2 := Nat.mod_mul (x := t) (a := 2 ^ r) (b := 2)
  rw [← Nat.pow_succ] at h2
  rw [h2, Nat.add_comm (t % 2 ^ r)] at h1
  exact h1.symm
theorem or_bit (t r : Nat) : (t ||| 2 ^ r) + 2 ^ r * (t / 2 ^ r % 2) = t + 2 ^ r := by
  have hs := bit_split t r
  have hc := Nat.mod_lt t (Nat.two_pow_pos r)
  rcases Nat.mod_two_eq_zero_or_one (t / 2 ^ r) with h | h
  · rw [h, Nat.mul_zero, Nat.zero_add] at hs
    rw [h]
    have := or_bit0 (t / 2 ^ (r + 1)) (t % 2 ^ r) r hc
    rw [← hs] at this
    omega
  · rw [h, Nat.mul_one] at hs
    rw [h]
    have := or_bit1 (t / 2 ^ (r + 1)) (t % 2 ^ r) r hc
    rw [← hs] at this
    omega
theorem andNot_bit (t r : Nat) (ht : t < 18446744073709551616) (hr : r < 64) : (t &&& (18446744073709551615 - 2 ^ r)) + 2 ^ r * (t / 2 ^ r % 2) = t := by
  have e : 18446744073709551615 - 2 ^ r = 2 ^ 64 - (2 ^ r + 1) := by
    have := Nat.pow_lt_pow_right (a := 2) (by omega) hr
    omega
  have hlt : 2 ^ r < 2 ^ 64 := Nat.pow_lt_pow_right (by omega) hr
  have hs := bit_split t r
  have hc := Nat.mod_lt t (Nat.two_pow_pos r)
  have h1 : t % 2 ^ r < 2 ^ (r + 1) := by rw [Nat.pow_succ]; omega
  have key : t &&& (2 ^ 64 - (2 ^ r + 1)) = 2 ^ (r + 1) * (t / 2 ^ (r + 1)) + t % 2 ^ r := by
    apply Nat.eq_of_testBit_eq
    intro i
    rw [Nat.testBit_and, Nat.testBit_two_pow_sub_succ hlt, Nat.two_pow_add_eq_or_of_lt h1, Nat.testBit_or, Nat.testBit_two_pow_mul, Nat.testBit_two_pow, Nat.testBit_mod_two_pow, Nat.testBit_div_two_pow]
    by_cases hi : i = r
    · subst hi
      simp
      intro h; omega
    · by_cases hlt2 : i < r
      · have : ¬ i ≥ r + 1 := by omega
        have h3 : i < 64 := by omega
        have h4 : ¬ r = i := by omega
        simp [this, h3, h4, hlt2]
      · have h3 : i ≥ r + 1 := by omega
        have h4 : ¬ r = i := by omega
        have e5 : i - (r + 1) + (r + 1) = i := by omega
        have e6 : r + 1 + (i - (r + 1)) = i := by omega
        by_cases h5 : i < 64
        · simp [h3, h4, h5, hlt2, e5, e6]
        · have : t.testBit i = false := Nat.testBit_lt_two_pow (Nat.lt_of_lt_of_le ht (by have := Nat.pow_le_pow_right (n := 2) (by omega) (show 64 ≤ i by omega); omega))
          simp [this, h3, h4, hlt2, e5, e6]
  rw [e, key]
  omega

theorem pow_cast (r : Nat) : (2 : Int) ^ r = ((2 ^ r : Nat) : Int) := by simp
theorem pow_lt64 {r : Nat} (hr : r < 64) : (2 ^ r : Nat) < 18446744073709551616 := by
  have := Nat.pow_lt_pow_right (a := 2) (by omega) hr; omega
theorem u64_or_bit (t : Int) (r : Nat) (h0 : 0 ≤ t) (h1 : t < 18446744073709551616) (hr : r < 64) : bits .or .u64 t (2 ^ r) = t + 2 ^ r - 2 ^ r * (t / 2 ^ r % 2) := by
  obtain ⟨m, rfl⟩ := Int.eq_ofNat_of_zero_le h0
  rw [pow_cast, u64_or_nat _ _ (by omega) (pow_lt64 hr)]
  have := or_bit m r
  have e : (m : Int) / ((2 ^ r : Nat) : Int) % 2 = ((m / 2 ^ r % 2 : Nat) : Int) := by simp
  rw [e, ← Int.natCast_mul]
  omega
theorem u64_andNot_bit (t : Int) (r : Nat) (h0 : 0 ≤ t) (h1 : t < 18446744073709551616) (hr : r < 64) : bits .andNot .u64 t (2 ^ r) = t - 2 ^ r * (t / 2 ^ r % 2) := by
  obtain ⟨m, rfl⟩ := Int.eq_ofNat_of_zero_le h0
  rw [pow_cast, u64_andNot_nat _ _ (by omega) (pow_lt64 hr)]
  have := andNot_bit m r (by omega) hr
  have e : (m : Int) / ((2 ^ r : Nat) : Int) % 2 = ((m / 2 ^ r % 2 : Nat) : Int) := by simp
  rw [e, ← Int.natCast_mul]
  omega
theorem u64_and_mask (t : Int) (r : Nat) (h0 : 0 ≤ t) (h1 : t < 18446744073709551616) (hr : r < 64) : bits .and .u64 t (2 ^ r - 1) = t % 2 ^ r := by
  obtain ⟨m, rfl⟩ := Int.eq_ofNat_of_zero_le h0
  have hp := Nat.two_pow_pos r
  have e : (2 : Int) ^ r - 1 = ((2 ^ r - 1 : Nat) : Int) := by rw [pow_cast]; omega
  rw [e, u64_and_nat _ _ (by omega) (by have := pow_lt64 hr; omega), Nat.and_two_pow_sub_one_eq_mod]
  simp

/-- the lowest n bits of words: so many words, of the highest so many bits -/
theorem mod_words {B : Int} {s q : Nat} {xs : List Int} (hB : B = 2 ^ s) (hd : DG B xs) (hq : q ≤ xs.length) : val B xs % 2 ^ (s * q) = val B (xs.take q) := by
  have hB0 : 0 < B := by rw [hB]; exact pow_pos_ (by omega) s
  have e : (2 : Int) ^ (s * q) = B ^ q := by rw [Int.pow_mul, hB]
  have h1 := val_nonneg hB0 (hd.take q)
  have h2 := val_lt hB0 (hd.take q)
  rw [List.length_take, Nat.min_eq_left hq] at h2
  rw [val_split B xs q hq, e, Int.add_mul_emod_self_left, Int.emod_eq_of_lt h1 h2]
theorem emod_part {P Q a b : Int} (hP : 0 < P) (ha : 0 ≤ a) (haP : a < P) (hQ : 0 < Q) : (a + P * b) % (P * Q) = a + P * (b % Q) := by
  have h1 := Int.emod_add_mul_ediv b Q
  have h2 := Int.emod_nonneg b (show Q ≠ 0 by omega)
  have h3 := Int.emod_lt_of_pos b hQ
  have e : a + P * b = (a + P * (b % Q)) + P * Q * (b / Q) := by
    have : P * b = P * (b % Q) + P * Q * (b / Q) := by rw [Int.mul_assoc, ← Int.mul_add, h1]
    omega
  have h4 : P * (b % Q) ≤ P * (Q - 1) := Int.mul_le_mul_of_nonneg_left (by omega) (by omega)
  have h5 : 0 ≤ P * (b % Q) := Int.mul_nonneg (by omega) h2
  rw [Int.mul_sub, Int.mul_one] at h4
  rw [e, Int.add_mul_emod_self_left, Int.emod_eq_of_lt (by omega) (by omega)]
theorem mod_words' {B : Int} {s q r : Nat} {xs : List Int} (hB : B = 2 ^ s) (hd : DG B xs) (hq : q < xs.length) : val B xs % 2 ^ (s * q + r) = val B (xs.take q ++ [xs.getD q 0 % 2 ^ r]) ∨ s < r := by
  rcases Nat.lt_or_ge s r with h | h
  · exact .inr h
  left
  have hB0 : 0 < B := by rw [hB]; exact pow_pos_ (by omega) s
  have e : (2 : Int) ^ (s * q + r) = B ^ q * 2 ^ r := by rw [Int.pow_add, Int.pow_mul, hB]
  have h1 := val_nonneg hB0 (hd.take q)
  have h2 := val_lt hB0 (hd.take q)
  rw [List.length_take, Nat.min_eq_left (by omega)] at h2
  have e2 := val_split B xs (q + 1) (by omega)
  rw [val_take_succ'] at e2
  have e3 : B ^ (q + 1) * val B (xs.drop (q + 1)) = B ^ q * 2 ^ r * (2 ^ (s - r) * val B (xs.drop (q + 1))) := by
    have : B = 2 ^ r * 2 ^ (s - r) := by rw [hB, ← Int.pow_add]; congr 1; omega
    rw [Int.pow_succ]
    conv => lhs; rw [Int.mul_assoc, Int.mul_comm B]
    conv => lhs; rw [this]
    grind
  rw [val_snoc, List.length_take, Nat.min_eq_left (by omega), e2, e, e3, Int.add_mul_emod_self_left]
  exact emod_part (pow_pos_ hB0 q) h1 h2 (pow_pos_ (by omega) r)
end Go.Big
