/-
  The noughts below the lowest bit of a word and of a number. Conditions: the table of math/bits lies in its variable.
-/
import Derived.Test.YtbepihdlaidikaaDoorgBase
import Derived.Test.YtbepihdlaidikaaDoorNorm
import Derived.Test.YtbepihdlaidikaaDoorBitOps
import Derived.Lib.TrailingZeros
import Derived.Laws.Bits64b
import Derived.Laws.BitsAllLaws
import Derived.Deep.QuietTactic
import Derived.BigQuiet
set_option linter.unusedSimpArgs false
set_option linter.unusedVariables false
namespace Go.Big
/-- X is an odd number times 2 to the t -/
def HasTz (X : Int) (t : Nat) : Prop := ∃ m : Int, 0 ≤ m ∧ X = 2 ^ t * (2 * m + 1)
theorem HasTz.bit {X : Int} {t : Nat} (h : HasTz X t) : X / 2 ^ t % 2 = 1 ∧ (∀ k, k < t → X / 2 ^ k % 2 = 0) ∧ 0 < X := by
  obtain ⟨m, hm, rfl⟩ := h
  have hp := pow_pos_ (B := 2) (by omega) t
  refine ⟨?_, fun k hk => ?_, Int.mul_pos hp (by omega)⟩
  · rw [Int.mul_ediv_cancel_left _ (by omega)]; omega
  · obtain ⟨d, rfl⟩ : ∃ d, t = k + (d + 1) := ⟨t - k - 1, by omega⟩
    have hk := pow_pos_ (B := 2) (by omega) k
    rw [Int.pow_add, Int.mul_assoc, Int.mul_ediv_cancel_left _ (by omega), Int.pow_succ, Int.mul_comm (2 ^ d) 2, Int.mul_assoc]
    exact Int.mul_emod_right _ _
theorem HasTz.words {xs : List Int} {i : Nat} {y : Int} {c : Nat} (hd : DG 18446744073709551616 xs) (hi : i < xs.length) (hz : ∀ k, k < i → xs.getD k 0 = 0) (hy : y = xs.getD i 0) (hc : HasTz y c) (hc64 : c < 64) : HasTz (val 18446744073709551616 xs) (64 * i + c) := by
  obtain ⟨m, hm, e⟩ := hc
  have e1 := val_split 18446744073709551616 xs i (by omega)
  have e2 : val 18446744073709551616 (xs.take i) = 0 := val_zeros _ (fun x hx => by
    obtain ⟨n, hn, rfl⟩ := List.mem_iff_getElem.1 hx
    rw [List.length_take] at hn
    have := hz n (by omega)
    rw [getD_in (by omega)] at this
    simpa using this)
  have e3 : val 18446744073709551616 (xs.drop i) = y + 18446744073709551616 * val 18446744073709551616 (xs.drop (i + 1)) := by
    rw [List.drop_eq_getElem_cons hi, val_cons, hy, getD_in hi]
  have h0 := val_nonneg (by omega) (hd.drop (i + 1))
  generalize val 18446744073709551616 (xs.drop (i + 1)) = R at *
  refine ⟨m + 2 ^ (63 - c) * R, ?_, ?_⟩
  · have := Int.mul_nonneg (Int.le_of_lt (pow_pos_ (B := 2) (by omega) (63 - c))) h0
    omega
  · rw [e1, e2, e3, e, Int.pow_add, Int.pow_mul, show (2 : Int) ^ 64 = 18446744073709551616 from rfl]
    have e4 : (18446744073709551616 : Int) = 2 ^ c * (2 * 2 ^ (63 - c)) := by
      rw [← Int.pow_succ', ← Int.pow_add, show c + (63 - c + 1) = 64 by omega]; rfl
    have e5 : 18446744073709551616 * R = 2 ^ c * (2 * 2 ^ (63 - c)) * R := by rw [← e4]
    rw [e5]
    grind
theorem HasTz.word {x : Nat} (h0 : x ≠ 0) (h : x < 18446744073709551616) : HasTz (x : Int) (Lib.ctz 64 x) ∧ Lib.ctz 64 x < 64 := by
  obtain ⟨m, e, hl⟩ := Lib.ctzFrom_spec 64 x (by omega) (by simpa using h)
  have ec : Lib.ctz 64 x = Lib.ctzFrom 64 x := by unfold Lib.ctz; rw [if_neg h0]
  rw [ec]
  refine ⟨⟨(m : Int), by omega, ?_⟩, hl⟩
  have := congrArg (fun n : Nat => (n : Int)) e
  simpa using this
theorem and_pred {c m : Nat} : (2 ^ c * (2 * m + 1)) &&& (2 ^ c * (2 * m + 1) - 1) = 2 ^ c * (2 * m) := by
  have hp := Nat.two_pow_pos c
  have e : 2 ^ c * (2 * m + 1) - 1 = 2 ^ c * (2 * m) + (2 ^ c - 1) := by
    rw [Nat.mul_add, Nat.mul_one]; omega
  rw [e]
  apply Nat.eq_of_testBit_eq
  intro j
  have a1 := Nat.testBit_two_pow_mul_add (2 * m + 1) (b := 0) hp j
  have a2 := Nat.testBit_two_pow_mul_add (2 * m) (b := 2 ^ c - 1) (show 2 ^ c - 1 < 2 ^ c by omega) j
  have a3 := Nat.testBit_two_pow_mul_add (2 * m) (b := 0) hp j
  rw [Nat.add_zero] at a1 a3
  rw [Nat.testBit_and, a1, a2, a3]
  by_cases hj : j < c
  · simp [hj]
  · rw [if_neg hj, if_neg hj, if_neg hj]
    rcases Nat.eq_zero_or_pos (j - c) with h | h
    · rw [h]; simp [Nat.testBit_zero]
    · obtain ⟨k, hk⟩ : ∃ k, j - c = k + 1 := ⟨j - c - 1, by omega⟩
      rw [hk, Nat.testBit_succ, Nat.testBit_succ]
      rw [show (2 * m + 1) / 2 = m by omega, show 2 * m / 2 = m by omega]
      simp
end Go.Big
namespace Go.Proofs.YtbepihdlaidikaaDoor
open Go.Big Go.RowKit
end Go.Proofs.YtbepihdlaidikaaDoor
