/-
  maxPow, pow, and the walks of the laws FnMaxPow, FnPow. Conditions: the arguments are words.
-/
import Derived.Test.YtbepihdlaidikaaDoorgSpec
import Derived.Test.YtbepihdlaidikaaDoorgBase
import Derived.Laws.Bits64
set_option linter.unusedSimpArgs false
set_option linter.unusedVariables false
namespace Go.Proofs.YtbepihdlaidikaaDoor
open Go.Big Go.RowKit

theorem emod_pow (a W : Int) (m : Nat) : (a % W) ^ m % W = a ^ m % W := by
  induction m with
  | zero => simp
  | succ m ih => rw [Int.pow_succ, Int.pow_succ, Int.mul_emod, ih, ← Int.mul_emod, Int.mul_emod (a ^ m) (a % W), Int.emod_emod, ← Int.mul_emod]
theorem pow_even {p X : Int} {m : Nat} (W : Int) : (p * X ^ (2 * m)) % W = (p * (X * X % W) ^ m) % W := by
  rw [Int.pow_mul, Int.mul_emod, Int.mul_emod p ((X * X % W) ^ m), emod_pow, Int.pow_succ, Int.pow_one]
theorem pow_odd {p X : Int} {m : Nat} (W : Int) : (p * X ^ (2 * m + 1)) % W = ((p * X % W) * (X * X % W) ^ m) % W := by
  rw [← pow_even, Int.pow_succ, Int.mul_emod (p * X % W), Int.emod_emod, ← Int.mul_emod]
  congr 1; grind
theorem i64_and_one (m : Nat) (h : m < 9223372036854775808) : bits .and .i64 (m : Int) 1 = ((m % 2 : Nat) : Int) := by
  have hm : (BitVec.ofInt 64 (m : Int)).toNat = m := by
    rw [BitVec.ofInt_natCast, BitVec.toNat_ofNat]; exact Nat.mod_eq_of_lt (by omega)
  have h1 : (BitVec.ofInt 64 (1 : Int)).toNat = 1 := by decide
  show IntKind.i64.wrap ((BitVec.ofInt 64 (m : Int) &&& BitVec.ofInt 64 (1 : Int)).toNat : Int) = _
  rw [BitVec.toNat_and, hm, h1, Nat.and_one_is_mod, IntKind.wrap_i64]
  omega

set_option maxRecDepth 100000 in
set_option maxHeartbeats 1000000 in
theorem pow_any (x : Int) (n : Nat) (w : World) (h0 : 0 ≤ x) (h1 : x < 18446744073709551616) (hn : n < 4611686018427387904) :
    Calls Tryd.prog 24 #[.int .u64 x, .int .i64 (n : Int)] w fun e w' => e = .returned (.int .u64 (x ^ n % 18446744073709551616)) ∧ w = w' := by
  go_enter Tryd.func24, Tryd.ntmps24
  go_wp2_with fail
  go_loopg [0, 1, 4] (n + 1) (fun g xv nv pv wr => ∃ (X p : Int) (m : Nat), m ≤ n ∧ g = m + 1 ∧ xv = .int .u64 X ∧ nv = .int .i64 m ∧ pv = .int .u64 p ∧ 0 ≤ X ∧ X < 18446744073709551616 ∧ 0 ≤ p ∧ p < 18446744073709551616 ∧
    (p * X ^ m) % 18446744073709551616 = x ^ n % 18446744073709551616 ∧ w = wr)
  case atStart => exact ⟨x, 1, n, Nat.le_refl _, rfl, rfl, rfl, rfl, h0, h1, by omega, by omega, by simp, rfl⟩
  case round =>
    obtain ⟨X, p, m, hm, rfl, rfl, rfl, rfl, hX0, hX1, hp0, hp1, hv, rfl⟩ := hrel
    have HV := Lib.hid hv
    clear hv
    rcases Nat.eq_zero_or_pos m with hm0 | hm0
    · subst hm0
      go_wp2_with fail
      go_ret
      have h := HV.out
      rw [Int.pow_zero, Int.mul_one, Int.emod_eq_of_lt hp0 hp1] at h
      exact ⟨by rw [← h]; rfl, rfl⟩
    · have hand := i64_and_one m (by omega)
      rcases Nat.mod_two_eq_zero_or_one m with hm2 | hm2
      · rw [hm2] at hand
        have hq : m = 2 * (m / 2) := by omega
        have HQ := Lib.hid hq
        clear hq hm2
        go_wp2_with fail
        go_roundg (m / 2 + 1)
        case measure => omega
        case rel =>
          refine ⟨_, _, m / 2, by omega, rfl, rfl, ?_, rfl, ?_, ?_, hp0, hp1, ?_, rfl⟩
          · go_num
          · rw [IntKind.wrap_u64]; exact Int.emod_nonneg _ (by omega)
          · rw [IntKind.wrap_u64]; exact Int.emod_lt_of_pos _ (by omega)
          · rw [IntKind.wrap_u64, ← pow_even, ← HQ.out]; exact HV.out
      · rw [hm2] at hand
        have hq : m = 2 * (m / 2) + 1 := by omega
        have HQ := Lib.hid hq
        clear hq hm2
        go_wp2_with fail
        go_roundg (m / 2 + 1)
        case measure => omega
        case rel =>
          refine ⟨_, _, m / 2, by omega, rfl, rfl, ?_, rfl, ?_, ?_, ?_, ?_, ?_, rfl⟩
          · go_num
          · rw [IntKind.wrap_u64]; exact Int.emod_nonneg _ (by omega)
          · rw [IntKind.wrap_u64]; exact Int.emod_lt_of_pos _ (by omega)
          · rw [IntKind.wrap_u64]; exact Int.emod_nonneg _ (by omega)
          · rw [IntKind.wrap_u64]; exact Int.emod_lt_of_pos _ (by omega)
          · rw [IntKind.wrap_u64, IntKind.wrap_u64, ← pow_odd, ← HQ.out]; exact HV.out
end Go.Proofs.YtbepihdlaidikaaDoor
