/-
  The walk of the law FnTrunc. Conditions: the words can be read.
-/
import Derived.Test.YtknokndpeneogaaDoorSetN
import Derived.Test.YtknokndpeneogaaDoorDivM
set_option linter.unusedSimpArgs false
set_option linter.unusedVariables false
namespace Go.Proofs.YtknokndpeneogaaDoor
open Go.Big Go.RowKit
theorem emod_le_ {X P : Int} (h : 0 ≤ X) (hP : 0 < P) : 0 ≤ X % P ∧ X % P ≤ X := by
  have e := Int.emod_add_mul_ediv X P
  have h1 : 0 ≤ P * (X / P) := Int.mul_nonneg (by omega) (Int.ediv_nonneg h (by omega))
  exact ⟨Int.emod_nonneg _ (by omega), by omega⟩
theorem words_MID {xs : List Int} (hd : DG 18446744073709551616 xs) (hl : xs.length ≤ 15000) : val 18446744073709551616 xs < MID := by
  have h := val_lt (by omega) hd
  rw [pow64] at h
  have := pow_le_pow_ (B := 65536) (by omega) (show 4 * xs.length ≤ 60000 by omega)
  rw [MID_eq]; omega
theorem pow2_MID {k : Nat} (hk : k < 960000) : (2 : Int) ^ k < MID := by
  have h := pow_le_pow_ (B := 2) (by omega) (show k + 1 ≤ 960000 by omega)
  have hp := pow_pos_ (B := 2) (by omega) k
  rw [Int.pow_succ] at h
  have e : (2 : Int) ^ 960000 = MID := by
    rw [MID_eq]
    rw [show 960000 = 16 * 60000 from rfl, Int.pow_mul]; rfl
  omega
theorem pow2_BIG {k : Nat} (hk : k < 960000) : (2 : Int) ^ k < BIG := MID_BIG (pow2_MID hk)
end Go.Proofs.YtknokndpeneogaaDoor
