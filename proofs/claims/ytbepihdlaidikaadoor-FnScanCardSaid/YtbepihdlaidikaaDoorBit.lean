/-
  spec.Has, nat.bit, and the walk of the law FnBit. Conditions: the words can be read.
-/
import Derived.Test.YtbepihdlaidikaaDoorgBase
import Derived.Test.YtbepihdlaidikaaDoorNormed
import Derived.Test.YtbepihdlaidikaaDoorFew
import Derived.Laws.Bits64
set_option linter.unusedSimpArgs false
set_option linter.unusedVariables false
namespace Go.Proofs.YtbepihdlaidikaaDoor
open Go.Big Go.RowKit

theorem mod_two_of {x : Int} {r s : Nat} (R : Int) (hr : r < s) : (x + 2 ^ s * R) / 2 ^ r % 2 = x / 2 ^ r % 2 := by
  obtain ⟨t, rfl⟩ : ∃ t, s = r + (t + 1) := ⟨s - r - 1, by omega⟩
  rw [Int.pow_add, Int.pow_succ, show (2 : Int) ^ r * (2 ^ t * 2) * R = 2 ^ r * (2 * (2 ^ t * R)) by grind, Int.add_mul_ediv_left _ _ (by have := pow_pos_ (B := 2) (by omega) r; omega)]
  omega
theorem bit_of {B : Int} {s j r : Nat} {xs : List Int} (hB : B = 2 ^ s) (hd : DG B xs) (hr : r < s) : val B xs / 2 ^ (s * j + r) % 2 = xs.getD j 0 / 2 ^ r % 2 := by
  induction xs generalizing j with
  | nil => simp [val_nil]
  | cons x xs ih =>
    rcases j with _ | j
    · rw [val_cons, hB, Nat.mul_zero, Nat.zero_add, mod_two_of _ hr]
      simp
    · have h := ih (j := j) hd.tail
      have hx := hd.head
      have e1 : (x + B * val B xs) / B = val B xs := by
        rw [Int.add_mul_ediv_left _ _ (by omega), Int.ediv_eq_zero_of_lt hx.1 hx.2, Int.zero_add]
      have e2 : s * (j + 1) + r = s + (s * j + r) := by rw [Nat.mul_succ]; omega
      rw [val_cons, e2, Int.pow_add, ← hB, ← Int.ediv_ediv_of_nonneg (by omega), e1, h]
      simp [List.getD_eq_getElem?_getD]
theorem i64_and1 (x : Int) (h0 : 0 ≤ x) (h1 : x < 9223372036854775808) : bits .and .i64 x 1 = x % 2 := by
  obtain ⟨m, rfl⟩ : ∃ m : Nat, x = m := ⟨x.toNat, by omega⟩
  have hm : (BitVec.ofInt 64 (m : Int)).toNat = m := by
    rw [BitVec.ofInt_natCast, BitVec.toNat_ofNat]; exact Nat.mod_eq_of_lt (by omega)
  have h1 : (BitVec.ofInt 64 (1 : Int)).toNat = 1 := by decide
  show IntKind.i64.wrap ((BitVec.ofInt 64 (m : Int) &&& BitVec.ofInt 64 (1 : Int)).toNat : Int) = _
  rw [BitVec.toNat_and, hm, h1, Nat.and_one_is_mod, IntKind.wrap_i64]
  omega
theorem u64_and1 (x : Int) (h0 : 0 ≤ x) (h1 : x < 18446744073709551616) : bits .and .u64 x 1 = x % 2 := by
  rw [u64_and x 1 h0 h1 (by omega) (by omega)]
  rw [show (1 : Int).toNat = 2 ^ 1 - 1 from rfl, Nat.and_two_pow_sub_one_eq_mod]
  omega

end Go.Proofs.YtbepihdlaidikaaDoor
