/-
  spec.Has, nat.bit, and the walk of the law FnBit. Conditions: the words can be read.
-/
import Derived.Test.YtknokndpeneogaaDoorgBase
import Derived.Test.YtknokndpeneogaaDoorNormed
import Derived.Test.YtknokndpeneogaaDoorFew
import Derived.Laws.Bits64
set_option linter.unusedSimpArgs false
set_option linter.unusedVariables false
namespace Go.Proofs.YtknokndpeneogaaDoor
open Go.Big Go.RowKit

theorem mod_two_of {x : Int} {r s : Nat} (R : Int) (hr : r < s) : (x + 2 ^ s * R) / 2 ^ r % 2 = x / 2 ^ r % 2 := by
  obtain ⟨t, rfl⟩ : ∃ t, s = r + (t + 1) := ⟨s - r - 1, by omega⟩
  rw [Int.pow_add, Int.pow_succ, show (2 : Int) ^ r * (2 ^ t * 2) * R = 2 ^ r * (2 * (2 ^ t * R)) by grind, Int.add_mul_ediv_left _ _ (by have := pow_pos_ (B := 2) (by omega) r; omega)]
  omega
theorem bit_of {B : Int} {s j r : Nat} {xs : List Int} (hB : B = 2 ^ s) (hd : DG B xs) (hr : r < s) : val B xs / 2 ^ (s * j + r) % 2 = xs.getD j 0 / 2 ^ r % 2 := by
  induction xs generalizing j with
  | nil => simp [val_nil]
  | cons x xs ih =>
    rcases j with _ | j
    · rw [val_cons, hB, Nat.mul_zero, Nat.zero_add, mod_two_of _ hr]
      simp
    · have h := ih (j := j) hd.tail
      have hx := hd.head
      have e1 : (x + B * val B xs) / B = val B xs := by
        rw [Int.add_mul_ediv_left _ _ (by omega), Int.ediv_eq_zero_of_lt hx.1 hx.2, Int.zero_add]
      have e2 : s * (j + 1) + r = s + (s * j + r) := by rw [Nat.mul_succ]; omega
      rw [val_cons, e2, Int.pow_add, ← hB, ← Int.ediv_ediv_of_nonneg (by omega), e1, h]
      simp [List.getD_eq_getElem?_getD]
theorem i64_and1 (x : Int) (h0 : 0 ≤ x) (h1 : x < 9223372036854775808) : bits .and .i64 x 1 = x % 2 := by
  obtain ⟨m, rfl⟩ : ∃ m : Nat, x = m := ⟨x.toNat, by omega⟩
  have hm : (BitVec.ofInt 64 (m : Int)).toNat = m := by
    rw [BitVec.ofInt_natCast, BitVec.toNat_ofNat]; exact Nat.mod_eq_of_lt (by omega)
  have h1 : (BitVec.ofInt 64 (1 : Int)).toNat = 1 := by decide
  show IntKind.i64.wrap ((BitVec.ofInt 64 (m : Int) &&& BitVec.ofInt 64 (1 : Int)).toNat : Int) = _
  rw [BitVec.toNat_and, hm, h1, Nat.and_one_is_mod, IntKind.wrap_i64]
  omega
theorem u64_and1 (x : Int) (h0 : 0 ≤ x) (h1 : x < 18446744073709551616) : bits .and .u64 x 1 = x % 2 := by
  rw [u64_and x 1 h0 h1 (by omega) (by omega)]
  rw [show (1 : Int).toNat = 2 ^ 1 - 1 from rfl, Nat.and_two_pow_sub_one_eq_mod]
  omega

set_option maxRecDepth 100000 in
set_option maxHeartbeats 1000000 in
theorem has_any (va : Value) (n : Int) (k : Nat) (w : World) (ha : SN w va n) (hk : k < 4611686018427387904) :
    Calls Tryd.prog 23 #[va, .int .i64 (k : Int)] w fun e w' => e = .returned (.bool (n / 2 ^ k % 2 == 1)) ∧ w = w' := by
  obtain ⟨da, ⟨A, ca, rfl, hla, hma, hsa⟩, dga, nza, rfl⟩ := ha
  unfold maxLen at hma
  obtain ⟨q, hq⟩ : ∃ q, q = k / 16 := ⟨_, rfl⟩
  obtain ⟨r, hr⟩ : ∃ r, r = k % 16 := ⟨_, rfl⟩
  have hr16 : r < 16 := by omega
  have hb := bit_of (B := 65536) (s := 16) (j := q) (r := r) (by decide) dga hr16
  rw [show 16 * q + r = k by omega] at hb
  obtain ⟨x, hx⟩ : ∃ x, x = da.getD q 0 := ⟨_, rfl⟩
  obtain ⟨hx0, hx1⟩ := dga.getD (by omega) q
  rw [← hx] at hb hx0 hx1
  rw [hb]
  obtain ⟨P, hP⟩ : ∃ P : Int, P = 2 ^ r := ⟨_, rfl⟩
  have hP0 : 0 < P := by rw [hP]; exact pow_pos_ (by omega) r
  rw [← hP]
  have hkq : (k : Int) / 16 = (q : Int) := by omega
  have hkr : (k : Int) % 16 = (r : Int) := by omega
  have hmin : min r 64 = r := by omega
  have hpow : (2 : Int) ^ r = P := hP.symm
  have hy0 : 0 ≤ x / P := Int.ediv_nonneg hx0 (by omega)
  have hy1 : x / P < 65536 := Int.lt_of_le_of_lt (Int.ediv_le_self _ hx0) hx1
  have hand := i64_and1 (x / P) hy0 (by omega)
  obtain ⟨d, hd⟩ : ∃ d, d = x / P % 2 := ⟨_, rfl⟩
  rw [← hd] at hand ⊢
  have HD := Lib.hid hd
  clear hb hq hr hP nza dga hd
  by_cases h1 : q < da.length
  · obtain ⟨b, o, rfl, _, sa⟩ := hsa (by omega)
    have cA := sa q h1
    rw [← hx] at cA
    clear sa hsa hx
    obtain ⟨y, hy⟩ : ∃ y, y = x / P := ⟨_, rfl⟩
    rw [← hy] at hand hy0 hy1
    have hsh : x / P = y := hy.symm
    clear hy
    go_enter Tryd.func23, Tryd.ntmps23
    go_wp2_with fail
    go_ret
    exact ⟨rfl, rfl⟩
  · have hx00 : x = 0 := by rw [hx]; exact getD_out (by omega)
    have hd0 : d = 0 := by rw [HD.out, hx00]; simp
    rw [hd0]
    clear hsa hx hx00 hd0 hand hy0 hy1 hx0 hx1 HD hpow hmin
    go_enter Tryd.func23, Tryd.ntmps23
    go_wp2_with fail
    go_ret
    exact ⟨rfl, rfl⟩
end Go.Proofs.YtknokndpeneogaaDoor
