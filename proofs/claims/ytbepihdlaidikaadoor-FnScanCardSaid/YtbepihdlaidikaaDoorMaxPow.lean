/-
  maxPow and the walk of the law FnMaxPow. Conditions: the base is a word.
-/
import Derived.Test.YtbepihdlaidikaaDoorSmall
import Derived.Test.YtbepihdlaidikaaDoorgSpec
import Derived.Test.YtbepihdlaidikaaDoorgBase
set_option linter.unusedSimpArgs false
set_option linter.unusedVariables false
namespace Go.Proofs.YtbepihdlaidikaaDoor
open Go.Big Go.RowKit

def RetMP (b : Int) (w : World) (e : Ending) (w' : World) : Prop :=
  ∃ (p : Int) (k : Nat), e = .returned (.tuple #[.int .u64 p, .int .i64 (k : Int)]) ∧ 1 ≤ k ∧ k ≤ 63 ∧ p = b ^ k ∧ 0 ≤ p ∧ p < 18446744073709551616 ∧ 18446744073709551616 ≤ p * b ∧ w = w'
theorem pow_base_le {a b : Int} (ha : 0 ≤ a) (h : a ≤ b) (k : Nat) : a ^ k ≤ b ^ k := by
  induction k with
  | zero => simp
  | succ k ih => rw [Int.pow_succ, Int.pow_succ]; exact Int.mul_le_mul ih h ha (Int.le_trans (Int.pow_nonneg ha) ih)
theorem pow_len {b : Int} {k : Nat} (hb : 2 ≤ b) (h : b ^ k < 18446744073709551616) : k ≤ 63 := by
  rcases Nat.lt_or_ge k 64 with h4 | h4
  · omega
  · exfalso
    have h5 : (2 : Int) ^ 64 ≤ 2 ^ k := pow_le_pow_ (by omega) h4
    have h6 : (2 : Int) ^ k ≤ b ^ k := pow_base_le (by omega) hb k
    omega
theorem mp_step {p b : Int} (hb : 2 ≤ b) (hp : 0 < p) (h : p ≤ 18446744073709551615 / b) : p * b < 18446744073709551616 ∧ 2 * p ≤ p * b := by
  have h1 := (Int.le_ediv_iff_mul_le (by omega)).1 h
  have h2 := Int.mul_le_mul_of_nonneg_left hb (Int.le_of_lt hp)
  exact ⟨by omega, by omega⟩
theorem mp_end {p b : Int} (hb : 2 ≤ b) (h : 18446744073709551615 / b < p) : 18446744073709551616 ≤ p * b := by
  have h1 := (Int.ediv_lt_iff_lt_mul (by omega)).1 h
  omega
set_option maxRecDepth 100000 in
set_option maxHeartbeats 1000000 in
theorem maxPow_any (b : Int) (w : World) (h0 : 2 ≤ b) (h1 : b < 18446744073709551616) : Calls Tryd.prog 22 #[.int .u64 b] w (RetMP b w) := by
  go_enter Tryd.func22, Tryd.ntmps22
  go_wp2_with fail
  obtain ⟨M, hM⟩ : ∃ M, M = 18446744073709551615 / b := ⟨_, rfl⟩
  have hM0 : 0 ≤ M ∧ M < 18446744073709551616 := by
    rw [hM]; exact ⟨Int.ediv_nonneg (by omega) (by omega), Int.lt_of_le_of_lt (Int.ediv_le_self _ (by omega)) (by omega)⟩
  obtain ⟨hM0, hM1⟩ := hM0
  simp only [← hM]
  have HM := Lib.hid hM
  clear hM
  go_loopg [2, 3] (18446744073709551616 - b).toNat (fun g pv nv wr => ∃ (p : Int) (k : Nat), g = (18446744073709551616 - p).toNat ∧ pv = .int .u64 p ∧ nv = .int .i64 (k : Int) ∧ 1 ≤ k ∧ k ≤ 63 ∧ 0 < p ∧ p < 18446744073709551616 ∧ Hid (p = b ^ k) ∧ w = wr)
  case atStart => exact ⟨b, 1, rfl, rfl, rfl, by omega, by omega, by omega, h1, Lib.hid (show b = b ^ 1 by rw [Int.pow_succ, Int.pow_zero, Int.one_mul]), rfl⟩
  case round =>
    obtain ⟨p, k, rfl, rfl, rfl, hk1, hk2, hp0, hp1, hpk, rfl⟩ := hrel
    by_cases h2 : p ≤ M
    · obtain ⟨e1, e2⟩ := mp_step h0 hp0 (by rw [← HM.out]; exact h2)
      have e3 : p * b = b ^ (k + 1) := by rw [Int.pow_succ, ← hpk.out]
      have e4 := pow_len h0 (by rw [← e3]; exact e1)
      have E3 := Lib.hid e3
      obtain ⟨q, hq⟩ : ∃ q, q = p * b := ⟨_, rfl⟩
      have hw : IntKind.u64.wrap (p * b) = q := by rw [hq]; exact IntWalk.u64_in _ (by omega)
      rw [← hq] at e1 e2 E3
      clear e3 hq
      go_wp2_with fail
      go_roundg (18446744073709551616 - q).toNat
      case measure => omega
      case rel => exact ⟨q, k + 1, rfl, by first | rfl | rw [hw], by go_num, by omega, by omega, by omega, e1, E3, rfl⟩
    · have e1 := mp_end (p := p) h0 (by rw [← HM.out]; omega)
      have E1 := Lib.hid e1
      clear e1
      go_wp2_with fail
      go_ret2
      exact ⟨p, k, rfl, hk1, hk2, hpk.out, by omega, hp1, E1.out, rfl⟩
theorem len64_le {n : Int} {L : Nat} (h : IsLen n L) (hn : 18446744073709551616 ≤ n) : 65 ≤ L := by
  rcases h with ⟨rfl, _⟩ | ⟨h1, _, h3⟩
  · omega
  · rcases Nat.lt_or_ge L 65 with h4 | h4
    · exfalso
      have : (2 : Int) ^ L ≤ 2 ^ 64 := pow_le_pow_ (by omega) (by omega)
      omega
    · exact h4
end Go.Proofs.YtbepihdlaidikaaDoor
