/-
  maxPow and the walk of the law FnMaxPow. Conditions: the base is a word.
-/
import Derived.Test.YtnopbmfdjicnoaaSmall
import Derived.Test.YtnopbmfdjicnoaaSpecC
import Derived.Test.YtnopbmfdjicnoaaSpecL
set_option linter.unusedSimpArgs false
set_option linter.unusedVariables false
namespace Go.Proofs.Ytnopbmfdjicnoaa
open Go.Big Go.RowKit

def RetMP (b : Int) (w : World) (e : Ending) (w' : World) : Prop :=
  ∃ (p : Int) (k : Nat), e = .returned (.tuple #[.int .u64 p, .int .i64 (k : Int)]) ∧ 1 ≤ k ∧ k ≤ 63 ∧ p = b ^ k ∧ 0 ≤ p ∧ p < 18446744073709551616 ∧ 18446744073709551616 ≤ p * b ∧ w = w'
theorem pow_base_le {a b : Int} (ha : 0 ≤ a) (h : a ≤ b) (k : Nat) : a ^ k ≤ b ^ k := by
  induction k with
  | zero => simp
  | succ k ih => rw [Int.pow_succ, Int.pow_succ]; exact Int.mul_le_mul ih h ha (Int.le_trans (Int.pow_nonneg ha) ih)
theorem pow_len {b : Int} {k : Nat} (hb : 2 ≤ b) (h : b ^ k < 18446744073709551616) : k ≤ 63 := by
  rcases Nat.lt_or_ge k 64 with h4 | h4
  · omega
  · exfalso
    have h5 : (2 : Int) ^ 64 ≤ 2 ^ k := pow_le_pow_ (by omega) h4
    have h6 : (2 : Int) ^ k ≤ b ^ k := pow_base_le (by omega) hb k
    omega
theorem mp_step {p b : Int} (hb : 2 ≤ b) (hp : 0 < p) (h : p ≤ 18446744073709551615 / b) : p * b < 18446744073709551616 ∧ 2 * p ≤ p * b := by
  have h1 := (Int.le_ediv_iff_mul_le (by omega)).1 h
  have h2 := Int.mul_le_mul_of_nonneg_left hb (Int.le_of_lt hp)
  exact ⟨by omega, by omega⟩
theorem mp_end {p b : Int} (hb : 2 ≤ b) (h : 18446744073709551615 / b < p) : 18446744073709551616 ≤ p * b := by
  have h1 := (Int.ediv_lt_iff_lt_mul (by omega)).1 h
  omega
set_option maxRecDepth 100000 in
set_option maxHeartbeats 1000000 in
theorem maxPow_any (b : Int) (w : World) (h0 : 2 ≤ b) (h1 : b < 18446744073709551616) : Calls Try.prog 62 #[.int .u64 b] w (RetMP b w) := by
  go_enter Try.func62, Try.ntmps62
  go_wp2_with fail
  obtain ⟨M, hM⟩ : ∃ M, M = 18446744073709551615 / b := ⟨_, rfl⟩
  have hM0 : 0 ≤ M ∧ M < 18446744073709551616 := by
    rw [hM]; exact ⟨Int.ediv_nonneg (by omega) (by omega), Int.lt_of_le_of_lt (Int.ediv_le_self _ (by omega)) (by omega)⟩
  obtain ⟨hM0, hM1⟩ := hM0
  simp only [← hM]
  have HM := Lib.hid hM
  clear hM
  go_loopg [2, 3] (18446744073709551616 - b).toNat (fun g pv nv wr => ∃ (p : Int) (k : Nat), g = (18446744073709551616 - p).toNat ∧ pv = .int .u64 p ∧ nv = .int .i64 (k : Int) ∧ 1 ≤ k ∧ k ≤ 63 ∧ 0 < p ∧ p < 18446744073709551616 ∧ Hid (p = b ^ k) ∧ w = wr)
  case atStart => exact ⟨b, 1, rfl, rfl, rfl, by omega, by omega, by omega, h1, Lib.hid (show b = b ^ 1 by rw [Int.pow_succ, Int.pow_zero, Int.one_mul]), rfl⟩
  case round =>
    obtain ⟨p, k, rfl, rfl, rfl, hk1, hk2, hp0, hp1, hpk, rfl⟩ := hrel
    by_cases h2 : p ≤ M
    · obtain ⟨e1, e2⟩ := mp_step h0 hp0 (by rw [← HM.out]; exact h2)
      have e3 : p * b = b ^ (k + 1) := by rw [Int.pow_succ, ← hpk.out]
      have e4 := pow_len h0 (by rw [← e3]; exact e1)
      have E3 := Lib.hid e3
      obtain ⟨q, hq⟩ : ∃ q, q = p * b := ⟨_, rfl⟩
      have hw : IntKind.u64.wrap (p * b) = q := by rw [hq]; exact IntWalk.u64_in _ (by omega)
      rw [← hq] at e1 e2 E3
      clear e3 hq
      go_wp2_with fail
      go_roundg (18446744073709551616 - q).toNat
      case measure => omega
      case rel => exact ⟨q, k + 1, rfl, by first | rfl | rw [hw], by go_num, by omega, by omega, by omega, e1, E3, rfl⟩
    · have e1 := mp_end (p := p) h0 (by rw [← HM.out]; omega)
      have E1 := Lib.hid e1
      clear e1
      go_wp2_with fail
      go_ret2
      exact ⟨p, k, rfl, hk1, hk2, hpk.out, by omega, hp1, E1.out, rfl⟩
set_option maxRecDepth 100000 in
theorem implMP_any (b : Int) (w : World) (h0 : 2 ≤ b) (h1 : b < 18446744073709551616) : Calls Try.prog 15 #[.int .u64 b] w (RetMP b w) := by
  go_enter Try.func15, Try.ntmps15
  go_wp2_with (first
    | (go_at_call 62; refine (maxPow_any b _ h0 h1).mono ?_; rintro e w1 ⟨p, k, rfl, hk1, hk2, hpk, hp0, hp1, hpb, rfl⟩; have HPK := Lib.hid hpk; have HPB := Lib.hid hpb; clear hpk hpb)
    | go_in)
  go_ret2
  exact ⟨p, k, rfl, hk1, hk2, HPK.out, hp0, hp1, HPB.out, rfl⟩
theorem len64_le {n : Int} {L : Nat} (h : IsLen n L) (hn : 18446744073709551616 ≤ n) : 65 ≤ L := by
  rcases h with ⟨rfl, _⟩ | ⟨h1, _, h3⟩
  · omega
  · rcases Nat.lt_or_ge L 65 with h4 | h4
    · exfalso
      have : (2 : Int) ^ L ≤ 2 ^ 64 := pow_le_pow_ (by omega) (by omega)
      omega
    · exact h4
set_option maxRecDepth 100000 in
set_option maxHeartbeats 2000000 in
theorem law_FnMaxPow (b : Int) (w : World) (h0 : 0 ≤ b) (h1 : b < 18446744073709551616) :
    Calls Try.prog 3 #[.int .u64 b] w fun e w' => e = .returned (.bool true) ∧ Fr [] w w' := by
  by_cases h2 : b < 2
  · go_enter Try.func3, Try.ntmps3
    go_wp2_with fail
    go_ret
    exact ⟨rfl, Fr.refl _ _⟩
  · go_enter Try.func3, Try.ntmps3
    go_wp2_with (first
      | (go_at_call 15; refine (implMP_any b _ (by omega) h1).mono ?_; rintro e w1 ⟨p, k, rfl, hk1, hk2, hpk, hp0, hp1, hpb, rfl⟩; have HPK := Lib.hid hpk; have HPB := Lib.hid hpb; clear hpk hpb)
      | (go_at_call 16; refine (small_any 1 _ (by omega) (by omega)).mono ?_; rintro e w2 ⟨v2, rfl, sn2, f2⟩))
    go_loopg [5, 21] k (fun g rv iv wr => ∃ (i : Nat), i ≤ k ∧ g = k - i ∧ iv = .int .i64 (i : Int) ∧ SN wr rv (b ^ i) ∧ Fr [] w wr)
    case atStart => exact ⟨0, by omega, rfl, rfl, by simpa using sn2, f2⟩
    case round =>
      obtain ⟨i, hi, rfl, rfl, sn, f⟩ := hrel
      have hbi : b ^ i < BIG := by
        refine lt_BIG64 1 ?_ (by omega)
        have e1 : b ^ i ≤ b ^ k := pow_le_pow_ (by omega) hi
        rw [← HPK.out] at e1
        omega
      have HBI := Lib.hid hbi
      clear hbi
      by_cases h3 : i < k
      · go_wp2_with (first
          | (go_at_call 18; refine (of1_any b _ h0 h1).mono ?_; rintro e w3 ⟨v3, rfl, sn3, f3⟩)
          | (go_at_call 17; refine (mul_any _ _ _ b _ (sn.fr0 f3) sn3 HBI.out (word_BIG h1)).mono ?_; rintro e w4 ⟨v4, rfl, sn4, f4⟩))
        go_roundg (k - (i + 1))
        case measure => omega
        case rel => exact ⟨i + 1, by omega, rfl, by go_num, by rw [Int.pow_succ]; exact sn4, (f.t f3).t f4⟩
      · obtain rfl : i = k := by omega
        rw [← HPK.out] at sn
        have T1 : True := trivial
        go_wp2_with (first
          | (go_at_call 18; clear T1; refine (of1_any p _ hp0 hp1).mono ?_; rintro e w3 ⟨v3, rfl, sn3, f3⟩)
          | (go_at_call 19; refine (cmp_same _ _ p _ sn3 (sn.fr0 f3)).mono ?_; rintro e w4 ⟨rfl, f4⟩)
          | (go_at_call 18; refine (of1_any b _ h0 h1).mono ?_; rintro e w5 ⟨v5, rfl, sn5, f5⟩)
          | (go_at_call 17; refine (mul_any _ _ p b _ (((sn.fr0 f3).fr0 f4).fr0 f5) sn5 (word_BIG hp1) (word_BIG h1)).mono ?_; rintro e w6 ⟨v6, rfl, sn6, f6⟩)
          | (go_at_call 20; refine (bits_any _ (p * b) _ sn6 (lt_BIG64 2 (by have := (mul_le_of (a := 18446744073709551615) (b := 18446744073709551615) hp0 (by omega) h0 (by omega)).2; rw [show (18446744073709551616 : Int) ^ 2 = 340282366920938463463374607431768211456 from by decide]; omega) (by omega))).mono ?_; rintro e w7 ⟨L, rfl, hL, hL2, rfl⟩; have hL64 := len64_le hL HPB.out; clear hL))
        go_ret
        exact ⟨by show Ending.returned (.bool (decide ((64 : Int) < (L : Int)))) = _; rw [decide_eq_true (by omega)], (((f.t f3).t f4).t f5).t f6⟩
end Go.Proofs.Ytnopbmfdjicnoaa
