/-
  spec.Small. Conditions: 0 ≤ x < 2^63.
-/
import Derived.Test.YtbepihdlaidikaaDoorgBase
set_option linter.unusedSimpArgs false
set_option linter.unusedVariables false
namespace Go.Proofs.YtbepihdlaidikaaDoor
open Go.Big Go.RowKit

def SmallRel (x : Int) (w0 : World) (g : Nat) (xv rv : Value) (wr : World) : Prop :=
  ∃ (m : Int) (rs : List Int), 0 ≤ m ∧ m ≤ x ∧ g = m.toNat ∧ xv = .int .i64 m ∧ Own .i64 3 w0 wr rv rs ∧ Fr [] w0 wr ∧ DG 65536 rs ∧ rs.length ≤ 4 ∧ (m = 0 ∨ x / 65536 ^ rs.length = m) ∧ (m = 0 → NZ rs) ∧ val 65536 rs + 65536 ^ rs.length * m = x
theorem small_len {x m : Int} {n : Nat} (hx : x < 9223372036854775808) (hm : 0 < m) (h : x / 65536 ^ n = m) : n ≤ 3 := by
  rcases Nat.lt_or_ge n 4 with h4 | h4
  · omega
  · exfalso
    have h5 : (65536 : Int) ^ 4 ≤ 65536 ^ n := pow_le_pow_ (by omega) h4
    have : x / 65536 ^ n < 1 := Int.ediv_lt_of_lt_mul (by have := pow_pos_ (B := 65536) (by omega) n; omega) (by
      have : (65536 : Int) ^ 4 = 18446744073709551616 := by decide
      omega)
    omega
set_option maxRecDepth 100000 in
set_option maxHeartbeats 1000000 in
theorem small_any (x : Int) (w : World) (h0 : 0 ≤ x) (h1 : x < 9223372036854775808) : Calls Tryd.prog 7 #[.int .i64 x] w (RetSN x w) := by
  go_enter Tryd.func7, Tryd.ntmps7
  go_wp2_with fail
  go_loopg [0, 3] x.toNat (SmallRel x w)
  case atStart => exact ⟨x, [], h0, Int.le_refl _, rfl, rfl, Own.lit0 _ _ _ _ (Nat.le_refl _), (Fr.refl _ _).alloc _, DG.nil _, by simp, .inr (by simp), fun _ => NZ.nil, by simp [val_nil]⟩
  case round =>
    obtain ⟨m, rs, hm0, hm1, rfl, rfl, hown, hf, hd, hl, hq, hz, hv⟩ := hrel
    by_cases h2 : 0 < m
    · have hl3 : rs.length ≤ 3 := small_len h1 h2 (by rcases hq with h | h; omega; exact h)
      have hrl : rs.length < 1099511627776 := by omega
      have HRL := Lib.hid hrl
      have HV := Lib.hid hv
      have HQ := Lib.hid hq
      have HL3 := Lib.hid hl3
      clear hv hq hrl hz hl3 hl
      go_wp2_with (at_builtin; refine wp_app1 rfl (.tmp 9) (.tmp 12) _ rfl .i64 _ 8 ty_nat (by omega) w [] _ _ _ rfl hown hf rfl HRL.out ?_; intro v' w' hown' hf')
      go_roundg (m / 65536).toNat
      case measure => omega
      case rel =>
        have hq' : x / 65536 ^ rs.length = m := by rcases HQ.out with h | h; omega; exact h
        refine ⟨m / 65536, rs ++ [m % 65536], by omega, by omega, rfl, by go_num, hown', hf', hd.append (DG.cons (by omega) (by omega) (DG.nil _)), by have := HL3.out; simp; omega, .inr ?_, ?_, ?_⟩
        · rw [List.length_append, ← hq', List.length_singleton, Int.pow_succ, Int.ediv_ediv_of_nonneg (Int.le_of_lt (pow_pos_ (by omega) _))]
        · intro h; right; simp [List.getD_eq_getElem?_getD]; omega
        · have h := HV.out
          have e := Int.emod_add_mul_ediv m 65536
          rw [val_snoc, List.length_append, List.length_singleton, Int.pow_succ]
          grind
    · obtain rfl : m = 0 := by omega
      have hsl := hown.sl
      have hn := hz rfl
      clear hz hq
      rw [Int.mul_zero, Int.add_zero] at hv
      have HV := Lib.hid hv
      clear hv
      go_wp2_with fail
      go_ret
      exact ⟨_, rfl, ⟨rs, hsl, hd, hn, HV.out⟩, hf⟩
end Go.Proofs.YtbepihdlaidikaaDoor
