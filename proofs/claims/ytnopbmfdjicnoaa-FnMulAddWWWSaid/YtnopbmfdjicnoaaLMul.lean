/-
  The walks of the laws on the products of words. Conditions: the arguments are words.
-/
import Derived.Test.YtnopbmfdjicnoaaSpecB
import Derived.Test.YtnopbmfdjicnoaaSpecC
import Derived.Test.YtnopbmfdjicnoaaBits
set_option linter.unusedSimpArgs false
set_option linter.unusedVariables false
namespace Go.Proofs.Ytnopbmfdjicnoaa
open Go.Big Go.RowKit

set_option maxRecDepth 100000 in
set_option maxHeartbeats 1000000 in
theorem law_FnMulWW (x y : Int) (w : World) (hx0 : 0 ≤ x) (hx1 : x < 18446744073709551616) (hy0 : 0 ≤ y) (hy1 : y < 18446744073709551616) :
    Calls Try.prog 6 #[.int .u64 x, .int .u64 y] w fun e w' => e = .returned (.bool true) ∧ Fr [] w w' := by
  obtain ⟨p, hp⟩ : ∃ p, p = x * y := ⟨_, rfl⟩
  have hb := mul_le_of hx0 (show x ≤ 18446744073709551615 by omega) hy0 (show y ≤ 18446744073709551615 by omega)
  rw [← hp] at hb
  have c1 := implMulWW_any x y w hx0 hx1 hy0 hy1
  have c2 := implMulWW_any 1 1 w (by omega) (by omega) (by omega) (by omega)
  rw [← hp] at c1
  have c3 := of2_any (p / 18446744073709551616) (p % 18446744073709551616) w (by omega) (by omega) (by omega) (by omega)
  have e3 : p / 18446744073709551616 * 18446744073709551616 + p % 18446744073709551616 = p := by omega
  rw [e3] at c3
  have C1 := Lib.hid c1
  have C2 := Lib.hid c2
  have C3 := Lib.hid c3
  have HP := Lib.hid hp
  have HB := Lib.hid hb
  clear c1 c2 c3 e3 hp hb
  go_enter Try.func6, Try.ntmps6
  go_wp2_with (first
    | (go_at_call 26; refine (Hid.out C1).mono ?_; rintro e w1 ⟨rfl, rfl⟩; clear C1)
    | (go_at_call 26; refine (Hid.out C2).mono ?_; rintro e w1 ⟨rfl, rfl⟩; clear C2)
    | (go_at_call 27; refine (Hid.out C3).mono ?_; rintro e w1 ⟨v1, rfl, sn1, f1⟩; clear C3)
    | (go_at_call 18; refine (of1_any x _ hx0 hx1).mono ?_; rintro e w2 ⟨v2, rfl, sn2, f2⟩)
    | (go_at_call 18; refine (of1_any y _ hy0 hy1).mono ?_; rintro e w3 ⟨v3, rfl, sn3, f3⟩)
    | (go_at_call 17; refine (mul_any _ _ x y _ (sn2.fr0 f3) sn3 (word_BIG hx1) (word_BIG hy1)).mono ?_; rintro e w4 ⟨v4, rfl, sn4, f4⟩)
    | (go_at_call 19; refine (cmp_same _ _ p _ (((sn1.fr0 f2).fr0 f3).fr0 f4) (by rw [HP.out]; exact sn4)).mono ?_; rintro e w5 ⟨rfl, f5⟩))
  go_ret
  exact ⟨rfl, (((f1.t f2).t f3).t f4).t f5⟩
set_option maxRecDepth 100000 in
set_option maxHeartbeats 1000000 in
theorem law_FnMulAddWWW (x y c : Int) (w : World) (hx0 : 0 ≤ x) (hx1 : x < 18446744073709551616) (hy0 : 0 ≤ y) (hy1 : y < 18446744073709551616) (hc0 : 0 ≤ c) (hc1 : c < 18446744073709551616) :
    Calls Try.prog 12 #[.int .u64 x, .int .u64 y, .int .u64 c] w fun e w' => e = .returned (.bool true) ∧ Fr [] w w' := by
  have hb := mul_le_of hx0 (show x ≤ 18446744073709551615 by omega) hy0 (show y ≤ 18446744073709551615 by omega)
  have c1 := implMulAdd_any x y c w hx0 hx1 hy0 hy1 hc0 hc1
  have c2 := implMulAdd_any 0 0 1 w (by omega) (by omega) (by omega) (by omega) (by omega) (by omega)
  obtain ⟨p, hp⟩ : ∃ p, p = x * y + c := ⟨_, rfl⟩
  have hpb : 0 ≤ p ∧ p < 340282366920938463463374607431768211456 := by omega
  rw [← hp] at c1
  have c3 := of2_any (p / 18446744073709551616) (p % 18446744073709551616) w (by omega) (by omega) (by omega) (by omega)
  have e3 : p / 18446744073709551616 * 18446744073709551616 + p % 18446744073709551616 = p := by omega
  rw [e3] at c3
  have hsq : (18446744073709551616 : Int) ^ 2 = 340282366920938463463374607431768211456 := by decide
  have hxyB : x * y < BIG := lt_BIG64 2 (by rw [hsq]; omega) (by omega)
  have C1 := Lib.hid c1
  have C2 := Lib.hid c2
  have C3 := Lib.hid c3
  have HP := Lib.hid hp
  have HXY := Lib.hid hxyB
  clear c1 c2 c3 e3 hp hb hpb hxyB hsq
  go_enter Try.func12, Try.ntmps12
  go_wp2_with (first
    | (go_at_call 39; refine (Hid.out C1).mono ?_; rintro e w1 ⟨rfl, rfl⟩; clear C1)
    | (go_at_call 39; refine (Hid.out C2).mono ?_; rintro e w1 ⟨rfl, rfl⟩; clear C2)
    | (go_at_call 27; refine (Hid.out C3).mono ?_; rintro e w1 ⟨v1, rfl, sn1, f1⟩; clear C3)
    | (go_at_call 18; refine (of1_any x _ hx0 hx1).mono ?_; rintro e w2 ⟨v2, rfl, sn2, f2⟩)
    | (go_at_call 18; refine (of1_any y _ hy0 hy1).mono ?_; rintro e w3 ⟨v3, rfl, sn3, f3⟩)
    | (go_at_call 17; refine (mul_any _ _ x y _ (sn2.fr0 f3) sn3 (word_BIG hx1) (word_BIG hy1)).mono ?_; rintro e w4 ⟨v4, rfl, sn4, f4⟩)
    | (go_at_call 18; refine (of1_any c _ hc0 hc1).mono ?_; rintro e w5 ⟨v5, rfl, sn5, f5⟩)
    | (go_at_call 38; refine (add_any _ _ (x * y) c _ (sn4.fr0 f5) sn5 HXY.out (word_BIG hc1)).mono ?_; rintro e w6 ⟨v6, rfl, sn6, f6⟩)
    | (go_at_call 19; refine (cmp_same _ _ p _ (((((sn1.fr0 f2).fr0 f3).fr0 f4).fr0 f5).fr0 f6) (by rw [HP.out]; exact sn6)).mono ?_; rintro e w7 ⟨rfl, f7⟩))
  go_ret
  exact ⟨rfl, (((((f1.t f2).t f3).t f4).t f5).t f6).t f7⟩
end Go.Proofs.Ytnopbmfdjicnoaa
