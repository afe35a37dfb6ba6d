/-
  The walks of the laws FnLsh, FnRsh, FnShifts. Conditions: the words can be read.
-/
import Derived.Test.YtknokndpeneogaaDoorShiftR
import Derived.Test.YtknokndpeneogaaDoorBMulL
import Derived.Test.YtknokndpeneogaaDoorgBase
set_option linter.unusedSimpArgs false
set_option linter.unusedVariables false
namespace Go.Proofs.YtknokndpeneogaaDoor
open Go.Big Go.RowKit
theorem shl_BIG {xs : List Int} {s : Nat} (hd : DG 18446744073709551616 xs) (hl : xs.length ≤ 10000) (hs : s ≤ 100000) : val 18446744073709551616 xs * 2 ^ s < BIG := by
  have h0 := val_nonneg (by omega) hd
  have h1 := val_lt_of_len (by omega) hd hl
  have h2 := pow_le_pow_ (B := 2) (by omega) (show s ≤ 64 * 2000 by omega)
  have e : (2 : Int) ^ (64 * 2000) = 18446744073709551616 ^ 2000 := by rw [Int.pow_mul]; rfl
  rw [e] at h2
  have h3 := pow_pos_ (B := 18446744073709551616) (by omega) 2000
  have h4 : val 18446744073709551616 xs * 2 ^ s ≤ val 18446744073709551616 xs * 18446744073709551616 ^ 2000 := Int.mul_le_mul_of_nonneg_left h2 h0
  have h5 : val 18446744073709551616 xs * 18446744073709551616 ^ 2000 < 18446744073709551616 ^ 10000 * 18446744073709551616 ^ 2000 := Int.mul_lt_mul_of_pos_right h1 h3
  rw [← Int.pow_add] at h5
  exact lt_BIG64 12000 (by omega) (by omega)
set_option maxRecDepth 100000 in
theorem implLsh_any (v : Value) (xs : List Int) (n : Nat) (w : World) (hx : Sl .u64 w v xs) (hd : DG 18446744073709551616 xs) (hl : xs.length ≤ 10000) (hn : n ≤ 100000) :
    Calls Tryd.prog 36 #[v, .int .u64 (n : Int)] w (RetW (val 18446744073709551616 xs * 2 ^ n) w) := by
  have HX := Lib.hid hx
  have HD := Lib.hid hd
  have HB := Lib.hid (words_BIG hd (show xs.length ≤ 1000000 by omega))
  have HR := Lib.hid (shl_BIG hd hl hn)
  obtain ⟨X, hX⟩ : ∃ X, val 18446744073709551616 xs = X := ⟨_, rfl⟩
  have HV := Lib.hid hX
  rw [hX] at HB HR ⊢
  obtain ⟨R, hR'⟩ : ∃ R, X * 2 ^ n = R := ⟨_, rfl⟩
  have C := Lib.hid (fun v W (h : SW W v X) => lsh_any v X n W h HB.out (by omega))
  rw [hR'] at HR C ⊢
  clear hx hd hX hR'
  go_enter Tryd.func36, Tryd.ntmps36
  go_wp2_with (first
    | (go_at_call 48; refine (normed_any _ xs _ HX.out HD.out (by omega)).mono ?_; rintro e w1 ⟨v1, ys, rfl, sl1, dy, nzy, hvy, hly, f1⟩; have HVY := Lib.hid hvy; clear hvy)
    | (go_at_call 68; refine (zzIn_any _ ys _ sl1 (by omega)).mono ?_; rintro e w2 ⟨b2, rfl, row2, hb2, f2⟩)
    | (go_at_call 83; have sw2 := SW.mk row2 dy nzy (by omega); rw [HVY.out, HV.out] at sw2; refine (C.out _ _ sw2).mono ?_; rintro e w3 ⟨v3, rfl, sw3, f3⟩)
    | (go_at_call 75; refine (zzOutW_any _ _ _ sw3 HR.out).mono ?_; rintro e w4 ⟨v4, rfl, sw4, f4⟩)
    | (go_at_call 60; go_in))
  go_ret
  exact ⟨_, rfl, sw4, ((f1.t f2).t f3).t f4⟩
end Go.Proofs.YtknokndpeneogaaDoor
