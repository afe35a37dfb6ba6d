/-
  The reference's HasWords, the laws' exact, the thin package's norm and Norm. Conditions: what is read can be read.
-/
import Derived.Test.YtknokndpeneogaaDoorWords
set_option linter.unusedSimpArgs false
set_option linter.unusedVariables false
namespace Go.Proofs.YtknokndpeneogaaDoor
open Go.Big Go.RowKit

set_option maxRecDepth 100000 in
set_option maxHeartbeats 1000000 in
theorem hasWords_any (vx va : Value) (n : Int) (w : World) (hx : SW w vx n) (ha : SN w va n) (hn : n < BIG) :
    Calls Tryd.prog 53 #[vx, va] w fun e w' => e = .returned (.bool true) ∧ Fr [] w w' := by
  obtain ⟨xs, sx, dx, zx, hvx⟩ := hx
  have CW := Lib.hid (words_any va n w ha hn)
  have SX := Lib.hid sx
  obtain ⟨A, ca, rfl, hla, hma, hsa⟩ := sx
  unfold maxLen at hma
  have DX := Lib.hid dx
  have ZX := Lib.hid zx
  have HV := Lib.hid hvx
  clear dx zx hvx ha hn
  go_enter Tryd.func53, Tryd.ntmps53
  go_wp2_with (go_at_call 76; refine (Hid.out CW).mono ?_; rintro e w1 ⟨v1, rfl, ⟨ys, ⟨B, cb, rfl, hlb, hmb, hsb⟩, dy, zy, hvy⟩, f1⟩; obtain rfl : ys = xs := eq_of_val dy DX.out zy ZX.out (by omega) (by rw [hvy, HV.out]); unfold maxLen at hmb; clear dy zy hvy HV CW)
  go_loopg [16] ys.length (fun g iv wr => ∃ i : Nat, i ≤ ys.length ∧ g = ys.length - i ∧ iv = .int .i64 i ∧ Fr [] w1 wr)
  case atStart => exact ⟨0, by omega, rfl, rfl, Fr.refl _ _⟩
  case round =>
    obtain ⟨i, hi, rfl, rfl, hf⟩ := hrel
    by_cases h1 : i < ys.length
    · obtain ⟨ba, oa, rfl, _, sa⟩ := hsa (by omega)
      obtain ⟨bb, ob, rfl, _, sb⟩ := hsb (by omega)
      have cA := ((sa.fr f1 (by simp)).fr hf (by simp)) i h1
      have cB := (sb.fr hf (by simp)) i h1
      obtain ⟨x, hx⟩ : ∃ x, x = ys.getD i 0 := ⟨_, rfl⟩
      rw [← hx] at cA cB
      have HX := Lib.hid hx
      clear hx sa sb hsa hsb
      go_wp2_with fail
      go_quiet (fail)
      go_wp2_with fail
      go_roundg (ys.length - (i + 1))
      case measure => omega
      case rel => exact ⟨i + 1, by omega, rfl, by go_num, hf.drewN _⟩
    · clear hsa hsb
      go_wp2_with fail
      go_ret
      exact ⟨rfl, f1.t hf⟩

theorem exact_any (vx va : Value) (n : Int) (w : World) (hx : SW w vx n) (ha : SN w va n) (hn : n < BIG) :
    Calls Tryd.prog 29 #[vx, va] w fun e w' => e = .returned (.bool true) ∧ Fr [] w w' := by
  have C := Lib.hid (hasWords_any vx va n w hx ha hn)
  clear hx ha hn
  go_enter Tryd.func29, Tryd.ntmps29
  go_wp2_with (go_at_call 53; refine (Hid.out C).mono ?_; rintro e w1 ⟨rfl, f1⟩)
  go_ret
  exact ⟨rfl, f1⟩

theorem SW.mk {T : TypeId} {w : World} {b : Nat} {xs : List Int} (h : Row .u64 T w b xs) (hd : DG 18446744073709551616 xs) (hz : NZ xs) (hl : xs.length ≤ 1000000) :
    SW w (.slice (some ⟨b, 0, none⟩) xs.length xs.length) (val 18446744073709551616 xs) := ⟨xs, h.sl (by omega), hd, hz, rfl⟩
/-- nat.norm of a slice that reads as xs -/
theorem bnorm_sl (v : Value) (xs : List Int) (w : World) (hx : Sl .u64 w v xs) (hd : DG 18446744073709551616 xs) :
    Calls Tryd.prog 88 #[v] w fun e w' => (∃ v', e = .returned v' ∧ SW w v' (val 18446744073709551616 xs)) ∧ w = w' := by
  have hx' := hx
  obtain ⟨A, cap, rfl, h1, h2, h3⟩ := hx
  refine (bnorm_any A cap xs w h1 h2 (fun hp => ?_)).mono ?_
  · obtain ⟨b, off, e, _, hs⟩ := h3 hp
    exact ⟨b, off, e, hs⟩
  · rintro e w' ⟨i, ⟨hi, hz, hzs⟩, rfl, rfl⟩
    exact ⟨⟨_, rfl, xs.take i, hx'.cut hi, hd.take i, nz_take hi hz, val_cut _ hi hzs⟩, rfl⟩

set_option maxRecDepth 100000 in
theorem zzNorm_any (v : Value) (xs : List Int) (w : World) (hx : Sl .u64 w v xs) (hd : DG 18446744073709551616 xs) (hl : xs.length ≤ 1000000) :
    Calls Tryd.prog 70 #[v] w (RetW (val 18446744073709551616 xs) w) := by
  have HD := Lib.hid hd
  have HX := Lib.hid hx
  clear hd hx
  go_enter Tryd.func70, Tryd.ntmps70
  go_wp2_with (first
    | (go_at_call 68; refine (zzIn_any v xs _ HX.out hl).mono ?_; rintro e w1 ⟨b1, rfl, row1, hb1, f1⟩)
    | (go_at_call 88; refine (bnorm_sl _ xs _ (row1.sl (by omega)) HD.out).mono ?_; rintro e w2 ⟨⟨v2, rfl, ⟨ys, sl2, dg2, nz2, hv2⟩⟩, rfl⟩; have HV2 := Lib.hid hv2; clear hv2)
    | (go_at_call 75; refine (zzOut_any _ ys _ sl2 ?_).mono ?_; rotate_left; rintro e w3 ⟨v3, rfl, sl3, f3⟩))
  · go_ret
    exact ⟨v3, rfl, ⟨ys, sl3, dg2, nz2, HV2.out⟩, f1.t f3⟩
  · have h1 := val_lt (B := 18446744073709551616) (by omega) HD.out
    rw [← HV2.out] at h1
    have := len_le (B := 18446744073709551616) (by omega) dg2 nz2 h1
    omega
set_option maxRecDepth 100000 in
theorem implnorm_any (v : Value) (xs : List Int) (w : World) (hx : Sl .u64 w v xs) (hd : DG 18446744073709551616 xs) (hl : xs.length ≤ 1000000) :
    Calls Tryd.prog 48 #[v] w (RetW (val 18446744073709551616 xs) w) := by
  have HD := Lib.hid hd
  have HX := Lib.hid hx
  clear hd hx
  go_enter Tryd.func48, Tryd.ntmps48
  go_wp2_with (first
    | (go_at_call 52; refine (clone_any v xs _ HX.out hl).mono ?_; rintro e w1 ⟨v1, rfl, sl1, f1⟩)
    | (go_at_call 70; refine (zzNorm_any _ xs _ sl1 HD.out hl).mono ?_; rintro e w2 ⟨v2, rfl, sw2, f2⟩))
  go_ret
  exact ⟨v2, rfl, sw2, f1.t f2⟩
end Go.Proofs.YtknokndpeneogaaDoor
