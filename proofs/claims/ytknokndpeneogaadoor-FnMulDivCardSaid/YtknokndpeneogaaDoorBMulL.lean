/-
  laws.is, and the walk of the law FnBasicMul. Conditions: the words can be read.
-/
import Derived.Test.YtknokndpeneogaaDoorBMul
import Derived.Test.YtknokndpeneogaaDoorgAdd
import Derived.Test.YtknokndpeneogaaDoorDivM
set_option linter.unusedSimpArgs false
set_option linter.unusedVariables false
namespace Go.Proofs.YtknokndpeneogaaDoor
open Go.Big Go.RowKit
set_option maxRecDepth 100000 in
theorem is_any (v va : Value) (xs : List Int) (n : Int) (w : World) (hx : Sl .u64 w v xs) (hd : DG 18446744073709551616 xs) (hl : xs.length ≤ 1000000) (ha : SN w va n) (h : val 18446744073709551616 xs = n) :
    Calls Tryd.prog 27 #[v, va] w fun e w' => e = .returned (.bool true) ∧ Fr [] w w' := by
  have C1 := Lib.hid (of_any v xs w hx hd hl)
  rw [h] at C1
  have HA := Lib.hid ha
  clear hx hd ha h
  go_enter Tryd.func27, Tryd.ntmps27
  go_wp2_with (first
    | (go_at_call 19; refine (Hid.out C1).mono ?_; rintro e w1 ⟨v1, rfl, sn1, f1⟩)
    | (go_at_call 21; refine (cmp_same _ _ n _ sn1 (HA.out.fr0 f1)).mono ?_; rintro e w2 ⟨rfl, f2⟩))
  go_ret
  exact ⟨rfl, f1.t f2⟩
theorem prod_BIG {xs ys : List Int} (hd : DG 18446744073709551616 xs) (hd' : DG 18446744073709551616 ys) (hl : xs.length ≤ 100000) (hl' : ys.length ≤ 100000) : val 18446744073709551616 xs * val 18446744073709551616 ys < BIG := by
  have h1 := val_lt_of_len (by omega) hd hl
  have h2 := val_lt_of_len (by omega) hd' hl'
  have n1 := val_nonneg (by omega) hd
  have n2 := val_nonneg (by omega) hd'
  have h3 : val 18446744073709551616 xs * val 18446744073709551616 ys ≤ (18446744073709551616 ^ 100000 - 1) * (18446744073709551616 ^ 100000 - 1) := Int.mul_le_mul (by omega) (by omega) n2 (by have := pow_pos_ (B := 18446744073709551616) (by omega) 100000; omega)
  have e : (18446744073709551616 : Int) ^ 200000 = 18446744073709551616 ^ 100000 * 18446744073709551616 ^ 100000 := by rw [← Int.pow_add]
  have hp := pow_pos_ (B := 18446744073709551616) (by omega) 100000
  generalize (18446744073709551616 : Int) ^ 100000 = Q at *
  refine lt_BIG64 200000 ?_ (by omega)
  rw [e]
  have : (Q - 1) * (Q - 1) = Q * Q - 2 * Q + 1 := by grind
  omega
/-- so many words come back, their number P -/
def RetP (P : Int) (n : Nat) (w : World) (e : Ending) (w' : World) : Prop :=
  ∃ A cap zs, e = .returned (.slice A n cap) ∧ Sl .u64 w' (.slice A n cap) zs ∧ DG 18446744073709551616 zs ∧ zs.length = n ∧ val 18446744073709551616 zs = P ∧ Fr [] w w'
set_option maxRecDepth 100000 in
set_option maxHeartbeats 1000000 in
theorem zzBasicMul_any (v u : Value) (xs ys : List Int) (w : World) (hx : Sl .u64 w v xs) (hd : DG 18446744073709551616 xs) (hm9 : xs.length ≤ 100000) (hm0 : 0 < xs.length) (hy : Sl .u64 w u ys) (hd' : DG 18446744073709551616 ys) (hn9 : ys.length ≤ 100000) (hn0 : 0 < ys.length) :
    Calls Tryd.prog 59 #[v, u] w (RetP (val 18446744073709551616 xs * val 18446744073709551616 ys) (xs.length + ys.length) w) := by
  have HX := Lib.hid hx
  have HD := Lib.hid hd
  have HY := Lib.hid hy
  have HD' := Lib.hid hd'
  obtain ⟨A, ca, rfl, hla, hma, _⟩ := hx
  obtain ⟨B, cb, rfl, hlb, hmb, _⟩ := hy
  unfold maxLen at hma hmb
  have hw : IntKind.i64.wrap ((xs.length : Int) + (ys.length : Int)) = ((xs.length + ys.length : Nat) : Int) := by rw [IntKind.wrap_i64]; omega
  have T1 : True := trivial
  clear hd hd'
  go_enter Tryd.func59, Tryd.ntmps59
  go_wp2_with (first
    | (at_make; refine wp_mk rfl (.tmp 10) (.tmp 10) _ rfl .u64 77 8 ty_big (by omega) (xs.length + ys.length) (by first | rfl | (show Value.int IntKind.i64 _ = _; congr 1)) (by first | rfl | (show Value.int IntKind.i64 _ = _; congr 1)) (by omega) ?_; intro z w1 hz row1 f1; have HR1 := Lib.hid row1; clear row1)
    | (go_at_call 68; clear T1; refine (zzIn_any _ xs _ (HX.out.fr0 f1) (by omega)).mono ?_; rintro e w2 ⟨b2, rfl, row2, hb2, f2⟩; have HR2 := Lib.hid row2; clear row2; have hz2 := HR1.out.lt)
    | (go_at_call 68; refine (zzIn_any _ ys _ ((HY.out.fr0 f1).fr0 f2) (by omega)).mono ?_; rintro e w3 ⟨b3, rfl, row3, hb3, f3⟩; have HR3 := Lib.hid row3; clear row3; have hz3 := f2.size; have hz4 := f3.size; have hz5 := HR2.out.lt)
    | (go_at_call 82; refine (basicMul_any z 0 (xs.length + ys.length) _ b2 0 _ b3 0 _ xs.length ys.length _ xs ys _ ((HR1.out.fr f2 (by simp)).fr f3 (by simp)) (by simp) (Nat.le_refl _) (Nat.le_refl _) rfl ((HR2.out.fr f3 (by simp)).src (Nat.zero_le _)) HD.out (.inl (by omega)) rfl (HR3.out.src (Nat.zero_le _)) HD'.out (.inl (by omega)) hm0 hn0 (by omega) (by omega) (by omega) (Nat.le_refl _) (Nat.le_refl _)).mono ?_; rintro e w4 ⟨zs, rfl, row4, f4, hzl, hzd, hzv⟩; have HR4 := Lib.hid row4; have HZL := Lib.hid hzl; have HZV := Lib.hid hzv; clear row4 hzl hzv)
    | (go_at_call 75; refine (zzOut_any _ zs _ ((src_spl HR4.out (by rw [HZL.out]; simp)).sl HZL.out (Nat.le_refl _) (by unfold maxLen; omega)) (by rw [HZL.out]; omega)).mono ?_; rintro e w5 ⟨v5, rfl, sl5, f5⟩))
  go_ret
  obtain ⟨A5, c5, rfl, h1, h2, h3⟩ := sl5
  refine ⟨A5, c5, zs, by rw [HZL.out]; rfl, ⟨A5, c5, by rw [HZL.out], h1, h2, h3⟩, hzd, HZL.out, HZV.out, ?_⟩
  exact (fr_new'' ((f1.t f2).t f3) f4 hz).t f5
set_option maxRecDepth 100000 in
set_option maxHeartbeats 1000000 in
theorem implBasicMul_any (v u : Value) (xs ys : List Int) (w : World) (hx : Sl .u64 w v xs) (hd : DG 18446744073709551616 xs) (hm9 : xs.length ≤ 100000) (hy : Sl .u64 w u ys) (hd' : DG 18446744073709551616 ys) (hn9 : ys.length ≤ 100000) (hn0 : 0 < ys.length) (hge : ys.length ≤ xs.length) :
    Calls Tryd.prog 35 #[v, u] w (RetP (val 18446744073709551616 xs * val 18446744073709551616 ys) (xs.length + ys.length) w) := by
  have HX := Lib.hid hx
  have HD := Lib.hid hd
  have HY := Lib.hid hy
  have HD' := Lib.hid hd'
  obtain ⟨A, ca, rfl, hla, hma, _⟩ := hx
  obtain ⟨B, cb, rfl, hlb, hmb, _⟩ := hy
  unfold maxLen at hma hmb
  have h0 : ((ys.length : Int) == 0) = false := by rw [beq_eq_false_iff_ne]; omega
  have T1 : True := trivial
  clear hd hd'
  go_enter Tryd.func35, Tryd.ntmps35
  go_wp2_with (first
    | (go_at_call 52; clear T1; refine (clone_any _ xs _ HX.out (by omega)).mono ?_; rintro e w1 ⟨v1, rfl, sl1, f1⟩)
    | (go_at_call 52; refine (clone_any _ ys _ (HY.out.fr0 f1) (by omega)).mono ?_; rintro e w2 ⟨v2, rfl, sl2, f2⟩)
    | (go_at_call 59; refine (zzBasicMul_any _ _ xs ys _ (sl1.fr0 f2) HD.out hm9 (by omega) sl2 HD'.out hn9 hn0).mono ?_; rintro e w3 ⟨A3, c3, zs, rfl, sl3, hzd, hzl, hzv, f3⟩; have HZ := Lib.hid hzl; have HZV := Lib.hid hzv; clear hzl hzv))
  go_ret
  exact ⟨A3, c3, zs, rfl, sl3, hzd, HZ.out, HZV.out, (f1.t f2).t f3⟩
end Go.Proofs.YtknokndpeneogaaDoor
