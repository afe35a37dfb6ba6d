/-
  laws.is, and the walk of the law FnBasicMul. Conditions: the words can be read.
-/
import Derived.Test.YtjapebgihnahjaaBMul
import Derived.Test.YtjapebgihnahjaaAdd
import Derived.Test.YtjapebgihnahjaaDivM
set_option linter.unusedSimpArgs false
set_option linter.unusedVariables false
namespace Go.Proofs.Ytjapebgihnahjaa
open Go.Big Go.RowKit
set_option maxRecDepth 100000 in
theorem is_any (v va : Value) (xs : List Int) (n : Int) (w : World) (hx : Sl .u64 w v xs) (hd : DG 18446744073709551616 xs) (hl : xs.length ≤ 1000000) (ha : SN w va n) (h : val 18446744073709551616 xs = n) :
    Calls Try.prog 42 #[v, va] w fun e w' => e = .returned (.bool true) ∧ Fr [] w w' := by
  have C1 := Lib.hid (of_any v xs w hx hd hl)
  rw [h] at C1
  have HA := Lib.hid ha
  clear hx hd ha h
  go_enter Try.func42, Try.ntmps42
  go_wp2_with (first
    | (go_at_call 22; refine (Hid.out C1).mono ?_; rintro e w1 ⟨v1, rfl, sn1, f1⟩)
    | (go_at_call 27; refine (cmp_same _ _ n _ sn1 (HA.out.fr0 f1)).mono ?_; rintro e w2 ⟨rfl, f2⟩))
  go_ret
  exact ⟨rfl, f1.t f2⟩
theorem prod_BIG {xs ys : List Int} (hd : DG 18446744073709551616 xs) (hd' : DG 18446744073709551616 ys) (hl : xs.length ≤ 100000) (hl' : ys.length ≤ 100000) : val 18446744073709551616 xs * val 18446744073709551616 ys < BIG := by
  have h1 := val_lt_of_len (by omega) hd hl
  have h2 := val_lt_of_len (by omega) hd' hl'
  have n1 := val_nonneg (by omega) hd
  have n2 := val_nonneg (by omega) hd'
  have h3 : val 18446744073709551616 xs * val 18446744073709551616 ys ≤ (18446744073709551616 ^ 100000 - 1) * (18446744073709551616 ^ 100000 - 1) := Int.mul_le_mul (by omega) (by omega) n2 (by have := pow_pos_ (B := 18446744073709551616) (by omega) 100000; omega)
  have e : (18446744073709551616 : Int) ^ 200000 = 18446744073709551616 ^ 100000 * 18446744073709551616 ^ 100000 := by rw [← Int.pow_add]
  have hp := pow_pos_ (B := 18446744073709551616) (by omega) 100000
  generalize (18446744073709551616 : Int) ^ 100000 = Q at *
  refine lt_BIG64 200000 ?_ (by omega)
  rw [e]
  have : (Q - 1) * (Q - 1) = Q * Q - 2 * Q + 1 := by grind
  omega
/-- so many words come back, their number P -/
def RetP (P : Int) (n : Nat) (w : World) (e : Ending) (w' : World) : Prop :=
  ∃ A cap zs, e = .returned (.slice A n cap) ∧ Sl .u64 w' (.slice A n cap) zs ∧ DG 18446744073709551616 zs ∧ zs.length = n ∧ val 18446744073709551616 zs = P ∧ Fr [] w w'
set_option maxRecDepth 100000 in
set_option maxHeartbeats 1000000 in
theorem zzBasicMul_any (v u : Value) (xs ys : List Int) (w : World) (hx : Sl .u64 w v xs) (hd : DG 18446744073709551616 xs) (hm9 : xs.length ≤ 100000) (hm0 : 0 < xs.length) (hy : Sl .u64 w u ys) (hd' : DG 18446744073709551616 ys) (hn9 : ys.length ≤ 100000) (hn0 : 0 < ys.length) :
    Calls Try.prog 75 #[v, u] w (RetP (val 18446744073709551616 xs * val 18446744073709551616 ys) (xs.length + ys.length) w) := by
  have HX := Lib.hid hx
  have HD := Lib.hid hd
  have HY := Lib.hid hy
  have HD' := Lib.hid hd'
  obtain ⟨A, ca, rfl, hla, hma, _⟩ := hx
  obtain ⟨B, cb, rfl, hlb, hmb, _⟩ := hy
  unfold maxLen at hma hmb
  have hw : IntKind.i64.wrap ((xs.length : Int) + (ys.length : Int)) = ((xs.length + ys.length : Nat) : Int) := by rw [IntKind.wrap_i64]; omega
  have T1 : True := trivial
  clear hd hd'
  go_enter Try.func75, Try.ntmps75
  go_wp2_with (first
    | (at_make; refine wp_mk rfl (.tmp 10) (.tmp 10) _ rfl .u64 87 8 ty_big (by omega) (xs.length + ys.length) (by first | rfl | (show Value.int IntKind.i64 _ = _; congr 1)) (by first | rfl | (show Value.int IntKind.i64 _ = _; congr 1)) (by omega) ?_; intro z w1 hz row1 f1; have HR1 := Lib.hid row1; clear row1)
    | (go_at_call 92; clear T1; refine (zzIn_any _ xs _ (HX.out.fr0 f1) (by omega)).mono ?_; rintro e w2 ⟨b2, rfl, row2, hb2, f2⟩; have HR2 := Lib.hid row2; clear row2; have hz2 := HR1.out.lt)
    | (go_at_call 92; refine (zzIn_any _ ys _ ((HY.out.fr0 f1).fr0 f2) (by omega)).mono ?_; rintro e w3 ⟨b3, rfl, row3, hb3, f3⟩; have HR3 := Lib.hid row3; clear row3; have hz3 := f2.size; have hz4 := f3.size; have hz5 := HR2.out.lt)
    | (go_at_call 102; refine (basicMul_any z 0 (xs.length + ys.length) _ b2 0 _ b3 0 _ xs.length ys.length _ xs ys _ ((HR1.out.fr f2 (by simp)).fr f3 (by simp)) (by simp) (Nat.le_refl _) (Nat.le_refl _) rfl ((HR2.out.fr f3 (by simp)).src (Nat.zero_le _)) HD.out (.inl (by omega)) rfl (HR3.out.src (Nat.zero_le _)) HD'.out (.inl (by omega)) hm0 hn0 (by omega) (by omega) (by omega) (Nat.le_refl _) (Nat.le_refl _)).mono ?_; rintro e w4 ⟨zs, rfl, row4, f4, hzl, hzd, hzv⟩; have HR4 := Lib.hid row4; have HZL := Lib.hid hzl; have HZV := Lib.hid hzv; clear row4 hzl hzv)
    | (go_at_call 97; refine (zzOut_any _ zs _ ((src_spl HR4.out (by rw [HZL.out]; simp)).sl HZL.out (Nat.le_refl _) (by unfold maxLen; omega)) (by rw [HZL.out]; omega)).mono ?_; rintro e w5 ⟨v5, rfl, sl5, f5⟩))
  go_ret
  obtain ⟨A5, c5, rfl, h1, h2, h3⟩ := sl5
  refine ⟨A5, c5, zs, by rw [HZL.out]; rfl, ⟨A5, c5, by rw [HZL.out], h1, h2, h3⟩, hzd, HZL.out, HZV.out, ?_⟩
  exact (fr_new'' ((f1.t f2).t f3) f4 hz).t f5
set_option maxRecDepth 100000 in
set_option maxHeartbeats 1000000 in
theorem implBasicMul_any (v u : Value) (xs ys : List Int) (w : World) (hx : Sl .u64 w v xs) (hd : DG 18446744073709551616 xs) (hm9 : xs.length ≤ 100000) (hy : Sl .u64 w u ys) (hd' : DG 18446744073709551616 ys) (hn9 : ys.length ≤ 100000) (hn0 : 0 < ys.length) (hge : ys.length ≤ xs.length) :
    Calls Try.prog 41 #[v, u] w (RetP (val 18446744073709551616 xs * val 18446744073709551616 ys) (xs.length + ys.length) w) := by
  have HX := Lib.hid hx
  have HD := Lib.hid hd
  have HY := Lib.hid hy
  have HD' := Lib.hid hd'
  obtain ⟨A, ca, rfl, hla, hma, _⟩ := hx
  obtain ⟨B, cb, rfl, hlb, hmb, _⟩ := hy
  unfold maxLen at hma hmb
  have h0 : ((ys.length : Int) == 0) = false := by rw [beq_eq_false_iff_ne]; omega
  have T1 : True := trivial
  clear hd hd'
  go_enter Try.func41, Try.ntmps41
  go_wp2_with (first
    | (go_at_call 76; clear T1; refine (clone_any _ xs _ HX.out (by omega)).mono ?_; rintro e w1 ⟨v1, rfl, sl1, f1⟩)
    | (go_at_call 76; refine (clone_any _ ys _ (HY.out.fr0 f1) (by omega)).mono ?_; rintro e w2 ⟨v2, rfl, sl2, f2⟩)
    | (go_at_call 75; refine (zzBasicMul_any _ _ xs ys _ (sl1.fr0 f2) HD.out hm9 (by omega) sl2 HD'.out hn9 hn0).mono ?_; rintro e w3 ⟨A3, c3, zs, rfl, sl3, hzd, hzl, hzv, f3⟩; have HZ := Lib.hid hzl; have HZV := Lib.hid hzv; clear hzl hzv))
  go_ret
  exact ⟨A3, c3, zs, rfl, sl3, hzd, HZ.out, HZV.out, (f1.t f2).t f3⟩
set_option maxRecDepth 100000 in
set_option maxHeartbeats 1000000 in
theorem law_FnBasicMul (v : Value) (xs : List Int) (u : Value) (ys : List Int) (w : World) (hx : Sl .u64 w v xs) (hd : DG 18446744073709551616 xs) (hy : Sl .u64 w u ys) (hd' : DG 18446744073709551616 ys) :
    Calls Try.prog 9 #[v, u] w fun e w' => e = .returned (.bool true) ∧ Fr [] w w' := by
  have HX := Lib.hid hx
  have HD := Lib.hid hd
  have HY := Lib.hid hy
  have HD' := Lib.hid hd'
  obtain ⟨A, cap, rfl, hlc, hm, hs⟩ := hx
  obtain ⟨B, cap', rfl, hlc', hm', hs'⟩ := hy
  unfold maxLen at hm hm'
  clear hs hd hs' hd'
  by_cases h1 : 2147483647 < xs.length
  · go_enter Try.func9, Try.ntmps9
    go_wp2_with fail
    go_ret
    exact ⟨rfl, Fr.refl _ _⟩
  by_cases h1' : 2147483647 < ys.length
  · go_enter Try.func9, Try.ntmps9
    go_wp2_with fail
    go_ret
    exact ⟨rfl, Fr.refl _ _⟩
  by_cases h2 : xs.length ≤ 260 ∧ ys.length ≤ 260
  case neg =>
    go_enter Try.func9, Try.ntmps9
    go_wp2_with (go_at_call 20; refine (few2_no 260 A B _ _ _ _ _ _ (by omega) (by omega) (by omega) (by omega)).mono ?_; rintro e w1 ⟨rfl, rfl⟩)
    go_ret
    exact ⟨rfl, (Fr.refl _ _).alloc _⟩
  obtain ⟨h2, h3⟩ := h2
  by_cases h4 : ys.length = 0
  · obtain rfl : ys = [] := List.eq_nil_of_length_eq_zero h4
    simp only [List.length_nil] at *
    clear h4
    go_enter Try.func9, Try.ntmps9
    go_wp2_with (go_at_call 20; refine (few2_yes 260 A B _ _ _ _ _ _ (by omega) (by omega) (by omega)).mono ?_; rintro e w1 ⟨rfl, rfl⟩)
    go_ret
    exact ⟨rfl, (Fr.refl _ _).alloc _⟩
  have h0 : ((ys.length : Int) == 0) = false := by rw [beq_eq_false_iff_ne]; omega
  by_cases h5 : xs.length < ys.length
  · go_enter Try.func9, Try.ntmps9
    go_wp2_with (go_at_call 20; refine (few2_yes 260 A B _ _ _ _ _ _ (by omega) h2 h3).mono ?_; rintro e w1 ⟨rfl, rfl⟩)
    go_ret
    exact ⟨rfl, (Fr.refl _ _).alloc _⟩
  have f0 : Fr [] w (w.alloc (.cells #[.slice A xs.length cap, .slice B ys.length cap'] 22)) := (Fr.refl _ _).alloc _
  have C1 := Lib.hid (implBasicMul_any _ _ xs ys _ (HX.out.fr0 f0) HD.out (by omega) (HY.out.fr0 f0) HD'.out (by omega) (by omega) (by omega))
  have HXB := Lib.hid (words_BIG HD.out (show xs.length ≤ 1000000 by omega))
  have HYB := Lib.hid (words_BIG HD'.out (show ys.length ≤ 1000000 by omega))
  obtain ⟨X, hX⟩ : ∃ X, val 18446744073709551616 xs = X := ⟨_, rfl⟩
  obtain ⟨Y, hY⟩ : ∃ Y, val 18446744073709551616 ys = Y := ⟨_, rfl⟩
  have HV := Lib.hid hX
  have HV' := Lib.hid hY
  rw [hX, hY] at C1
  rw [hX] at HXB
  rw [hY] at HYB
  have T1 : True := trivial
  clear hX hY
  go_enter Try.func9, Try.ntmps9
  go_wp2_with (first
    | (go_at_call 20; refine (few2_yes 260 A B _ _ _ _ _ _ (by omega) h2 h3).mono ?_; rintro e w1 ⟨rfl, rfl⟩)
    | (go_at_call 41; refine (Hid.out C1).mono ?_; clear C1; rintro e w2 ⟨A2, c2, zs, rfl, sl2, hzd, hzl, hzv, f2⟩; have HZ := Lib.hid hzl; have HZV := Lib.hid hzv; clear hzl hzv)
    | (go_at_call 22; clear T1; refine (of_any _ xs _ ((HX.out.fr0 f0).fr0 f2) HD.out (by omega)).mono ?_; rw [HV.out]; rintro e w3 ⟨v3, rfl, sn3, f3⟩)
    | (go_at_call 22; refine (of_any _ ys _ (((HY.out.fr0 f0).fr0 f2).fr0 f3) HD'.out (by omega)).mono ?_; rw [HV'.out]; rintro e w4 ⟨v4, rfl, sn4, f4⟩)
    | (go_at_call 40; refine (mul_any _ _ X Y _ (sn3.fr0 f4) sn4 HXB.out HYB.out).mono ?_; rintro e w5 ⟨v5, rfl, sn5, f5⟩)
    | (go_at_call 42; refine (is_any _ _ zs _ _ (((sl2.fr0 f3).fr0 f4).fr0 f5) hzd (by rw [HZ.out]; omega) sn5 HZV.out).mono ?_; rintro e w6 ⟨rfl, f6⟩))
  go_ret
  exact ⟨rfl, ((((f0.t f2).t f3).t f4).t f5).t f6⟩
end Go.Proofs.Ytjapebgihnahjaa
