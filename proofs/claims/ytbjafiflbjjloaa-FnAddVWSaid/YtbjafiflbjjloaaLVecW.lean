/-
  ZZAddVW, ZZSubVW, impl.* and the walks of their laws. Conditions: the words can be read.
-/
import Derived.Test.YtbjafiflbjjloaaLVec
import Derived.Test.YtbjafiflbjjloaaVecW
import Derived.Test.YtbjafiflbjjloaaSpecS
import Derived.Test.YtbjafiflbjjloaaSpecB
import Derived.Test.YtbjafiflbjjloaaSpecC
import Derived.Test.YtbjafiflbjjloaaFew
set_option linter.unusedSimpArgs false
set_option linter.unusedVariables false
namespace Go.Proofs.Ytbjafiflbjjloaa
open Go.Big Go.RowKit


set_option maxRecDepth 100000 in
set_option maxHeartbeats 1000000 in
theorem zz_addw (v : Value) (xs : List Int) (y : Int) (n : Nat) (w : World) (hx : Sl .u64 w v xs) (hd : DG 18446744073709551616 xs) (hn : xs.length = n) (hl : n ≤ 1000000) (h0 : 0 < n) (hy0 : 0 ≤ y) (hy1 : y < 18446744073709551616) :
    Calls Try.prog 53 #[v, .int .u64 y] w (RetVec n (fun zs c => 0 ≤ c ∧ c ≤ 1 ∧ val 18446744073709551616 zs + 18446744073709551616 ^ n * c = val 18446744073709551616 xs + y) w) := by
  have hx' := hx
  obtain ⟨A, cap, rfl, _, _, _⟩ := hx
  rw [hn] at hx' ⊢
  have HX := Lib.hid hx'
  have HD := Lib.hid hd
  have HN := Lib.hid hn
  clear hx' hd hn
  go_enter Try.func53, Try.ntmps53
  go_wp2_with (first
    | (at_make; refine wp_mk rfl (.tmp 9) (.tmp 9) _ rfl .u64 72 8 ty_big (by omega) n rfl rfl (by omega) ?_; intro g0 w0 hg0 row0 f0)
    | (go_at_call 63; refine (zzIn_n _ xs n _ (HX.out.fr0 f0) HN.out hl).mono ?_; rintro e w1 ⟨b1, rfl, row1, hb1, f1⟩)
    | (go_at_call 68; have hr := row0.fr f1 (by simp); have hlt := row0.lt; refine (addVW_any g0 0 n b1 0 n n _ xs y _ hr (by simp) HN.out (row1.src (Nat.zero_le _)) HD.out _ row1 (by omega) h0 (by omega) (Nat.le_refl _) (Nat.le_refl _) (by unfold maxLen; omega) (by unfold maxLen; omega) hy0 hy1).mono ?_; rintro e w3 ⟨zs, c, rfl, row3, f3, hzl, hzd, hR⟩; rw [spl_all (by rw [hzl]; simp)] at row3; have HZL := Lib.hid hzl; have HR := Lib.hid hR; clear hzl hR)
    | (go_at_call 61; refine (zzOut_n _ zs n _ row3 HZL.out hl).mono ?_; rintro e w4 ⟨A4, c4, rfl, sl4, f4⟩))
  go_ret2
  exact ⟨A4, c4, zs, c, rfl, sl4, HZL.out, hzd, HR.out, (fr_new' (f0.t f1) f3 hg0).t f4⟩
set_option maxRecDepth 100000 in
theorem impl_addw (v : Value) (xs : List Int) (y : Int) (n : Nat) (w : World) (hx : Sl .u64 w v xs) (hd : DG 18446744073709551616 xs) (hn : xs.length = n) (hl : n ≤ 1000000) (h0 : 0 < n) (hy0 : 0 ≤ y) (hy1 : y < 18446744073709551616) :
    Calls Try.prog 29 #[v, .int .u64 y] w (RetVec n (fun zs c => 0 ≤ c ∧ c ≤ 1 ∧ val 18446744073709551616 zs + 18446744073709551616 ^ n * c = val 18446744073709551616 xs + y) w) := by
  have hx' := hx
  obtain ⟨A, cap, rfl, _, _, _⟩ := hx
  rw [hn] at hx' ⊢
  have HX := Lib.hid hx'
  have HD := Lib.hid hd
  have HN := Lib.hid hn
  clear hx' hd hn
  go_enter Try.func29, Try.ntmps29
  go_wp2_with (first
    | (go_at_call 49; refine (clone_any _ xs _ HX.out (by rw [HN.out]; exact hl)).mono ?_; rintro e w1 ⟨v1, rfl, sl1, f1⟩)
    | (go_at_call 53; refine (zz_addw _ xs y n _ sl1 HD.out HN.out hl h0 hy0 hy1).mono ?_; rintro e w3 ⟨A3, c3, zs, c, rfl, sl3, hzl, hzd, hR, f3⟩; have HZL := Lib.hid hzl; have HR := Lib.hid hR; clear hzl hR))
  go_ret2
  exact ⟨A3, c3, zs, c, rfl, sl3, HZL.out, hzd, HR.out, f1.t f3⟩
set_option maxRecDepth 100000 in
set_option maxHeartbeats 2000000 in
theorem law_FnAddVW (v : Value) (xs : List Int) (y : Int) (w : World) (hx : Sl .u64 w v xs) (hd : DG 18446744073709551616 xs) (hy0 : 0 ≤ y) (hy1 : y < 18446744073709551616) :
    Calls Try.prog 7 #[v, .int .u64 y] w fun e w' => e = .returned (.bool true) ∧ Fr [] w w' := by
  have HX := Lib.hid hx
  have HD := Lib.hid hd
  obtain ⟨A, cap, rfl, hlc, hm, hs⟩ := hx
  unfold maxLen at hm
  clear hs hd
  obtain ⟨n, hn⟩ : ∃ n, xs.length = n := ⟨_, rfl⟩
  rw [hn] at HX hlc ⊢
  have HN := Lib.hid hn
  clear hn
  by_cases hb : 2147483647 < n
  · go_enter Try.func7, Try.ntmps7
    go_wp2_with fail
    go_ret
    exact ⟨rfl, Fr.refl _ _⟩
  by_cases h2 : n ≤ 100
  case neg =>
    go_enter Try.func7, Try.ntmps7
    go_wp2_with (go_at_call 14; refine (few1_no 100 A _ _ _ _ (by omega) (by omega) (by omega)).mono ?_; rintro e w1 ⟨rfl, rfl⟩)
    go_ret
    exact ⟨rfl, (Fr.refl _ _).alloc _⟩
  by_cases h4 : n = 0
  · have hz : ((n : Int) == 0) = true := by rw [h4]; rfl
    clear h4
    go_enter Try.func7, Try.ntmps7
    go_wp2_with (go_at_call 14; refine (few1_yes 100 A _ _ _ _ (by omega) h2).mono ?_; rintro e w1 ⟨rfl, rfl⟩)
    go_ret
    exact ⟨rfl, (Fr.refl _ _).alloc _⟩
  have hz : ((n : Int) == 0) = false := by rw [beq_eq_false_iff_ne]; omega
  have f0 : Fr [] w (w.alloc (.cells #[.slice A n cap] 22)) := (Fr.refl _ _).alloc _
  have hn0 : 0 < n := by omega
  clear h4
  obtain ⟨X, hX⟩ : ∃ X, X = val 18446744073709551616 xs := ⟨_, rfl⟩
  have hXb := words_n HD.out HN.out h2
  rw [← hX] at hXb
  have HXv := Lib.hid hX
  have HXB := Lib.hid hXb
  clear hX hXb
  have C1 := Lib.hid (impl_addw _ xs y n _ (HX.out.fr0 f0) HD.out HN.out (by omega) (by omega) hy0 hy1)
  have T1 : True := trivial
  have T2 : True := trivial
  have T3 : True := trivial
  have T4 : True := trivial
  go_enter Try.func7, Try.ntmps7
  go_wp2_with (first
    | (go_at_call 14; refine (few1_yes 100 A _ _ _ _ (by omega) h2).mono ?_; rintro e w1 ⟨rfl, rfl⟩)
    | (go_at_call 29; refine (Hid.out C1).mono ?_; clear C1; rintro e w2 ⟨A2, c2, zs, c, rfl, sl2, hzl, hzd, hR, f2⟩; have HZL := Lib.hid hzl; obtain ⟨hc0, hc1, hv⟩ := hR; rw [← HXv.out] at hv; have HV := Lib.hid hv; clear hzl hv)
    | (go_at_call 22; refine (carry_n _ zs n c _ _ sl2 HZL.out hzd (by omega) hc0 (by omega) HV.out).mono ?_; rintro e w3 ⟨v3, rfl, sn3, f3⟩)
    | (go_at_call 16; refine (of_any _ xs _ (((HX.out.fr0 f0).fr0 f2).fr0 f3) HD.out (by rw [HN.out]; omega)).mono ?_; rintro e w4 ⟨v4, rfl, sn4, f4⟩; rw [← HXv.out] at sn4)
    | (go_at_call 26; refine (of1_any y _ hy0 hy1).mono ?_; rintro e w5 ⟨v5, rfl, sn5, f5⟩)
    | (go_at_call 23; refine (add_any _ _ X y _ (sn4.fr0 f5) sn5 (lt_BIG64 n HXB.out.1 (by omega)) (word_BIG hy1)).mono ?_; rintro e w6 ⟨v6, rfl, sn6, f6⟩)
    | (go_at_call 21; refine (cmp_same _ _ _ _ (((sn3.fr0 f4).fr0 f5).fr0 f6) sn6).mono ?_; rintro e w7 ⟨rfl, f7⟩))
  go_ret
  exact ⟨rfl, ((((((f0.t f2).t f3).t f4).t f5).t f6).t f7)⟩
set_option maxRecDepth 100000 in
set_option maxHeartbeats 1000000 in
theorem zz_subw (v : Value) (xs : List Int) (y : Int) (n : Nat) (w : World) (hx : Sl .u64 w v xs) (hd : DG 18446744073709551616 xs) (hn : xs.length = n) (hl : n ≤ 1000000) (h0 : 0 < n) (hy0 : 0 ≤ y) (hy1 : y < 18446744073709551616) :
    Calls Try.prog 55 #[v, .int .u64 y] w (RetVec n (fun zs c => 0 ≤ c ∧ c ≤ 1 ∧ val 18446744073709551616 zs + y = val 18446744073709551616 xs + 18446744073709551616 ^ n * c) w) := by
  have hx' := hx
  obtain ⟨A, cap, rfl, _, _, _⟩ := hx
  rw [hn] at hx' ⊢
  have HX := Lib.hid hx'
  have HD := Lib.hid hd
  have HN := Lib.hid hn
  clear hx' hd hn
  go_enter Try.func55, Try.ntmps55
  go_wp2_with (first
    | (at_make; refine wp_mk rfl (.tmp 9) (.tmp 9) _ rfl .u64 72 8 ty_big (by omega) n rfl rfl (by omega) ?_; intro g0 w0 hg0 row0 f0)
    | (go_at_call 63; refine (zzIn_n _ xs n _ (HX.out.fr0 f0) HN.out hl).mono ?_; rintro e w1 ⟨b1, rfl, row1, hb1, f1⟩)
    | (go_at_call 70; have hr := row0.fr f1 (by simp); have hlt := row0.lt; refine (subVW_any g0 0 n b1 0 n n _ xs y _ hr (by simp) HN.out (row1.src (Nat.zero_le _)) HD.out _ row1 (by omega) h0 (by omega) (Nat.le_refl _) (Nat.le_refl _) (by unfold maxLen; omega) (by unfold maxLen; omega) hy0 hy1).mono ?_; rintro e w3 ⟨zs, c, rfl, row3, f3, hzl, hzd, hR⟩; rw [spl_all (by rw [hzl]; simp)] at row3; have HZL := Lib.hid hzl; have HR := Lib.hid hR; clear hzl hR)
    | (go_at_call 61; refine (zzOut_n _ zs n _ row3 HZL.out hl).mono ?_; rintro e w4 ⟨A4, c4, rfl, sl4, f4⟩))
  go_ret2
  exact ⟨A4, c4, zs, c, rfl, sl4, HZL.out, hzd, HR.out, (fr_new' (f0.t f1) f3 hg0).t f4⟩
set_option maxRecDepth 100000 in
theorem impl_subw (v : Value) (xs : List Int) (y : Int) (n : Nat) (w : World) (hx : Sl .u64 w v xs) (hd : DG 18446744073709551616 xs) (hn : xs.length = n) (hl : n ≤ 1000000) (h0 : 0 < n) (hy0 : 0 ≤ y) (hy1 : y < 18446744073709551616) :
    Calls Try.prog 33 #[v, .int .u64 y] w (RetVec n (fun zs c => 0 ≤ c ∧ c ≤ 1 ∧ val 18446744073709551616 zs + y = val 18446744073709551616 xs + 18446744073709551616 ^ n * c) w) := by
  have hx' := hx
  obtain ⟨A, cap, rfl, _, _, _⟩ := hx
  rw [hn] at hx' ⊢
  have HX := Lib.hid hx'
  have HD := Lib.hid hd
  have HN := Lib.hid hn
  clear hx' hd hn
  go_enter Try.func33, Try.ntmps33
  go_wp2_with (first
    | (go_at_call 49; refine (clone_any _ xs _ HX.out (by rw [HN.out]; exact hl)).mono ?_; rintro e w1 ⟨v1, rfl, sl1, f1⟩)
    | (go_at_call 55; refine (zz_subw _ xs y n _ sl1 HD.out HN.out hl h0 hy0 hy1).mono ?_; rintro e w3 ⟨A3, c3, zs, c, rfl, sl3, hzl, hzd, hR, f3⟩; have HZL := Lib.hid hzl; have HR := Lib.hid hR; clear hzl hR))
  go_ret2
  exact ⟨A3, c3, zs, c, rfl, sl3, HZL.out, hzd, HR.out, f1.t f3⟩
set_option maxRecDepth 100000 in
set_option maxHeartbeats 2000000 in
theorem law_FnSubVW (v : Value) (xs : List Int) (y : Int) (w : World) (hx : Sl .u64 w v xs) (hd : DG 18446744073709551616 xs) (hy0 : 0 ≤ y) (hy1 : y < 18446744073709551616) :
    Calls Try.prog 9 #[v, .int .u64 y] w fun e w' => e = .returned (.bool true) ∧ Fr [] w w' := by
  have HX := Lib.hid hx
  have HD := Lib.hid hd
  obtain ⟨A, cap, rfl, hlc, hm, hs⟩ := hx
  unfold maxLen at hm
  clear hs hd
  obtain ⟨n, hn⟩ : ∃ n, xs.length = n := ⟨_, rfl⟩
  rw [hn] at HX hlc ⊢
  have HN := Lib.hid hn
  clear hn
  by_cases hb : 2147483647 < n
  · go_enter Try.func9, Try.ntmps9
    go_wp2_with fail
    go_ret
    exact ⟨rfl, Fr.refl _ _⟩
  by_cases h2 : n ≤ 100
  case neg =>
    go_enter Try.func9, Try.ntmps9
    go_wp2_with (go_at_call 14; refine (few1_no 100 A _ _ _ _ (by omega) (by omega) (by omega)).mono ?_; rintro e w1 ⟨rfl, rfl⟩)
    go_ret
    exact ⟨rfl, (Fr.refl _ _).alloc _⟩
  by_cases h4 : n = 0
  · have hz : ((n : Int) == 0) = true := by rw [h4]; rfl
    clear h4
    go_enter Try.func9, Try.ntmps9
    go_wp2_with (go_at_call 14; refine (few1_yes 100 A _ _ _ _ (by omega) h2).mono ?_; rintro e w1 ⟨rfl, rfl⟩)
    go_ret
    exact ⟨rfl, (Fr.refl _ _).alloc _⟩
  have hz : ((n : Int) == 0) = false := by rw [beq_eq_false_iff_ne]; omega
  have f0 : Fr [] w (w.alloc (.cells #[.slice A n cap] 22)) := (Fr.refl _ _).alloc _
  have hn0 : 0 < n := by omega
  clear h4
  obtain ⟨X, hX⟩ : ∃ X, X = val 18446744073709551616 xs := ⟨_, rfl⟩
  have hXb := words_n HD.out HN.out h2
  rw [← hX] at hXb
  have HXv := Lib.hid hX
  have HXB := Lib.hid hXb
  clear hX hXb
  have C1 := Lib.hid (impl_subw _ xs y n _ (HX.out.fr0 f0) HD.out HN.out (by omega) (by omega) hy0 hy1)
  have T1 : True := trivial
  have T2 : True := trivial
  have T3 : True := trivial
  have T4 : True := trivial
  go_enter Try.func9, Try.ntmps9
  go_wp2_with (first
    | (go_at_call 14; refine (few1_yes 100 A _ _ _ _ (by omega) h2).mono ?_; rintro e w1 ⟨rfl, rfl⟩)
    | (go_at_call 33; refine (Hid.out C1).mono ?_; clear C1; rintro e w2 ⟨A2, c2, zs, c, rfl, sl2, hzl, hzd, hR, f2⟩; have HZL := Lib.hid hzl; obtain ⟨hc0, hc1, hv⟩ := hR; rw [← HXv.out] at hv; have HV := Lib.hid hv; clear hzl hv)
    | (go_at_call 16; clear T1; refine (of_any _ zs _ sl2 hzd (by rw [HZL.out]; omega)).mono ?_; rintro e w3 ⟨v3, rfl, sn3, f3⟩)
    | (go_at_call 26; clear T2; refine (of1_any y _ hy0 hy1).mono ?_; rintro e w4 ⟨v4, rfl, sn4, f4⟩)
    | (go_at_call 23; clear T3; refine (add_any _ _ _ y _ (sn3.fr0 f4) sn4 (words_BIG hzd (by rw [HZL.out]; omega)) (word_BIG hy1)).mono ?_; rintro e w5 ⟨v5, rfl, sn5, f5⟩; rw [HV.out] at sn5)
    | (go_at_call 16; refine (of_any _ xs _ (((((HX.out.fr0 f0).fr0 f2).fr0 f3).fr0 f4).fr0 f5) HD.out (by rw [HN.out]; omega)).mono ?_; rintro e w6 ⟨v6, rfl, sn6, f6⟩; rw [← HXv.out] at sn6)
    | (go_at_call 26; refine (of1_any c _ hc0 (by omega)).mono ?_; rintro e w7 ⟨v7, rfl, sn7, f7⟩)
    | (go_at_call 25; refine (shifted_any _ c (64 * n) _ sn7 (word_BIG (by omega)) (by omega)).mono ?_; rintro e w8 ⟨v8, rfl, sn8, f8⟩; rw [pow_64n, Int.mul_comm] at sn8)
    | (go_at_call 23; refine (add_any _ _ X _ _ ((sn6.fr0 f7).fr0 f8) sn8 (lt_BIG64 n HXB.out.1 (by omega)) (mul_BIG' hc0 hc1 h2)).mono ?_; rintro e w9 ⟨v9, rfl, sn9, f9⟩)
    | (go_at_call 21; refine (cmp_same _ _ _ _ ((((sn5.fr0 f6).fr0 f7).fr0 f8).fr0 f9) sn9).mono ?_; rintro e w10 ⟨rfl, f10⟩))
  go_ret
  exact ⟨rfl, (((((((((f0.t f2).t f3).t f4).t f5).t f6).t f7).t f8).t f9).t f10)⟩
end Go.Proofs.Ytbjafiflbjjloaa
