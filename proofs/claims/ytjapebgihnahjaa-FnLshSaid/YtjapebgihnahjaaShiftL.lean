/-
  The walks of the laws FnLsh, FnRsh, FnShifts. Conditions: the words can be read.
-/
import Derived.Test.YtjapebgihnahjaaShiftR
import Derived.Test.YtjapebgihnahjaaBMulL
import Derived.Test.YtjapebgihnahjaaSpecL
set_option linter.unusedSimpArgs false
set_option linter.unusedVariables false
namespace Go.Proofs.Ytjapebgihnahjaa
open Go.Big Go.RowKit
theorem shl_BIG {xs : List Int} {s : Nat} (hd : DG 18446744073709551616 xs) (hl : xs.length ≤ 10000) (hs : s ≤ 100000) : val 18446744073709551616 xs * 2 ^ s < BIG := by
  have h0 := val_nonneg (by omega) hd
  have h1 := val_lt_of_len (by omega) hd hl
  have h2 := pow_le_pow_ (B := 2) (by omega) (show s ≤ 64 * 2000 by omega)
  have e : (2 : Int) ^ (64 * 2000) = 18446744073709551616 ^ 2000 := by rw [Int.pow_mul]; rfl
  rw [e] at h2
  have h3 := pow_pos_ (B := 18446744073709551616) (by omega) 2000
  have h4 : val 18446744073709551616 xs * 2 ^ s ≤ val 18446744073709551616 xs * 18446744073709551616 ^ 2000 := Int.mul_le_mul_of_nonneg_left h2 h0
  have h5 : val 18446744073709551616 xs * 18446744073709551616 ^ 2000 < 18446744073709551616 ^ 10000 * 18446744073709551616 ^ 2000 := Int.mul_lt_mul_of_pos_right h1 h3
  rw [← Int.pow_add] at h5
  exact lt_BIG64 12000 (by omega) (by omega)
set_option maxRecDepth 100000 in
theorem implLsh_any (v : Value) (xs : List Int) (n : Nat) (w : World) (hx : Sl .u64 w v xs) (hd : DG 18446744073709551616 xs) (hl : xs.length ≤ 10000) (hn : n ≤ 100000) :
    Calls Try.prog 45 #[v, .int .u64 (n : Int)] w (RetW (val 18446744073709551616 xs * 2 ^ n) w) := by
  have HX := Lib.hid hx
  have HD := Lib.hid hd
  have HB := Lib.hid (words_BIG hd (show xs.length ≤ 1000000 by omega))
  have HR := Lib.hid (shl_BIG hd hl hn)
  obtain ⟨X, hX⟩ : ∃ X, val 18446744073709551616 xs = X := ⟨_, rfl⟩
  have HV := Lib.hid hX
  rw [hX] at HB HR ⊢
  obtain ⟨R, hR'⟩ : ∃ R, X * 2 ^ n = R := ⟨_, rfl⟩
  have C := Lib.hid (fun v W (h : SW W v X) => lsh_any v X n W h HB.out (by omega))
  rw [hR'] at HR C ⊢
  clear hx hd hX hR'
  go_enter Try.func45, Try.ntmps45
  go_wp2_with (first
    | (go_at_call 67; refine (normed_any _ xs _ HX.out HD.out (by omega)).mono ?_; rintro e w1 ⟨v1, ys, rfl, sl1, dy, nzy, hvy, hly, f1⟩; have HVY := Lib.hid hvy; clear hvy)
    | (go_at_call 92; refine (zzIn_any _ ys _ sl1 (by omega)).mono ?_; rintro e w2 ⟨b2, rfl, row2, hb2, f2⟩)
    | (go_at_call 104; have sw2 := SW.mk row2 dy nzy (by omega); rw [HVY.out, HV.out] at sw2; refine (C.out _ _ sw2).mono ?_; rintro e w3 ⟨v3, rfl, sw3, f3⟩)
    | (go_at_call 97; refine (zzOutW_any _ _ _ sw3 HR.out).mono ?_; rintro e w4 ⟨v4, rfl, sw4, f4⟩)
    | (go_at_call 78; go_in))
  go_ret
  exact ⟨_, rfl, sw4, ((f1.t f2).t f3).t f4⟩
set_option maxRecDepth 100000 in
theorem implRsh_any (v : Value) (xs : List Int) (n : Nat) (w : World) (hx : Sl .u64 w v xs) (hd : DG 18446744073709551616 xs) (hl : xs.length ≤ 1000000) (hn : n ≤ 100000) :
    Calls Try.prog 43 #[v, .int .u64 (n : Int)] w (RetW (val 18446744073709551616 xs / 2 ^ n) w) := by
  have HX := Lib.hid hx
  have HD := Lib.hid hd
  have HB := Lib.hid (words_BIG hd hl)
  have h0 := val_nonneg (by omega) hd
  obtain ⟨X, hX⟩ : ∃ X, val 18446744073709551616 xs = X := ⟨_, rfl⟩
  have HV := Lib.hid hX
  rw [hX] at HB h0 ⊢
  have HR := Lib.hid (show X / 2 ^ n < BIG from Int.lt_of_le_of_lt (Int.ediv_le_self _ h0) HB.out)
  obtain ⟨R, hR'⟩ : ∃ R, X / 2 ^ n = R := ⟨_, rfl⟩
  have C := Lib.hid (fun v W (h : SW W v X) => rsh_any v X n W h HB.out (by omega))
  rw [hR'] at HR C ⊢
  clear hx hd hX hR' h0
  go_enter Try.func43, Try.ntmps43
  go_wp2_with (first
    | (go_at_call 67; refine (normed_any _ xs _ HX.out HD.out (by omega)).mono ?_; rintro e w1 ⟨v1, ys, rfl, sl1, dy, nzy, hvy, hly, f1⟩; have HVY := Lib.hid hvy; clear hvy)
    | (go_at_call 92; refine (zzIn_any _ ys _ sl1 (by omega)).mono ?_; rintro e w2 ⟨b2, rfl, row2, hb2, f2⟩)
    | (go_at_call 103; have sw2 := SW.mk row2 dy nzy (by omega); rw [HVY.out, HV.out] at sw2; refine (C.out _ _ sw2).mono ?_; rintro e w3 ⟨v3, rfl, sw3, f3⟩)
    | (go_at_call 97; refine (zzOutW_any _ _ _ sw3 HR.out).mono ?_; rintro e w4 ⟨v4, rfl, sw4, f4⟩)
    | (go_at_call 77; go_in))
  go_ret
  exact ⟨_, rfl, sw4, ((f1.t f2).t f3).t f4⟩
set_option maxRecDepth 100000 in
set_option maxHeartbeats 1000000 in
theorem law_FnLsh (v : Value) (xs : List Int) (i : Int) (w : World) (hx : Sl .u64 w v xs) (hd : DG 18446744073709551616 xs) (i0 : 0 ≤ i) (i1 : i < 65536) :
    Calls Try.prog 11 #[v, .int .u16 i] w fun e w' => e = .returned (.bool true) ∧ Fr [] w w' := by
  obtain ⟨j, hj⟩ : ∃ j, j = i % 3001 := ⟨_, rfl⟩
  have hj2 : 0 ≤ j ∧ j < 3001 := by omega
  obtain ⟨hj0, hj1⟩ := hj2
  have hje : i % 3001 = j := hj.symm
  obtain ⟨k, hk⟩ : ∃ k : Nat, (k : Int) = j := ⟨j.toNat, by omega⟩
  have hk2 : k < 3001 := by omega
  have HK := Lib.hid hk
  clear hk hj
  have HX := Lib.hid hx
  have HD := Lib.hid hd
  obtain ⟨A, cap, rfl, hlc, hm, hs⟩ := hx
  unfold maxLen at hm
  clear hs hd
  by_cases h1 : 2147483647 < xs.length
  · go_enter Try.func11, Try.ntmps11
    go_wp2_with fail
    go_ret
    exact ⟨rfl, Fr.refl _ _⟩
  by_cases h2 : xs.length ≤ 260
  case neg =>
    go_enter Try.func11, Try.ntmps11
    go_wp2_with (go_at_call 20; refine (few1_no 260 A _ _ _ _ (by omega) (by omega) (by omega)).mono ?_; rintro e w1 ⟨rfl, rfl⟩)
    go_ret
    exact ⟨rfl, (Fr.refl _ _).alloc _⟩
  have f0 : Fr [] w (w.alloc (.cells #[.slice A xs.length cap] 22)) := (Fr.refl _ _).alloc _
  have C1 := Lib.hid (implLsh_any _ xs k _ (HX.out.fr0 f0) HD.out (by omega) (by omega))
  have HB := Lib.hid (words_BIG HD.out (show xs.length ≤ 1000000 by omega))
  have HR := Lib.hid (shl_BIG (s := k) HD.out (by omega) (by omega))
  have ONE := Lib.hid (fun W => implLsh_any _ [1] 0 (W.alloc (.cells #[.int .u64 1] 31)) (row1 W _ _ _) (DG.cons (by omega) (by omega) (DG.nil _)) (by simp) (by omega))
  rw [show val 18446744073709551616 [1] * 2 ^ 0 = 1 by decide] at ONE
  obtain ⟨X, hX⟩ : ∃ X, val 18446744073709551616 xs = X := ⟨_, rfl⟩
  have HV := Lib.hid hX
  rw [hX] at C1 HB HR
  have C2 := Lib.hid (fun va W (h : SN W va X) => shifted_any va X k W h HB.out (by omega))
  obtain ⟨R, hR⟩ : ∃ R, X * 2 ^ k = R := ⟨_, rfl⟩
  rw [hR] at C1 C2 HR
  rw [HK.out] at C1 C2
  clear hX hR
  go_enter Try.func11, Try.ntmps11
  go_wp2_with (first
    | (go_at_call 20; refine (few1_yes 260 A _ _ _ _ (by omega) h2).mono ?_; rintro e w1 ⟨rfl, rfl⟩)
    | (go_at_call 45; refine (Hid.out C1).mono ?_; clear C1; rintro e w2 ⟨v2, rfl, sw2, f2⟩)
    | (go_at_call 22; refine (of_any _ xs _ ((HX.out.fr0 f0).fr0 f2) HD.out (by omega)).mono ?_; rw [HV.out]; rintro e w3 ⟨v3, rfl, sn3, f3⟩)
    | (go_at_call 38; refine (C2.out _ _ sn3).mono ?_; rintro e w4 ⟨v4, rfl, sn4, f4⟩)
    | (go_at_call 29; refine (exact_any _ _ _ _ ((sw2.fr0 f3).fr0 f4) sn4 HR.out).mono ?_; rintro e w5 ⟨rfl, f5⟩)
    | (go_at_call 45; refine (ONE.out _).mono ?_; rintro e w7 ⟨v7, rfl, sw7, f7⟩; obtain ⟨A7, c7, rfl⟩ := SW.one sw7))
  go_ret
  exact ⟨rfl, ((((f0.t f2).t f3).t f4).t f5).t (Fr.trans ((Fr.refl _ _).alloc _) f7 (by simp))⟩
set_option maxRecDepth 100000 in
set_option maxHeartbeats 1000000 in
theorem law_FnRsh (v : Value) (xs : List Int) (i : Int) (w : World) (hx : Sl .u64 w v xs) (hd : DG 18446744073709551616 xs) (i0 : 0 ≤ i) (i1 : i < 65536) :
    Calls Try.prog 10 #[v, .int .u16 i] w fun e w' => e = .returned (.bool true) ∧ Fr [] w w' := by
  obtain ⟨k, hk⟩ : ∃ k : Nat, (k : Int) = i := ⟨i.toNat, by omega⟩
  have hk2 : k < 65536 := by omega
  have HK := Lib.hid hk
  clear hk
  have HX := Lib.hid hx
  have HD := Lib.hid hd
  obtain ⟨A, cap, rfl, hlc, hm, hs⟩ := hx
  unfold maxLen at hm
  clear hs hd
  by_cases h1 : 2147483647 < xs.length
  · go_enter Try.func10, Try.ntmps10
    go_wp2_with fail
    go_ret
    exact ⟨rfl, Fr.refl _ _⟩
  by_cases h2 : xs.length ≤ 260
  case neg =>
    go_enter Try.func10, Try.ntmps10
    go_wp2_with (go_at_call 20; refine (few1_no 260 A _ _ _ _ (by omega) (by omega) (by omega)).mono ?_; rintro e w1 ⟨rfl, rfl⟩)
    go_ret
    exact ⟨rfl, (Fr.refl _ _).alloc _⟩
  have f0 : Fr [] w (w.alloc (.cells #[.slice A xs.length cap] 22)) := (Fr.refl _ _).alloc _
  have C1 := Lib.hid (implRsh_any _ xs k _ (HX.out.fr0 f0) HD.out (by omega) (by omega))
  have HB := Lib.hid (words_BIG HD.out (show xs.length ≤ 1000000 by omega))
  have h0 := val_nonneg (by omega) HD.out
  have HR := Lib.hid (show val 18446744073709551616 xs / 2 ^ k < BIG from Int.lt_of_le_of_lt (Int.ediv_le_self _ h0) HB.out)
  have ONE := Lib.hid (fun W => implRsh_any _ [2] 1 (W.alloc (.cells #[.int .u64 2] 31)) (row1 W _ _ _) (DG.cons (by omega) (by omega) (DG.nil _)) (by simp) (by omega))
  rw [show val 18446744073709551616 [2] / 2 ^ 1 = 1 by decide] at ONE
  obtain ⟨X, hX⟩ : ∃ X, val 18446744073709551616 xs = X := ⟨_, rfl⟩
  have HV := Lib.hid hX
  rw [hX] at C1 HB HR
  have C2 := Lib.hid (fun va W (h : SN W va X) => shr_any va X k W h HB.out (by omega))
  obtain ⟨R, hR⟩ : ∃ R, X / 2 ^ k = R := ⟨_, rfl⟩
  rw [hR] at C1 C2 HR
  rw [HK.out] at C1 C2
  clear hX hR h0
  go_enter Try.func10, Try.ntmps10
  go_wp2_with (first
    | (go_at_call 20; refine (few1_yes 260 A _ _ _ _ (by omega) h2).mono ?_; rintro e w1 ⟨rfl, rfl⟩)
    | (go_at_call 43; refine (Hid.out C1).mono ?_; clear C1; rintro e w2 ⟨v2, rfl, sw2, f2⟩)
    | (go_at_call 22; refine (of_any _ xs _ ((HX.out.fr0 f0).fr0 f2) HD.out (by omega)).mono ?_; rw [HV.out]; rintro e w3 ⟨v3, rfl, sn3, f3⟩)
    | (go_at_call 44; refine (C2.out _ _ sn3).mono ?_; rintro e w4 ⟨v4, rfl, sn4, f4⟩)
    | (go_at_call 29; refine (exact_any _ _ _ _ ((sw2.fr0 f3).fr0 f4) sn4 HR.out).mono ?_; rintro e w5 ⟨rfl, f5⟩)
    | (go_at_call 43; refine (ONE.out _).mono ?_; rintro e w7 ⟨v7, rfl, sw7, f7⟩; obtain ⟨A7, c7, rfl⟩ := SW.one sw7))
  go_ret
  exact ⟨rfl, ((((f0.t f2).t f3).t f4).t f5).t (Fr.trans ((Fr.refl _ _).alloc _) f7 (by simp))⟩
set_option maxRecDepth 100000 in
set_option maxHeartbeats 1000000 in
theorem law_FnShifts (v : Value) (xs : List Int) (i : Int) (w : World) (hx : Sl .u64 w v xs) (hd : DG 18446744073709551616 xs) (i0 : 0 ≤ i) (i1 : i < 65536) :
    Calls Try.prog 14 #[v, .int .u16 i] w fun e w' => e = .returned (.bool true) ∧ Fr [] w w' := by
  obtain ⟨j, hj⟩ : ∃ j, j = i % 3001 := ⟨_, rfl⟩
  have hj2 : 0 ≤ j ∧ j < 3001 := by omega
  obtain ⟨hj0, hj1⟩ := hj2
  have hje : i % 3001 = j := hj.symm
  obtain ⟨k, hk⟩ : ∃ k : Nat, (k : Int) = j := ⟨j.toNat, by omega⟩
  have hk2 : k < 3001 := by omega
  have HK := Lib.hid hk
  clear hk hj
  have HX := Lib.hid hx
  have HD := Lib.hid hd
  obtain ⟨A, cap, rfl, hlc, hm, hs⟩ := hx
  unfold maxLen at hm
  clear hs hd
  by_cases h1 : 2147483647 < xs.length
  · go_enter Try.func14, Try.ntmps14
    go_wp2_with fail
    go_ret
    exact ⟨rfl, Fr.refl _ _⟩
  by_cases h2 : xs.length ≤ 260
  case neg =>
    go_enter Try.func14, Try.ntmps14
    go_wp2_with (go_at_call 20; refine (few1_no 260 A _ _ _ _ (by omega) (by omega) (by omega)).mono ?_; rintro e w1 ⟨rfl, rfl⟩)
    go_ret
    exact ⟨rfl, (Fr.refl _ _).alloc _⟩
  have f0 : Fr [] w (w.alloc (.cells #[.slice A xs.length cap] 22)) := (Fr.refl _ _).alloc _
  have C1 := Lib.hid (implLsh_any _ xs k _ (HX.out.fr0 f0) HD.out (by omega) (by omega))
  have HR := Lib.hid (shl_BIG (s := k) HD.out (by omega) (by omega))
  have ONE := Lib.hid (fun W => implLsh_any _ [1] 0 (W.alloc (.cells #[.int .u64 1] 31)) (row1 W _ _ _) (DG.cons (by omega) (by omega) (DG.nil _)) (by simp) (by omega))
  rw [show val 18446744073709551616 [1] * 2 ^ 0 = 1 by decide] at ONE
  obtain ⟨X, hX⟩ : ∃ X, val 18446744073709551616 xs = X := ⟨_, rfl⟩
  have HV := Lib.hid hX
  have HB := Lib.hid (words_BIG HD.out (show xs.length ≤ 1000000 by omega))
  rw [hX] at C1 HR HB
  have C2 := Lib.hid (fun va W (h : SW W va (X * 2 ^ k)) => by
    obtain ⟨ys, sl, dy, nzy, hv⟩ := h
    have hl := len_BIG64 dy nzy (by rw [hv]; exact HR.out)
    have C := implRsh_any va ys k W sl dy hl (by omega)
    rw [hv, Int.mul_ediv_cancel _ (by have := pow_pos_ (B := 2) (by omega) k; omega)] at C
    exact C)
  obtain ⟨R, hR⟩ : ∃ R, X * 2 ^ k = R := ⟨_, rfl⟩
  rw [hR] at C1 C2 HR
  rw [HK.out] at C1 C2
  clear hX hR
  go_enter Try.func14, Try.ntmps14
  go_wp2_with (first
    | (go_at_call 20; refine (few1_yes 260 A _ _ _ _ (by omega) h2).mono ?_; rintro e w1 ⟨rfl, rfl⟩)
    | (go_at_call 45; refine (Hid.out C1).mono ?_; clear C1; rintro e w2 ⟨v2, rfl, sw2, f2⟩)
    | (go_at_call 43; refine (C2.out _ _ sw2).mono ?_; rintro e w3 ⟨v3, rfl, sw3, f3⟩)
    | (go_at_call 22; refine (of_any _ xs _ (((HX.out.fr0 f0).fr0 f2).fr0 f3) HD.out (by omega)).mono ?_; rw [HV.out]; rintro e w4 ⟨v4, rfl, sn4, f4⟩; obtain ⟨zs, slz, dz, nzz, hvz⟩ := sw3; have HVZ := Lib.hid hvz; have hlz := len_BIG64 dz nzz (by rw [hvz]; exact HB.out); have HLZ := Lib.hid hlz; clear hvz hlz)
    | (go_at_call 42; refine (is_any _ _ zs X _ (slz.fr0 f4) dz HLZ.out sn4 HVZ.out).mono ?_; rintro e w5 ⟨rfl, f5⟩)
    | (go_at_call 45; refine (ONE.out _).mono ?_; rintro e w7 ⟨v7, rfl, sw7, f7⟩; obtain ⟨A7, c7, rfl⟩ := SW.one sw7))
  go_ret
  exact ⟨rfl, ((((f0.t f2).t f3).t f4).t f5).t (Fr.trans ((Fr.refl _ _).alloc _) f7 (by simp))⟩
end Go.Proofs.Ytjapebgihnahjaa
