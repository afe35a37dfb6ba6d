/-
  The thin package's Montgomery, and the walk of the law FnMontgomery. Conditions: the words can be read.
-/
import Derived.Test.YtjapebgihnahjaaMont
import Derived.Test.YtjapebgihnahjaaTruncL
import Derived.Test.YtjapebgihnahjaaSpecS
import Derived.Test.YtjapebgihnahjaaAdd
set_option linter.unusedSimpArgs false
set_option linter.unusedVariables false
namespace Go.Proofs.Ytjapebgihnahjaa
open Go.Big Go.RowKit
theorem prod_MID {a b : Int} {p q : Nat} (ha0 : 0 ≤ a) (ha : a < 18446744073709551616 ^ p) (hb0 : 0 ≤ b) (hb : b < 18446744073709551616 ^ q) (h : p + q ≤ 10000) : a * b < MID := by
  have h1 : a * b ≤ (18446744073709551616 ^ p - 1) * (18446744073709551616 ^ q - 1) := Int.mul_le_mul (by omega) (by omega) hb0 (by omega)
  have hp := pow_pos_ (B := 18446744073709551616) (by omega) p
  have hq := pow_pos_ (B := 18446744073709551616) (by omega) q
  have e : (18446744073709551616 : Int) ^ (p + q) = 18446744073709551616 ^ p * 18446744073709551616 ^ q := Int.pow_add ..
  have h2 := pow_le_pow_ (B := 18446744073709551616) (by omega) h
  have h3 : (18446744073709551616 : Int) ^ 10000 ≤ MID := by
    rw [MID_eq, pow64]
    exact pow_le_pow_ (by omega) (by omega)
  rw [e] at h2
  generalize (18446744073709551616 : Int) ^ p = P at *
  generalize (18446744073709551616 : Int) ^ q = Q at *
  generalize (18446744073709551616 : Int) ^ 10000 = T at *
  have : (P - 1) * (Q - 1) = P * Q - P - Q + 1 := by grind
  omega
theorem emod_of_dvd_sub {a b m : Int} (h : m ∣ a - b) : a % m = b % m := by
  obtain ⟨c, hc⟩ := h
  have : a = b + m * c := by omega
  rw [this, Int.add_mul_emod_self_left]
def RetMo (xs ys ms : List Int) (n : Nat) (w : World) (e : Ending) (w' : World) : Prop :=
  ∃ A c zs, e = .returned (.slice A n c) ∧ Sl .u64 w' (.slice A n c) zs ∧ zs.length = n ∧ DG 18446744073709551616 zs ∧ (val 18446744073709551616 ms ∣ val 18446744073709551616 zs * 18446744073709551616 ^ n - val 18446744073709551616 xs * val 18446744073709551616 ys) ∧ Fr [] w w'
set_option maxRecDepth 100000 in
set_option maxHeartbeats 2000000 in
theorem implMont_any (A B C : Option Addr) (cx cy cm : Nat) (xs ys ms : List Int) (n : Nat) (k : Int) (w : World) (hx : Sl .u64 w (.slice A n cx) xs) (hy : Sl .u64 w (.slice B n cy) ys) (hm : Sl .u64 w (.slice C n cm) ms) (hdx : DG 18446744073709551616 xs) (hdy : DG 18446744073709551616 ys) (hdm : DG 18446744073709551616 ms)
    (hnx : xs.length = n) (hny : ys.length = n) (hnm : ms.length = n) (hn0 : 0 < n) (hn9 : n ≤ 100000) (hk0 : 0 ≤ k) (hk1 : k < 18446744073709551616) (hk : (18446744073709551616 : Int) ∣ ms.getD 0 0 * k + 1) (hodd : ms.getD 0 0 % 2 = 1) :
    Calls Try.prog 53 #[.slice A n cx, .slice B n cy, .slice C n cm, .int .u64 k] w (RetMo xs ys ms n w) := by
  have HX := Lib.hid hx
  have HY := Lib.hid hy
  have HM := Lib.hid hm
  have HDX := Lib.hid hdx
  have HNX := Lib.hid hnx
  have HNY := Lib.hid hny
  have HNM := Lib.hid hnm
  have CM := Lib.hid (fun vx vy vm W (h1 : Sl .u64 W vx xs) (h2 : Sl .u64 W vy ys) (h3 : Sl .u64 W vm ms) => mont_any vx vy vm xs ys ms n k W h1 h2 h3 hdx hdy hdm hnx hny hnm hn0 hn9 hk0 hk1 hk)
  obtain ⟨_, _, e1, hlc, hmm, hsm⟩ := hm
  injection e1 with e1 e2 e3
  subst e1 e3
  obtain ⟨bm, om, rfl, hbm, sm⟩ := hsm (by omega)
  have c0 := sm 0 (by omega)
  rw [Nat.add_zero] at c0
  obtain ⟨m0, hm0⟩ : ∃ m0, m0 = ms.getD 0 0 := ⟨_, rfl⟩
  have hd0 := hdm.getD (by omega) 0
  rw [← hm0] at c0 hodd hd0
  obtain ⟨h00, h01⟩ := hd0
  have hmask := u64_and_mask m0 1 h00 h01 (by omega)
  rw [show (2 : Int) ^ 1 - 1 = 1 from rfl, show (2 : Int) ^ 1 = 2 from rfl, hodd] at hmask
  have hnz : ((n : Int) == 0) = false := by rw [beq_eq_false_iff_ne]; omega
  unfold maxLen at hmm
  have T1 : True := trivial
  have T2 : True := trivial
  have T3 : True := trivial
  have T4 : True := trivial
  clear hx hy hdx hdy hdm hnx hny hnm hk hodd hsm sm e2 hm0
  go_enter Try.func53, Try.ntmps53
  go_wp2_with (first
    | (go_at_call 76; clear T1; refine (clone_any _ xs _ HX.out (by rw [HNX.out]; omega)).mono ?_; rintro e w1 ⟨v1, rfl, sl1, f1⟩)
    | (go_at_call 76; clear T2; refine (clone_any _ ys _ (HY.out.fr0 f1) (by rw [HNY.out]; omega)).mono ?_; rintro e w2 ⟨v2, rfl, sl2, f2⟩)
    | (go_at_call 76; refine (clone_any _ ms _ (HM.out.fr0 (f1.t f2)) (by rw [HNM.out]; omega)).mono ?_; rintro e w3 ⟨v3, rfl, sl3, f3⟩; obtain ⟨A3, c3, rfl, q3, q4, q5⟩ := id sl3; rw [HNM.out] at sl3 q3 ⊢; clear q5)
    | (go_at_call 92; clear T3; refine (zzIn_any _ xs _ ((sl1.fr0 f2).fr0 f3) (by rw [HNX.out]; omega)).mono ?_; rintro e w4 ⟨b4, rfl, row4, hb4, f4⟩; have HR4 := Lib.hid row4; clear row4)
    | (go_at_call 92; clear T4; refine (zzIn_any _ ys _ ((sl2.fr0 f3).fr0 f4) (by rw [HNY.out]; omega)).mono ?_; rintro e w5 ⟨b5, rfl, row5, hb5, f5⟩; have HR5 := Lib.hid row5; clear row5)
    | (go_at_call 92; refine (zzIn_any _ ms _ ((sl3.fr0 f4).fr0 f5) (by rw [HNM.out]; omega)).mono ?_; rintro e w6 ⟨b6, rfl, row6, hb6, f6⟩; have HR6 := Lib.hid row6; clear row6)
    | (go_at_call 112; refine (CM.out _ _ _ _ (((HR4.out.fr f5 (by simp)).fr f6 (by simp)).sl (by rw [HNX.out]; omega)) ((HR5.out.fr f6 (by simp)).sl (by rw [HNY.out]; omega)) (HR6.out.sl (by rw [HNM.out]; omega))).mono ?_; rintro e w7 ⟨v7, zs, rfl, sl7, hzl, hzd, hdv, f7⟩; have HZL := Lib.hid hzl; have HDV := Lib.hid hdv; clear hzl hdv)
    | (go_at_call 97; refine (zzOut_any _ zs _ sl7 (by rw [HZL.out]; omega)).mono ?_; rintro e w8 ⟨v8, rfl, sl8, f8⟩)
    | (go_at_call 86; go_in))
  go_ret
  obtain ⟨A8, c8, rfl, g1, g2, g3⟩ := sl8
  refine ⟨A8, c8, zs, by rw [HZL.out]; rfl, ⟨A8, c8, by rw [HZL.out], g1, g2, g3⟩, HZL.out, hzd, HDV.out, (((((((f1.t f2).t f3).t f4).t f5).t f6).t f7).t f8)⟩
set_option maxRecDepth 100000 in
set_option maxHeartbeats 4000000 in
theorem fnMont_in (A B C : Option Addr) (cx cy cm : Nat) (xs ys ms : List Int) (n : Nat) (w : World) (hcm : n ≤ cm) (hcm9 : cm ≤ 2 ^ 63 - 1) (HX : Hid (Sl .u64 w (.slice A n cx) xs)) (HY : Hid (Sl .u64 w (.slice B n cy) ys)) (HM : Hid (Sl .u64 w (.slice C n cm) ms)) (HDX : Hid (DG 18446744073709551616 xs)) (HDY : Hid (DG 18446744073709551616 ys)) (HDM : Hid (DG 18446744073709551616 ms))
    (HNX : Hid (xs.length = n)) (HNY : Hid (ys.length = n)) (HNM : Hid (ms.length = n)) (hn0 : 0 < n) (hn9 : n ≤ 20) (HO : Hid (ms.getD 0 0 % 2 = 1)) :
    Calls Try.prog 16 #[.slice A n cx, .slice B n cy, .slice C n cm] w fun e w' => e = .returned (.bool true) ∧ Fr [] w w' := by
  obtain ⟨_, _, e1, _, _, hsm⟩ := HM.out
  injection e1 with e1 e2 e3
  subst e1 e3
  obtain ⟨bm, om, rfl, hbm, sm⟩ := hsm (by rw [HNM.out]; omega)
  have c0 := sm 0 (by rw [HNM.out]; omega)
  rw [Nat.add_zero] at c0
  have CI := Lib.hid (fun k W (f : Fr [] w W) hk0 hk1 hk => implMont_any A B _ cx cy cm xs ys ms n k W (HX.out.fr0 f) (HY.out.fr0 f) (HM.out.fr0 f) HDX.out HDY.out HDM.out HNX.out HNY.out HNM.out hn0 (by omega) hk0 hk1 hk HO.out)
  obtain ⟨m0, hm0⟩ : ∃ m0, m0 = ms.getD 0 0 := ⟨_, rfl⟩
  have hodd := HO.out
  have hd0 := HDM.out.getD (by omega) 0
  rw [← hm0] at c0 hodd hd0
  simp only [← hm0] at CI
  obtain ⟨h00, h01⟩ := hd0
  have CO := Lib.hid (fun W => opp_any m0 W h00 h01 hodd)
  have ho2 : (m0 % 2 == 0) = false := by rw [beq_eq_false_iff_ne]; omega
  have hnz : ((n : Int) == 0) = false := by rw [beq_eq_false_iff_ne]; omega
  have CX := Lib.hid (fun W (f : Fr [] w W) => of_any _ xs W (HX.out.fr0 f) HDX.out (by rw [HNX.out]; omega))
  have CY := Lib.hid (fun W (f : Fr [] w W) => of_any _ ys W (HY.out.fr0 f) HDY.out (by rw [HNY.out]; omega))
  have CM := Lib.hid (fun W (f : Fr [] w W) => of_any _ ms W (HM.out.fr0 f) HDM.out (by rw [HNM.out]; omega))
  have hX0 := val_nonneg (by omega) HDX.out
  have hX1 := val_lt (by omega) HDX.out
  have hY0 := val_nonneg (by omega) HDY.out
  have hY1 := val_lt (by omega) HDY.out
  have hM1 := val_lt (by omega) HDM.out
  have hMp : 0 < val 18446744073709551616 ms := by
    have h0 := val_nonneg (by omega) HDM.out
    have e := val_head (zs := ms) (by rw [HNM.out]; omega)
    rw [← hm0] at e
    omega
  rw [HNX.out] at hX1
  rw [HNY.out] at hY1
  rw [HNM.out] at hM1
  have CI2 := CI.out
  unfold RetMo at CI2
  clear CI
  obtain ⟨X, hX⟩ : ∃ X, val 18446744073709551616 xs = X := ⟨_, rfl⟩
  obtain ⟨Y, hY⟩ : ∃ Y, val 18446744073709551616 ys = Y := ⟨_, rfl⟩
  obtain ⟨M, hM⟩ : ∃ M, val 18446744073709551616 ms = M := ⟨_, rfl⟩
  rw [hX] at CX hX0 hX1
  rw [hY] at CY hY0 hY1
  rw [hM] at CM hM1 hMp
  simp only [hX, hY, hM] at CI2
  have CI := Lib.hid CI2
  have hMM : M < MID := by
    have := prod_MID (a := M) (b := 1) (p := n) (q := 1) (by omega) hM1 (by omega) (by omega) (by omega)
    omega
  have CMUL := Lib.hid (fun va vb W (h : SN W va X) (h' : SN W vb Y) => mul_any va vb X Y W h h' (by have := prod_MID (a := X) (b := 1) (p := n) (q := 1) hX0 hX1 (by omega) (by omega) (by omega); exact MID_BIG (by omega)) (by have := prod_MID (a := Y) (b := 1) (p := n) (q := 1) hY0 hY1 (by omega) (by omega) (by omega); exact MID_BIG (by omega)))
  have CD2 := Lib.hid (fun va vb W (h : SN W va (X * Y)) (h' : SN W vb M) => divmod_any va vb (X * Y) M W h h' (prod_MID hX0 hX1 hY0 hY1 (by omega)) hMM hMp)
  have CS := Lib.hid (fun Z va W (h0 : 0 ≤ Z) (h1 : Z < 18446744073709551616 ^ n) (h : SN W va Z) => shifted_any va Z (64 * n) W h (by have := prod_MID (a := Z) (b := 1) (p := n) (q := 1) h0 h1 (by omega) (by omega) (by omega); exact MID_BIG (by omega)) (by omega))
  have e64 : (2 : Int) ^ (64 * n) = 18446744073709551616 ^ n := by rw [Int.pow_mul]; rfl
  have ei : ((64 * n : Nat) : Int) = 64 * (n : Int) := by omega
  rw [e64, ei] at CS
  have CD1 := Lib.hid (fun Z va vb W (h0 : 0 ≤ Z) (h1 : Z < 18446744073709551616 ^ n) (h : SN W va (Z * 18446744073709551616 ^ n)) (h' : SN W vb M) => divmod_any va vb (Z * 18446744073709551616 ^ n) M W h h' (prod_MID (p := n) (q := n + 1) h0 h1 (by have := pow_pos_ (B := 18446744073709551616) (by omega) n; omega) (by have := pow_pos_ (B := 18446744073709551616) (by omega) n; rw [Int.pow_succ]; omega) (by omega)) hMM hMp)
  obtain ⟨XY, hXY⟩ : ∃ XY, XY = X * Y := ⟨_, rfl⟩
  rw [← hXY] at CMUL CD2
  simp only [← hXY] at CI
  obtain ⟨Wn, hWn⟩ : ∃ Wn : Int, Wn = 18446744073709551616 ^ n := ⟨_, rfl⟩
  rw [← hWn] at CS CD1
  simp only [← hWn] at CI
  have HWN := Lib.hid hWn
  have T1 : True := trivial
  have T2 : True := trivial
  have T3 : True := trivial
  clear CI2 hX hY hM hX0 hX1 hY0 hY1 hM1 hMp hMM e64 ei hXY hWn hsm sm e2 hm0 hodd
  go_enter Try.func16, Try.ntmps16
  go_wp2_with (first
    | (go_at_call 54; refine (CO.out _).mono ?_; rintro e w1 ⟨k, rfl, hk0, hk1, hk, rfl⟩; have HK := Lib.hid hk; clear hk)
    | (go_at_call 53; refine (CI.out k _ (Fr.refl _ _) hk0 hk1 HK.out).mono ?_; rintro e w2 ⟨A2, c2, zs, rfl, sl2, hzl, hzd, hdv, f2⟩; have HZL := Lib.hid hzl; have HDV := Lib.hid hdv; clear hzl hdv; have hz0 := val_nonneg (by omega) hzd; have hz1 := val_lt (by omega) hzd; rw [HZL.out, ← HWN.out] at hz1; have CZ := Lib.hid (of_any _ zs _ sl2 hzd (by rw [HZL.out]; omega)); obtain ⟨Z, hZ⟩ : ∃ Z, val 18446744073709551616 zs = Z := ⟨_, rfl⟩; rw [hZ] at CZ hz0 hz1 HDV; clear hZ; have HZ0 := Lib.hid hz0; have HZ1 := Lib.hid hz1; clear hz0 hz1)
    | (go_at_call 22; clear T1; refine (Hid.out CZ).mono ?_; rintro e w3 ⟨v3, rfl, sn3, f3⟩)
    | (go_at_call 38; refine (CS.out Z _ _ HZ0.out (by first | exact HZ1.out | (rw [← HWN.out]; exact HZ1.out)) sn3).mono ?_; rintro e w4 ⟨v4, rfl, sn4, f4⟩)
    | (go_at_call 22; clear T2; refine (CM.out _ ((f2.t f3).t f4)).mono ?_; rintro e w5 ⟨v5, rfl, sn5, f5⟩)
    | (go_at_call 21; clear T3; refine (CD1.out Z _ _ _ HZ0.out (by first | exact HZ1.out | (rw [← HWN.out]; exact HZ1.out)) (sn4.fr0 f5) sn5).mono ?_; rintro e w6 ⟨v6, v6', rfl, sn6, sn6', f6⟩)
    | (go_at_call 22; refine (CX.out _ ((((f2.t f3).t f4).t f5).t f6)).mono ?_; clear CX; rintro e w7 ⟨v7, rfl, sn7, f7⟩)
    | (go_at_call 22; refine (CY.out _ (((((f2.t f3).t f4).t f5).t f6).t f7)).mono ?_; clear CY; rintro e w8 ⟨v8, rfl, sn8, f8⟩)
    | (go_at_call 40; refine (CMUL.out _ _ _ (sn7.fr0 f8) sn8).mono ?_; rintro e w9 ⟨v9, rfl, sn9, f9⟩)
    | (go_at_call 22; refine (CM.out _ (((((((f2.t f3).t f4).t f5).t f6).t f7).t f8).t f9)).mono ?_; clear CM; rintro e w10 ⟨v10, rfl, sn10, f10⟩)
    | (go_at_call 21; refine (CD2.out _ _ _ (sn9.fr0 f10) sn10).mono ?_; rintro e w11 ⟨v11, v11', rfl, sn11, sn11', f11⟩)
    | (go_at_call 27; have sna := ((((sn6'.fr0 f7).fr0 f8).fr0 f9).fr0 f10).fr0 f11; rw [emod_of_dvd_sub HDV.out] at sna; refine (cmp_same _ _ _ _ sna sn11').mono ?_; rintro e w12 ⟨rfl, f12⟩))
  go_ret
  exact ⟨rfl, ((((((((((f2.t f3).t f4).t f5).t f6).t f7).t f8).t f9).t f10).t f11).t f12)⟩
set_option maxRecDepth 100000 in
set_option maxHeartbeats 2000000 in
theorem law_FnMontgomery (v : Value) (xs : List Int) (u : Value) (ys : List Int) (t : Value) (ms : List Int) (w : World) (hx : Sl .u64 w v xs) (hdx : DG 18446744073709551616 xs) (hy : Sl .u64 w u ys) (hdy : DG 18446744073709551616 ys) (hm : Sl .u64 w t ms) (hdm : DG 18446744073709551616 ms) :
    Calls Try.prog 16 #[v, u, t] w fun e w' => e = .returned (.bool true) ∧ Fr [] w w' := by
  have HX := Lib.hid hx
  have HY := Lib.hid hy
  have HM := Lib.hid hm
  have HDX := Lib.hid hdx
  have HDY := Lib.hid hdy
  have HDM := Lib.hid hdm
  obtain ⟨A, cx, rfl, hcx, hmx, hsx⟩ := hx
  obtain ⟨B, cy, rfl, hcy, hmy, hsy⟩ := hy
  obtain ⟨C, cm, rfl, hcm, hmm, hsm⟩ := hm
  unfold maxLen at hmx hmy hmm
  obtain ⟨p, hp⟩ : ∃ p, xs.length = p := ⟨_, rfl⟩
  obtain ⟨q, hq⟩ : ∃ q, ys.length = q := ⟨_, rfl⟩
  obtain ⟨n, hn⟩ : ∃ n, ms.length = n := ⟨_, rfl⟩
  have HP := Lib.hid hp
  have HQ := Lib.hid hq
  have HN := Lib.hid hn
  rw [hp] at HX hcx ⊢
  rw [hq] at HY hcy ⊢
  rw [hn] at HM hcm hsm ⊢
  clear hp hq hn hsx hsy hdx hdy hdm
  by_cases h1 : 2147483647 < p
  · clear hsm
    go_enter Try.func16, Try.ntmps16
    go_wp2_with fail
    go_ret
    exact ⟨rfl, Fr.refl _ _⟩
  by_cases h2 : 2147483647 < q
  · clear hsm
    go_enter Try.func16, Try.ntmps16
    go_wp2_with fail
    go_ret
    exact ⟨rfl, Fr.refl _ _⟩
  by_cases h3 : 2147483647 < n
  · clear hsm
    go_enter Try.func16, Try.ntmps16
    go_wp2_with fail
    go_ret
    exact ⟨rfl, Fr.refl _ _⟩
  by_cases h4 : n = 0
  · subst h4
    clear hsm
    go_enter Try.func16, Try.ntmps16
    go_wp2_with fail
    go_ret
    exact ⟨rfl, Fr.refl _ _⟩
  have hnz : ((n : Int) == 0) = false := by rw [beq_eq_false_iff_ne]; omega
  by_cases h5 : 20 < n
  · clear hsm
    go_enter Try.func16, Try.ntmps16
    go_wp2_with fail
    go_ret
    exact ⟨rfl, Fr.refl _ _⟩
  by_cases h6 : p = n
  case neg =>
    clear hsm
    go_enter Try.func16, Try.ntmps16
    go_wp2_with fail
    go_ret
    exact ⟨rfl, Fr.refl _ _⟩
  subst h6
  by_cases h7 : q = p
  case neg =>
    clear hsm
    go_enter Try.func16, Try.ntmps16
    go_wp2_with fail
    go_ret
    exact ⟨rfl, Fr.refl _ _⟩
  subst h7
  by_cases h8 : ms.getD 0 0 % 2 = 0
  · obtain ⟨bm, om, rfl, hbm, sm⟩ := hsm (by omega)
    have c0 := sm 0 (by rw [HN.out]; omega)
    rw [Nat.add_zero] at c0
    obtain ⟨h00, h01⟩ := HDM.out.getD (by omega) 0
    obtain ⟨m0, hm0⟩ : ∃ m0, m0 = ms.getD 0 0 := ⟨_, rfl⟩
    rw [← hm0] at c0 h8 h00 h01
    clear hm0 hsm sm
    go_enter Try.func16, Try.ntmps16
    go_wp2_with fail
    go_ret
    exact ⟨rfl, Fr.refl _ _⟩
  obtain ⟨h00, h01⟩ := HDM.out.getD (by omega) 0
  exact fnMont_in A B C cx cy cm xs ys ms q w hcm hmm HX HY HM HDX HDY HDM HP HQ HN (by omega) (by omega) (Lib.hid (by omega))
end Go.Proofs.Ytjapebgihnahjaa
