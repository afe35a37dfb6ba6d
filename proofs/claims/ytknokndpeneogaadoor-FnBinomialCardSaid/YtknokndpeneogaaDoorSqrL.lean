/-
  The thin package's Sqr, and the walks of the laws FnSqr and FnBinomial. Conditions: the words can be read; the thresholds lie in their variables.
-/
import Derived.Test.YtknokndpeneogaaDoorSqrK
import Derived.Test.YtknokndpeneogaaDoorMulR
import Derived.Test.YtknokndpeneogaaDoorShiftL
set_option linter.unusedSimpArgs false
set_option linter.unusedVariables false
namespace Go.Proofs.YtknokndpeneogaaDoor
open Go.Big Go.RowKit Go.ChangeShapes Go.WideShapes Go.ChangeAt
theorem glob_sqr {W : World} (h : laidMetH Tryd.prog [("loop.example/pub-g03246/pub/big2.basicSqrThreshold", Rows.laid_loop_example_pub_g03246_pub_big2_basicSqrThreshold), ("loop.example/pub-g03246/pub/big2.karatsubaSqrThreshold", Rows.laid_loop_example_pub_g03246_pub_big2_karatsubaSqrThreshold)] W) : Glo W 0 12 ∧ Glo W 1 80 := by
  rw [MakeChecks.laidMetH_plain _ _ _ (by kernel_rfl)] at h
  exact ⟨int_of_head (g := 0) (t := 3) (by kernel_rfl) (by kernel_rfl) Tryd.underlying3 h, int_of_head (g := 1) (t := 3) (by kernel_rfl) (by kernel_rfl) Tryd.underlying3 (laidMet.tail h)⟩
theorem glob_bin {W : World} (h : laidMetH Tryd.prog [("loop.example/pub-g03246/pub/big2.karatsubaThreshold", Rows.laid_loop_example_pub_g03246_pub_big2_karatsubaThreshold), ("loop.example/pub-g03246/pub/big2.basicSqrThreshold", Rows.laid_loop_example_pub_g03246_pub_big2_basicSqrThreshold), ("loop.example/pub-g03246/pub/big2.karatsubaSqrThreshold", Rows.laid_loop_example_pub_g03246_pub_big2_karatsubaSqrThreshold)] W) : Glo W 2 40 ∧ Glo W 0 12 ∧ Glo W 1 80 := by
  rw [MakeChecks.laidMetH_plain _ _ _ (by kernel_rfl)] at h
  exact ⟨int_of_head (g := 2) (t := 3) (by kernel_rfl) (by kernel_rfl) Tryd.underlying3 h, int_of_head (g := 0) (t := 3) (by kernel_rfl) (by kernel_rfl) Tryd.underlying3 (laidMet.tail h), int_of_head (g := 1) (t := 3) (by kernel_rfl) (by kernel_rfl) Tryd.underlying3 (laidMet.tail (laidMet.tail h))⟩
theorem sqr_call (s bx : Nat) (xs : List Int) (W : World) (h1 : StkAt W s none) (h2 : Glo W 0 12) (h2' : Glo W 1 80) (h3 : Row .u64 77 W bx xs) (hd : DG 18446744073709551616 xs) (hl : xs.length ≤ 900) :
    Calls Tryd.prog 77 #[.slice none 0 0, .pointer (some ⟨s, 0, none⟩), .slice (some ⟨bx, 0, none⟩) xs.length xs.length] W (MulP s none none W.heap.size 0 0 (xs.length + xs.length) (val 18446744073709551616 xs * val 18446744073709551616 xs) W) := by
  have b1 := h3.lt
  have b3 := heap_lt h1
  have n1 := h1.row_ne h3
  exact sqr_ok _ s none none 0 W.heap.size 0 0 _ bx 0 xs.length xs W ⟨h1, by simp only [lenS]; omega, h2, h2', Rcv.nil _ _ _, Nat.le_refl _, by omega, Nm.of_wr (Wr.row h3) (Rcv.of_row h3 (by omega) (by unfold maxLen; omega)) (Nat.le_refl _), rfl, hd, by omega, by omega, .inl (by omega), fun h => absurd h (by omega), fun i _ h => by omega, fun i _ _ hh => n1 hh, ⟨by omega, fun _ h => by cases h⟩⟩
set_option maxRecDepth 100000 in
set_option maxHeartbeats 1000000 in
theorem zzSqr_any (v : Value) (xs : List Int) (w : World) (hx : Sl .u64 w v xs) (hd : DG 18446744073709551616 xs) (hl : xs.length ≤ 900) (hT : Glo w 0 12 ∧ Glo w 1 80) :
    Calls Tryd.prog 54 #[v] w (RetW (val 18446744073709551616 xs * val 18446744073709551616 xs) w) := by
  have HX := Lib.hid hx
  have HT := Lib.hid hT.1
  have HT' := Lib.hid hT.2
  have HB := Lib.hid (prod_BIG hd hd (by omega) (by omega))
  have CM := Lib.hid (fun s bx W h1 h2 h2' h3 => sqr_call s bx xs W h1 h2 h2' h3 hd hl)
  clear hx hd hT
  go_enter Tryd.func54, Tryd.ntmps54
  go_wp2_with (first
    | (go_at_call 73; refine (getStackQ_any _).mono ?_; rintro e w1 ⟨s, rfl, hst1, f1, hs⟩; have HST1 := Lib.hid hst1; have HS := Lib.hid hs; clear hst1 hs)
    | (go_at_call 68; refine (zzIn_any _ xs _ (HX.out.fr0 f1) (by omega)).mono ?_; rintro e w2 ⟨b2, rfl, row2, hb2, f2⟩; have HR2 := Lib.hid row2; clear row2 hb2)
    | (go_at_call 77; refine (CM.out s b2 _ (HST1.out.fr0 f2) ((HT.out.fr0 f1).fr0 f2) ((HT'.out.fr0 f1).fr0 f2) HR2.out).mono ?_; rintro e w4 ⟨A', b', o', c', zs, q', rfl, g1, g2, g3, g4, _, _, _, _, g5, _⟩; have SW4 := Lib.hid (show SW w4 (.slice A' zs.length c') (val 18446744073709551616 xs * val 18446744073709551616 xs) by (have := g1.sw g2 g3; rwa [g4] at this)); have HF4 := Lib.hid (Fc.fr_new' g5 (f1.t f2) (fun b i hh => by rcases hh with hh | hh; exact hh ▸ HS.out; exact hh.1 ▸ (f1.t f2).size)); clear g1 g2 g3 g4 g5)
    | (go_at_call 75; refine (zzOutW_any _ _ _ SW4.out HB.out).mono ?_; rintro e w5 ⟨v5, rfl, sw5, f5⟩))
  go_ret
  exact ⟨_, rfl, sw5, HF4.out.t f5⟩
set_option maxRecDepth 100000 in
set_option maxHeartbeats 1000000 in
theorem implSqr_any (v : Value) (xs : List Int) (w : World) (hx : Sl .u64 w v xs) (hd : DG 18446744073709551616 xs) (hl : xs.length ≤ 900) (hT : Glo w 0 12 ∧ Glo w 1 80) :
    Calls Tryd.prog 30 #[v] w (RetW (val 18446744073709551616 xs * val 18446744073709551616 xs) w) := by
  have HX := Lib.hid hx
  have HD := Lib.hid hd
  have HT := Lib.hid hT
  obtain ⟨X, hX⟩ : ∃ X, val 18446744073709551616 xs = X := ⟨_, rfl⟩
  have HV := Lib.hid hX
  rw [hX]
  clear hx hd hX hT
  go_enter Tryd.func30, Tryd.ntmps30
  go_wp2_with (first
    | (go_at_call 48; refine (normed_any _ xs _ HX.out HD.out (by omega)).mono ?_; rintro e w1 ⟨v1, xs1, rfl, sl1, dx, nzx, hvx, hlx, f1⟩; have HVX := Lib.hid hvx; clear hvx)
    | (go_at_call 54; refine (zzSqr_any _ xs1 _ sl1 dx (by omega) ⟨HT.out.1.fr0 f1, HT.out.2.fr0 f1⟩).mono ?_; rw [HVX.out, HV.out]; rintro e w5 ⟨v5, rfl, sw5, f5⟩))
  go_ret
  exact ⟨_, rfl, sw5, f1.t f5⟩
set_option maxRecDepth 100000 in
set_option maxHeartbeats 2000000 in
theorem law_FnSqr (v : Value) (xs : List Int) (w : World) (hx : Sl .u64 w v xs) (hd : DG 18446744073709551616 xs) (hT : Glo w 0 12 ∧ Glo w 1 80) :
    Calls Tryd.prog 6 #[v] w fun e w' => e = .returned (.bool true) ∧ Fr [] w w' := by
  have HX := Lib.hid hx
  have HD := Lib.hid hd
  have HT := Lib.hid hT
  obtain ⟨A, cap, rfl, hlc, hm, hs⟩ := hx
  unfold maxLen at hm
  clear hs hd hT
  by_cases h1 : 2147483647 < xs.length
  · go_enter Tryd.func6, Tryd.ntmps6
    go_wp2_with fail
    go_ret
    exact ⟨rfl, Fr.refl _ _⟩
  by_cases h2 : xs.length ≤ 260
  case neg =>
    go_enter Tryd.func6, Tryd.ntmps6
    go_wp2_with (go_at_call 17; refine (few1_no 260 A _ _ _ _ (by omega) (by omega) (by omega)).mono ?_; rintro e w1 ⟨rfl, rfl⟩)
    go_ret
    exact ⟨rfl, (Fr.refl _ _).alloc _⟩
  have f0 : Fr [] w (w.alloc (.cells #[.slice A xs.length cap] 22)) := (Fr.refl _ _).alloc _
  have C1 := Lib.hid (implSqr_any _ xs _ (HX.out.fr0 f0) HD.out (by omega) ⟨HT.out.1.fr0 f0, HT.out.2.fr0 f0⟩)
  have HB := Lib.hid (prod_BIG HD.out HD.out (by omega) (by omega))
  have HXB := Lib.hid (words_BIG HD.out (show xs.length ≤ 1000000 by omega))
  have CO := Lib.hid (fun W (f : Fr [] w W) => of_any _ xs W (HX.out.fr0 f) HD.out (by omega))
  have ONE := Lib.hid (fun W v (f : Fr [] w W) (h : Sl .u64 W v [1]) => implSqr_any v [1] W h (DG.cons (by omega) (by omega) (DG.nil _)) (by simp) ⟨HT.out.1.fr0 f, HT.out.2.fr0 f⟩)
  rw [show val 18446744073709551616 [1] * val 18446744073709551616 [1] = 1 by decide] at ONE
  obtain ⟨X, hX⟩ : ∃ X, val 18446744073709551616 xs = X := ⟨_, rfl⟩
  rw [hX] at HB C1 HXB CO
  have T1 : True := trivial
  clear hX
  go_enter Tryd.func6, Tryd.ntmps6
  go_wp2_with (first
    | (go_at_call 17; refine (few1_yes 260 A _ _ _ _ (by omega) h2).mono ?_; rintro e w1 ⟨rfl, rfl⟩)
    | (go_at_call 30; refine (Hid.out C1).mono ?_; clear C1; rintro e w2 ⟨v2, rfl, sw2, f2⟩)
    | (go_at_call 19; clear T1; refine (CO.out _ (f0.t f2)).mono ?_; rintro e w3 ⟨v3, rfl, sn3, f3⟩)
    | (go_at_call 19; refine (CO.out _ ((f0.t f2).t f3)).mono ?_; rintro e w4 ⟨v4, rfl, sn4, f4⟩)
    | (go_at_call 28; refine (mul_any _ _ X X _ (sn3.fr0 f4) sn4 HXB.out HXB.out).mono ?_; rintro e w5 ⟨v5, rfl, sn5, f5⟩)
    | (go_at_call 29; refine (exact_any _ _ _ _ (((sw2.fr0 f3).fr0 f4).fr0 f5) sn5 HB.out).mono ?_; rintro e w6 ⟨rfl, f6⟩)
    | (go_at_call 30; refine (ONE.out _ _ ((((((f0.t f2).t f3).t f4).t f5).t f6).alloc _) (row1 _ _ _ _)).mono ?_; rintro e w7 ⟨v7, rfl, sw7, f7⟩; obtain ⟨A7, c7, rfl⟩ := SW.one sw7))
  go_ret
  exact ⟨rfl, (((((f0.t f2).t f3).t f4).t f5).t f6).t (Fr.trans ((Fr.refl _ _).alloc _) f7 (by simp))⟩
theorem implSqrS_any {v : Value} {x : Int} {W : World} (hx : SW W v x) (bx : x < 18446744073709551616 ^ 900) (hT : Glo W 0 12 ∧ Glo W 1 80) : Calls Tryd.prog 30 #[v] W (RetW (x * x) W) := by
  obtain ⟨xs, h1, h2, rfl, h3⟩ := hx.list bx
  exact implSqr_any v xs W h1 h2 h3 hT
theorem implLsh1S_any {v : Value} {x : Int} {W : World} (hx : SW W v x) (bx : x < 18446744073709551616 ^ 900) : Calls Tryd.prog 36 #[v, .int .u64 1] W (RetW (x * 2) W) := by
  obtain ⟨xs, h1, h2, rfl, h3⟩ := hx.list bx
  exact implLsh_any v xs 1 W h1 h2 (by omega) (by omega)
theorem bin_alg (X Y : Int) : (X + Y) * (X + Y) = X * X + Y * Y + X * Y * 2 := by grind
set_option maxRecDepth 100000 in
set_option maxHeartbeats 2000000 in
theorem law_FnBinomial (v : Value) (xs : List Int) (u : Value) (ys : List Int) (w : World) (hx : Sl .u64 w v xs) (hd : DG 18446744073709551616 xs) (hy : Sl .u64 w u ys) (hd' : DG 18446744073709551616 ys) (hT : Glo w 2 40 ∧ Glo w 0 12 ∧ Glo w 1 80) :
    Calls Tryd.prog 11 #[v, u] w fun e w' => e = .returned (.bool true) ∧ Fr [] w w' := by
  have HX := Lib.hid hx
  have HD := Lib.hid hd
  have HY := Lib.hid hy
  have HD' := Lib.hid hd'
  have HT := Lib.hid hT
  obtain ⟨A, cap, rfl, hlc, hm, hs⟩ := hx
  obtain ⟨B, cap', rfl, hlc', hm', hs'⟩ := hy
  unfold maxLen at hm hm'
  clear hs hd hs' hd' hT
  by_cases h1 : 2147483647 < xs.length
  · go_enter Tryd.func11, Tryd.ntmps11
    go_wp2_with fail
    go_ret
    exact ⟨rfl, Fr.refl _ _⟩
  by_cases h1' : 2147483647 < ys.length
  · go_enter Tryd.func11, Tryd.ntmps11
    go_wp2_with fail
    go_ret
    exact ⟨rfl, Fr.refl _ _⟩
  by_cases h2 : xs.length ≤ 260 ∧ ys.length ≤ 260
  case neg =>
    go_enter Tryd.func11, Tryd.ntmps11
    go_wp2_with (go_at_call 17; refine (few2_no 260 A B _ _ _ _ _ _ (by omega) (by omega) (by omega) (by omega)).mono ?_; rintro e w1 ⟨rfl, rfl⟩)
    go_ret
    exact ⟨rfl, (Fr.refl _ _).alloc _⟩
  obtain ⟨h2, h3⟩ := h2
  have f0 : Fr [] w (w.alloc (.cells #[.slice A xs.length cap, .slice B ys.length cap'] 22)) := (Fr.refl _ _).alloc _
  obtain ⟨x0, xb⟩ := valB HD.out h2
  obtain ⟨y0, yb⟩ := valB HD'.out h3
  have CA := Lib.hid (fun W (f : Fr [] w W) => implAdd_any _ _ xs ys W (HX.out.fr0 f) HD.out (by omega) (HY.out.fr0 f) HD'.out (by omega))
  have CXY := Lib.hid (fun W (f : Fr [] w W) => implMul_any _ _ xs ys W (HX.out.fr0 f) HD.out (by omega) (HY.out.fr0 f) HD'.out (by omega) (HT.out.1.fr0 f))
  have CX := Lib.hid (fun W (f : Fr [] w W) => implSqr_any _ xs W (HX.out.fr0 f) HD.out (by omega) ⟨HT.out.2.1.fr0 f, HT.out.2.2.fr0 f⟩)
  have CY := Lib.hid (fun W (f : Fr [] w W) => implSqr_any _ ys W (HY.out.fr0 f) HD'.out (by omega) ⟨HT.out.2.1.fr0 f, HT.out.2.2.fr0 f⟩)
  obtain ⟨X, hX⟩ : ∃ X, val 18446744073709551616 xs = X := ⟨_, rfl⟩
  obtain ⟨Y, hY⟩ : ∃ Y, val 18446744073709551616 ys = Y := ⟨_, rfl⟩
  rw [hX] at CA CXY CX x0 xb
  rw [hY] at CA CXY CY y0 yb
  have BS := Lib.hid (powB 261 900 (by omega) (sumB xb yb))
  have BXX := Lib.hid (powB 520 900 (by omega) (prodB x0 xb x0 xb))
  have BYY := Lib.hid (powB 520 900 (by omega) (prodB y0 yb y0 yb))
  have BXY := Lib.hid (powB 520 900 (by omega) (prodB x0 xb y0 yb))
  have BQ := Lib.hid (powB 521 900 (by omega) (sumB (prodB x0 xb x0 xb) (prodB y0 yb y0 yb)))
  have BD := Lib.hid (show X * Y * 2 < 18446744073709551616 ^ 900 by
    have h1 := powB 521 900 (by omega) (sumB (prodB x0 xb y0 yb) (prodB x0 xb y0 yb))
    omega)
  have B3 := Lib.hid (powB 522 1800 (by omega) (prodB (by omega) (sumB xb yb) (by omega) (sumB xb yb)))
  have E := Lib.hid (bin_alg X Y)
  have T1 : True := trivial
  have T2 : True := trivial
  have T3 : True := trivial
  have T4 : True := trivial
  have T5 : True := trivial
  have T6 : True := trivial
  clear hX hY x0 xb y0 yb h1 h1'
  go_enter Tryd.func11, Tryd.ntmps11
  go_wp2_with (first
    | (go_at_call 17; refine (few2_yes 260 A B _ _ _ _ _ _ (by omega) h2 h3).mono ?_; rintro e w1 ⟨rfl, rfl⟩)
    | (go_at_call 34; clear T1; refine (CA.out _ f0).mono ?_; rintro e w2 ⟨v2, rfl, sw2, f2⟩)
    | (go_at_call 30; clear T2; refine (implSqrS_any sw2 BS.out ⟨HT.out.2.1.fr0 (f0.t f2), HT.out.2.2.fr0 (f0.t f2)⟩).mono ?_; rintro e w3 ⟨v3, rfl, sw3, f3⟩)
    | (go_at_call 30; clear T3; refine (CX.out _ ((f0.t f2).t f3)).mono ?_; rintro e w4 ⟨v4, rfl, sw4, f4⟩)
    | (go_at_call 30; refine (CY.out _ (((f0.t f2).t f3).t f4)).mono ?_; rintro e w5 ⟨v5, rfl, sw5, f5⟩)
    | (go_at_call 34; clear T4; refine (implAddS_any (sw4.fr0 f5) sw5 BXX.out BYY.out).mono ?_; rintro e w6 ⟨v6, rfl, sw6, f6⟩)
    | (go_at_call 31; refine (CXY.out _ (((((f0.t f2).t f3).t f4).t f5).t f6)).mono ?_; rintro e w7 ⟨v7, rfl, sw7, f7⟩)
    | (go_at_call 36; refine (implLsh1S_any sw7 BXY.out).mono ?_; rintro e w8 ⟨v8, rfl, sw8, f8⟩)
    | (go_at_call 34; refine (implAddS_any ((sw6.fr0 f7).fr0 f8) sw8 BQ.out BD.out).mono ?_; rintro e w9 ⟨v9, rfl, sw9, f9⟩)
    | (go_at_call 33; clear T5; refine (implCmpS_eq ((((((sw3.fr0 f4).fr0 f5).fr0 f6).fr0 f7).fr0 f8).fr0 f9) sw9 B3.out E.out).mono ?_; rintro e w10 ⟨rfl, f10⟩)
    | (go_at_call 33; refine (implCmp_one _ _).mono ?_; rintro e w11 ⟨rfl, f11⟩))
  go_ret
  exact ⟨rfl, ((((((((((f0.t f2).t f3).t f4).t f5).t f6).t f7).t f8).t f9).t f10).t f11)⟩
end Go.Proofs.YtknokndpeneogaaDoor
