/-
  The walks of the laws FnDivBack and FnMulDiv. Conditions: the words can be read; the thresholds lie in their variables.
-/
import Derived.Test.YtknokndpeneogaaDoorDvM
set_option linter.unusedSimpArgs false
set_option linter.unusedVariables false
namespace Go.Proofs.YtknokndpeneogaaDoor
open Go.Big Go.RowKit
set_option maxRecDepth 100000 in
set_option maxHeartbeats 2000000 in
theorem law_FnDivBack (v : Value) (xs : List Int) (u : Value) (ys : List Int) (w : World) (hx : Sl .u64 w v xs) (hd : DG 18446744073709551616 xs) (hy : Sl .u64 w u ys) (hd' : DG 18446744073709551616 ys) (hT : Glo w 2 40 ∧ Glo w 3 40) :
    Calls Tryd.prog 14 #[v, u] w fun e w' => e = .returned (.bool true) ∧ Fr [] w w' := by
  have HX := Lib.hid hx
  have HD := Lib.hid hd
  have HY := Lib.hid hy
  have HD' := Lib.hid hd'
  have HT := Lib.hid hT
  obtain ⟨A, cap, rfl, hlc, hm, hs⟩ := hx
  obtain ⟨B, cap', rfl, hlc', hm', hs'⟩ := hy
  unfold maxLen at hm hm'
  clear hs hd hs' hd' hT
  by_cases h1 : 2147483647 < xs.length
  · go_enter Tryd.func14, Tryd.ntmps14
    go_wp2_with fail
    go_ret
    exact ⟨rfl, Fr.refl _ _⟩
  by_cases h1' : 2147483647 < ys.length
  · go_enter Tryd.func14, Tryd.ntmps14
    go_wp2_with fail
    go_ret
    exact ⟨rfl, Fr.refl _ _⟩
  by_cases h2 : xs.length ≤ 260 ∧ ys.length ≤ 260
  case neg =>
    go_enter Tryd.func14, Tryd.ntmps14
    go_wp2_with (go_at_call 17; refine (few2_no 260 A B _ _ _ _ _ _ (by omega) (by omega) (by omega) (by omega)).mono ?_; rintro e w1 ⟨rfl, rfl⟩)
    go_ret
    exact ⟨rfl, (Fr.refl _ _).alloc _⟩
  obtain ⟨h2, h3⟩ := h2
  have f0 : Fr [] w (w.alloc (.cells #[.slice A xs.length cap, .slice B ys.length cap'] 22)) := (Fr.refl _ _).alloc _
  have HYB := Lib.hid (words_BIG HD'.out (show ys.length ≤ 1000000 by omega))
  have hY0 := val_nonneg (B := 18446744073709551616) (by omega) HD'.out
  by_cases hy0 : val 18446744073709551616 ys = 0
  · have HV' := Lib.hid hy0
    clear hY0 hy0
    go_enter Tryd.func14, Tryd.ntmps14
    go_wp2_with (first
      | (go_at_call 17; refine (few2_yes 260 A B _ _ _ _ _ _ (by omega) h2 h3).mono ?_; rintro e w1 ⟨rfl, rfl⟩)
      | (go_at_call 19; refine (of_any _ ys _ (HY.out.fr0 f0) HD'.out (by omega)).mono ?_; rw [HV'.out]; rintro e w3 ⟨v3, rfl, sn3, f3⟩)
      | (go_at_call 18; refine (bits_any _ 0 _ sn3 (by have := HYB.out; rw [HV'.out] at this; exact this)).mono ?_; rintro e w4 ⟨L, rfl, hL, _, rfl⟩; obtain rfl : 0 = L := (show IsLen 0 0 from .inl ⟨rfl, rfl⟩).unique hL))
    go_ret
    exact ⟨rfl, f0.t f3⟩
  have C1 := Lib.hid (fun W (f : Fr [] w W) => implDiv_any _ _ xs ys W (HX.out.fr0 f) HD.out (by omega) (HY.out.fr0 f) HD'.out (by omega) (by omega) ⟨HT.out.1.fr0 f, HT.out.2.fr0 f⟩)
  have hX0 := val_nonneg (B := 18446744073709551616) (by omega) HD.out
  have hq := Int.ediv_le_self (val 18446744073709551616 ys) hX0
  have hr := Int.emod_lt_of_pos (val 18446744073709551616 xs) (show 0 < val 18446744073709551616 ys by omega)
  have hXB := words_BIG HD.out (show xs.length ≤ 1000000 by omega)
  obtain ⟨X, hX⟩ : ∃ X, val 18446744073709551616 xs = X := ⟨_, rfl⟩
  obtain ⟨Y, hY⟩ : ∃ Y, val 18446744073709551616 ys = Y := ⟨_, rfl⟩
  have HV := Lib.hid hX
  have HV' := Lib.hid hY
  rw [hX] at C1 hq hr hXB
  rw [hY] at C1 hq hr HYB
  obtain ⟨L, hL, hL9⟩ : ∃ L : Nat, (∀ M : Nat, IsLen Y M → ((M : Int) == 0) = false) ∧ True := ⟨0, fun M hM => by
    rw [beq_eq_false_iff_ne]
    rcases hM with ⟨h, _⟩ | ⟨h, _⟩
    · rw [hY] at hy0; exact absurd h hy0
    · omega, trivial⟩
  obtain ⟨x0, xb⟩ := valB HD.out h2
  obtain ⟨y0, yb⟩ := valB HD'.out h3
  rw [hX] at x0 xb
  rw [hY] at y0 yb
  have hYp : 0 < Y := by rw [hY] at hy0; omega
  have hr0 := Int.emod_nonneg X (show Y ≠ 0 by omega)
  have hq0 := Int.ediv_nonneg x0 y0
  have hE := Int.ediv_mul_add_emod X Y
  obtain ⟨Q, hQ⟩ : ∃ Q, X / Y = Q := ⟨_, rfl⟩
  obtain ⟨R, hR⟩ : ∃ R, X % Y = R := ⟨_, rfl⟩
  rw [hQ] at C1 hq hE hq0
  rw [hR] at C1 hr hE hr0
  have qb : Q < 18446744073709551616 ^ 260 := by omega
  have rb : R < 18446744073709551616 ^ 260 := by omega
  have HQB := Lib.hid qb
  have HRB := Lib.hid rb
  have HXB := Lib.hid xb
  have HQY := Lib.hid (powB 520 900 (by omega) (prodB hq0 qb y0 yb))
  have HR9 := Lib.hid (powB 260 900 (by omega) rb)
  have HE := Lib.hid hE
  have HC := Lib.hid (show cmpI R Y = -1 by unfold cmpI; rw [if_pos hr])
  have HL := Lib.hid hL
  have T1 : True := trivial
  have T2 : True := trivial
  have T3 : True := trivial
  clear hX hY hq hr hXB hQ hR hY0 hy0 hL hL9 x0 xb y0 yb hYp hr0 hq0 hE qb rb
  go_enter Tryd.func14, Tryd.ntmps14
  go_wp2_with (first
    | (go_at_call 17; refine (few2_yes 260 A B _ _ _ _ _ _ (by omega) h2 h3).mono ?_; rintro e w1 ⟨rfl, rfl⟩)
    | (go_at_call 19; clear T1; refine (of_any _ ys _ (HY.out.fr0 f0) HD'.out (by omega)).mono ?_; rw [HV'.out]; rintro e w2 ⟨v2, rfl, sn2, f2⟩)
    | (go_at_call 18; refine (bits_any _ Y _ sn2 HYB.out).mono ?_; rintro e w3 ⟨M, rfl, hM, _, rfl⟩; have hMb := HL.out M hM; clear hM)
    | (go_at_call 40; refine (C1.out _ (f0.t f2)).mono ?_; rintro e w4 ⟨v4, u4, rfl, sw4, su4, f4⟩; obtain ⟨ql, ql1, ql2, ql3, ql4⟩ := sw4.list HQB.out; obtain ⟨rl, rl1, rl2, rl3, rl4⟩ := su4.list HRB.out; have QL1 := Lib.hid ql1; have QL2 := Lib.hid ql2; have QL3 := Lib.hid ql3; have QL4 := Lib.hid ql4; have RL1 := Lib.hid rl1; have RL2 := Lib.hid rl2; have RL3 := Lib.hid rl3; have RL4 := Lib.hid rl4; clear ql1 ql2 ql3 ql4 rl1 rl2 rl3 rl4)
    | (go_at_call 19; clear T2; refine (of_any _ rl _ RL1.out RL2.out (by have := RL4.out; omega)).mono ?_; rw [RL3.out]; rintro e w5 ⟨v5, rfl, sn5, f5⟩)
    | (go_at_call 19; clear T3; refine (of_any _ ys _ (((HY.out.fr0 (f0.t f2)).fr0 f4).fr0 f5) HD'.out (by omega)).mono ?_; rw [HV'.out]; rintro e w6 ⟨v6, rfl, sn6, f6⟩)
    | (go_at_call 21; refine (cmp_at (-1) _ _ R Y _ (sn5.fr0 f6) sn6 HC.out).mono ?_; rintro e w7 ⟨rfl, f7⟩)
    | (go_at_call 31; have hmm := implMul_any _ _ ql ys _ (((QL1.out.fr0 f5).fr0 f6).fr0 f7) QL2.out (by have := QL4.out; omega) (((((HY.out.fr0 (f0.t f2)).fr0 f4).fr0 f5).fr0 f6).fr0 f7) HD'.out (by omega) (((((HT.out.1.fr0 (f0.t f2)).fr0 f4).fr0 f5).fr0 f6).fr0 f7); rw [QL3.out, HV'.out] at hmm; refine hmm.mono ?_; clear hmm; rintro e w8 ⟨v8, rfl, sw8, f8⟩)
    | (go_at_call 34; refine (implAddS_any sw8 ((((su4.fr0 f5).fr0 f6).fr0 f7).fr0 f8) HQY.out HR9.out).mono ?_; rw [HE.out]; rintro e w9 ⟨v9, rfl, sw9, f9⟩; obtain ⟨sl, sl1, sl2, sl3, sl4⟩ := sw9.list HXB.out; have SL1 := Lib.hid sl1; have SL2 := Lib.hid sl2; have SL3 := Lib.hid sl3; have SL4 := Lib.hid sl4; clear sl1 sl2 sl3 sl4)
    | (go_at_call 19; refine (of_any _ xs _ (((((((HX.out.fr0 (f0.t f2)).fr0 f4).fr0 f5).fr0 f6).fr0 f7).fr0 f8).fr0 f9) HD.out (by omega)).mono ?_; rw [HV.out]; rintro e w10 ⟨v10, rfl, sn10, f10⟩)
    | (go_at_call 27; refine (is_any _ _ sl X _ (SL1.out.fr0 f10) SL2.out (by have := SL4.out; omega) sn10 SL3.out).mono ?_; rintro e w11 ⟨rfl, f11⟩))
  go_ret
  exact ⟨rfl, (((((((((f0.t f2).t f4).t f5).t f6).t f7).t f8).t f9).t f10).t f11)⟩
set_option maxRecDepth 100000 in
set_option maxHeartbeats 2000000 in
theorem law_FnMulDiv (v : Value) (xs : List Int) (u : Value) (ys : List Int) (t : Value) (zs : List Int) (w : World) (hx : Sl .u64 w v xs) (hd : DG 18446744073709551616 xs) (hy : Sl .u64 w u ys) (hd' : DG 18446744073709551616 ys) (hz : Sl .u64 w t zs) (hd2 : DG 18446744073709551616 zs) (hT : Glo w 2 40 ∧ Glo w 3 40) :
    Calls Tryd.prog 15 #[v, u, t] w fun e w' => e = .returned (.bool true) ∧ Fr [] w w' := by
  have HX := Lib.hid hx
  have HD := Lib.hid hd
  have HY := Lib.hid hy
  have HD' := Lib.hid hd'
  have HZ := Lib.hid hz
  have HD2 := Lib.hid hd2
  have HT := Lib.hid hT
  obtain ⟨A, cap, rfl, hlc, hm, hs⟩ := hx
  obtain ⟨B, cap', rfl, hlc', hm', hs'⟩ := hy
  obtain ⟨C, cap2, rfl, hlc2, hm2, hs2⟩ := hz
  unfold maxLen at hm hm' hm2
  clear hs hd hs' hd' hs2 hd2 hT
  by_cases h1 : 2147483647 < xs.length
  · go_enter Tryd.func15, Tryd.ntmps15
    go_wp2_with fail
    go_ret
    exact ⟨rfl, Fr.refl _ _⟩
  by_cases h1' : 2147483647 < ys.length
  · go_enter Tryd.func15, Tryd.ntmps15
    go_wp2_with fail
    go_ret
    exact ⟨rfl, Fr.refl _ _⟩
  by_cases h1z : 2147483647 < zs.length
  · go_enter Tryd.func15, Tryd.ntmps15
    go_wp2_with fail
    go_ret
    exact ⟨rfl, Fr.refl _ _⟩
  by_cases h2 : xs.length ≤ 260 ∧ ys.length ≤ 260 ∧ zs.length ≤ 260
  case neg =>
    go_enter Tryd.func15, Tryd.ntmps15
    go_wp2_with (go_at_call 17; refine (few3_no 260 A B C _ _ _ _ _ _ _ _ (by omega) (by omega) (by omega) (by omega) (by omega)).mono ?_; rintro e w1 ⟨rfl, rfl⟩)
    go_ret
    exact ⟨rfl, (Fr.refl _ _).alloc _⟩
  obtain ⟨h2, h3, h4⟩ := h2
  have f0 : Fr [] w (w.alloc (.cells #[.slice A xs.length cap, .slice B ys.length cap', .slice C zs.length cap2] 22)) := (Fr.refl _ _).alloc _
  obtain ⟨x0, xb⟩ := valB HD.out h2
  obtain ⟨y0, yb⟩ := valB HD'.out h3
  obtain ⟨z0, zb⟩ := valB HD2.out h4
  have CM := Lib.hid (fun W (f : Fr [] w W) => implMul_any _ _ xs ys W (HX.out.fr0 f) HD.out (by omega) (HY.out.fr0 f) HD'.out (by omega) (HT.out.1.fr0 f))
  have HXB := Lib.hid (words_BIG HD.out (show xs.length ≤ 1000000 by omega))
  have HZB := Lib.hid (words_BIG HD2.out (show zs.length ≤ 1000000 by omega))
  obtain ⟨X, hX⟩ : ∃ X, val 18446744073709551616 xs = X := ⟨_, rfl⟩
  obtain ⟨Y, hY⟩ : ∃ Y, val 18446744073709551616 ys = Y := ⟨_, rfl⟩
  obtain ⟨Z, hZ⟩ : ∃ Z, val 18446744073709551616 zs = Z := ⟨_, rfl⟩
  have HV := Lib.hid hX
  have HV' := Lib.hid hY
  have HV2 := Lib.hid hZ
  rw [hX] at CM x0 xb HXB
  rw [hY] at CM y0 yb
  rw [hZ] at z0 zb HZB
  obtain ⟨ec, hec⟩ : ∃ x, x = cmpI Z Y := ⟨_, rfl⟩
  have HEC := Lib.hid hec
  have T1 : True := trivial
  have T2 : True := trivial
  have T3 : True := trivial
  by_cases hlt : Z < Y
  case neg =>
    have he0 : 0 ≤ ec := by rw [hec]; unfold cmpI; rw [if_neg hlt]; split <;> omega
    clear hX hY hZ x0 xb y0 yb z0 zb h1 h1' h1z hec hlt
    go_enter Tryd.func15, Tryd.ntmps15
    go_wp2_with (first
      | (go_at_call 17; refine (few3_yes 260 A B C _ _ _ _ _ _ _ _ (by omega) h2 h3 h4).mono ?_; rintro e w1 ⟨rfl, rfl⟩)
      | (go_at_call 19; clear T1; refine (of_any _ zs _ (HZ.out.fr0 f0) HD2.out (by omega)).mono ?_; rw [HV2.out]; rintro e w2 ⟨v2, rfl, sn2, f2⟩)
      | (go_at_call 19; refine (of_any _ ys _ (HY.out.fr0 (f0.t f2)) HD'.out (by omega)).mono ?_; rw [HV'.out]; rintro e w3 ⟨v3, rfl, sn3, f3⟩)
      | (go_at_call 21; refine (cmp_at ec _ _ Z Y _ (sn2.fr0 f3) sn3 HEC.out.symm).mono ?_; rintro e w4 ⟨rfl, f4⟩))
    go_ret
    exact ⟨rfl, ((f0.t f2).t f3).t f4⟩
  have he1 : ec = -1 := by rw [hec]; unfold cmpI; rw [if_pos hlt]
  subst he1
  have hN := Lib.hid (prodB x0 xb y0 yb)
  have hN9 := Lib.hid (powB 520 900 (by omega) (prodB x0 xb y0 yb))
  have hZ9 := Lib.hid (powB 260 900 (by omega) zb)
  have hS := sumB (k := 520) hN.out (powB 260 520 (by omega) zb)
  have HS := Lib.hid (powB 521 900 (by omega) hS)
  have hfin := divw_fin (Q := X) (r := Z) (y := Y) (X := X * Y + Z) (by omega) rfl z0 hlt
  have HF := Lib.hid hfin
  have HYP := Lib.hid (show 0 < val 18446744073709551616 ys by rw [hY]; omega)
  clear hX hY hZ x0 xb y0 yb z0 zb h1 h1' h1z hec hlt hS hfin
  go_enter Tryd.func15, Tryd.ntmps15
  go_wp2_with (first
    | (go_at_call 17; refine (few3_yes 260 A B C _ _ _ _ _ _ _ _ (by omega) h2 h3 h4).mono ?_; rintro e w1 ⟨rfl, rfl⟩)
    | (go_at_call 19; clear T1; refine (of_any _ zs _ (HZ.out.fr0 f0) HD2.out (by omega)).mono ?_; rw [HV2.out]; rintro e w2 ⟨v2, rfl, sn2, f2⟩)
    | (go_at_call 19; clear T2; refine (of_any _ ys _ (HY.out.fr0 (f0.t f2)) HD'.out (by omega)).mono ?_; rw [HV'.out]; rintro e w3 ⟨v3, rfl, sn3, f3⟩)
    | (go_at_call 21; refine (cmp_at (-1) _ _ Z Y _ (sn2.fr0 f3) sn3 HEC.out.symm).mono ?_; rintro e w4 ⟨rfl, f4⟩; have g4 := ((f0.t f2).t f3).t f4)
    | (go_at_call 31; refine (CM.out _ g4).mono ?_; rintro e w5 ⟨v5, rfl, sw5, f5⟩)
    | (go_at_call 34; have hz5 := (HZ.out.fr0 g4).fr0 f5; obtain ⟨pl, p1, p2, p3, p4⟩ := sw5.list hN9.out; have hadd := implAdd_any _ _ pl zs _ p1 p2 (by omega) hz5 HD2.out (by omega); rw [p3, HV2.out] at hadd; clear p1 p2 p3 p4 hz5; refine hadd.mono ?_; clear hadd; rintro e w6 ⟨v6, rfl, sw6, f6⟩)
    | (go_at_call 40; obtain ⟨sl, s1, s2, s3, s4⟩ := sw6.list HS.out; have hdv := implDiv_any _ _ sl ys _ s1 s2 s4 (((HY.out.fr0 g4).fr0 f5).fr0 f6) HD'.out (by omega) HYP.out ⟨((HT.out.1.fr0 g4).fr0 f5).fr0 f6, ((HT.out.2.fr0 g4).fr0 f5).fr0 f6⟩; rw [s3, HV'.out, ← HF.out.1, ← HF.out.2] at hdv; clear s1 s2 s3 s4; refine hdv.mono ?_; clear hdv; rintro e w7 ⟨v7, u7, rfl, sw7, su7, f7⟩; have g7 := ((g4.t f5).t f6).t f7)
    | (go_at_call 19; clear T3; refine (of_any _ xs _ (HX.out.fr0 g7) HD.out (by omega)).mono ?_; rw [HV.out]; rintro e w8 ⟨v8, rfl, sn8, f8⟩)
    | (go_at_call 29; clear f2; refine (exact_any _ _ _ _ (sw7.fr0 f8) sn8 HXB.out).mono ?_; rintro e w9 ⟨rfl, f9⟩)
    | (go_at_call 19; refine (of_any _ zs _ (HZ.out.fr0 ((g7.t f8).t f9)) HD2.out (by omega)).mono ?_; rw [HV2.out]; rintro e w10 ⟨v10, rfl, sn10, f10⟩)
    | (go_at_call 29; refine (exact_any _ _ _ _ (((su7.fr0 f8).fr0 f9).fr0 f10) sn10 HZB.out).mono ?_; rintro e w11 ⟨rfl, f11⟩))
  go_ret
  exact ⟨rfl, (((g7.t f8).t f9).t f10).t f11⟩
end Go.Proofs.YtknokndpeneogaaDoor
