/-
  ZZSqrt, impl.Sqrt, and the walk of the law FnSqrt. Conditions: the words can be read; the thresholds lie in their variables.
-/
import Derived.Test.YtknokndpeneogaaDoorgSq
import Derived.Test.YtknokndpeneogaaDoorMulR
import Derived.Test.YtknokndpeneogaaDoorGlobD
set_option linter.unusedSimpArgs false
set_option linter.unusedVariables false
namespace Go.Proofs.YtknokndpeneogaaDoor
open Go.Big Go.RowKit
theorem sqrt_call (s b : Nat) (xs : List Int) (r : Int) (W : World) (h1 : StkAt W s none) (hT : Glo W 2 40 ∧ Glo W 3 40) (h3 : Row .u64 77 W b xs) (hd : DG 18446744073709551616 xs) (hz : NZ xs) (hl : xs.length ≤ 900) (hr : IsRoot (val 18446744073709551616 xs) r) :
    Calls Tryd.prog 86 #[.slice none 0 0, .pointer (some ⟨s, 0, none⟩), .slice (some ⟨b, 0, none⟩) xs.length xs.length] W (SqPost s none r W) := by
  have n1 := h1.row_ne h3
  have hx : Nm W (some ⟨b, 0, none⟩) b 0 xs.length xs := Nm.of_wr (Wr.row h3) (Rcv.of_row h3 (by omega) (by unfold maxLen; omega)) (Nat.le_refl _)
  by_cases h2 : val 18446744073709551616 xs < 2
  · have e : r = val 18446744073709551616 xs := by
      obtain ⟨k1, k2, k3⟩ := hr
      have h0 := val_nonneg (B := 18446744073709551616) (by omega) hd
      rcases (show val 18446744073709551616 xs = 0 ∨ val 18446744073709551616 xs = 1 by omega) with h | h
      · rw [h] at k2 ⊢
        rcases (show r = 0 ∨ 1 ≤ r by omega) with hh | hh
        · exact hh
        · have : 1 * 1 ≤ r * r := Int.mul_le_mul hh hh (by omega) (by omega)
          omega
      · rw [h] at k2 k3 ⊢
        rcases (show r = 0 ∨ r = 1 ∨ 2 ≤ r by omega) with hh | hh | hh
        · subst hh; omega
        · exact hh
        · have : 2 * 2 ≤ r * r := Int.mul_le_mul hh hh (by omega) (by omega)
          omega
    rw [e]
    exact sqrt_small hx hd hz hl (by omega) rfl h2
  · exact sqrt_big ⟨h1, by simp only [lenS]; omega, hT.1, hT.2, hx, hd, hz, hl, by omega, fun i _ _ hh => n1 hh, rfl, by omega, hr⟩
set_option maxRecDepth 100000 in
set_option maxHeartbeats 2000000 in
theorem implSqrt_any (v : Value) (xs : List Int) (r : Int) (w : World) (hx : Sl .u64 w v xs) (hd : DG 18446744073709551616 xs) (hl : xs.length ≤ 900) (hr : IsRoot (val 18446744073709551616 xs) r) (hT : Glo w 2 40 ∧ Glo w 3 40) :
    Calls Tryd.prog 42 #[v] w (RetW r w) := by
  have HX := Lib.hid hx
  have HD := Lib.hid hd
  have HT := Lib.hid hT
  have HRT := Lib.hid hr
  have HB := Lib.hid (show r < BIG by
    have := words_BIG hd (show xs.length ≤ 1000000 by omega)
    obtain ⟨k1, k2, _⟩ := hr
    rcases (show r = 0 ∨ 1 ≤ r by omega) with hh | hh
    · have := val_nonneg (B := 18446744073709551616) (by omega) hd; omega
    · have : 1 * r ≤ r * r := Int.mul_le_mul_of_nonneg_right hh (by omega)
      omega)
  clear hx hd hT hr
  go_enter Tryd.func42, Tryd.ntmps42
  go_wp2_with (first
    | (go_at_call 48; refine (normed_any _ xs _ HX.out HD.out (by omega)).mono ?_; rintro e w1 ⟨v1, ys, rfl, sl1, dy, nzy, hvy, hly, f1⟩; have HVY := Lib.hid hvy; clear hvy)
    | (go_at_call 67; go_in)
    | (go_at_call 73; refine (getStackQ_any _).mono ?_; rintro e w2 ⟨s, rfl, hst, f2, hs⟩; have HST := Lib.hid hst; have HS := Lib.hid hs; clear hst hs)
    | (go_at_call 68; refine (zzIn_any _ ys _ (sl1.fr0 f2) (by omega)).mono ?_; rintro e w3 ⟨b3, rfl, row3, hb3, f3⟩; have HR3 := Lib.hid row3; clear row3 hb3)
    | (go_at_call 86; refine (sqrt_call s b3 ys r _ (HST.out.fr0 f3) ⟨((HT.out.1.fr0 f1).fr0 f2).fr0 f3, ((HT.out.2.fr0 f1).fr0 f2).fr0 f3⟩ HR3.out dy nzy (by omega) (by rw [HVY.out]; exact HRT.out)).mono ?_; rintro e w4 ⟨v4, rfl, sw4, fc4⟩; have HF4 := Lib.hid (Fc.fr_new' fc4 (f2.t f3) (fun b i hh => by exact hh ▸ HS.out)); clear fc4)
    | (go_at_call 75; refine (zzOutW_any _ _ _ sw4 HB.out).mono ?_; rintro e w5 ⟨v5, rfl, sw5, f5⟩))
  go_ret
  exact ⟨_, rfl, sw5, (f1.t HF4.out).t f5⟩
set_option maxRecDepth 100000 in
set_option maxHeartbeats 2000000 in
theorem law_FnSqrt (v : Value) (xs : List Int) (w : World) (hx : Sl .u64 w v xs) (hd : DG 18446744073709551616 xs) (hT : Glo w 2 40 ∧ Glo w 3 40) :
    Calls Tryd.prog 16 #[v] w fun e w' => e = .returned (.bool true) ∧ Fr [] w w' := by
  have HX := Lib.hid hx
  have HD := Lib.hid hd
  have HT := Lib.hid hT
  obtain ⟨A, cap, rfl, hlc, hm, hs⟩ := hx
  unfold maxLen at hm
  clear hs hd hT
  by_cases h1 : 2147483647 < xs.length
  · go_enter Tryd.func16, Tryd.ntmps16
    go_wp2_with fail
    go_ret
    exact ⟨rfl, Fr.refl _ _⟩
  by_cases h2 : xs.length ≤ 260
  case neg =>
    go_enter Tryd.func16, Tryd.ntmps16
    go_wp2_with (go_at_call 17; refine (few1_no 260 A _ _ _ _ (by omega) (by omega) (by omega)).mono ?_; rintro e w1 ⟨rfl, rfl⟩)
    go_ret
    exact ⟨rfl, (Fr.refl _ _).alloc _⟩
  have f0 : Fr [] w (w.alloc (.cells #[.slice A xs.length cap] 22)) := (Fr.refl _ _).alloc _
  obtain ⟨r, hr⟩ := root_of (val_nonneg (B := 18446744073709551616) (by omega) HD.out)
  have C1 := Lib.hid (implSqrt_any _ xs r _ (HX.out.fr0 f0) HD.out (by omega) hr ⟨HT.out.1.fr0 f0, HT.out.2.fr0 f0⟩)
  obtain ⟨x0, xb⟩ := valB HD.out h2
  obtain ⟨X, hX⟩ : ∃ X, val 18446744073709551616 xs = X := ⟨_, rfl⟩
  have HV := Lib.hid hX
  rw [hX] at hr x0 xb
  have hrb : r < 18446744073709551616 ^ 260 := by
    obtain ⟨k1, k2, _⟩ := hr
    rcases (show r = 0 ∨ 1 ≤ r by omega) with hh | hh
    · omega
    · have : 1 * r ≤ r * r := Int.mul_le_mul_of_nonneg_right hh (by omega)
      omega
  have hub := sumB (k := 260) hrb (show (1 : Int) < 18446744073709551616 ^ 260 by
    have := pow_le_pow_ (B := 18446744073709551616) (by omega) (show 1 ≤ 260 by omega)
    rw [Int.pow_one] at this; omega)
  have RB := Lib.hid (lt_BIG64 260 hrb (by omega))
  have OB := Lib.hid (lt_BIG64 (n := 1) 1 (by omega) (by omega))
  have UB := Lib.hid (lt_BIG64 261 hub (by omega))
  have ec1 : ∃ x, x = cmpI (r * r) X ∧ x ≤ 0 := ⟨_, rfl, by have := hr.2.1; unfold cmpI; split <;> (try split) <;> omega⟩
  obtain ⟨e1, he1, he1'⟩ := ec1
  have HE1 := Lib.hid he1.symm
  have HE2 := Lib.hid (show cmpI ((r + 1) * (r + 1)) X = 1 by have := hr.2.2; unfold cmpI; rw [if_neg (by omega), if_pos (by omega)])
  have ONE := Lib.hid (fun W v (f : Fr [] w W) (h : Sl .u64 W v [1]) => implSqrt_any v [1] 1 W h (DG.cons (by omega) (by omega) (DG.nil _)) (by simp) (by simp [IsRoot, val_cons, val_nil]) ⟨HT.out.1.fr0 f, HT.out.2.fr0 f⟩)
  obtain ⟨rr, hrr⟩ : ∃ x, x = r * r := ⟨_, rfl⟩
  obtain ⟨uu, huu⟩ : ∃ x, x = (r + 1) * (r + 1) := ⟨_, rfl⟩
  rw [← hrr] at HE1
  rw [← huu] at HE2
  have HRR := Lib.hid hrr
  have HUU := Lib.hid huu
  have T1 : True := trivial
  have T2 : True := trivial
  have T3 : True := trivial
  have T4 : True := trivial
  clear hX hr x0 xb hrb hub he1 hrr huu
  go_enter Tryd.func16, Tryd.ntmps16
  go_wp2_with (first
    | (go_at_call 17; refine (few1_yes 260 A _ _ _ _ (by omega) h2).mono ?_; rintro e w1 ⟨rfl, rfl⟩)
    | (go_at_call 42; refine (Hid.out C1).mono ?_; clear C1; rintro e w2 ⟨v2, rfl, sw2, f2⟩; obtain ⟨rl, r1, r2, r3, r4⟩ := sw2; have R1 := Lib.hid r1; have R2 := Lib.hid r2; have R4 := Lib.hid r4; have R9 := Lib.hid (len_BIG64 r2 r3 (by rw [r4]; exact RB.out)); clear r1 r2 r3 r4)
    | (go_at_call 19; clear T1; refine (of_any _ rl _ R1.out R2.out (by have := R9.out; omega)).mono ?_; rw [R4.out]; rintro e w3 ⟨v3, rfl, sn3, f3⟩)
    | (go_at_call 44; refine (small_any 1 _ (by omega) (by omega)).mono ?_; rintro e w4 ⟨v4, rfl, sn4, f4⟩)
    | (go_at_call 43; refine (add_any _ _ r 1 _ (sn3.fr0 f4) sn4 RB.out OB.out).mono ?_; rintro e w5 ⟨v5, rfl, sn5, f5⟩)
    | (go_at_call 28; clear T2; refine (mul_any _ _ r r _ ((sn3.fr0 f4).fr0 f5) ((sn3.fr0 f4).fr0 f5) RB.out RB.out).mono ?_; rw [← HRR.out]; rintro e w6 ⟨v6, rfl, sn6, f6⟩)
    | (go_at_call 19; clear T3; refine (of_any _ xs _ ((((((HX.out.fr0 f0).fr0 f2).fr0 f3).fr0 f4).fr0 f5).fr0 f6) HD.out (by omega)).mono ?_; rw [HV.out]; rintro e w7 ⟨v7, rfl, sn7, f7⟩)
    | (go_at_call 21; clear T4; refine (cmp_at e1 _ _ rr X _ (sn6.fr0 f7) sn7 HE1.out).mono ?_; rintro e w8 ⟨rfl, f8⟩; have g8 := (((((((f0.t f2).t f3).t f4).t f5).t f6).t f7).t f8))
    | (go_at_call 28; refine (mul_any _ _ (r + 1) (r + 1) _ (((sn5.fr0 f6).fr0 f7).fr0 f8) (((sn5.fr0 f6).fr0 f7).fr0 f8) UB.out UB.out).mono ?_; rw [← HUU.out]; rintro e w9 ⟨v9, rfl, sn9, f9⟩)
    | (go_at_call 19; refine (of_any _ xs _ ((HX.out.fr0 g8).fr0 f9) HD.out (by omega)).mono ?_; rw [HV.out]; rintro e w10 ⟨v10, rfl, sn10, f10⟩)
    | (go_at_call 21; refine (cmp_at 1 _ _ uu X _ (sn9.fr0 f10) sn10 HE2.out).mono ?_; rintro e w11 ⟨rfl, f11⟩; have g11 := ((g8.t f9).t f10).t f11)
    | (go_at_call 42; refine (ONE.out _ _ (g11.alloc _) (row1 _ _ _ _)).mono ?_; rintro e w12 ⟨v12, rfl, sw12, f12⟩; obtain ⟨A12, c12, rfl⟩ := SW.one sw12))
  go_ret
  exact ⟨rfl, g11.t (Fr.trans ((Fr.refl _ _).alloc _) f12 (by simp))⟩
end Go.Proofs.YtknokndpeneogaaDoor
