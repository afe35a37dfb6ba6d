/-
  Division of a number by a word: nat.modW, the thin package's DivW and ModW, and the walk of the law FnDivW. Conditions: what is read can be read; the divisor is not 0.
-/
import Derived.Test.YtjapebgihnahjaaDivWM
import Derived.Test.YtjapebgihnahjaaDivM
set_option linter.unusedSimpArgs false
set_option linter.unusedVariables false
namespace Go.Proofs.Ytjapebgihnahjaa
open Go.Big Go.RowKit
set_option maxRecDepth 100000 in
theorem divWVW_none (A : Option Addr) (cap : Nat) (y : Int) (w : World) (hcap : cap ≤ maxLen) (hy0 : 0 < y) (hyW : y < 18446744073709551616) :
    Calls Try.prog 136 #[.slice none 0 0, .int .u64 0, .slice A 0 cap, .int .u64 y] w fun e w' => e = .returned (.int .u64 0) ∧ Fr [] w w' := by
  unfold maxLen at hcap
  have hL := isLen_word y (by omega) hyW
  obtain ⟨L, hLe⟩ : ∃ L, L = Lib.bitLen y.toNat := ⟨_, rfl⟩
  rw [← hLe] at hL
  have C1 := Lib.hid (fun W => recip_any y L W hy0 hyW hL)
  obtain ⟨rc, hrc⟩ : ∃ rc, rc = rcp (y * 2 ^ (64 - L)) := ⟨_, rfl⟩
  simp only [← hrc] at C1
  clear hL hLe hrc
  go_enter Try.func136, Try.ntmps136
  go_wp2_with (go_at_call 101; refine (C1.out _).mono ?_; rintro e w1 ⟨rfl, f1⟩)
  go_loopg [8, 12] 0 (fun g rv iv wr => rv = .int .u64 0 ∧ iv = .int .i64 (-1) ∧ w1 = wr)
  case atStart => exact ⟨rfl, rfl, rfl⟩
  case round =>
    obtain ⟨rfl, rfl, rfl⟩ := hrel
    go_wp2_with fail
    go_ret
    exact ⟨rfl, f1⟩
set_option maxRecDepth 100000 in
set_option maxHeartbeats 1000000 in
theorem modW_any (v : Value) (xs : List Int) (y : Int) (w : World) (hx : Sl .u64 w v xs) (hd : DG 18446744073709551616 xs) (hl : xs.length ≤ 1000000) (hy0 : 0 < y) (hyW : y < 18446744073709551616) :
    Calls Try.prog 115 #[v, .int .u64 y] w fun e w' => e = .returned (.int .u64 (val 18446744073709551616 xs % y)) ∧ Fr [] w w' := by
  obtain ⟨N, hN⟩ : ∃ N, N = xs.length := ⟨_, rfl⟩
  by_cases h0 : N = 0
  · obtain rfl : xs = [] := List.eq_nil_of_length_eq_zero (by omega)
    obtain ⟨A, cap, rfl, hlc, hm, _⟩ := hx
    have C := Lib.hid (fun W => divWVW_none A cap y W hm hy0 hyW)
    rw [val_nil, Int.zero_emod]
    unfold maxLen at hm
    simp only [List.length_nil] at *
    clear hN h0 hl hd
    go_enter Try.func115, Try.ntmps115
    go_wp2_with (first
      | (go_at_call 120; refine (make0 _).mono ?_; rintro e w1 ⟨rfl, rfl⟩)
      | (go_at_call 136; refine (C.out _).mono ?_; rintro e w2 ⟨rfl, f2⟩))
    go_ret
    exact ⟨rfl, f2⟩
  have C := Lib.hid (fun z c cz W (f : Fr [] w W) h1 h2 h3 h4 h5 => divWVW_any z c cz v xs N y w W hx hd hN (by omega) (by omega) f h1 h2 h3 h4 h5 hy0 hyW)
  have HM := Lib.hid (fun W => make_any N W (by omega) (by omega))
  obtain ⟨A, cap, rfl, hlc, hm, _⟩ := hx
  unfold maxLen at hm
  rw [← hN] at hlc hl C
  obtain ⟨R, hR⟩ : ∃ R, R = val 18446744073709551616 xs % y := ⟨_, rfl⟩
  simp only [← hR] at C ⊢
  clear hR hd
  rw [← hN]
  clear hN
  go_enter Try.func115, Try.ntmps115
  go_wp2_with (first
    | (go_at_call 120; refine (HM.out _).mono ?_; rintro e w1 ⟨z, c, rfl, hc1, hc2, row, hz, f⟩; have HROW := Lib.hid row; clear row)
    | (go_at_call 136; refine (C.out z c c _ f hz HROW.out (by omega) (by omega) (by omega)).mono ?_; rintro e w2 ⟨qs, rfl, row2, hql, hqd, hqv, f2⟩; clear row2 hql hqd hqv))
  go_ret
  exact ⟨rfl, fr_new'' f f2 hz⟩
def RetQW (q r : Int) (w : World) (e : Ending) (w' : World) : Prop := ∃ v, e = .returned (.tuple #[v, .int .u64 r]) ∧ SW w' v q ∧ Fr [] w w'
set_option maxRecDepth 100000 in
set_option maxHeartbeats 1000000 in
theorem implDivW_any (v : Value) (xs : List Int) (y : Int) (w : World) (hx : Sl .u64 w v xs) (hd : DG 18446744073709551616 xs) (hl : xs.length ≤ 1000000) (hy0 : 0 < y) (hyW : y < 18446744073709551616) :
    Calls Try.prog 57 #[v, .int .u64 y] w (RetQW (val 18446744073709551616 xs / y) (val 18446744073709551616 xs % y) w) := by
  have HX := Lib.hid hx
  have HD := Lib.hid hd
  have HB := Lib.hid (words_BIG hd hl)
  have h0 := val_nonneg (by omega) hd
  obtain ⟨X, hX⟩ : ∃ X, val 18446744073709551616 xs = X := ⟨_, rfl⟩
  have HV := Lib.hid hX
  rw [hX] at HB h0 ⊢
  have hq := Int.ediv_le_self y h0
  have C := Lib.hid (fun v W (h : SW W v X) => divW_any v X y W h HB.out hy0 hyW)
  obtain ⟨Q, hQ⟩ : ∃ Q, X / y = Q := ⟨_, rfl⟩
  obtain ⟨R, hR⟩ : ∃ R, X % y = R := ⟨_, rfl⟩
  rw [hQ] at hq C ⊢
  rw [hR] at C ⊢
  have HQ := Lib.hid (show Q < BIG by have := HB.out; omega)
  have hy2 : (y == 0) = false := by rw [beq_eq_false_iff_ne]; omega
  clear hx hd hX hQ hR hq
  go_enter Try.func57, Try.ntmps57
  go_wp2_with (first
    | (go_at_call 67; refine (normed_any _ xs _ HX.out HD.out hl).mono ?_; rintro e w1 ⟨v1, ys, rfl, sl1, dy, nzy, hvy, hly, f1⟩; have HVY := Lib.hid hvy; clear hvy)
    | (go_at_call 92; refine (zzIn_any _ ys _ sl1 (by omega)).mono ?_; rintro e w2 ⟨b2, rfl, row2, hb2, f2⟩)
    | (go_at_call 114; have sw2 := SW.mk row2 dy nzy (by omega); rw [HVY.out, HV.out] at sw2; refine (C.out _ _ sw2).mono ?_; clear sw2; rintro e w3 ⟨v3, rfl, sw3, f3⟩)
    | (go_at_call 97; refine (zzOutW_any _ _ _ sw3 HQ.out).mono ?_; rintro e w4 ⟨v4, rfl, sw4, f4⟩)
    | (go_at_call 88; go_in))
  go_ret2
  exact ⟨_, rfl, sw4, ((f1.t f2).t f3).t f4⟩
set_option maxRecDepth 100000 in
set_option maxHeartbeats 1000000 in
theorem implModW_any (v : Value) (xs : List Int) (y : Int) (w : World) (hx : Sl .u64 w v xs) (hd : DG 18446744073709551616 xs) (hl : xs.length ≤ 1000000) (hy0 : 0 < y) (hyW : y < 18446744073709551616) :
    Calls Try.prog 58 #[v, .int .u64 y] w fun e w' => e = .returned (.int .u64 (val 18446744073709551616 xs % y)) ∧ Fr [] w w' := by
  have HX := Lib.hid hx
  have C := Lib.hid (fun v W (h : Sl .u64 W v xs) => modW_any v xs y W h hd hl hy0 hyW)
  obtain ⟨R, hR⟩ : ∃ R, val 18446744073709551616 xs % y = R := ⟨_, rfl⟩
  rw [hR] at C ⊢
  have hy2 : (y == 0) = false := by rw [beq_eq_false_iff_ne]; omega
  clear hx hd hR
  go_enter Try.func58, Try.ntmps58
  go_wp2_with (first
    | (go_at_call 76; refine (clone_any _ xs _ HX.out hl).mono ?_; rintro e w1 ⟨v1, rfl, sl1, f1⟩)
    | (go_at_call 92; refine (zzIn_any _ xs _ sl1 hl).mono ?_; rintro e w2 ⟨b2, rfl, row2, hb2, f2⟩)
    | (go_at_call 115; refine (C.out _ _ (row2.sl (by omega))).mono ?_; rintro e w3 ⟨rfl, f3⟩)
    | (go_at_call 89; go_in))
  go_ret
  exact ⟨rfl, (f1.t f2).t f3⟩
set_option maxRecDepth 100000 in
set_option maxHeartbeats 2000000 in
theorem law_FnDivW (v : Value) (xs : List Int) (y : Int) (w : World) (hx : Sl .u64 w v xs) (hd : DG 18446744073709551616 xs) (hy0 : 0 ≤ y) (hyW : y < 18446744073709551616) :
    Calls Try.prog 18 #[v, .int .u64 y] w fun e w' => e = .returned (.bool true) ∧ Fr [] w w' := by
  have HX := Lib.hid hx
  have HD := Lib.hid hd
  obtain ⟨A, cap, rfl, hlc, hm, hs⟩ := hx
  unfold maxLen at hm
  clear hs hd
  by_cases h1 : 2147483647 < xs.length
  · go_enter Try.func18, Try.ntmps18
    go_wp2_with fail
    go_ret
    exact ⟨rfl, Fr.refl _ _⟩
  by_cases h2 : xs.length ≤ 260
  case neg =>
    go_enter Try.func18, Try.ntmps18
    go_wp2_with (go_at_call 20; refine (few1_no 260 A _ _ _ _ (by omega) (by omega) (by omega)).mono ?_; rintro e w1 ⟨rfl, rfl⟩)
    go_ret
    exact ⟨rfl, (Fr.refl _ _).alloc _⟩
  by_cases h3 : y = 0
  · subst h3
    go_enter Try.func18, Try.ntmps18
    go_wp2_with (go_at_call 20; refine (few1_yes 260 A _ _ _ _ (by omega) h2).mono ?_; rintro e w1 ⟨rfl, rfl⟩)
    go_ret
    exact ⟨rfl, (Fr.refl _ _).alloc _⟩
  have hy1 : 0 < y := by omega
  have hy2 : (y == 0) = false := by rw [beq_eq_false_iff_ne]; omega
  have f0 : Fr [] w (w.alloc (.cells #[.slice A xs.length cap] 22)) := (Fr.refl _ _).alloc _
  have C1 := Lib.hid (fun W (f : Fr [] w W) => implDivW_any _ xs y W (HX.out.fr0 f) HD.out (by omega) hy1 hyW)
  have C2 := Lib.hid (fun W (f : Fr [] w W) => implModW_any _ xs y W (HX.out.fr0 f) HD.out (by omega) hy1 hyW)
  have CY := Lib.hid (fun W => of1_any y W hy0 hyW)
  have HM := Lib.hid (words_MID HD.out (show xs.length ≤ 15000 by omega))
  have HYM := Lib.hid (show y < MID by
    have := pow2_MID (show 64 < 960000 by omega)
    have e : (2 : Int) ^ 64 = 18446744073709551616 := by rfl
    omega)
  have h0 := val_nonneg (by omega) HD.out
  obtain ⟨X, hX⟩ : ∃ X, val 18446744073709551616 xs = X := ⟨_, rfl⟩
  have HV := Lib.hid hX
  rw [hX] at C1 C2 HM h0
  have hqb := Int.ediv_le_self y h0
  have hr0 := Int.emod_nonneg X (show y ≠ 0 by omega)
  have hr1 := Int.emod_lt_of_pos X hy1
  have C3 := Lib.hid (fun va vb W (h : SN W va X) (h' : SN W vb y) => divmod_any va vb X y W h h' HM.out HYM.out hy1)
  obtain ⟨Q, hQ⟩ : ∃ Q, X / y = Q := ⟨_, rfl⟩
  obtain ⟨R, hR⟩ : ∃ R, X % y = R := ⟨_, rfl⟩
  rw [hQ] at C1 C3 hqb
  rw [hR] at C1 C2 C3 hr0 hr1
  have HQ := Lib.hid (show Q < BIG by have := MID_BIG HM.out; omega)
  have CR := Lib.hid (fun W => of1_any R W hr0 (by omega))
  clear hX hQ hR hqb h0
  go_enter Try.func18, Try.ntmps18
  go_wp2_with (first
    | (go_at_call 20; refine (few1_yes 260 A _ _ _ _ (by omega) h2).mono ?_; rintro e w1 ⟨rfl, rfl⟩)
    | (go_at_call 57; refine (C1.out _ f0).mono ?_; clear C1; rintro e w2 ⟨v2, rfl, sw2, f2⟩)
    | (go_at_call 22; refine (of_any _ xs _ (HX.out.fr0 (f0.t f2)) HD.out (by omega)).mono ?_; rw [HV.out]; rintro e w3 ⟨v3, rfl, sn3, f3⟩)
    | (go_at_call 36; refine (CY.out _).mono ?_; clear CY; rintro e w4 ⟨v4, rfl, sn4, f4⟩)
    | (go_at_call 21; refine (C3.out _ _ _ (sn3.fr0 f4) sn4).mono ?_; rintro e w5 ⟨v5, v6, rfl, sn5, sn6, f5⟩)
    | (go_at_call 57; refine (implDivW_any _ [1] 2 _ (row1 _ _ _ _) (DG.cons (by omega) (by omega) (DG.nil _)) (by simp) (by omega) (by omega)).mono ?_; rw [show val 18446744073709551616 [1] / 2 = 0 by decide, show val 18446744073709551616 [1] % 2 = 1 by decide]; rintro e w6 ⟨v7, rfl, sw7, f6'⟩; have f6 := Fr.trans ((Fr.refl [] _).alloc _) f6' (by simp); clear f6')
    | (go_at_call 29; refine (exact_any _ _ _ _ (((((sw2.fr0 f3).fr0 f4).fr0 f5)).fr0 f6) (sn5.fr0 f6) HQ.out).mono ?_; rintro e w7 ⟨rfl, f7⟩)
    | (go_at_call 36; refine (CR.out _).mono ?_; rintro e w8 ⟨v8, rfl, sn8, f8⟩)
    | (go_at_call 27; refine (cmp_same _ _ _ _ sn8 (((sn6.fr0 f6).fr0 f7).fr0 f8)).mono ?_; rintro e w9 ⟨rfl, f9⟩)
    | (go_at_call 58; refine (C2.out _ (((((((f0.t f2).t f3).t f4).t f5).t f6).t f7).t f8 |>.t f9)).mono ?_; rintro e w10 ⟨rfl, f10⟩))
  go_ret
  exact ⟨rfl, (((((((((f0.t f2).t f3).t f4).t f5).t f6).t f7).t f8).t f9).t f10)⟩
end Go.Proofs.Ytjapebgihnahjaa
