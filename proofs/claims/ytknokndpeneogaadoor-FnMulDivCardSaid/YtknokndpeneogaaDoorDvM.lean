/-
  The thin package's Div, and the walks of the laws FnDiv, FnDivBack, FnMulDiv. Conditions: the words can be read; the thresholds lie in their variables.
-/
import Derived.Test.YtknokndpeneogaaDoorgDv
import Derived.Test.YtknokndpeneogaaDoorMulR
import Derived.Test.YtknokndpeneogaaDoorTruncL
import Derived.Test.YtknokndpeneogaaDoorDivM
import Derived.Test.YtknokndpeneogaaDoorGlobD
set_option linter.unusedSimpArgs false
set_option linter.unusedVariables false
namespace Go.Proofs.YtknokndpeneogaaDoor
open Go.Big Go.RowKit
/-- quotient and rest as values -/
def RetQQ (q r : Int) (w : World) (e : Ending) (w' : World) : Prop := ∃ v1 v2, e = .returned (.tuple #[v1, v2]) ∧ SW w' v1 q ∧ SW w' v2 r ∧ Fr [] w w'
def RetQB (q r : Int) (w : World) (e : Ending) (w' : World) : Prop := ∃ v1 v2, e = .returned (.tuple #[v1, v2, .bool true]) ∧ SW w' v1 q ∧ SW w' v2 r ∧ Fr [] w w'
theorem div_call (s bx by_ : Nat) (xs ys : List Int) (W : World) (h1 : StkAt W s none) (hT : Glo W 2 40 ∧ Glo W 3 40) (h3 : Row .u64 77 W bx xs) (h4 : Row .u64 77 W by_ ys) (hd : DG 18446744073709551616 xs) (hz : NZ xs) (hl : xs.length ≤ 900) (hd' : DG 18446744073709551616 ys) (hz' : NZ ys) (hp : 1 ≤ ys.length) (hl' : ys.length ≤ 900) :
    Calls Tryd.prog 85 #[.slice none 0 0, .pointer (some ⟨s, 0, none⟩), .slice none 0 0, .slice (some ⟨bx, 0, none⟩) xs.length xs.length, .slice (some ⟨by_, 0, none⟩) ys.length ys.length] W (DvPost s none none W.heap.size 0 0 none W.heap.size 0 0 (val 18446744073709551616 xs) (val 18446744073709551616 ys) W) := by
  have n1 := h1.row_ne h3
  have n2 := h1.row_ne h4
  exact div_any ⟨h1, by simp only [lenS]; omega, hT.1, hT.2, Rcv.nil _ _ _, Nat.le_refl _, by omega, Rcv.nil _ _ _, Nat.le_refl _, by omega, Nm.of_wr (Wr.row h3) (Rcv.of_row h3 (by omega) (by unfold maxLen; omega)) (Nat.le_refl _), hd, hz, by omega, by omega, Nm.of_wr (Wr.row h4) (Rcv.of_row h4 (by omega) (by unfold maxLen; omega)) (Nat.le_refl _), hd', hz', hp, hl', by omega, fun i _ h => by omega, fun i _ h => by omega, fun i _ _ hh => n1 hh, fun i _ _ hh => n2 hh, .inr (.inr (.inr (.inl rfl))), .inr (.inr (.inr (.inl rfl))), .inr (.inr (.inr (.inl rfl))), .inr (.inr (.inr (.inl rfl)))⟩
set_option maxRecDepth 100000 in
set_option maxHeartbeats 2000000 in
theorem zzDiv_any (v u : Value) (xs ys : List Int) (w : World) (hx : Sl .u64 w v xs) (hd : DG 18446744073709551616 xs) (hz : NZ xs) (hl : xs.length ≤ 900) (hy : Sl .u64 w u ys) (hd' : DG 18446744073709551616 ys) (hz' : NZ ys) (hp : 1 ≤ ys.length) (hl' : ys.length ≤ 900) (hT : Glo w 2 40 ∧ Glo w 3 40) :
    Calls Tryd.prog 63 #[v, u] w (RetQQ (val 18446744073709551616 xs / val 18446744073709551616 ys) (val 18446744073709551616 xs % val 18446744073709551616 ys) w) := by
  have HX := Lib.hid hx
  have HY := Lib.hid hy
  have HT := Lib.hid hT
  have hX0 := val_nonneg (B := 18446744073709551616) (by omega) hd
  have hYp := nz_pos (B := 18446744073709551616) (by omega) hd' hz' (by intro e; rw [e] at hp; simp at hp)
  have hq := Int.ediv_le_self (val 18446744073709551616 ys) hX0
  have hr := Int.emod_lt_of_pos (val 18446744073709551616 xs) hYp
  have HQB := Lib.hid (show val 18446744073709551616 xs / val 18446744073709551616 ys < BIG by have := words_BIG hd (show xs.length ≤ 1000000 by omega); omega)
  have HRB := Lib.hid (show val 18446744073709551616 xs % val 18446744073709551616 ys < BIG by have := words_BIG hd' (show ys.length ≤ 1000000 by omega); omega)
  have CM := Lib.hid (fun s bx by_ W h1 h2 h3 h4 => div_call s bx by_ xs ys W h1 h2 h3 h4 hd hz hl hd' hz' hp hl')
  obtain ⟨Q, hQ⟩ : ∃ Q, Q = val 18446744073709551616 xs / val 18446744073709551616 ys := ⟨_, rfl⟩
  obtain ⟨R, hR⟩ : ∃ R, R = val 18446744073709551616 xs % val 18446744073709551616 ys := ⟨_, rfl⟩
  rw [← hQ] at HQB ⊢
  rw [← hR] at HRB ⊢
  have HQ := Lib.hid hQ
  have HR := Lib.hid hR
  have T1 : True := trivial
  have T2 : True := trivial
  clear hx hy hd hd' hT hz hz' hX0 hYp hq hr hQ hR
  go_enter Tryd.func63, Tryd.ntmps63
  go_wp2_with (first
    | (go_at_call 73; refine (getStackQ_any _).mono ?_; rintro e w1 ⟨s, rfl, hst1, f1, hs⟩; have HST1 := Lib.hid hst1; have HS := Lib.hid hs; clear hst1 hs)
    | (go_at_call 68; clear T1; refine (zzIn_any _ xs _ (HX.out.fr0 f1) (by omega)).mono ?_; rintro e w2 ⟨b2, rfl, row2, hb2, f2⟩; have HR2 := Lib.hid row2; clear row2 hb2)
    | (go_at_call 68; refine (zzIn_any _ ys _ ((HY.out.fr0 f1).fr0 f2) (by omega)).mono ?_; rintro e w3 ⟨b3, rfl, row3, hb3, f3⟩; have HR3 := Lib.hid row3; clear row3 hb3)
    | (go_at_call 85; refine (CM.out s b2 b3 _ ((HST1.out.fr0 f2).fr0 f3) ⟨((HT.out.1.fr0 f1).fr0 f2).fr0 f3, ((HT.out.2.fr0 f1).fr0 f2).fr0 f3⟩ (HR2.out.fr f3 (by simp)) HR3.out).mono ?_; rintro e w4 ⟨A1, b1, o1, c1, qs, A2, b4, o4, c4, rs, q', rfl, hr⟩; have SQ := Lib.hid (show SW w4 (.slice A1 qs.length c1) Q by (have := hr.qn.sw hr.qd hr.qz; rwa [hr.qv, ← HQ.out] at this)); have SR := Lib.hid (show SW w4 (.slice A2 rs.length c4) R by (have := hr.rn.sw hr.rd hr.rz; rwa [hr.rv, ← HR.out] at this)); have HF4 := Lib.hid (Fc.fr_new' hr.fc ((f1.t f2).t f3) (fun b i hh => by rcases hh with hh | hh | hh; exact hh ▸ HS.out; exact hh.1 ▸ ((f1.t f2).t f3).size; exact hh.1 ▸ ((f1.t f2).t f3).size)); clear hr)
    | (go_at_call 75; clear T2; refine (zzOutW_any _ _ _ SQ.out HQB.out).mono ?_; rintro e w5 ⟨v5, rfl, sw5, f5⟩)
    | (go_at_call 75; refine (zzOutW_any _ _ _ (SR.out.fr0 f5) HRB.out).mono ?_; rintro e w6 ⟨v6, rfl, sw6, f6⟩))
  go_ret2
  exact ⟨_, _, rfl, sw5.fr0 f6, sw6, (HF4.out.t f5).t f6⟩
set_option maxRecDepth 100000 in
set_option maxHeartbeats 2000000 in
theorem implDiv_any (v u : Value) (xs ys : List Int) (w : World) (hx : Sl .u64 w v xs) (hd : DG 18446744073709551616 xs) (hl : xs.length ≤ 900) (hy : Sl .u64 w u ys) (hd' : DG 18446744073709551616 ys) (hl' : ys.length ≤ 900) (hp : 0 < val 18446744073709551616 ys) (hT : Glo w 2 40 ∧ Glo w 3 40) :
    Calls Tryd.prog 40 #[v, u] w (RetQB (val 18446744073709551616 xs / val 18446744073709551616 ys) (val 18446744073709551616 xs % val 18446744073709551616 ys) w) := by
  have HX := Lib.hid hx
  have HD := Lib.hid hd
  have HY := Lib.hid hy
  have HD' := Lib.hid hd'
  have HT := Lib.hid hT
  obtain ⟨X, hX⟩ : ∃ X, val 18446744073709551616 xs = X := ⟨_, rfl⟩
  obtain ⟨Y, hY⟩ : ∃ Y, val 18446744073709551616 ys = Y := ⟨_, rfl⟩
  have HV := Lib.hid hX
  have HV' := Lib.hid hY
  have HP := Lib.hid hp
  rw [hX, hY]
  have T1 : True := trivial
  clear hx hd hX hy hd' hY hT hp
  go_enter Tryd.func40, Tryd.ntmps40
  go_wp2_with (first
    | (go_at_call 48; clear T1; refine (normed_any _ ys _ HY.out HD'.out (by omega)).mono ?_; rintro e w1 ⟨v1, ys1, rfl, sl1, dy, nzy, hvy, hly, f1⟩; have HVY := Lib.hid hvy; have hyne : 1 ≤ ys1.length := (by rcases Nat.eq_zero_or_pos ys1.length with hh | hh; (exfalso; have e0 := List.eq_nil_of_length_eq_zero hh; have := HP.out; rw [e0, val_nil] at hvy; omega); exact hh); have SL1 := Lib.hid sl1; obtain ⟨A1, c1, rfl, hc1, hc1m, _⟩ := sl1; unfold maxLen at hc1m; have hyb : ((ys1.length : Int) == 0) = false := (by rw [beq_eq_false_iff_ne]; omega); clear hvy)
    | (go_at_call 48; refine (normed_any _ xs _ (HX.out.fr0 f1) HD.out (by omega)).mono ?_; rintro e w2 ⟨v2, xs1, rfl, sl2, dx, nzx, hvx, hlx, f2⟩; have HVX := Lib.hid hvx; clear hvx)
    | (go_at_call 63; refine (zzDiv_any _ _ xs1 ys1 _ sl2 dx nzx (by omega) (SL1.out.fr0 f2) dy nzy hyne (by omega) ⟨(HT.out.1.fr0 f1).fr0 f2, (HT.out.2.fr0 f1).fr0 f2⟩).mono ?_; rw [HVX.out, HV.out, HVY.out, HV'.out]; rintro e w5 ⟨v5, v6, rfl, sw5, sw6, f5⟩))
  refine bodyPost_ret (v := .tuple #[v5, v6, .bool true]) (by simp [results, Tryd.results40, go_sem]) rfl ⟨v5, v6, rfl, sw5, sw6, (f1.t f2).t f5⟩
set_option maxRecDepth 100000 in
set_option maxHeartbeats 2000000 in
theorem law_FnDiv (v : Value) (xs : List Int) (u : Value) (ys : List Int) (w : World) (hx : Sl .u64 w v xs) (hd : DG 18446744073709551616 xs) (hy : Sl .u64 w u ys) (hd' : DG 18446744073709551616 ys) (hT : Glo w 2 40 ∧ Glo w 3 40) :
    Calls Tryd.prog 13 #[v, u] w fun e w' => e = .returned (.bool true) ∧ Fr [] w w' := by
  have HX := Lib.hid hx
  have HD := Lib.hid hd
  have HY := Lib.hid hy
  have HD' := Lib.hid hd'
  have HT := Lib.hid hT
  obtain ⟨A, cap, rfl, hlc, hm, hs⟩ := hx
  obtain ⟨B, cap', rfl, hlc', hm', hs'⟩ := hy
  unfold maxLen at hm hm'
  clear hs hd hs' hd' hT
  by_cases h1 : 2147483647 < xs.length
  · go_enter Tryd.func13, Tryd.ntmps13
    go_wp2_with fail
    go_ret
    exact ⟨rfl, Fr.refl _ _⟩
  by_cases h1' : 2147483647 < ys.length
  · go_enter Tryd.func13, Tryd.ntmps13
    go_wp2_with fail
    go_ret
    exact ⟨rfl, Fr.refl _ _⟩
  by_cases h2 : xs.length ≤ 260 ∧ ys.length ≤ 260
  case neg =>
    go_enter Tryd.func13, Tryd.ntmps13
    go_wp2_with (go_at_call 17; refine (few2_no 260 A B _ _ _ _ _ _ (by omega) (by omega) (by omega) (by omega)).mono ?_; rintro e w1 ⟨rfl, rfl⟩)
    go_ret
    exact ⟨rfl, (Fr.refl _ _).alloc _⟩
  obtain ⟨h2, h3⟩ := h2
  have f0 : Fr [] w (w.alloc (.cells #[.slice A xs.length cap, .slice B ys.length cap'] 22)) := (Fr.refl _ _).alloc _
  have HYB := Lib.hid (words_BIG HD'.out (show ys.length ≤ 1000000 by omega))
  have hY0 := val_nonneg (B := 18446744073709551616) (by omega) HD'.out
  by_cases hy0 : val 18446744073709551616 ys = 0
  · have HV' := Lib.hid hy0
    clear hY0 hy0
    go_enter Tryd.func13, Tryd.ntmps13
    go_wp2_with (first
      | (go_at_call 17; refine (few2_yes 260 A B _ _ _ _ _ _ (by omega) h2 h3).mono ?_; rintro e w1 ⟨rfl, rfl⟩)
      | (go_at_call 19; refine (of_any _ ys _ (HY.out.fr0 f0) HD'.out (by omega)).mono ?_; rw [HV'.out]; rintro e w3 ⟨v3, rfl, sn3, f3⟩)
      | (go_at_call 18; refine (bits_any _ 0 _ sn3 (by have := HYB.out; rw [HV'.out] at this; exact this)).mono ?_; rintro e w4 ⟨L, rfl, hL, _, rfl⟩; obtain rfl : 0 = L := (show IsLen 0 0 from .inl ⟨rfl, rfl⟩).unique hL))
    go_ret
    exact ⟨rfl, f0.t f3⟩
  have C1 := Lib.hid (fun W (f : Fr [] w W) => implDiv_any _ _ xs ys W (HX.out.fr0 f) HD.out (by omega) (HY.out.fr0 f) HD'.out (by omega) (by omega) ⟨HT.out.1.fr0 f, HT.out.2.fr0 f⟩)
  have h4 := words_MID HD.out (show xs.length ≤ 15000 by omega)
  have h5 := words_MID HD'.out (show ys.length ≤ 15000 by omega)
  have CD := Lib.hid (fun va vb W (h : SN W va (val 18446744073709551616 xs)) (h' : SN W vb (val 18446744073709551616 ys)) => divmod_any va vb _ _ W h h' h4 h5 (by omega))
  have hX0 := val_nonneg (B := 18446744073709551616) (by omega) HD.out
  have hq := Int.ediv_le_self (val 18446744073709551616 ys) hX0
  have hr := Int.emod_lt_of_pos (val 18446744073709551616 xs) (show 0 < val 18446744073709551616 ys by omega)
  have hXB := words_BIG HD.out (show xs.length ≤ 1000000 by omega)
  obtain ⟨X, hX⟩ : ∃ X, val 18446744073709551616 xs = X := ⟨_, rfl⟩
  obtain ⟨Y, hY⟩ : ∃ Y, val 18446744073709551616 ys = Y := ⟨_, rfl⟩
  have HV := Lib.hid hX
  have HV' := Lib.hid hY
  rw [hX] at C1 CD hq hr hXB
  rw [hY] at C1 CD hq hr HYB
  obtain ⟨L, hL, hL9⟩ : ∃ L : Nat, (∀ M : Nat, IsLen Y M → ((M : Int) == 0) = false) ∧ True := ⟨0, fun M hM => by
    rw [beq_eq_false_iff_ne]
    rcases hM with ⟨h, _⟩ | ⟨h, _⟩
    · rw [hY] at hy0; exact absurd h hy0
    · omega, trivial⟩
  obtain ⟨Q, hQ⟩ : ∃ Q, X / Y = Q := ⟨_, rfl⟩
  obtain ⟨R, hR⟩ : ∃ R, X % Y = R := ⟨_, rfl⟩
  rw [hQ] at C1 CD hq
  rw [hR] at C1 CD hr
  have HQB := Lib.hid (show Q < BIG by omega)
  have HRB := Lib.hid (show R < BIG by have := HYB.out; omega)
  have HL := Lib.hid hL
  have T1 : True := trivial
  have T2 : True := trivial
  have T3 : True := trivial
  clear hX hY hq hr hX0 hXB hQ hR h4 h5 hY0 hy0 hL hL9
  go_enter Tryd.func13, Tryd.ntmps13
  go_wp2_with (first
    | (go_at_call 17; refine (few2_yes 260 A B _ _ _ _ _ _ (by omega) h2 h3).mono ?_; rintro e w1 ⟨rfl, rfl⟩)
    | (go_at_call 19; clear T1; refine (of_any _ ys _ (HY.out.fr0 f0) HD'.out (by omega)).mono ?_; rw [HV'.out]; rintro e w2 ⟨v2, rfl, sn2, f2⟩)
    | (go_at_call 18; refine (bits_any _ Y _ sn2 HYB.out).mono ?_; rintro e w3 ⟨M, rfl, hM, _, rfl⟩; have hMb := HL.out M hM; clear hM)
    | (go_at_call 40; refine (C1.out _ (f0.t f2)).mono ?_; rintro e w4 ⟨v4, u4, rfl, sw4, su4, f4⟩)
    | (go_at_call 19; clear T2; refine (of_any _ xs _ ((HX.out.fr0 (f0.t f2)).fr0 f4) HD.out (by omega)).mono ?_; rw [HV.out]; rintro e w5 ⟨v5, rfl, sn5, f5⟩)
    | (go_at_call 19; refine (of_any _ ys _ (((HY.out.fr0 (f0.t f2)).fr0 f4).fr0 f5) HD'.out (by omega)).mono ?_; rw [HV'.out]; rintro e w6 ⟨v6, rfl, sn6, f6⟩)
    | (go_at_call 41; refine (CD.out _ _ _ (sn5.fr0 f6) sn6).mono ?_; rintro e w7 ⟨v7, u7, rfl, sn7, sm7, f7⟩)
    | (go_at_call 29; clear T3; refine (exact_any _ _ _ _ (((sw4.fr0 f5).fr0 f6).fr0 f7) sn7 HQB.out).mono ?_; rintro e w8 ⟨rfl, f8⟩)
    | (go_at_call 29; refine (exact_any _ _ _ _ ((((su4.fr0 f5).fr0 f6).fr0 f7).fr0 f8) (sm7.fr0 f8) HRB.out).mono ?_; rintro e w9 ⟨rfl, f9⟩))
  go_ret
  exact ⟨rfl, (((((((f0.t f2).t f4).t f5).t f6).t f7).t f8).t f9)⟩
end Go.Proofs.YtknokndpeneogaaDoor
