/-
  The thin package's Karatsuba, and the walk of the law FnKaratsuba. Conditions: the words can be read; the threshold lies in its variable.
-/
import Derived.Test.YtknokndpeneogaaDoorMulL
set_option linter.unusedSimpArgs false
set_option linter.unusedVariables false
namespace Go.Proofs.YtknokndpeneogaaDoor
open Go.Big Go.RowKit
theorem kar_call (s z bx by_ n n2 : Nat) (xs ys : List Int) (W : World) (h1 : StkAt W s none) (h2 : Glo W 2 40) (h0 : Row .u64 77 W z (List.replicate n2 0)) (h3 : Row .u64 77 W bx xs) (h4 : Row .u64 77 W by_ ys) (e1 : z ≠ bx) (e2 : z ≠ by_) (hn : xs.length = n) (hn' : ys.length = n) (hn2 : n2 = 2 * n) (hd : DG 18446744073709551616 xs) (hd' : DG 18446744073709551616 ys) (h1n : 1 ≤ n) (hl : n ≤ 900) :
    Calls Tryd.prog 79 #[.pointer (some ⟨s, 0, none⟩), .slice (some ⟨z, 0, none⟩) n2 n2, .slice (some ⟨bx, 0, none⟩) n n, .slice (some ⟨by_, 0, none⟩) n n] W (KarP s none z 0 n2 (val 18446744073709551616 xs * val 18446744073709551616 ys) W) := by
  have n1 := h1.row_ne h3
  have n2' := h1.row_ne h4
  have n3 := h1.row_ne h0
  have hz : (List.replicate n2 (0 : Int)).length = n2 := List.length_replicate
  have := kar_ok n s none z 0 n2 bx 0 n xs by_ 0 n ys W ⟨h1, by simp only [lenS]; omega, h2, Rcv.of_row h0 (by omega) (by unfold maxLen; omega), by omega, by omega, Nm.of_wr (Wr.row h3) (Rcv.of_row h3 (by omega) (by unfold maxLen; omega)) (by omega), hn, hd, by omega, Nm.of_wr (Wr.row h4) (Rcv.of_row h4 (by omega) (by unfold maxLen; omega)) (by omega), hn', hd', by omega, h1n, hl, .inl (fun e => e1 e.symm), .inl (fun e => e2 e.symm), .inl e1, .inl e2, fun i _ _ hh => n3 hh, fun i _ _ hh => n1 hh, fun i _ _ hh => n2' hh⟩
  rw [← hn2] at this
  exact this
set_option maxRecDepth 100000 in
set_option maxHeartbeats 2000000 in
theorem zzKaratsuba_any (v u : Value) (xs ys : List Int) (n n2 : Nat) (w : World) (hx : Sl .u64 w v xs) (hd : DG 18446744073709551616 xs) (hy : Sl .u64 w u ys) (hd' : DG 18446744073709551616 ys) (hn : xs.length = n) (hn' : ys.length = n) (h1n : 1 ≤ n) (hl : n ≤ 900) (hn2 : n2 = 2 * n) (hT : Glo w 2 40) :
    Calls Tryd.prog 56 #[v, u] w (RetP (val 18446744073709551616 xs * val 18446744073709551616 ys) n2 w) := by
  have HT := Lib.hid hT
  have CK := Lib.hid (fun s z bx by_ W h1 h2 h0 h3 h4 e1 e2 => kar_call s z bx by_ n n2 xs ys W h1 h2 h0 h3 h4 e1 e2 hn hn' hn2 hd hd' h1n hl)
  have CX := Lib.hid (fun W (f : Fr [] w W) => zzIn_any v xs W (hx.fr0 f) (by omega))
  have CY := Lib.hid (fun W (f : Fr [] w W) => zzIn_any u ys W (hy.fr0 f) (by omega))
  rw [hn] at CX
  rw [hn'] at CY
  obtain ⟨A, ca, rfl, hla, hma, _⟩ := hx
  unfold maxLen at hma
  rw [hn] at hla CX ⊢
  have a1 : 2 * (n : Int) = (n2 : Int) := by omega
  have hn9 : n2 ≤ 1800 := by omega
  have T1 : True := trivial
  have HN := Lib.hid hn
  clear hy hd hd' hT hn2 hn hn'
  go_enter Tryd.func56, Tryd.ntmps56
  go_wp2_with (first
    | (go_at_call 73; refine (getStackQ_any _).mono ?_; rintro e w1 ⟨s, rfl, hst1, f1, hs⟩; have HST1 := Lib.hid hst1; have HS := Lib.hid hs; clear hst1 hs)
    | (at_make; refine wp_mk rfl (.tmp 10) (.tmp 10) _ rfl .u64 77 8 ty_big (by omega) n2 rfl rfl (by omega) ?_; intro z w2 hz row2 f2; have HR2 := Lib.hid row2; have HZ := Lib.hid hz; clear row2 hz)
    | (go_at_call 68; clear T1; refine (CX.out _ (f1.t f2)).mono ?_; rintro e w3 ⟨b, rfl, row3, hb, f3⟩; have HR3 := Lib.hid row3; have HB := Lib.hid hb; clear row3 hb)
    | (go_at_call 68; refine (CY.out _ ((f1.t f2).t f3)).mono ?_; rintro e w4 ⟨b', rfl, row4, hb', f4⟩; have HR4 := Lib.hid row4; have HB' := Lib.hid hb'; clear row4 hb')
    | (go_at_call 79; refine (CK.out s z b b' _ (((HST1.out.fr0 f2).fr0 f3).fr0 f4) ((((HT.out.fr0 f1).fr0 f2).fr0 f3).fr0 f4) ((HR2.out.fr f3 (by simp)).fr f4 (by simp)) (HR3.out.fr f4 (by simp)) HR4.out (by have h1 := HR2.out.lt; have h2 := HB.out; omega) (by have h1 := HR2.out.lt; have h2 := HB'.out; have h3 := f3.size; omega)).mono ?_; rintro e w5 ⟨q', zs, rfl, _, _, _, hW, hzl, hzd, hzv, hfc⟩; have HF4 := Lib.hid (Fc.fr_new' hfc (((f1.t f2).t f3).t f4) (fun b' i hh => by rcases hh with hh | hh; exact hh ▸ HS.out; exact hh.1 ▸ (by have h1 := HZ.out; have h2 := f1.size; omega))); have HW := Lib.hid hW; have HZL := Lib.hid hzl; have HZD := Lib.hid hzd; have HZV := Lib.hid hzv; clear hW hzl hzd hzv hfc)
    | (go_at_call 75; refine (zzOut_any _ zs _ (by have := HW.out.sl' (c := n2) (by rw [HZL.out]; exact Nat.le_refl _) (by unfold maxLen; omega); rwa [HZL.out] at this) (by rw [HZL.out]; omega)).mono ?_; rintro e w6 ⟨v5, rfl, sl5, f5⟩))
  go_ret
  obtain ⟨A5, c5, rfl, h1, h2, h3⟩ := sl5
  exact ⟨A5, c5, zs, by rw [HZL.out]; rfl, ⟨A5, c5, by rw [HZL.out], h1, h2, h3⟩, HZD.out, HZL.out, HZV.out, HF4.out.t f5⟩
set_option maxRecDepth 100000 in
set_option maxHeartbeats 2000000 in
theorem implKaratsuba_any (v u : Value) (xs ys : List Int) (n n2 : Nat) (w : World) (hx : Sl .u64 w v xs) (hd : DG 18446744073709551616 xs) (hy : Sl .u64 w u ys) (hd' : DG 18446744073709551616 ys) (hn : xs.length = n) (hn' : ys.length = n) (h1n : 1 ≤ n) (hl : n ≤ 900) (hn2 : n2 = 2 * n) (hT : Glo w 2 40) :
    Calls Tryd.prog 32 #[v, u] w (RetP (val 18446744073709551616 xs * val 18446744073709551616 ys) n2 w) := by
  have C1 := Lib.hid (clone_any v xs w hx (by omega))
  have C2 := Lib.hid (fun W (f : Fr [] w W) => clone_any u ys W (hy.fr0 f) (by omega))
  have CZ := Lib.hid (fun v u W (f : Fr [] w W) (h : Sl .u64 W v xs) (h' : Sl .u64 W u ys) => zzKaratsuba_any v u xs ys n n2 W h hd h' hd' hn hn' h1n hl hn2 (hT.fr0 f))
  obtain ⟨A, ca, rfl, hla, hma, _⟩ := hx
  obtain ⟨B, cb, rfl, hlb, hmb, _⟩ := hy
  unfold maxLen at hma hmb
  rw [hn] at hla C1 ⊢
  rw [hn'] at hlb C2 ⊢
  have h0 : ((n : Int) == 0) = false := by rw [beq_eq_false_iff_ne]; omega
  have T1 : True := trivial
  clear hd hd' hn2 hT hn hn'
  go_enter Tryd.func32, Tryd.ntmps32
  go_wp2_with (first
    | (go_at_call 52; clear T1; refine (C1.out).mono ?_; rintro e w1 ⟨v1, rfl, sl1, f1⟩)
    | (go_at_call 52; refine (C2.out _ f1).mono ?_; rintro e w2 ⟨v2, rfl, sl2, f2⟩)
    | (go_at_call 56; refine (CZ.out _ _ _ (f1.t f2) (sl1.fr0 f2) sl2).mono ?_; rintro e w3 ⟨A3, c3, zs, rfl, sl3, hzd, hzl, hzv, f3⟩; have HZ := Lib.hid hzl; have HZV := Lib.hid hzv; clear hzl hzv))
  go_ret
  exact ⟨A3, c3, zs, rfl, sl3, hzd, HZ.out, HZV.out, (f1.t f2).t f3⟩
set_option maxRecDepth 100000 in
set_option maxHeartbeats 1000000 in
theorem law_FnKaratsuba (v : Value) (xs : List Int) (u : Value) (ys : List Int) (w : World) (hx : Sl .u64 w v xs) (hd : DG 18446744073709551616 xs) (hy : Sl .u64 w u ys) (hd' : DG 18446744073709551616 ys) (hT : Glo w 2 40) :
    Calls Tryd.prog 8 #[v, u] w fun e w' => e = .returned (.bool true) ∧ Fr [] w w' := by
  have HX := Lib.hid hx
  have HD := Lib.hid hd
  have HY := Lib.hid hy
  have HD' := Lib.hid hd'
  have HT := Lib.hid hT
  obtain ⟨A, cap, rfl, hlc, hm, hs⟩ := hx
  obtain ⟨B, cap', rfl, hlc', hm', hs'⟩ := hy
  unfold maxLen at hm hm'
  clear hs hd hs' hd' hT
  by_cases h1 : 2147483647 < xs.length
  · go_enter Tryd.func8, Tryd.ntmps8
    go_wp2_with fail
    go_ret
    exact ⟨rfl, Fr.refl _ _⟩
  by_cases h1' : 2147483647 < ys.length
  · go_enter Tryd.func8, Tryd.ntmps8
    go_wp2_with fail
    go_ret
    exact ⟨rfl, Fr.refl _ _⟩
  by_cases h2 : xs.length ≤ 260 ∧ ys.length ≤ 260
  case neg =>
    go_enter Tryd.func8, Tryd.ntmps8
    go_wp2_with (go_at_call 17; refine (few2_no 260 A B _ _ _ _ _ _ (by omega) (by omega) (by omega) (by omega)).mono ?_; rintro e w1 ⟨rfl, rfl⟩)
    go_ret
    exact ⟨rfl, (Fr.refl _ _).alloc _⟩
  obtain ⟨h2, h3⟩ := h2
  by_cases h4 : xs.length = 0
  · obtain rfl : xs = [] := List.eq_nil_of_length_eq_zero h4
    simp only [List.length_nil] at *
    clear h4
    go_enter Tryd.func8, Tryd.ntmps8
    go_wp2_with (go_at_call 17; refine (few2_yes 260 A B _ _ _ _ _ _ (by omega) (by omega) (by omega)).mono ?_; rintro e w1 ⟨rfl, rfl⟩)
    go_ret
    exact ⟨rfl, (Fr.refl _ _).alloc _⟩
  have h0 : ((xs.length : Int) == 0) = false := by rw [beq_eq_false_iff_ne]; omega
  by_cases h5 : xs.length = ys.length
  case neg =>
    have h50 : ((xs.length : Int) == (ys.length : Int)) = false := by rw [beq_eq_false_iff_ne]; omega
    have h51 : ((xs.length : Int) != (ys.length : Int)) = true := by rw [bne, h50]; rfl
    go_enter Tryd.func8, Tryd.ntmps8
    go_wp2_with (go_at_call 17; refine (few2_yes 260 A B _ _ _ _ _ _ (by omega) h2 h3).mono ?_; rintro e w1 ⟨rfl, rfl⟩)
    go_ret
    exact ⟨rfl, (Fr.refl _ _).alloc _⟩
  obtain ⟨n, hn⟩ : ∃ n, xs.length = n := ⟨_, rfl⟩
  have hn' : ys.length = n := by omega
  obtain ⟨n2, hn2⟩ : ∃ n2, n2 = 2 * n := ⟨_, rfl⟩
  have a1 : 2 * (n : Int) = (n2 : Int) := by omega
  have hn9 : n2 ≤ 520 := by omega
  have f0 : Fr [] w (w.alloc (.cells #[.slice A xs.length cap, .slice B ys.length cap'] 22)) := (Fr.refl _ _).alloc _
  have C1 := Lib.hid (implKaratsuba_any _ _ xs ys n n2 _ (HX.out.fr0 f0) HD.out (HY.out.fr0 f0) HD'.out hn hn' (by omega) (by omega) hn2 (HT.out.fr0 f0))
  have HXB := Lib.hid (words_BIG HD.out (show xs.length ≤ 1000000 by omega))
  have HYB := Lib.hid (words_BIG HD'.out (show ys.length ≤ 1000000 by omega))
  obtain ⟨X, hX⟩ : ∃ X, val 18446744073709551616 xs = X := ⟨_, rfl⟩
  obtain ⟨Y, hY⟩ : ∃ Y, val 18446744073709551616 ys = Y := ⟨_, rfl⟩
  have CO := Lib.hid (fun W (f : Fr [] w W) => of_any _ xs W (HX.out.fr0 f) HD.out (by omega))
  have CO' := Lib.hid (fun W (f : Fr [] w W) => of_any _ ys W (HY.out.fr0 f) HD'.out (by omega))
  have FW := Lib.hid (few2_yes 260 A B xs.length cap ys.length cap' w 22 (by omega) h2 h3)
  rw [hX] at CO HXB
  rw [hY] at CO' HYB
  rw [hX, hY] at C1
  rw [hn] at C1 CO FW hlc h0 f0 ⊢
  rw [hn'] at C1 CO' FW hlc' f0 ⊢
  have T1 : True := trivial
  clear hX hY hn2 hn hn' h5 h1 h1' h2 h3 h4
  go_enter Tryd.func8, Tryd.ntmps8
  go_wp2_with (first
    | (go_at_call 17; refine (FW.out).mono ?_; rintro e w1 ⟨rfl, rfl⟩)
    | (go_at_call 32; refine (Hid.out C1).mono ?_; clear C1; rintro e w2 ⟨A2, c2, zs, rfl, sl2, hzd, hzl, hzv, f2⟩; have HZ := Lib.hid hzl; have HZV := Lib.hid hzv; have HZD := Lib.hid hzd; clear hzl hzv hzd)
    | (go_at_call 19; clear T1; refine (CO.out _ (f0.t f2)).mono ?_; rintro e w3 ⟨v3, rfl, sn3, f3⟩)
    | (go_at_call 19; refine (CO'.out _ ((f0.t f2).t f3)).mono ?_; rintro e w4 ⟨v4, rfl, sn4, f4⟩)
    | (go_at_call 28; refine (mul_any _ _ X Y _ (sn3.fr0 f4) sn4 HXB.out HYB.out).mono ?_; rintro e w5 ⟨v5, rfl, sn5, f5⟩)
    | (go_at_call 27; refine (is_any _ _ zs _ _ (((sl2.fr0 f3).fr0 f4).fr0 f5) HZD.out (by rw [HZ.out]; omega) sn5 HZV.out).mono ?_; rintro e w6 ⟨rfl, f6⟩))
  go_ret
  exact ⟨rfl, ((((f0.t f2).t f3).t f4).t f5).t f6⟩
end Go.Proofs.YtknokndpeneogaaDoor
