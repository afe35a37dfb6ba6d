/-
  The thin package's Mul and Karatsuba. Conditions: the words can be read; the threshold lies in its variable.
-/
import Derived.Test.YtknokndpeneogaaDoorgKar
import Derived.Test.YtknokndpeneogaaDoorGlobM
import Derived.Test.YtknokndpeneogaaDoorBSqrL
set_option linter.unusedSimpArgs false
set_option linter.unusedVariables false
namespace Go.Proofs.YtknokndpeneogaaDoor
open Go.Big Go.RowKit
/-- the second of two new rows of one word -/
theorem row1c (w : World) (o : Obj) (k : IntKind) (T : TypeId) (x : Int) : Sl k ((w.alloc o).alloc (.cells #[.int k x] T)) (.slice (some ⟨w.heap.size + 1, 0, none⟩) 1 1) [x] := by
  have h := row1 (w.alloc o) k T x
  have e : (w.alloc o).heap.size = w.heap.size + 1 := by simp
  rwa [e] at h
/-- a number as a list not longer than its value wants -/
theorem SW.list {w : World} {v : Value} {n : Int} {k : Nat} (h : SW w v n) (hn : n < 18446744073709551616 ^ k) : ∃ ys, Sl .u64 w v ys ∧ DG 18446744073709551616 ys ∧ val 18446744073709551616 ys = n ∧ ys.length ≤ k := by
  obtain ⟨ys, h1, h2, h3, h4⟩ := h
  exact ⟨ys, h1, h2, h4, len_le (by omega) h2 h3 (by rw [h4]; exact hn)⟩
theorem mul_call (s bx by_ : Nat) (xs ys : List Int) (W : World) (h1 : StkAt W s none) (h2 : Glo W 2 40) (h3 : Row .u64 77 W bx xs) (h4 : Row .u64 77 W by_ ys) (hd : DG 18446744073709551616 xs) (hd' : DG 18446744073709551616 ys) (hl : xs.length ≤ 900) (hl' : ys.length ≤ 900) :
    Calls Tryd.prog 78 #[.slice none 0 0, .pointer (some ⟨s, 0, none⟩), .slice (some ⟨bx, 0, none⟩) xs.length xs.length, .slice (some ⟨by_, 0, none⟩) ys.length ys.length] W (MulP s none none W.heap.size 0 0 (xs.length + ys.length) (val 18446744073709551616 xs * val 18446744073709551616 ys) W) := by
  have b1 := h3.lt
  have b2 := h4.lt
  have b3 := heap_lt h1
  have n1 := h1.row_ne h3
  have n2 := h1.row_ne h4
  exact mul_ok _ _ s none none 0 W.heap.size 0 0 _ bx 0 xs.length xs _ by_ 0 ys.length ys W ⟨h1, fun _ => by simp only [lenS]; omega, fun _ => by simp only [lenS]; omega, h2, Rcv.nil _ _ _, Nat.le_refl _, by omega, Nm.of_wr (Wr.row h3) (Rcv.of_row h3 (by omega) (by unfold maxLen; omega)) (Nat.le_refl _), rfl, hd, by omega, Nm.of_wr (Wr.row h4) (Rcv.of_row h4 (by omega) (by unfold maxLen; omega)) (Nat.le_refl _), rfl, hd', by omega, by omega, by omega, by omega, .inl (by omega), .inl (by omega), fun h => absurd h (by omega), fun h => absurd h (by omega), fun i _ h => by omega, fun i _ _ hh => n1 hh, fun i _ _ hh => n2 hh, ⟨by omega, fun _ h => by cases h⟩⟩
set_option maxRecDepth 100000 in
set_option maxHeartbeats 1000000 in
theorem zzMul_any (v u : Value) (xs ys : List Int) (w : World) (hx : Sl .u64 w v xs) (hd : DG 18446744073709551616 xs) (hl : xs.length ≤ 900) (hy : Sl .u64 w u ys) (hd' : DG 18446744073709551616 ys) (hl' : ys.length ≤ 900) (hT : Glo w 2 40) :
    Calls Tryd.prog 55 #[v, u] w (RetW (val 18446744073709551616 xs * val 18446744073709551616 ys) w) := by
  have HX := Lib.hid hx
  have HY := Lib.hid hy
  have HT := Lib.hid hT
  have HB := Lib.hid (prod_BIG hd hd' (by omega) (by omega))
  have CM := Lib.hid (fun s bx by_ W h1 h2 h3 h4 => mul_call s bx by_ xs ys W h1 h2 h3 h4 hd hd' hl hl')
  have T1 : True := trivial
  clear hx hy hd hd' hT
  go_enter Tryd.func55, Tryd.ntmps55
  go_wp2_with (first
    | (go_at_call 73; refine (getStackQ_any _).mono ?_; rintro e w1 ⟨s, rfl, hst1, f1, hs⟩; have HST1 := Lib.hid hst1; have HS := Lib.hid hs; clear hst1 hs)
    | (go_at_call 68; clear T1; refine (zzIn_any _ xs _ (HX.out.fr0 f1) (by omega)).mono ?_; rintro e w2 ⟨b2, rfl, row2, hb2, f2⟩; have HR2 := Lib.hid row2; clear row2 hb2)
    | (go_at_call 68; refine (zzIn_any _ ys _ ((HY.out.fr0 f1).fr0 f2) (by omega)).mono ?_; rintro e w3 ⟨b3, rfl, row3, hb3, f3⟩; have HR3 := Lib.hid row3; clear row3 hb3)
    | (go_at_call 78; refine (CM.out s b2 b3 _ ((HST1.out.fr0 f2).fr0 f3) (((HT.out.fr0 f1).fr0 f2).fr0 f3) (HR2.out.fr f3 (by simp)) HR3.out).mono ?_; rintro e w4 ⟨A', b', o', c', zs, q', rfl, g1, g2, g3, g4, _, _, _, _, g5, _⟩; have SW4 := Lib.hid (show SW w4 (.slice A' zs.length c') (val 18446744073709551616 xs * val 18446744073709551616 ys) by (have := g1.sw g2 g3; rwa [g4] at this)); have HF4 := Lib.hid (Fc.fr_new' g5 ((f1.t f2).t f3) (fun b i hh => by rcases hh with hh | hh; exact hh ▸ HS.out; exact hh.1 ▸ ((f1.t f2).t f3).size)); clear g1 g2 g3 g4 g5)
    | (go_at_call 75; refine (zzOutW_any _ _ _ SW4.out HB.out).mono ?_; rintro e w5 ⟨v5, rfl, sw5, f5⟩))
  go_ret
  exact ⟨_, rfl, sw5, HF4.out.t f5⟩
set_option maxRecDepth 100000 in
set_option maxHeartbeats 1000000 in
theorem implMul_any (v u : Value) (xs ys : List Int) (w : World) (hx : Sl .u64 w v xs) (hd : DG 18446744073709551616 xs) (hl : xs.length ≤ 900) (hy : Sl .u64 w u ys) (hd' : DG 18446744073709551616 ys) (hl' : ys.length ≤ 900) (hT : Glo w 2 40) :
    Calls Tryd.prog 31 #[v, u] w (RetW (val 18446744073709551616 xs * val 18446744073709551616 ys) w) := by
  have HX := Lib.hid hx
  have HD := Lib.hid hd
  have HY := Lib.hid hy
  have HD' := Lib.hid hd'
  have HT := Lib.hid hT
  obtain ⟨X, hX⟩ : ∃ X, val 18446744073709551616 xs = X := ⟨_, rfl⟩
  obtain ⟨Y, hY⟩ : ∃ Y, val 18446744073709551616 ys = Y := ⟨_, rfl⟩
  have HV := Lib.hid hX
  have HV' := Lib.hid hY
  rw [hX, hY]
  have T1 : True := trivial
  clear hx hd hX hy hd' hY hT
  go_enter Tryd.func31, Tryd.ntmps31
  go_wp2_with (first
    | (go_at_call 48; clear T1; refine (normed_any _ xs _ HX.out HD.out (by omega)).mono ?_; rintro e w1 ⟨v1, xs1, rfl, sl1, dx, nzx, hvx, hlx, f1⟩; have HVX := Lib.hid hvx; clear hvx)
    | (go_at_call 48; refine (normed_any _ ys _ (HY.out.fr0 f1) HD'.out (by omega)).mono ?_; rintro e w2 ⟨v2, ys1, rfl, sl2, dy, nzy, hvy, hly, f2⟩; have HVY := Lib.hid hvy; clear hvy)
    | (go_at_call 55; refine (zzMul_any _ _ xs1 ys1 _ (sl1.fr0 f2) dx (by omega) sl2 dy (by omega) ((HT.out.fr0 f1).fr0 f2)).mono ?_; rw [HVX.out, HV.out, HVY.out, HV'.out]; rintro e w5 ⟨v5, rfl, sw5, f5⟩))
  go_ret
  exact ⟨_, rfl, sw5, (f1.t f2).t f5⟩
set_option maxRecDepth 100000 in
set_option maxHeartbeats 2000000 in
theorem law_FnMul (v : Value) (xs : List Int) (u : Value) (ys : List Int) (w : World) (hx : Sl .u64 w v xs) (hd : DG 18446744073709551616 xs) (hy : Sl .u64 w u ys) (hd' : DG 18446744073709551616 ys) (hT : Glo w 2 40) :
    Calls Tryd.prog 7 #[v, u] w fun e w' => e = .returned (.bool true) ∧ Fr [] w w' := by
  have HX := Lib.hid hx
  have HD := Lib.hid hd
  have HY := Lib.hid hy
  have HD' := Lib.hid hd'
  have HT := Lib.hid hT
  obtain ⟨A, cap, rfl, hlc, hm, hs⟩ := hx
  obtain ⟨B, cap', rfl, hlc', hm', hs'⟩ := hy
  unfold maxLen at hm hm'
  clear hs hd hs' hd' hT
  by_cases h1 : 2147483647 < xs.length
  · go_enter Tryd.func7, Tryd.ntmps7
    go_wp2_with fail
    go_ret
    exact ⟨rfl, Fr.refl _ _⟩
  by_cases h1' : 2147483647 < ys.length
  · go_enter Tryd.func7, Tryd.ntmps7
    go_wp2_with fail
    go_ret
    exact ⟨rfl, Fr.refl _ _⟩
  by_cases h2 : xs.length ≤ 260 ∧ ys.length ≤ 260
  case neg =>
    go_enter Tryd.func7, Tryd.ntmps7
    go_wp2_with (go_at_call 17; refine (few2_no 260 A B _ _ _ _ _ _ (by omega) (by omega) (by omega) (by omega)).mono ?_; rintro e w1 ⟨rfl, rfl⟩)
    go_ret
    exact ⟨rfl, (Fr.refl _ _).alloc _⟩
  obtain ⟨h2, h3⟩ := h2
  have f0 : Fr [] w (w.alloc (.cells #[.slice A xs.length cap, .slice B ys.length cap'] 22)) := (Fr.refl _ _).alloc _
  have C1 := Lib.hid (implMul_any _ _ xs ys _ (HX.out.fr0 f0) HD.out (by omega) (HY.out.fr0 f0) HD'.out (by omega) (HT.out.fr0 f0))
  have HB := Lib.hid (prod_BIG HD.out HD'.out (by omega) (by omega))
  have HXB := Lib.hid (words_BIG HD.out (show xs.length ≤ 1000000 by omega))
  have HYB := Lib.hid (words_BIG HD'.out (show ys.length ≤ 1000000 by omega))
  have ONE := Lib.hid (fun W v u (f : Fr [] w W) (h : Sl .u64 W v [1]) (h' : Sl .u64 W u [1]) => implMul_any v u [1] [1] W h (DG.cons (by omega) (by omega) (DG.nil _)) (by simp) h' (DG.cons (by omega) (by omega) (DG.nil _)) (by simp) (HT.out.fr0 f))
  rw [show val 18446744073709551616 [1] * val 18446744073709551616 [1] = 1 by decide] at ONE
  obtain ⟨X, hX⟩ : ∃ X, val 18446744073709551616 xs = X := ⟨_, rfl⟩
  obtain ⟨Y, hY⟩ : ∃ Y, val 18446744073709551616 ys = Y := ⟨_, rfl⟩
  have HV := Lib.hid hX
  have HV' := Lib.hid hY
  rw [hX, hY] at HB C1
  rw [hX] at HXB
  rw [hY] at HYB
  have T1 : True := trivial
  clear hX hY
  go_enter Tryd.func7, Tryd.ntmps7
  go_wp2_with (first
    | (go_at_call 17; refine (few2_yes 260 A B _ _ _ _ _ _ (by omega) h2 h3).mono ?_; rintro e w1 ⟨rfl, rfl⟩)
    | (go_at_call 31; refine (Hid.out C1).mono ?_; clear C1; rintro e w2 ⟨v2, rfl, sw2, f2⟩)
    | (go_at_call 19; clear T1; refine (of_any _ xs _ ((HX.out.fr0 f0).fr0 f2) HD.out (by omega)).mono ?_; rw [HV.out]; rintro e w3 ⟨v3, rfl, sn3, f3⟩)
    | (go_at_call 19; refine (of_any _ ys _ (((HY.out.fr0 f0).fr0 f2).fr0 f3) HD'.out (by omega)).mono ?_; rw [HV'.out]; rintro e w4 ⟨v4, rfl, sn4, f4⟩)
    | (go_at_call 28; refine (mul_any _ _ X Y _ (sn3.fr0 f4) sn4 HXB.out HYB.out).mono ?_; rintro e w5 ⟨v5, rfl, sn5, f5⟩)
    | (go_at_call 29; refine (exact_any _ _ _ _ (((sw2.fr0 f3).fr0 f4).fr0 f5) sn5 HB.out).mono ?_; rintro e w6 ⟨rfl, f6⟩)
    | (go_at_call 31; refine (ONE.out _ _ _ (((((((f0.t f2).t f3).t f4).t f5).t f6).alloc _).alloc _) ((row1 _ _ _ _).fr0 ((Fr.refl _ _).alloc _)) (row1c _ _ _ _ _)).mono ?_; rintro e w7 ⟨v7, rfl, sw7, f7⟩; obtain ⟨A7, c7, rfl⟩ := SW.one sw7))
  go_ret
  exact ⟨rfl, (((((f0.t f2).t f3).t f4).t f5).t f6).t (Fr.trans (((Fr.refl _ _).alloc _).alloc _) f7 (by simp))⟩
end Go.Proofs.YtknokndpeneogaaDoor
