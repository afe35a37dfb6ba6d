/-
  The walk of the law FnSub. Conditions: the words can be read.
-/
import Derived.Test.YtjapebgihnahjaaSub
import Derived.Test.YtjapebgihnahjaaDivM
set_option linter.unusedSimpArgs false
set_option linter.unusedVariables false
namespace Go.Proofs.Ytjapebgihnahjaa
open Go.Big Go.RowKit
theorem row1b (w : World) (o : Obj) (k : IntKind) (T : TypeId) (x : Int) : Sl k ((w.alloc o).alloc (.cells #[.int k x] T)) (.slice (some ⟨w.heap.size + 1, 0, none⟩) 1 1) [x] := by
  have := row1 (w.alloc o) k T x
  simpa using this
set_option maxRecDepth 100000 in
set_option maxHeartbeats 1000000 in
theorem fnSub_lt (A B : Option Addr) (cap cap' : Nat) (xs ys : List Int) (X Y : Int) (w : World) (hlc : xs.length ≤ cap) (hm : cap ≤ 9223372036854775807) (hlc' : ys.length ≤ cap') (hm' : cap' ≤ 9223372036854775807) (h2 : xs.length ≤ 260) (h3 : ys.length ≤ 260)
    (HX : Hid (Sl .u64 w (.slice A xs.length cap) xs)) (HD : Hid (DG 18446744073709551616 xs)) (HY : Hid (Sl .u64 w (.slice B ys.length cap') ys)) (HD' : Hid (DG 18446744073709551616 ys))
    (HV : Hid (val 18446744073709551616 xs = X)) (HV' : Hid (val 18446744073709551616 ys = Y)) (HXB : Hid (X < BIG)) (HYB : Hid (Y < BIG)) (HLT : Hid (X < Y))
    (ONE : Hid (∀ v u W, Sl .u64 W v [1] → Sl .u64 W u [1] → Calls Try.prog 52 #[v, u] W fun e w' => ∃ v', e = .returned (.tuple #[v', .bool true]) ∧ SW w' v' 0 ∧ Fr [] W w')) :
    Calls Try.prog 15 #[.slice A xs.length cap, .slice B ys.length cap'] w fun e w' => e = .returned (.bool true) ∧ Fr [] w w' := by
  have f0 : Fr [] w (w.alloc (.cells #[.slice A xs.length cap, .slice B ys.length cap'] 22)) := (Fr.refl _ _).alloc _
  have C1 := Lib.hid (fun W (f : Fr [] w W) => implSub_lt _ _ xs ys X Y W (Lib.hid (HX.out.fr0 f)) HD (by omega) (Lib.hid (HY.out.fr0 f)) HD' (by omega) HV HV' HXB HYB HLT)
  have HC := Lib.hid (cmpI_lt HLT.out)
  have T1 : True := trivial
  go_enter Try.func15, Try.ntmps15
  go_wp2_with (first
    | (go_at_call 20; refine (few2_yes 260 A B _ _ _ _ _ _ (by omega) h2 h3).mono ?_; rintro e w1 ⟨rfl, rfl⟩)
    | (go_at_call 22; clear T1; refine (of_any _ xs _ (HX.out.fr0 f0) HD.out (by omega)).mono ?_; rw [HV.out]; rintro e w3 ⟨v3, rfl, sn3, f3⟩)
    | (go_at_call 22; refine (of_any _ ys _ ((HY.out.fr0 f0).fr0 f3) HD'.out (by omega)).mono ?_; rw [HV'.out]; rintro e w4 ⟨v4, rfl, sn4, f4⟩)
    | (go_at_call 52; refine (C1.out _ ((f0.t f3).t f4)).mono ?_; clear C1; rintro e w2 ⟨rfl, f2⟩)
    | (go_at_call 27; refine (cmp_at _ _ _ X Y _ ((sn3.fr0 f4).fr0 f2) (sn4.fr0 f2) HC.out).mono ?_; rintro e w5 ⟨rfl, f5⟩)
    | (go_at_call 52; refine (ONE.out _ _ _ ((row1 w5 _ _ _).fr0 ((Fr.refl _ _).alloc _)) (row1b w5 _ _ _ _)).mono ?_; rintro e w7 ⟨v7, rfl, sw7, f7⟩))
  go_ret
  exact ⟨rfl, ((((f0.t f3).t f4).t f2).t f5).t (Fr.trans (((Fr.refl _ _).alloc _).alloc _) f7 (by simp))⟩
set_option maxRecDepth 100000 in
set_option maxHeartbeats 1000000 in
theorem fnSub_ge (A B : Option Addr) (cap cap' : Nat) (xs ys : List Int) (X Y : Int) (w : World) (hlc : xs.length ≤ cap) (hm : cap ≤ 9223372036854775807) (hlc' : ys.length ≤ cap') (hm' : cap' ≤ 9223372036854775807) (h2 : xs.length ≤ 260) (h3 : ys.length ≤ 260)
    (HX : Hid (Sl .u64 w (.slice A xs.length cap) xs)) (HD : Hid (DG 18446744073709551616 xs)) (HY : Hid (Sl .u64 w (.slice B ys.length cap') ys)) (HD' : Hid (DG 18446744073709551616 ys))
    (HV : Hid (val 18446744073709551616 xs = X)) (HV' : Hid (val 18446744073709551616 ys = Y)) (HXB : Hid (X < BIG)) (HYB : Hid (Y < BIG)) (HLT : Hid (Y ≤ X)) (HSB : Hid (X - Y < BIG)) :
    Calls Try.prog 15 #[.slice A xs.length cap, .slice B ys.length cap'] w fun e w' => e = .returned (.bool true) ∧ Fr [] w w' := by
  have f0 : Fr [] w (w.alloc (.cells #[.slice A xs.length cap, .slice B ys.length cap'] 22)) := (Fr.refl _ _).alloc _
  have C1 := Lib.hid (fun W (f : Fr [] w W) => implSub_ge _ _ xs ys X Y W (Lib.hid (HX.out.fr0 f)) HD (by omega) (Lib.hid (HY.out.fr0 f)) HD' (by omega) HV HV' HXB HYB HLT)
  have hc : ∃ c, cmpI X Y = c ∧ 0 ≤ c := by
    have := HLT.out
    rcases (show Y < X ∨ X = Y by omega) with h | h
    · exact ⟨1, cmpI_gt h, by omega⟩
    · subst h; exact ⟨0, cmpI_eq _, by omega⟩
  obtain ⟨c, hc, hc0⟩ := hc
  have HC := Lib.hid hc
  clear hc
  have T1 : True := trivial
  go_enter Try.func15, Try.ntmps15
  go_wp2_with (first
    | (go_at_call 20; refine (few2_yes 260 A B _ _ _ _ _ _ (by omega) h2 h3).mono ?_; rintro e w1 ⟨rfl, rfl⟩)
    | (go_at_call 22; clear T1; refine (of_any _ xs _ (HX.out.fr0 f0) HD.out (by omega)).mono ?_; rw [HV.out]; rintro e w3 ⟨v3, rfl, sn3, f3⟩)
    | (go_at_call 22; refine (of_any _ ys _ ((HY.out.fr0 f0).fr0 f3) HD'.out (by omega)).mono ?_; rw [HV'.out]; rintro e w4 ⟨v4, rfl, sn4, f4⟩)
    | (go_at_call 52; refine (C1.out _ ((f0.t f3).t f4)).mono ?_; clear C1; rintro e w2 ⟨v2, rfl, sw2, f2⟩)
    | (go_at_call 27; refine (cmp_at c _ _ X Y _ ((sn3.fr0 f4).fr0 f2) (sn4.fr0 f2) HC.out).mono ?_; rintro e w5 ⟨rfl, f5⟩)
    | (go_at_call 33; refine (sub_any _ _ X Y _ (((sn3.fr0 f4).fr0 f2).fr0 f5) ((sn4.fr0 f2).fr0 f5) HXB.out HLT.out).mono ?_; rintro e w6 ⟨v6, rfl, sn6, f6⟩)
    | (go_at_call 29; refine (exact_any _ _ _ _ ((sw2.fr0 f5).fr0 f6) sn6 HSB.out).mono ?_; rintro e w7 ⟨rfl, f7⟩))
  go_ret
  exact ⟨rfl, (((((f0.t f3).t f4).t f2).t f5).t f6).t f7⟩
set_option maxRecDepth 100000 in
set_option maxHeartbeats 1000000 in
theorem law_FnSub (v : Value) (xs : List Int) (u : Value) (ys : List Int) (w : World) (hx : Sl .u64 w v xs) (hd : DG 18446744073709551616 xs) (hy : Sl .u64 w u ys) (hd' : DG 18446744073709551616 ys) :
    Calls Try.prog 15 #[v, u] w fun e w' => e = .returned (.bool true) ∧ Fr [] w w' := by
  have HX := Lib.hid hx
  have HD := Lib.hid hd
  have HY := Lib.hid hy
  have HD' := Lib.hid hd'
  obtain ⟨A, cap, rfl, hlc, hm, hs⟩ := hx
  obtain ⟨B, cap', rfl, hlc', hm', hs'⟩ := hy
  unfold maxLen at hm hm'
  clear hs hd hs' hd'
  by_cases h1 : 2147483647 < xs.length
  · go_enter Try.func15, Try.ntmps15
    go_wp2_with fail
    go_ret
    exact ⟨rfl, Fr.refl _ _⟩
  by_cases h1' : 2147483647 < ys.length
  · go_enter Try.func15, Try.ntmps15
    go_wp2_with fail
    go_ret
    exact ⟨rfl, Fr.refl _ _⟩
  by_cases h2 : xs.length ≤ 260 ∧ ys.length ≤ 260
  case neg =>
    go_enter Try.func15, Try.ntmps15
    go_wp2_with (go_at_call 20; refine (few2_no 260 A B _ _ _ _ _ _ (by omega) (by omega) (by omega) (by omega)).mono ?_; rintro e w1 ⟨rfl, rfl⟩)
    go_ret
    exact ⟨rfl, (Fr.refl _ _).alloc _⟩
  obtain ⟨h2, h3⟩ := h2
  have hXB := words_BIG HD.out (show xs.length ≤ 1000000 by omega)
  have hYB := words_BIG HD'.out (show ys.length ≤ 1000000 by omega)
  have hY0 := val_nonneg (by omega) HD'.out
  by_cases hle : val 18446744073709551616 ys ≤ val 18446744073709551616 xs
  · exact fnSub_ge A B cap cap' xs ys _ _ w hlc (by omega) hlc' (by omega) h2 h3 HX HD HY HD' (Lib.hid rfl) (Lib.hid rfl) (Lib.hid hXB) (Lib.hid hYB) (Lib.hid hle) (Lib.hid (by omega))
  · refine fnSub_lt A B cap cap' xs ys _ _ w hlc (by omega) hlc' (by omega) h2 h3 HX HD HY HD' (Lib.hid rfl) (Lib.hid rfl) (Lib.hid hXB) (Lib.hid hYB) (Lib.hid (by omega)) (Lib.hid fun v u W h h' => ?_)
    have hd1 : DG 18446744073709551616 [1] := DG.cons (by omega) (by omega) (DG.nil _)
    have := implSub_ge v u [1] [1] 1 1 W (Lib.hid h) (Lib.hid hd1) (by simp) (Lib.hid h') (Lib.hid hd1) (by simp) (Lib.hid (by decide)) (Lib.hid (by decide)) (Lib.hid (word_BIG (by omega))) (Lib.hid (word_BIG (by omega))) (Lib.hid (by omega))
    exact this
end Go.Proofs.Ytjapebgihnahjaa
