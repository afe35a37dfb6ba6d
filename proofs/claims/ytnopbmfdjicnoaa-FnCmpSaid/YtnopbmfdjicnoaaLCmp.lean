/-
  The walk of the law FnCmp. Conditions: the words can be read.
-/
import Derived.Test.YtnopbmfdjicnoaaFew
import Derived.Test.YtnopbmfdjicnoaaCmpB
set_option linter.unusedSimpArgs false
set_option linter.unusedVariables false
namespace Go.Proofs.Ytnopbmfdjicnoaa
open Go.Big Go.RowKit

set_option maxRecDepth 100000 in
set_option maxHeartbeats 1000000 in
theorem law_FnCmp (v : Value) (xs : List Int) (v' : Value) (ys : List Int) (w : World) (hx : Sl .u64 w v xs) (hd : DG 18446744073709551616 xs) (hy : Sl .u64 w v' ys) (hd' : DG 18446744073709551616 ys) :
    Calls Try.prog 13 #[v, v'] w fun e w' => e = .returned (.bool true) ∧ Fr [] w w' := by
  have HX := Lib.hid hx
  have HD := Lib.hid hd
  have HY := Lib.hid hy
  have HD' := Lib.hid hd'
  obtain ⟨A, cap, rfl, hlc, hm, hs⟩ := hx
  obtain ⟨B, cap', rfl, hlc', hm', hs'⟩ := hy
  unfold maxLen at hm hm'
  clear hs hd hs' hd'
  by_cases h1 : 2147483647 < xs.length
  · go_enter Try.func13, Try.ntmps13
    go_wp2_with fail
    go_ret
    exact ⟨rfl, Fr.refl _ _⟩
  · by_cases h1' : 2147483647 < ys.length
    · go_enter Try.func13, Try.ntmps13
      go_wp2_with fail
      go_ret
      exact ⟨rfl, Fr.refl _ _⟩
    · by_cases h2 : xs.length ≤ 260 ∧ ys.length ≤ 260
      · obtain ⟨h2, h2'⟩ := h2
        obtain ⟨n, hn⟩ : ∃ n, n = val 18446744073709551616 xs := ⟨_, rfl⟩
        obtain ⟨m, hm⟩ : ∃ m, m = val 18446744073709551616 ys := ⟨_, rfl⟩
        have f0 : Fr [] w (w.alloc (.cells #[.slice A xs.length cap, .slice B ys.length cap'] 35)) := (Fr.refl _ _).alloc _
        have C1 := Lib.hid (implCmp_any _ _ xs ys _ (HX.out.fr0 f0) (HY.out.fr0 f0) HD.out HD'.out (by omega) (by omega))
        rw [← hn, ← hm] at C1
        obtain ⟨c, hc⟩ : ∃ c, c = cmpI n m := ⟨_, rfl⟩
        rw [← hc] at C1
        have HC := Lib.hid hc
        have HN := Lib.hid hn
        have HM := Lib.hid hm
        clear hn hm hc
        have T1 : True := trivial
        have T2 : True := trivial
        have T3 : True := trivial
        go_enter Try.func13, Try.ntmps13
        go_wp2_with (first
          | (go_at_call 22; refine (few2_yes 260 A B _ _ _ _ _ _ (by omega) h2 h2').mono ?_; rintro e w1 ⟨rfl, rfl⟩)
          | (go_at_call 40; refine (Hid.out C1).mono ?_; rintro e w2 ⟨rfl, f2⟩; clear C1)
          | (go_at_call 25; clear T1; refine (of_any _ xs _ ((HX.out.fr0 f0).fr0 f2) HD.out (by omega)).mono ?_; rintro e w3 ⟨v3, rfl, sn3, f3⟩)
          | (go_at_call 25; clear T2; refine (of_any _ ys _ (((HY.out.fr0 f0).fr0 f2).fr0 f3) HD'.out (by omega)).mono ?_; rintro e w4 ⟨v4, rfl, sn4, f4⟩)
          | (go_at_call 19; rw [← HN.out] at sn3; rw [← HM.out] at sn4; have C5 := cmp_any _ _ n m _ (sn3.fr0 f4) sn4; rw [← HC.out] at C5; refine C5.mono ?_; clear C5; rintro e w5 ⟨rfl, f5⟩)
          | (go_at_call 40; clear T3; refine (implCmp_any _ _ [1] [] _ (row1 _ .u64 _ 1) (Sl.nil _ _) (DG.cons (by omega) (by omega) (DG.nil _)) (DG.nil _) (by simp) (by simp)).mono ?_; rintro e w6 ⟨rfl, f6⟩))
        go_ret
        exact ⟨congrArg (fun b => Ending.returned (.bool b)) (by decide), ((((f0.t f2).t f3).t f4).t f5 |>.alloc _).t f6⟩
      · go_enter Try.func13, Try.ntmps13
        go_wp2_with (go_at_call 22; refine (few2_no 260 A B _ _ _ _ _ _ (by omega) (by omega) (by omega) (by omega)).mono ?_; rintro e w1 ⟨rfl, rfl⟩)
        go_ret
        exact ⟨rfl, (Fr.refl _ _).alloc _⟩
end Go.Proofs.Ytnopbmfdjicnoaa
