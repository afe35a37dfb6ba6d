/-
  The walk of the law FnNorm. Conditions: the words can be read.
-/
import Derived.Test.YtnopbmfdjicnoaaFew
set_option linter.unusedSimpArgs false
set_option linter.unusedVariables false
namespace Go.Proofs.Ytnopbmfdjicnoaa
open Go.Big Go.RowKit

set_option maxRecDepth 100000 in
set_option maxHeartbeats 1000000 in
theorem law_FnNorm (v : Value) (xs : List Int) (w : World) (hx : Sl .u64 w v xs) (hd : DG 18446744073709551616 xs) :
    Calls Try.prog 5 #[v] w fun e w' => e = .returned (.bool true) ∧ Fr [] w w' := by
  have HX := Lib.hid hx
  have HD := Lib.hid hd
  obtain ⟨A, cap, rfl, hlc, hm, hs⟩ := hx
  unfold maxLen at hm
  clear hs hd
  by_cases h1 : 2147483647 < xs.length
  · go_enter Try.func5, Try.ntmps5
    go_wp2_with fail
    go_ret
    exact ⟨rfl, Fr.refl _ _⟩
  · by_cases h2 : xs.length ≤ 260
    · go_enter Try.func5, Try.ntmps5
      go_wp2_with (first
        | (go_at_call 22; refine (few1_yes 260 A _ _ _ _ (by omega) h2).mono ?_; rintro e w1 ⟨rfl, rfl⟩)
        | (go_at_call 24; refine (implNorm_any _ xs _ (HX.out.fr0 ((Fr.refl _ _).alloc _)) HD.out (by omega)).mono ?_; rintro e w2 ⟨v2, rfl, sw2, f2⟩)
        | (go_at_call 25; refine (of_any _ xs _ ((HX.out.fr0 ((Fr.refl _ _).alloc _)).fr0 f2) HD.out (by omega)).mono ?_; rintro e w3 ⟨v3, rfl, sn3, f3⟩)
        | (go_at_call 23; refine (exact_any _ _ _ _ (sw2.fr0 f3) sn3 (words_BIG HD.out (by omega))).mono ?_; rintro e w4 ⟨rfl, f4⟩)
        | (go_at_call 24; refine (implNorm_any _ [1] _ (row1 _ .u64 _ 1) (DG.cons (by omega) (by omega) (DG.nil _)) (by simp)).mono ?_; rintro e w5 ⟨v5, rfl, sw5, f5⟩; obtain ⟨A5, c5, rfl⟩ := SW.one (by simpa [val_cons, val_nil] using sw5)))
      go_ret
      exact ⟨rfl, (((((Fr.refl [] w).alloc _).t f2).t f3).t f4 |>.alloc _).t f5⟩
    · go_enter Try.func5, Try.ntmps5
      go_wp2_with (go_at_call 22; refine (few1_no 260 A _ _ _ _ (by omega) (by omega) (by omega)).mono ?_; rintro e w1 ⟨rfl, rfl⟩)
      go_ret
      exact ⟨rfl, (Fr.refl _ _).alloc _⟩
end Go.Proofs.Ytnopbmfdjicnoaa
