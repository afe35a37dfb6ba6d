/-
  nlz, and the walk of the law FnNlz. Conditions: the argument is a word.
-/
import Derived.Test.YtnopbmfdjicnoaaSpecL
import Derived.Test.YtnopbmfdjicnoaaLen
set_option linter.unusedSimpArgs false
set_option linter.unusedVariables false
namespace Go.Proofs.Ytnopbmfdjicnoaa
open Go.Big Go.RowKit

theorem bitLen_le64 (x : Int) (h0 : 0 ≤ x) (h1 : x < 18446744073709551616) : Lib.bitLen x.toNat ≤ 64 := Lib.bitLen_le _ 64 (by omega) (by omega)

set_option maxRecDepth 100000 in
theorem nlz_any (x : Int) (w : World) (h0 : 0 ≤ x) (h1 : x < 18446744073709551616) :
    Calls Try.prog 67 #[.int .u64 x] w fun e w' => (∃ L : Nat, e = .returned (.int .u64 (64 - (L : Int))) ∧ IsLen x L ∧ L ≤ 64) ∧ w = w' := by
  have C := Lib.hid (blen_any x w h0 h1)
  have hb := bitLen_le64 x h0 h1
  have hi := isLen_word x h0 h1
  obtain ⟨L, hL⟩ : ∃ L, L = Lib.bitLen x.toNat := ⟨_, rfl⟩
  rw [← hL] at C hb hi
  have HI := Lib.hid hi
  clear hi hL
  go_enter Try.func67, Try.ntmps67
  go_wp2_with (first | (go_at_call 85; refine (Hid.out C).mono ?_; rintro e w' ⟨rfl, rfl⟩) | go_in)
  go_ret
  exact ⟨⟨L, rfl, HI.out, hb⟩, rfl⟩
set_option maxRecDepth 100000 in
theorem implNlz_any (x : Int) (w : World) (h0 : 0 ≤ x) (h1 : x < 18446744073709551616) :
    Calls Try.prog 28 #[.int .u64 x] w fun e w' => (∃ L : Nat, e = .returned (.int .u64 (64 - (L : Int))) ∧ IsLen x L ∧ L ≤ 64) ∧ w = w' := by
  have C := Lib.hid (nlz_any x w h0 h1)
  go_enter Try.func28, Try.ntmps28
  go_wp2_with (first | (go_at_call 67; refine (Hid.out C).mono ?_; rintro e w' ⟨⟨L, rfl, hl, hL⟩, rfl⟩) | go_in)
  go_ret
  exact ⟨⟨L, rfl, hl, hL⟩, rfl⟩
set_option maxRecDepth 100000 in
set_option maxHeartbeats 1000000 in
theorem law_FnNlz (x : Int) (w : World) (h0 : 0 ≤ x) (h1 : x < 18446744073709551616) :
    Calls Try.prog 7 #[.int .u64 x] w fun e w' => e = .returned (.bool true) ∧ Fr [] w w' := by
  have C1 := Lib.hid (implNlz_any x w h0 h1)
  go_enter Try.func7, Try.ntmps7
  go_wp2_with (first
    | (go_at_call 28; refine (Hid.out C1).mono ?_; rintro e w1 ⟨⟨L, rfl, hl, hL⟩, rfl⟩; clear C1)
    | (go_at_call 18; refine (of1_any x _ h0 h1).mono ?_; rintro e w2 ⟨v2, rfl, sn2, f2⟩)
    | (go_at_call 20; refine (bits_any _ x _ sn2 (word_BIG h1)).mono ?_; rintro e w3 ⟨M, rfl, hl2, hM, rfl⟩; obtain rfl : M = L := hl2.unique hl)
    | (go_at_call 28; refine (implNlz_any 1 _ (by omega) (by omega)).mono ?_; rintro e w4 ⟨⟨K, rfl, hl4, hK⟩, rfl⟩; obtain rfl : K = 1 := hl4.unique (.inr ⟨by omega, by decide, by decide⟩)))
  go_goals
  go_ret
  exact ⟨rfl, f2⟩
end Go.Proofs.Ytnopbmfdjicnoaa
