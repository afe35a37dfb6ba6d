/-
  nlz, and the walk of the law FnNlz. Conditions: the argument is a word.
-/
import Derived.Test.YtknokndpeneogaaDoorgBase
import Derived.Test.YtknokndpeneogaaDoorLen
set_option linter.unusedSimpArgs false
set_option linter.unusedVariables false
namespace Go.Proofs.YtknokndpeneogaaDoor
open Go.Big Go.RowKit

theorem bitLen_le64 (x : Int) (h0 : 0 ≤ x) (h1 : x < 18446744073709551616) : Lib.bitLen x.toNat ≤ 64 := Lib.bitLen_le _ 64 (by omega) (by omega)

set_option maxRecDepth 100000 in
theorem nlz_any (x : Int) (w : World) (h0 : 0 ≤ x) (h1 : x < 18446744073709551616) :
    Calls Tryd.prog 136 #[.int .u64 x] w fun e w' => (∃ L : Nat, e = .returned (.int .u64 (64 - (L : Int))) ∧ IsLen x L ∧ L ≤ 64) ∧ w = w' := by
  have C := Lib.hid (blen_any x w h0 h1)
  have hb := bitLen_le64 x h0 h1
  have hi := isLen_word x h0 h1
  obtain ⟨L, hL⟩ : ∃ L, L = Lib.bitLen x.toNat := ⟨_, rfl⟩
  rw [← hL] at C hb hi
  have HI := Lib.hid hi
  clear hi hL
  go_enter Tryd.func136, Tryd.ntmps136
  go_wp2_with (first | (go_at_call 89; refine (Hid.out C).mono ?_; rintro e w' ⟨rfl, rfl⟩) | go_in)
  go_ret
  exact ⟨⟨L, rfl, HI.out, hb⟩, rfl⟩
end Go.Proofs.YtknokndpeneogaaDoor
