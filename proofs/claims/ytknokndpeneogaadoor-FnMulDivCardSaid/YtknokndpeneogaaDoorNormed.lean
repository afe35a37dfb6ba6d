/-
  impl.norm with what it gives told by its words. Conditions: the words can be read.
-/
import Derived.Test.YtknokndpeneogaaDoorgWord
set_option linter.unusedSimpArgs false
set_option linter.unusedVariables false
namespace Go.Proofs.YtknokndpeneogaaDoor
open Go.Big Go.RowKit
def RetN (xs : List Int) (w : World) (e : Ending) (w' : World) : Prop :=
  ∃ v ys, e = .returned v ∧ Sl .u64 w' v ys ∧ DG 18446744073709551616 ys ∧ NZ ys ∧ val 18446744073709551616 ys = val 18446744073709551616 xs ∧ ys.length ≤ xs.length ∧ Fr [] w w'
theorem normed_any (v : Value) (xs : List Int) (w : World) (hx : Sl .u64 w v xs) (hd : DG 18446744073709551616 xs) (hl : xs.length ≤ 1000000) :
    Calls Tryd.prog 48 #[v] w (RetN xs w) := by
  refine (implnorm_any v xs w hx hd hl).mono ?_
  rintro e w' ⟨v', rfl, ⟨ys, h1, h2, h3, h4⟩, f⟩
  exact ⟨v', ys, rfl, h1, h2, h3, h4, len_le (by omega) h2 h3 (by rw [h4]; exact val_lt (by omega) hd), f⟩
end Go.Proofs.YtknokndpeneogaaDoor
