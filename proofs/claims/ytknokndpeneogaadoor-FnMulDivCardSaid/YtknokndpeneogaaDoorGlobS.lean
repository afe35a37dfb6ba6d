/-
  The threshold of the school's square, out of the row's condition. Conditions: the condition.
-/
import Derived.Test.YtknokndpeneogaaDoorGlob
import Derived.Test.YtknokndpeneogaaDoorBSqr
set_option linter.unusedSimpArgs false
set_option linter.unusedVariables false
namespace Go.Proofs.YtknokndpeneogaaDoor
open Go.Big Go.RowKit
theorem glob_bsq {W : World} (h : laidMetH Tryd.prog [("loop.example/pub-g03246/pub/big2.basicSqrThreshold", Rows.laid_loop_example_pub_g03246_pub_big2_basicSqrThreshold)] W) : ThrB W := by
  rw [MakeChecks.laidMetH_plain _ _ _ (by kernel_rfl)] at h
  exact int_of_head (g := 0) (t := 3) (by kernel_rfl) (by kernel_rfl) Tryd.underlying3 h
end Go.Proofs.YtknokndpeneogaaDoor
