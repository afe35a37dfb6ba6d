/-
  The thresholds of the product, out of the row's condition. Conditions: the condition.
-/
import Derived.Test.YtknokndpeneogaaDoorGlob
import Derived.Test.YtknokndpeneogaaDoorgMul
set_option linter.unusedSimpArgs false
set_option linter.unusedVariables false
namespace Go.Proofs.YtknokndpeneogaaDoor
open Go.Big Go.RowKit Go.ChangeShapes Go.WideShapes Go.ChangeAt
theorem glob_mul {W : World} (h : laidMetH Tryd.prog [("loop.example/pub-g03246/pub/big2.karatsubaThreshold", Rows.laid_loop_example_pub_g03246_pub_big2_karatsubaThreshold), ("loop.example/pub-g03246/pub/big2.basicSqrThreshold", Rows.laid_loop_example_pub_g03246_pub_big2_basicSqrThreshold), ("loop.example/pub-g03246/pub/big2.karatsubaSqrThreshold", Rows.laid_loop_example_pub_g03246_pub_big2_karatsubaSqrThreshold)] W) : Glo W 2 40 := by
  rw [MakeChecks.laidMetH_plain _ _ _ (by kernel_rfl)] at h
  exact int_of_head (g := 2) (t := 3) (by kernel_rfl) (by kernel_rfl) Tryd.underlying3 h
end Go.Proofs.YtknokndpeneogaaDoor
