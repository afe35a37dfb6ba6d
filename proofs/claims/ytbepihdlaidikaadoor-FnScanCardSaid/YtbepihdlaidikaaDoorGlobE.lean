/-
  What io.EOF and errNoDigits hold, out of the row's condition. Conditions: the condition.
-/
import Derived.Test.YtbepihdlaidikaaDoorGlob
import Derived.Test.YtbepihdlaidikaaDoorScL
set_option linter.unusedSimpArgs false
set_option linter.unusedVariables false
namespace Go.Proofs.YtbepihdlaidikaaDoor
open Go.Big Go.RowKit
theorem star_err : "*" ++ "errors.errorString" = "*errors.errorString" := by decide
theorem row_err (u : TypeId) (h : Tryd.prog.typeName? 3 u = some "*errors.errorString") : u = 92 :=
  typeName_ptr_named (nm := "errors.errorString") (by rw [star_err]; kernel_rfl) (by kernel_rfl) (by decide) u (by rw [star_err]; exact h)
theorem var_cell {W : World} {n : String} {g : Nat} {v : Value} (hg : Tryd.prog.globalNamed n = some g) (h : W.var? Tryd.prog n = some #[v]) : W.cell? ⟨g, 0, none⟩ = some v := by
  have := World.var?_cell hg h 0
  simpa using this
theorem glob_scan {W : World} (h : laidMetH Tryd.prog [("io.EOF", Rows.laid_io_EOF), ("loop.example/pub-g03246/pub/big2.errNoDigits", Rows.laid_loop_example_pub_g03246_pub_big2_errNoDigits), ("loop.example/pub-g03246/pub/big2.errInvalSep", Rows.laid_loop_example_pub_g03246_pub_big2_errInvalSep)] W) : ErrsAt W := by
  rw [MakeChecks.laidMetH_plain _ _ _ (by kernel_rfl)] at h
  have h2 := laidMet.tail h
  obtain ⟨a0, s0, hv0, _⟩ := laid_sentinel (g := 0) (ti := 53) (tp := 92) (te := 109) (ts := 9) h (by kernel_rfl) (by kernel_rfl) Tryd.underlying53 row_err Tryd.underlying92 Tryd.underlying109 rfl rfl Tryd.underlying9 (by kernel_rfl) (by kernel_rfl)
  obtain ⟨a1, s1, hv1, _⟩ := laid_sentinel (g := 2) (ti := 53) (tp := 92) (te := 109) (ts := 9) h2 (by kernel_rfl) (by kernel_rfl) Tryd.underlying53 row_err Tryd.underlying92 Tryd.underlying109 rfl rfl Tryd.underlying9 (by kernel_rfl) (by kernel_rfl)
  exact ⟨⟨a0, var_cell (by kernel_rfl) hv0⟩, _, a1, var_cell (by kernel_rfl) hv1⟩
end Go.Proofs.YtbepihdlaidikaaDoor
