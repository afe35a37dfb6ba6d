/-
  few over slices that were just put side by side. Conditions: lengths are lengths.
-/
import Derived.Test.YtbepihdlaidikaaDoorgWord
set_option linter.unusedSimpArgs false
set_option linter.unusedVariables false
namespace Go.Proofs.YtbepihdlaidikaaDoor
open Go.Big Go.RowKit


end Go.Proofs.YtbepihdlaidikaaDoor
