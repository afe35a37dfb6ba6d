/-
  nat.cmp. Conditions: what is read can be read; no noughts at the upper end.
-/
import Derived.Test.YtbepihdlaidikaaDoorgWord
set_option linter.unusedSimpArgs false
set_option linter.unusedVariables false
namespace Go.Proofs.YtbepihdlaidikaaDoor
open Go.Big Go.RowKit

end Go.Proofs.YtbepihdlaidikaaDoor
