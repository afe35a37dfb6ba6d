/-
  impl.norm with what it gives told by its words. Conditions: the words can be read.
-/
import Derived.Test.YtbepihdlaidikaaDoorgWord
set_option linter.unusedSimpArgs false
set_option linter.unusedVariables false
namespace Go.Proofs.YtbepihdlaidikaaDoor
open Go.Big Go.RowKit
end Go.Proofs.YtbepihdlaidikaaDoor
