/-
  nat.add at a nil receiver. Conditions: what is read can be read.
  nat.sub at a nil receiver, and the walk of the law FnSub. Conditions: what is read can be read; the lesser is taken off the greater.
-/
import Derived.Test.YtbepihdlaidikaaDoorgMk
import Derived.Test.YtbepihdlaidikaaDoorSetN
import Derived.Test.YtbepihdlaidikaaDoorgVec
import Derived.Deep.RegionWith
import Derived.Test.YtbepihdlaidikaaDoorCmpB
import Derived.Test.YtbepihdlaidikaaDoorgSpec
set_option linter.unusedSimpArgs false
set_option linter.unusedVariables false
section
namespace Go.Proofs.YtbepihdlaidikaaDoor
open Go.Big Go.RowKit
end Go.Proofs.YtbepihdlaidikaaDoor
end
section
namespace Go.Proofs.YtbepihdlaidikaaDoor
open Go.Big Go.RowKit
end Go.Proofs.YtbepihdlaidikaaDoor
end
