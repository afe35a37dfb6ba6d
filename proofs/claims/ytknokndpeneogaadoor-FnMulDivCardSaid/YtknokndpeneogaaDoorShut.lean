/-
  Closed facts on the program that every row of the seat asks for, each once. Conditions: none.
-/
import Derived.Test.YtknokndpeneogaaDoorRows
import Derived.Test.YtknokndpeneogaaDoorProg
import Derived.JoinedOf
import Derived.KernelRfl
set_option linter.unusedSimpArgs false
set_option linter.unusedVariables false
namespace Go.Proofs.YtknokndpeneogaaDoor.Shut
theorem laidOut : laidOutB Tryd.pinned.checked.prog = true := by kernel_rfl
theorem rowed : mapsRowed Tryd.pinned.checked.prog = true := by kernel_rfl
theorem stops : Tryd.pinned.checked.prog.stops = [] := by kernel_rfl
theorem knobs : Tryd.pinned.checked.prog.stopKnobs = [] := by kernel_rfl
theorem plain : Tryd.pinned.checked.prog.plainKeys = true := by kernel_rfl
theorem heard : Tryd.pinned.checked.prog.stopsHeard = true := by kernel_rfl
theorem enter : Tryd.pinned.checked.prog.mayEnter = true := by kernel_rfl
theorem lifts : Tryd.pinned.checked.prog.liftsFinal = false := by kernel_rfl
theorem make : Tryd.pinned.checked.prog.make = some .cut := by kernel_rfl
end Go.Proofs.YtknokndpeneogaaDoor.Shut
