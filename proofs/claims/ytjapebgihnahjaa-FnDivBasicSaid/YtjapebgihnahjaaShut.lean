/-
  Closed facts on the program that every row of the seat asks for, each once. Conditions: none.
-/
import Derived.Test.YtjapebgihnahjaaRows
import Derived.Test.YtjapebgihnahjaaProg
import Derived.JoinedOf
import Derived.KernelRfl
set_option linter.unusedSimpArgs false
set_option linter.unusedVariables false
namespace Go.Proofs.Ytjapebgihnahjaa.Shut
theorem laidOut : laidOutB Try.pinned.checked.prog = true := by kernel_rfl
theorem rowed : mapsRowed Try.pinned.checked.prog = true := by kernel_rfl
theorem stops : Try.pinned.checked.prog.stops = [] := by kernel_rfl
theorem knobs : Try.pinned.checked.prog.stopKnobs = [] := by kernel_rfl
theorem plain : Try.pinned.checked.prog.plainKeys = true := by kernel_rfl
theorem heard : Try.pinned.checked.prog.stopsHeard = true := by kernel_rfl
theorem enter : Try.pinned.checked.prog.mayEnter = true := by kernel_rfl
theorem lifts : Try.pinned.checked.prog.liftsFinal = false := by kernel_rfl
theorem make : Try.pinned.checked.prog.make = some .cut := by kernel_rfl
end Go.Proofs.Ytjapebgihnahjaa.Shut
