/-
  DERIVED. GIVEN WITH THE SEED: THE PROGRAM's TIES (one call each: nine closed facts by the kernel) AND EACH ROW's TIE, after the 31st guide's Derived/Test/Toyas{Tie, Card}.lean. No idea stands in it: it is a product of the set-up. Laid BY PROGRAM, IN A SANDBOX (cutbox-door.mjs). By AI agents, Wed Nov 11 2026. No macro, syntax, notation, axiom, sorry.
-/
import Derived.Test.YtbepihdlaidikaaDoorRows
import Derived.LaidByTextLater
import Derived.SevenTiedAt
import Derived.LaidSub
import Derived.LaidOnce
namespace Go.Proofs.YtbepihdlaidikaaDoor
open Go
set_option maxRecDepth 100000
theorem seatTie1 : Tryd.prog.laidByTextLater [("io.EOF", Rows.laid_io_EOF), ("loop.example/pub-g03246/pub/big2.errNoDigits", Rows.laid_loop_example_pub_g03246_pub_big2_errNoDigits), ("loop.example/pub-g03246/pub/big2.errInvalSep", Rows.laid_loop_example_pub_g03246_pub_big2_errInvalSep)] [.sentinel, .sentinel, .sentinel] true :=
  Program.laidByTextLater_by_one 66 8 2 (by kernel_rfl) (by kernel_rfl) (by kernel_rfl) (by kernel_rfl) (by kernel_rfl) (by kernel_rfl) (fun _ _ => by kernel_rfl)
theorem noOwnUnsafe : Tryd.pinned.checked.prog.headLifts.contains "ownunsafe" = false := by kernel_rfl
theorem tie : Tryd.prog.laidByTextLater [("io.EOF", Rows.laid_io_EOF), ("loop.example/pub-g03246/pub/big2.errNoDigits", Rows.laid_loop_example_pub_g03246_pub_big2_errNoDigits), ("loop.example/pub-g03246/pub/big2.errInvalSep", Rows.laid_loop_example_pub_g03246_pub_big2_errInvalSep)] [.sentinel, .sentinel, .sentinel] true :=
  Program.laidByTextLater.sub seatTie1 ["io.EOF", "loop.example/pub-g03246/pub/big2.errNoDigits", "loop.example/pub-g03246/pub/big2.errInvalSep"] (by kernel_rfl) (by kernel_rfl)
theorem fnScan_row_tie : Rows.fnScanRow.laidByTextAt .later Tryd.pinned [.sentinel, .sentinel, .sentinel] true :=
  OpenClaim.laidByTextAt_later rfl rfl tie noOwnUnsafe
theorem fnScanUpto_row_tie : Rows.fnScanUptoRow.laidByTextAt .later Tryd.pinned [.sentinel, .sentinel, .sentinel] true :=
  OpenClaim.laidByTextAt_later rfl rfl tie noOwnUnsafe
end Go.Proofs.YtbepihdlaidikaaDoor
