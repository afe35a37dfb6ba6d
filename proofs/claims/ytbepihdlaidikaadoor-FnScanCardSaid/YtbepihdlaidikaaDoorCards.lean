/-
  DERIVED. GIVEN WITH THE SEED: THE CARDS: each row of YtbepihdlaidikaaDoorRows.lean that lists a variable, with what it lists TIED to the program's text (the seventh form; the later family's looks); each row that meets fmt, with fmt's text TOLD by the authors' own Lean function (tested against real Go, not proved from fmt's source: count such statements apart). THE CARD IS WHAT COUNTS. Prove the row's statement (the work); the ties are given (YtbepihdlaidikaaDoorTie.lean); close each card by the builder's one call (the guide's Derived/Test/ToyasCard.lean, 'card_holds'). Laid BY PROGRAM, IN A SANDBOX (cutbox-door.mjs). By AI agents, Wed Nov 11 2026. No macro, syntax, notation, axiom, sorry.
-/
import Derived.Test.YtbepihdlaidikaaDoorRows
import GoSem.ClaimSeven
namespace Go.Proofs.YtbepihdlaidikaaDoor
namespace Rows

/-- THE TIED CARD OF 'laws.FnScan'. -/
def fnScanCard : Claim7 := { stood := { row := fnScanRow, standIns := [], harness := (true, "e5e208ed476a3f7521f0f992e2a5f9bb1614c52bb1f905021bda0e2ed0f5aceb"), looks := true }, kinds := [], alts := [], laidByText := true, laidKinds := [.sentinel, .sentinel, .sentinel], laidTests := true, laidLooks := .later }
def FnScanCardSaid : Prop := Claim7.holds Tryd.pinned (.plain (OpenSpec.ofChange fnScanSpec)) fnScanCard

/-- THE SECOND FORM's CARD OF 'laws.FnScan'. -/
def fnScanUptoCard : Claim7 := { stood := { row := fnScanUptoRow, standIns := [], harness := (true, "e5e208ed476a3f7521f0f992e2a5f9bb1614c52bb1f905021bda0e2ed0f5aceb"), looks := true }, kinds := [], alts := [], laidByText := true, laidKinds := [.sentinel, .sentinel, .sentinel], laidTests := true, laidLooks := .later }
def FnScanUptoCardSaid : Prop := Claim7.holds Tryd.pinned (.plain (OpenSpec.upto fnScanSpec)) fnScanUptoCard
end Rows
end Go.Proofs.YtbepihdlaidikaaDoor
