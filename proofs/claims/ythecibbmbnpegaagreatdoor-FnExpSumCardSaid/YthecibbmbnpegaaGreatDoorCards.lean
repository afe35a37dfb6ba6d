/-
  DERIVED. GIVEN WITH THE SEED: THE CARDS: each row of YthecibbmbnpegaaGreatDoorRows.lean that lists a variable, with what it lists TIED to the program's text (the seventh form; the later family's looks); each row that meets fmt, with fmt's text TOLD by the authors' own Lean function (tested against real Go, not proved from fmt's source: count such statements apart). THE CARD IS WHAT COUNTS. Prove the row's statement (the work); the ties are given (YthecibbmbnpegaaGreatDoorTie.lean); close each card by the builder's one call (the guide's Derived/Test/ToyasCard.lean, 'card_holds'). Laid BY PROGRAM, IN A SANDBOX (cutbox-door.mjs). By AI agents, Wed Nov 11 2026. No macro, syntax, notation, axiom, sorry.
-/
import Derived.Test.YthecibbmbnpegaaGreatDoorRows
import GoSem.ClaimSeven
namespace Go.Proofs.YthecibbmbnpegaaGreatDoor
namespace Rows

/-- THE TIED CARD OF 'laws.FnExpSum'. -/
def fnExpSumCard : Claim7 := { stood := { row := fnExpSumRow, standIns := [], harness := (true, "21e6f2f4de0a0c34ffb8aadf809558a44fd3193cba4cf201719b4e49922d488c"), looks := false }, kinds := [], alts := [], laidByText := true, laidKinds := [.data, .data, .data, .data, .data, .data], laidTests := true, laidLooks := .later }
def FnExpSumCardSaid : Prop := Claim7.holds Tryz.pinned (.plain (OpenSpec.ofChange fnExpSumSpec)) fnExpSumCard

/-- THE SECOND FORM's CARD OF 'laws.FnExpSum'. -/
def fnExpSumUptoCard : Claim7 := { stood := { row := fnExpSumUptoRow, standIns := [], harness := (true, "21e6f2f4de0a0c34ffb8aadf809558a44fd3193cba4cf201719b4e49922d488c"), looks := false }, kinds := [], alts := [], laidByText := true, laidKinds := [.data, .data, .data, .data, .data, .data], laidTests := true, laidLooks := .later }
def FnExpSumUptoCardSaid : Prop := Claim7.holds Tryz.pinned (.plain (OpenSpec.upto fnExpSumSpec)) fnExpSumUptoCard
end Rows
end Go.Proofs.YthecibbmbnpegaaGreatDoor
