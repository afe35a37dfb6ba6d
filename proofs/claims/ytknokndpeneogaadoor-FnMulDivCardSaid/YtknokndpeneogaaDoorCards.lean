/-
  DERIVED. GIVEN WITH THE SEED: THE CARDS: each row of YtknokndpeneogaaDoorRows.lean that lists a variable, with what it lists TIED to the program's text (the seventh form; the later family's looks); each row that meets fmt, with fmt's text TOLD by the authors' own Lean function (tested against real Go, not proved from fmt's source: count such statements apart). THE CARD IS WHAT COUNTS. Prove the row's statement (the work); the ties are given (YtknokndpeneogaaDoorTie.lean); close each card by the builder's one call (the guide's Derived/Test/ToyasCard.lean, 'card_holds'). Laid BY PROGRAM, IN A SANDBOX (cutbox-door.mjs). By AI agents, Wed Nov 11 2026. No macro, syntax, notation, axiom, sorry.
-/
import Derived.Test.YtknokndpeneogaaDoorRows
import GoSem.ClaimSeven
namespace Go.Proofs.YtknokndpeneogaaDoor
namespace Rows

/-- THE TIED CARD OF 'laws.FnIsPow2'. -/
def fnIsPow2Card : Claim7 := { stood := { row := fnIsPow2Row, standIns := [], harness := (true, "ae06e276b5c35ac4e1ed57c34a1b198d0322b4946e340b91768c643b7068a4eb"), looks := false }, kinds := [], alts := [], laidByText := true, laidKinds := [.data, .data], laidTests := true, laidLooks := .later }
def FnIsPow2CardSaid : Prop := Claim7.holds Tryd.pinned (.plain (OpenSpec.ofChange fnIsPow2Spec)) fnIsPow2Card

/-- THE TIED CARD OF 'laws.FnBitLen'. -/
def fnBitLenCard : Claim7 := { stood := { row := fnBitLenRow, standIns := [], harness := (true, "ae06e276b5c35ac4e1ed57c34a1b198d0322b4946e340b91768c643b7068a4eb"), looks := false }, kinds := [], alts := [], laidByText := true, laidKinds := [.data, .data], laidTests := true, laidLooks := .later }
def FnBitLenCardSaid : Prop := Claim7.holds Tryd.pinned (.plain (OpenSpec.ofChange fnBitLenSpec)) fnBitLenCard

/-- THE TIED CARD OF 'laws.FnBasicSqr'. -/
def fnBasicSqrCard : Claim7 := { stood := { row := fnBasicSqrRow, standIns := [], harness := (true, "ae06e276b5c35ac4e1ed57c34a1b198d0322b4946e340b91768c643b7068a4eb"), looks := false }, kinds := [], alts := [], laidByText := true, laidKinds := [.data], laidTests := true, laidLooks := .later }
def FnBasicSqrCardSaid : Prop := Claim7.holds Tryd.pinned (.plain (OpenSpec.ofChange fnBasicSqrSpec)) fnBasicSqrCard

/-- THE TIED CARD OF 'laws.FnSqr'. -/
def fnSqrCard : Claim7 := { stood := { row := fnSqrRow, standIns := [], harness := (true, "ae06e276b5c35ac4e1ed57c34a1b198d0322b4946e340b91768c643b7068a4eb"), looks := false }, kinds := [], alts := [], laidByText := true, laidKinds := [.data, .data], laidTests := true, laidLooks := .later }
def FnSqrCardSaid : Prop := Claim7.holds Tryd.pinned (.plain (OpenSpec.ofChange fnSqrSpec)) fnSqrCard

/-- THE TIED CARD OF 'laws.FnMul'. -/
def fnMulCard : Claim7 := { stood := { row := fnMulRow, standIns := [], harness := (true, "ae06e276b5c35ac4e1ed57c34a1b198d0322b4946e340b91768c643b7068a4eb"), looks := false }, kinds := [], alts := [], laidByText := true, laidKinds := [.data, .data, .data], laidTests := true, laidLooks := .later }
def FnMulCardSaid : Prop := Claim7.holds Tryd.pinned (.plain (OpenSpec.ofChange fnMulSpec)) fnMulCard

/-- THE TIED CARD OF 'laws.FnKaratsuba'. -/
def fnKaratsubaCard : Claim7 := { stood := { row := fnKaratsubaRow, standIns := [], harness := (true, "ae06e276b5c35ac4e1ed57c34a1b198d0322b4946e340b91768c643b7068a4eb"), looks := false }, kinds := [], alts := [], laidByText := true, laidKinds := [.data, .data, .data], laidTests := true, laidLooks := .later }
def FnKaratsubaCardSaid : Prop := Claim7.holds Tryd.pinned (.plain (OpenSpec.ofChange fnKaratsubaSpec)) fnKaratsubaCard

/-- THE TIED CARD OF 'laws.FnDistribute'. -/
def fnDistributeCard : Claim7 := { stood := { row := fnDistributeRow, standIns := [], harness := (true, "ae06e276b5c35ac4e1ed57c34a1b198d0322b4946e340b91768c643b7068a4eb"), looks := false }, kinds := [], alts := [], laidByText := true, laidKinds := [.data, .data, .data], laidTests := true, laidLooks := .later }
def FnDistributeCardSaid : Prop := Claim7.holds Tryd.pinned (.plain (OpenSpec.ofChange fnDistributeSpec)) fnDistributeCard

/-- THE TIED CARD OF 'laws.FnMulRoads'. -/
def fnMulRoadsCard : Claim7 := { stood := { row := fnMulRoadsRow, standIns := [], harness := (true, "ae06e276b5c35ac4e1ed57c34a1b198d0322b4946e340b91768c643b7068a4eb"), looks := false }, kinds := [], alts := [], laidByText := true, laidKinds := [.data, .data, .data], laidTests := true, laidLooks := .later }
def FnMulRoadsCardSaid : Prop := Claim7.holds Tryd.pinned (.plain (OpenSpec.ofChange fnMulRoadsSpec)) fnMulRoadsCard

/-- THE TIED CARD OF 'laws.FnBinomial'. -/
def fnBinomialCard : Claim7 := { stood := { row := fnBinomialRow, standIns := [], harness := (true, "ae06e276b5c35ac4e1ed57c34a1b198d0322b4946e340b91768c643b7068a4eb"), looks := false }, kinds := [], alts := [], laidByText := true, laidKinds := [.data, .data, .data], laidTests := true, laidLooks := .later }
def FnBinomialCardSaid : Prop := Claim7.holds Tryd.pinned (.plain (OpenSpec.ofChange fnBinomialSpec)) fnBinomialCard

/-- THE TIED CARD OF 'laws.FnDivRecursive'. -/
def fnDivRecursiveCard : Claim7 := { stood := { row := fnDivRecursiveRow, standIns := [], harness := (true, "ae06e276b5c35ac4e1ed57c34a1b198d0322b4946e340b91768c643b7068a4eb"), looks := false }, kinds := [], alts := [], laidByText := true, laidKinds := [.data, .data, .data, .data], laidTests := true, laidLooks := .later }
def FnDivRecursiveCardSaid : Prop := Claim7.holds Tryd.pinned (.plain (OpenSpec.ofChange fnDivRecursiveSpec)) fnDivRecursiveCard

/-- THE TIED CARD OF 'laws.FnDiv'. -/
def fnDivCard : Claim7 := { stood := { row := fnDivRow, standIns := [], harness := (true, "ae06e276b5c35ac4e1ed57c34a1b198d0322b4946e340b91768c643b7068a4eb"), looks := false }, kinds := [], alts := [], laidByText := true, laidKinds := [.data, .data, .data, .data], laidTests := true, laidLooks := .later }
def FnDivCardSaid : Prop := Claim7.holds Tryd.pinned (.plain (OpenSpec.ofChange fnDivSpec)) fnDivCard

/-- THE TIED CARD OF 'laws.FnDivBack'. -/
def fnDivBackCard : Claim7 := { stood := { row := fnDivBackRow, standIns := [], harness := (true, "ae06e276b5c35ac4e1ed57c34a1b198d0322b4946e340b91768c643b7068a4eb"), looks := false }, kinds := [], alts := [], laidByText := true, laidKinds := [.data, .data, .data, .data], laidTests := true, laidLooks := .later }
def FnDivBackCardSaid : Prop := Claim7.holds Tryd.pinned (.plain (OpenSpec.ofChange fnDivBackSpec)) fnDivBackCard

/-- THE TIED CARD OF 'laws.FnMulDiv'. -/
def fnMulDivCard : Claim7 := { stood := { row := fnMulDivRow, standIns := [], harness := (true, "ae06e276b5c35ac4e1ed57c34a1b198d0322b4946e340b91768c643b7068a4eb"), looks := false }, kinds := [], alts := [], laidByText := true, laidKinds := [.data, .data, .data, .data], laidTests := true, laidLooks := .later }
def FnMulDivCardSaid : Prop := Claim7.holds Tryd.pinned (.plain (OpenSpec.ofChange fnMulDivSpec)) fnMulDivCard

/-- THE TIED CARD OF 'laws.FnSqrt'. -/
def fnSqrtCard : Claim7 := { stood := { row := fnSqrtRow, standIns := [], harness := (true, "ae06e276b5c35ac4e1ed57c34a1b198d0322b4946e340b91768c643b7068a4eb"), looks := false }, kinds := [], alts := [], laidByText := true, laidKinds := [.data, .data, .data, .data], laidTests := true, laidLooks := .later }
def FnSqrtCardSaid : Prop := Claim7.holds Tryd.pinned (.plain (OpenSpec.ofChange fnSqrtSpec)) fnSqrtCard

/-- THE SECOND FORM's CARD OF 'laws.FnIsPow2'. -/
def fnIsPow2UptoCard : Claim7 := { stood := { row := fnIsPow2UptoRow, standIns := [], harness := (true, "ae06e276b5c35ac4e1ed57c34a1b198d0322b4946e340b91768c643b7068a4eb"), looks := false }, kinds := [], alts := [], laidByText := true, laidKinds := [.data, .data], laidTests := true, laidLooks := .later }
def FnIsPow2UptoCardSaid : Prop := Claim7.holds Tryd.pinned (.plain (OpenSpec.upto fnIsPow2Spec)) fnIsPow2UptoCard

/-- THE SECOND FORM's CARD OF 'laws.FnBitLen'. -/
def fnBitLenUptoCard : Claim7 := { stood := { row := fnBitLenUptoRow, standIns := [], harness := (true, "ae06e276b5c35ac4e1ed57c34a1b198d0322b4946e340b91768c643b7068a4eb"), looks := false }, kinds := [], alts := [], laidByText := true, laidKinds := [.data, .data], laidTests := true, laidLooks := .later }
def FnBitLenUptoCardSaid : Prop := Claim7.holds Tryd.pinned (.plain (OpenSpec.upto fnBitLenSpec)) fnBitLenUptoCard

/-- THE SECOND FORM's CARD OF 'laws.FnBasicSqr'. -/
def fnBasicSqrUptoCard : Claim7 := { stood := { row := fnBasicSqrUptoRow, standIns := [], harness := (true, "ae06e276b5c35ac4e1ed57c34a1b198d0322b4946e340b91768c643b7068a4eb"), looks := false }, kinds := [], alts := [], laidByText := true, laidKinds := [.data], laidTests := true, laidLooks := .later }
def FnBasicSqrUptoCardSaid : Prop := Claim7.holds Tryd.pinned (.plain (OpenSpec.upto fnBasicSqrSpec)) fnBasicSqrUptoCard

/-- THE SECOND FORM's CARD OF 'laws.FnSqr'. -/
def fnSqrUptoCard : Claim7 := { stood := { row := fnSqrUptoRow, standIns := [], harness := (true, "ae06e276b5c35ac4e1ed57c34a1b198d0322b4946e340b91768c643b7068a4eb"), looks := false }, kinds := [], alts := [], laidByText := true, laidKinds := [.data, .data], laidTests := true, laidLooks := .later }
def FnSqrUptoCardSaid : Prop := Claim7.holds Tryd.pinned (.plain (OpenSpec.upto fnSqrSpec)) fnSqrUptoCard

/-- THE SECOND FORM's CARD OF 'laws.FnMul'. -/
def fnMulUptoCard : Claim7 := { stood := { row := fnMulUptoRow, standIns := [], harness := (true, "ae06e276b5c35ac4e1ed57c34a1b198d0322b4946e340b91768c643b7068a4eb"), looks := false }, kinds := [], alts := [], laidByText := true, laidKinds := [.data, .data, .data], laidTests := true, laidLooks := .later }
def FnMulUptoCardSaid : Prop := Claim7.holds Tryd.pinned (.plain (OpenSpec.upto fnMulSpec)) fnMulUptoCard

/-- THE SECOND FORM's CARD OF 'laws.FnKaratsuba'. -/
def fnKaratsubaUptoCard : Claim7 := { stood := { row := fnKaratsubaUptoRow, standIns := [], harness := (true, "ae06e276b5c35ac4e1ed57c34a1b198d0322b4946e340b91768c643b7068a4eb"), looks := false }, kinds := [], alts := [], laidByText := true, laidKinds := [.data, .data, .data], laidTests := true, laidLooks := .later }
def FnKaratsubaUptoCardSaid : Prop := Claim7.holds Tryd.pinned (.plain (OpenSpec.upto fnKaratsubaSpec)) fnKaratsubaUptoCard

/-- THE SECOND FORM's CARD OF 'laws.FnDistribute'. -/
def fnDistributeUptoCard : Claim7 := { stood := { row := fnDistributeUptoRow, standIns := [], harness := (true, "ae06e276b5c35ac4e1ed57c34a1b198d0322b4946e340b91768c643b7068a4eb"), looks := false }, kinds := [], alts := [], laidByText := true, laidKinds := [.data, .data, .data], laidTests := true, laidLooks := .later }
def FnDistributeUptoCardSaid : Prop := Claim7.holds Tryd.pinned (.plain (OpenSpec.upto fnDistributeSpec)) fnDistributeUptoCard

/-- THE SECOND FORM's CARD OF 'laws.FnMulRoads'. -/
def fnMulRoadsUptoCard : Claim7 := { stood := { row := fnMulRoadsUptoRow, standIns := [], harness := (true, "ae06e276b5c35ac4e1ed57c34a1b198d0322b4946e340b91768c643b7068a4eb"), looks := false }, kinds := [], alts := [], laidByText := true, laidKinds := [.data, .data, .data], laidTests := true, laidLooks := .later }
def FnMulRoadsUptoCardSaid : Prop := Claim7.holds Tryd.pinned (.plain (OpenSpec.upto fnMulRoadsSpec)) fnMulRoadsUptoCard

/-- THE SECOND FORM's CARD OF 'laws.FnBinomial'. -/
def fnBinomialUptoCard : Claim7 := { stood := { row := fnBinomialUptoRow, standIns := [], harness := (true, "ae06e276b5c35ac4e1ed57c34a1b198d0322b4946e340b91768c643b7068a4eb"), looks := false }, kinds := [], alts := [], laidByText := true, laidKinds := [.data, .data, .data], laidTests := true, laidLooks := .later }
def FnBinomialUptoCardSaid : Prop := Claim7.holds Tryd.pinned (.plain (OpenSpec.upto fnBinomialSpec)) fnBinomialUptoCard

/-- THE SECOND FORM's CARD OF 'laws.FnDivRecursive'. -/
def fnDivRecursiveUptoCard : Claim7 := { stood := { row := fnDivRecursiveUptoRow, standIns := [], harness := (true, "ae06e276b5c35ac4e1ed57c34a1b198d0322b4946e340b91768c643b7068a4eb"), looks := false }, kinds := [], alts := [], laidByText := true, laidKinds := [.data, .data, .data, .data], laidTests := true, laidLooks := .later }
def FnDivRecursiveUptoCardSaid : Prop := Claim7.holds Tryd.pinned (.plain (OpenSpec.upto fnDivRecursiveSpec)) fnDivRecursiveUptoCard

/-- THE SECOND FORM's CARD OF 'laws.FnDiv'. -/
def fnDivUptoCard : Claim7 := { stood := { row := fnDivUptoRow, standIns := [], harness := (true, "ae06e276b5c35ac4e1ed57c34a1b198d0322b4946e340b91768c643b7068a4eb"), looks := false }, kinds := [], alts := [], laidByText := true, laidKinds := [.data, .data, .data, .data], laidTests := true, laidLooks := .later }
def FnDivUptoCardSaid : Prop := Claim7.holds Tryd.pinned (.plain (OpenSpec.upto fnDivSpec)) fnDivUptoCard

/-- THE SECOND FORM's CARD OF 'laws.FnDivBack'. -/
def fnDivBackUptoCard : Claim7 := { stood := { row := fnDivBackUptoRow, standIns := [], harness := (true, "ae06e276b5c35ac4e1ed57c34a1b198d0322b4946e340b91768c643b7068a4eb"), looks := false }, kinds := [], alts := [], laidByText := true, laidKinds := [.data, .data, .data, .data], laidTests := true, laidLooks := .later }
def FnDivBackUptoCardSaid : Prop := Claim7.holds Tryd.pinned (.plain (OpenSpec.upto fnDivBackSpec)) fnDivBackUptoCard

/-- THE SECOND FORM's CARD OF 'laws.FnMulDiv'. -/
def fnMulDivUptoCard : Claim7 := { stood := { row := fnMulDivUptoRow, standIns := [], harness := (true, "ae06e276b5c35ac4e1ed57c34a1b198d0322b4946e340b91768c643b7068a4eb"), looks := false }, kinds := [], alts := [], laidByText := true, laidKinds := [.data, .data, .data, .data], laidTests := true, laidLooks := .later }
def FnMulDivUptoCardSaid : Prop := Claim7.holds Tryd.pinned (.plain (OpenSpec.upto fnMulDivSpec)) fnMulDivUptoCard

/-- THE SECOND FORM's CARD OF 'laws.FnSqrt'. -/
def fnSqrtUptoCard : Claim7 := { stood := { row := fnSqrtUptoRow, standIns := [], harness := (true, "ae06e276b5c35ac4e1ed57c34a1b198d0322b4946e340b91768c643b7068a4eb"), looks := false }, kinds := [], alts := [], laidByText := true, laidKinds := [.data, .data, .data, .data], laidTests := true, laidLooks := .later }
def FnSqrtUptoCardSaid : Prop := Claim7.holds Tryd.pinned (.plain (OpenSpec.upto fnSqrtSpec)) fnSqrtUptoCard
end Rows
end Go.Proofs.YtknokndpeneogaaDoor
