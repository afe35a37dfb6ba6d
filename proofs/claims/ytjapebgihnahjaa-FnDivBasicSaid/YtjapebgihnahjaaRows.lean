/-
  No cell of these rows narrows 'for every input' (looked for: loops, veiled, ifaces, maps, wideKeys, modest, calm, conditions, laid).
  DERIVED. THE GIVEN ROWS OF THIS SEAT. 17 by the template 'for every input the law returns true; each argument reads behind the call as it read before'; 0 by the template 'total and deterministic' (their statements: YtjapebgihnahjaaTotals.lean).
  GIVEN WITH THE SEED: the statements are not yours to turn. If you find one false, say at which input.
  Laid BY PROGRAM, IN A SANDBOX (cutbox-rows.mjs): the forced cells as the released guide's own fill.sh prints them over the translation 04a356eeb91fd1b9… (all of the seat's roots in one cut). By AI agents, Wed Nov 11 2026. No macro, syntax, notation, axiom, sorry.
-/
import Derived.Test.YtjapebgihnahjaaChecked
import GoSem.Claim
import GoSem.ClaimJoined
import GoSem.ClaimMapViews
import Derived.JoinedTies
import Derived.KernelRfl
namespace Go.Proofs.Ytjapebgihnahjaa
/- THE CELL 'sum', in the pinned program and in every row, IS THE sha256 OF THE DUMP (.gsa) THAT YtjapebgihnahjaaProg.lean LOADS. Nothing in Lean hashes anything: it is a label: what it is worth is what the hold of that sum in a sandbox is worth. -/
noncomputable def Try.pinned : Pinned := { name := "ytjapebgihnahjaa", sum := "04a356eeb91fd1b9b5172a449b80073ef30366d68d933e4553e205748c31d45a", checked := Try.checked }
namespace Rows
def none {H : Type} : Left H := { results := [], args := [] }

/-- 'laws.FnSticky': WHATEVER THE INPUT: true; the input reads as it did. -/
def fnStickySpec : ChangeSpec := { name := "fnSticky", fn := fun _ => fun
  | [d1, d2] => { results := [.lit (.bool true)], args := [d1, d2] }
  | _ => none }
def fnStickyRow : OpenClaim := { program := "ytjapebgihnahjaa", sum := "04a356eeb91fd1b9b5172a449b80073ef30366d68d933e4553e205748c31d45a", func := "loop.example/pub-g03246/laws.FnSticky", spec := "fnSticky", apart := false }
def FnStickySaid : Prop := fnStickyRow.holds Try.pinned (OpenSpec.ofChange fnStickySpec)

/-- ITS FALSE NEIGHBOUR: 'it returns false'. Refute it at one input. -/
def fnStickyWrong : ChangeSpec := { name := "fnSticky", fn := fun _ => fun
  | [d1, d2] => { results := [.lit (.bool false)], args := [d1, d2] }
  | _ => none }
def FnStickyWrongFalsely : Prop := fnStickyRow.holds Try.pinned (OpenSpec.ofChange fnStickyWrong)

/-- 'laws.FnBytes': WHATEVER THE INPUT: true; the input reads as it did. -/
def fnBytesSpec : ChangeSpec := { name := "fnBytes", fn := fun _ => fun
  | [d] => { results := [.lit (.bool true)], args := [d] }
  | _ => none }
def fnBytesRow : OpenClaim := { program := "ytjapebgihnahjaa", sum := "04a356eeb91fd1b9b5172a449b80073ef30366d68d933e4553e205748c31d45a", func := "loop.example/pub-g03246/laws.FnBytes", spec := "fnBytes", apart := false }
def FnBytesSaid : Prop := fnBytesRow.holds Try.pinned (OpenSpec.ofChange fnBytesSpec)

/-- ITS FALSE NEIGHBOUR: 'it returns false'. Refute it at one input. -/
def fnBytesWrong : ChangeSpec := { name := "fnBytes", fn := fun _ => fun
  | [d] => { results := [.lit (.bool false)], args := [d] }
  | _ => none }
def FnBytesWrongFalsely : Prop := fnBytesRow.holds Try.pinned (OpenSpec.ofChange fnBytesWrong)

/-- 'laws.FnTrunc': WHATEVER THE INPUT: true; the input reads as it did. -/
def fnTruncSpec : ChangeSpec := { name := "fnTrunc", fn := fun _ => fun
  | [d1, d2] => { results := [.lit (.bool true)], args := [d1, d2] }
  | _ => none }
def fnTruncRow : OpenClaim := { program := "ytjapebgihnahjaa", sum := "04a356eeb91fd1b9b5172a449b80073ef30366d68d933e4553e205748c31d45a", func := "loop.example/pub-g03246/laws.FnTrunc", spec := "fnTrunc", apart := false }
def FnTruncSaid : Prop := fnTruncRow.holds Try.pinned (OpenSpec.ofChange fnTruncSpec)

/-- ITS FALSE NEIGHBOUR: 'it returns false'. Refute it at one input. -/
def fnTruncWrong : ChangeSpec := { name := "fnTrunc", fn := fun _ => fun
  | [d1, d2] => { results := [.lit (.bool false)], args := [d1, d2] }
  | _ => none }
def FnTruncWrongFalsely : Prop := fnTruncRow.holds Try.pinned (OpenSpec.ofChange fnTruncWrong)

/-- 'laws.FnSetBytes': WHATEVER THE INPUT: true; the input reads as it did. -/
def fnSetBytesSpec : ChangeSpec := { name := "fnSetBytes", fn := fun _ => fun
  | [d] => { results := [.lit (.bool true)], args := [d] }
  | _ => none }
def fnSetBytesRow : OpenClaim := { program := "ytjapebgihnahjaa", sum := "04a356eeb91fd1b9b5172a449b80073ef30366d68d933e4553e205748c31d45a", func := "loop.example/pub-g03246/laws.FnSetBytes", spec := "fnSetBytes", apart := false }
def FnSetBytesSaid : Prop := fnSetBytesRow.holds Try.pinned (OpenSpec.ofChange fnSetBytesSpec)

/-- ITS FALSE NEIGHBOUR: 'it returns false'. Refute it at one input. -/
def fnSetBytesWrong : ChangeSpec := { name := "fnSetBytes", fn := fun _ => fun
  | [d] => { results := [.lit (.bool false)], args := [d] }
  | _ => none }
def FnSetBytesWrongFalsely : Prop := fnSetBytesRow.holds Try.pinned (OpenSpec.ofChange fnSetBytesWrong)

/-- 'laws.FnSetBit': WHATEVER THE INPUT: true; the input reads as it did. -/
def fnSetBitSpec : ChangeSpec := { name := "fnSetBit", fn := fun _ => fun
  | [d1, d2, d3] => { results := [.lit (.bool true)], args := [d1, d2, d3] }
  | _ => none }
def fnSetBitRow : OpenClaim := { program := "ytjapebgihnahjaa", sum := "04a356eeb91fd1b9b5172a449b80073ef30366d68d933e4553e205748c31d45a", func := "loop.example/pub-g03246/laws.FnSetBit", spec := "fnSetBit", apart := false }
def FnSetBitSaid : Prop := fnSetBitRow.holds Try.pinned (OpenSpec.ofChange fnSetBitSpec)

/-- ITS FALSE NEIGHBOUR: 'it returns false'. Refute it at one input. -/
def fnSetBitWrong : ChangeSpec := { name := "fnSetBit", fn := fun _ => fun
  | [d1, d2, d3] => { results := [.lit (.bool false)], args := [d1, d2, d3] }
  | _ => none }
def FnSetBitWrongFalsely : Prop := fnSetBitRow.holds Try.pinned (OpenSpec.ofChange fnSetBitWrong)

/-- 'laws.FnReciprocal': WHATEVER THE INPUT: true; the input reads as it did. -/
def fnReciprocalSpec : ChangeSpec := { name := "fnReciprocal", fn := fun _ => fun
  | [d] => { results := [.lit (.bool true)], args := [d] }
  | _ => none }
def fnReciprocalRow : OpenClaim := { program := "ytjapebgihnahjaa", sum := "04a356eeb91fd1b9b5172a449b80073ef30366d68d933e4553e205748c31d45a", func := "loop.example/pub-g03246/laws.FnReciprocal", spec := "fnReciprocal", apart := false }
def FnReciprocalSaid : Prop := fnReciprocalRow.holds Try.pinned (OpenSpec.ofChange fnReciprocalSpec)

/-- ITS FALSE NEIGHBOUR: 'it returns false'. Refute it at one input. -/
def fnReciprocalWrong : ChangeSpec := { name := "fnReciprocal", fn := fun _ => fun
  | [d] => { results := [.lit (.bool false)], args := [d] }
  | _ => none }
def FnReciprocalWrongFalsely : Prop := fnReciprocalRow.holds Try.pinned (OpenSpec.ofChange fnReciprocalWrong)

/-- 'laws.FnBasicMul': WHATEVER THE INPUT: true; the input reads as it did. -/
def fnBasicMulSpec : ChangeSpec := { name := "fnBasicMul", fn := fun _ => fun
  | [d1, d2] => { results := [.lit (.bool true)], args := [d1, d2] }
  | _ => none }
def fnBasicMulRow : OpenClaim := { program := "ytjapebgihnahjaa", sum := "04a356eeb91fd1b9b5172a449b80073ef30366d68d933e4553e205748c31d45a", func := "loop.example/pub-g03246/laws.FnBasicMul", spec := "fnBasicMul", inPlace := ["math/bits.Add64"], apart := false }
def FnBasicMulSaid : Prop := fnBasicMulRow.holds Try.pinned (OpenSpec.ofChange fnBasicMulSpec)

/-- ITS FALSE NEIGHBOUR: 'it returns false'. Refute it at one input. -/
def fnBasicMulWrong : ChangeSpec := { name := "fnBasicMul", fn := fun _ => fun
  | [d1, d2] => { results := [.lit (.bool false)], args := [d1, d2] }
  | _ => none }
def FnBasicMulWrongFalsely : Prop := fnBasicMulRow.holds Try.pinned (OpenSpec.ofChange fnBasicMulWrong)

/-- 'laws.FnRsh': WHATEVER THE INPUT: true; the input reads as it did. -/
def fnRshSpec : ChangeSpec := { name := "fnRsh", fn := fun _ => fun
  | [d1, d2] => { results := [.lit (.bool true)], args := [d1, d2] }
  | _ => none }
def fnRshRow : OpenClaim := { program := "ytjapebgihnahjaa", sum := "04a356eeb91fd1b9b5172a449b80073ef30366d68d933e4553e205748c31d45a", func := "loop.example/pub-g03246/laws.FnRsh", spec := "fnRsh", apart := false }
def FnRshSaid : Prop := fnRshRow.holds Try.pinned (OpenSpec.ofChange fnRshSpec)

/-- ITS FALSE NEIGHBOUR: 'it returns false'. Refute it at one input. -/
def fnRshWrong : ChangeSpec := { name := "fnRsh", fn := fun _ => fun
  | [d1, d2] => { results := [.lit (.bool false)], args := [d1, d2] }
  | _ => none }
def FnRshWrongFalsely : Prop := fnRshRow.holds Try.pinned (OpenSpec.ofChange fnRshWrong)

/-- 'laws.FnLsh': WHATEVER THE INPUT: true; the input reads as it did. -/
def fnLshSpec : ChangeSpec := { name := "fnLsh", fn := fun _ => fun
  | [d1, d2] => { results := [.lit (.bool true)], args := [d1, d2] }
  | _ => none }
def fnLshRow : OpenClaim := { program := "ytjapebgihnahjaa", sum := "04a356eeb91fd1b9b5172a449b80073ef30366d68d933e4553e205748c31d45a", func := "loop.example/pub-g03246/laws.FnLsh", spec := "fnLsh", apart := false }
def FnLshSaid : Prop := fnLshRow.holds Try.pinned (OpenSpec.ofChange fnLshSpec)

/-- ITS FALSE NEIGHBOUR: 'it returns false'. Refute it at one input. -/
def fnLshWrong : ChangeSpec := { name := "fnLsh", fn := fun _ => fun
  | [d1, d2] => { results := [.lit (.bool false)], args := [d1, d2] }
  | _ => none }
def FnLshWrongFalsely : Prop := fnLshRow.holds Try.pinned (OpenSpec.ofChange fnLshWrong)

/-- 'laws.FnBitwise': WHATEVER THE INPUT: true; the input reads as it did. -/
def fnBitwiseSpec : ChangeSpec := { name := "fnBitwise", fn := fun _ => fun
  | [d1, d2] => { results := [.lit (.bool true)], args := [d1, d2] }
  | _ => none }
def fnBitwiseRow : OpenClaim := { program := "ytjapebgihnahjaa", sum := "04a356eeb91fd1b9b5172a449b80073ef30366d68d933e4553e205748c31d45a", func := "loop.example/pub-g03246/laws.FnBitwise", spec := "fnBitwise", apart := false }
def FnBitwiseSaid : Prop := fnBitwiseRow.holds Try.pinned (OpenSpec.ofChange fnBitwiseSpec)

/-- ITS FALSE NEIGHBOUR: 'it returns false'. Refute it at one input. -/
def fnBitwiseWrong : ChangeSpec := { name := "fnBitwise", fn := fun _ => fun
  | [d1, d2] => { results := [.lit (.bool false)], args := [d1, d2] }
  | _ => none }
def FnBitwiseWrongFalsely : Prop := fnBitwiseRow.holds Try.pinned (OpenSpec.ofChange fnBitwiseWrong)

/-- 'laws.FnAdd': WHATEVER THE INPUT: true; the input reads as it did. -/
def fnAddSpec : ChangeSpec := { name := "fnAdd", fn := fun _ => fun
  | [d1, d2] => { results := [.lit (.bool true)], args := [d1, d2] }
  | _ => none }
def fnAddRow : OpenClaim := { program := "ytjapebgihnahjaa", sum := "04a356eeb91fd1b9b5172a449b80073ef30366d68d933e4553e205748c31d45a", func := "loop.example/pub-g03246/laws.FnAdd", spec := "fnAdd", inPlace := ["math/bits.Add64"], recurses := true, apart := false }
def FnAddSaid : Prop := fnAddRow.holds Try.pinned (OpenSpec.ofChange fnAddSpec)

/-- ITS FALSE NEIGHBOUR: 'it returns false'. Refute it at one input. -/
def fnAddWrong : ChangeSpec := { name := "fnAdd", fn := fun _ => fun
  | [d1, d2] => { results := [.lit (.bool false)], args := [d1, d2] }
  | _ => none }
def FnAddWrongFalsely : Prop := fnAddRow.holds Try.pinned (OpenSpec.ofChange fnAddWrong)

/-- 'laws.FnShifts': WHATEVER THE INPUT: true; the input reads as it did. -/
def fnShiftsSpec : ChangeSpec := { name := "fnShifts", fn := fun _ => fun
  | [d1, d2] => { results := [.lit (.bool true)], args := [d1, d2] }
  | _ => none }
def fnShiftsRow : OpenClaim := { program := "ytjapebgihnahjaa", sum := "04a356eeb91fd1b9b5172a449b80073ef30366d68d933e4553e205748c31d45a", func := "loop.example/pub-g03246/laws.FnShifts", spec := "fnShifts", apart := false }
def FnShiftsSaid : Prop := fnShiftsRow.holds Try.pinned (OpenSpec.ofChange fnShiftsSpec)

/-- ITS FALSE NEIGHBOUR: 'it returns false'. Refute it at one input. -/
def fnShiftsWrong : ChangeSpec := { name := "fnShifts", fn := fun _ => fun
  | [d1, d2] => { results := [.lit (.bool false)], args := [d1, d2] }
  | _ => none }
def FnShiftsWrongFalsely : Prop := fnShiftsRow.holds Try.pinned (OpenSpec.ofChange fnShiftsWrong)

/-- 'laws.FnSub': WHATEVER THE INPUT: true; the input reads as it did. -/
def fnSubSpec : ChangeSpec := { name := "fnSub", fn := fun _ => fun
  | [d1, d2] => { results := [.lit (.bool true)], args := [d1, d2] }
  | _ => none }
def fnSubRow : OpenClaim := { program := "ytjapebgihnahjaa", sum := "04a356eeb91fd1b9b5172a449b80073ef30366d68d933e4553e205748c31d45a", func := "loop.example/pub-g03246/laws.FnSub", spec := "fnSub", inPlace := ["math/bits.Sub64"], apart := false }
def FnSubSaid : Prop := fnSubRow.holds Try.pinned (OpenSpec.ofChange fnSubSpec)

/-- ITS FALSE NEIGHBOUR: 'it returns false'. Refute it at one input. -/
def fnSubWrong : ChangeSpec := { name := "fnSub", fn := fun _ => fun
  | [d1, d2] => { results := [.lit (.bool false)], args := [d1, d2] }
  | _ => none }
def FnSubWrongFalsely : Prop := fnSubRow.holds Try.pinned (OpenSpec.ofChange fnSubWrong)

/-- 'laws.FnMontgomery': WHATEVER THE INPUT: true; the input reads as it did. -/
def fnMontgomerySpec : ChangeSpec := { name := "fnMontgomery", fn := fun _ => fun
  | [d1, d2, d3] => { results := [.lit (.bool true)], args := [d1, d2, d3] }
  | _ => none }
def fnMontgomeryRow : OpenClaim := { program := "ytjapebgihnahjaa", sum := "04a356eeb91fd1b9b5172a449b80073ef30366d68d933e4553e205748c31d45a", func := "loop.example/pub-g03246/laws.FnMontgomery", spec := "fnMontgomery", inPlace := ["math/bits.Add64", "math/bits.Sub64"], apart := false }
def FnMontgomerySaid : Prop := fnMontgomeryRow.holds Try.pinned (OpenSpec.ofChange fnMontgomerySpec)

/-- ITS FALSE NEIGHBOUR: 'it returns false'. Refute it at one input. -/
def fnMontgomeryWrong : ChangeSpec := { name := "fnMontgomery", fn := fun _ => fun
  | [d1, d2, d3] => { results := [.lit (.bool false)], args := [d1, d2, d3] }
  | _ => none }
def FnMontgomeryWrongFalsely : Prop := fnMontgomeryRow.holds Try.pinned (OpenSpec.ofChange fnMontgomeryWrong)

/-- 'laws.FnDivWW': WHATEVER THE INPUT: true; the input reads as it did. -/
def fnDivWWSpec : ChangeSpec := { name := "fnDivWW", fn := fun _ => fun
  | [d1, d2, d3] => { results := [.lit (.bool true)], args := [d1, d2, d3] }
  | _ => none }
def fnDivWWRow : OpenClaim := { program := "ytjapebgihnahjaa", sum := "04a356eeb91fd1b9b5172a449b80073ef30366d68d933e4553e205748c31d45a", func := "loop.example/pub-g03246/laws.FnDivWW", spec := "fnDivWW", inPlace := ["math/bits.Add64", "math/bits.Sub64"], apart := false }
def FnDivWWSaid : Prop := fnDivWWRow.holds Try.pinned (OpenSpec.ofChange fnDivWWSpec)

/-- ITS FALSE NEIGHBOUR: 'it returns false'. Refute it at one input. -/
def fnDivWWWrong : ChangeSpec := { name := "fnDivWW", fn := fun _ => fun
  | [d1, d2, d3] => { results := [.lit (.bool false)], args := [d1, d2, d3] }
  | _ => none }
def FnDivWWWrongFalsely : Prop := fnDivWWRow.holds Try.pinned (OpenSpec.ofChange fnDivWWWrong)

/-- 'laws.FnDivW': WHATEVER THE INPUT: true; the input reads as it did. -/
def fnDivWSpec : ChangeSpec := { name := "fnDivW", fn := fun _ => fun
  | [d1, d2] => { results := [.lit (.bool true)], args := [d1, d2] }
  | _ => none }
def fnDivWRow : OpenClaim := { program := "ytjapebgihnahjaa", sum := "04a356eeb91fd1b9b5172a449b80073ef30366d68d933e4553e205748c31d45a", func := "loop.example/pub-g03246/laws.FnDivW", spec := "fnDivW", inPlace := ["math/bits.Add64", "math/bits.Sub64"], apart := false }
def FnDivWSaid : Prop := fnDivWRow.holds Try.pinned (OpenSpec.ofChange fnDivWSpec)

/-- ITS FALSE NEIGHBOUR: 'it returns false'. Refute it at one input. -/
def fnDivWWrong : ChangeSpec := { name := "fnDivW", fn := fun _ => fun
  | [d1, d2] => { results := [.lit (.bool false)], args := [d1, d2] }
  | _ => none }
def FnDivWWrongFalsely : Prop := fnDivWRow.holds Try.pinned (OpenSpec.ofChange fnDivWWrong)

/-- 'laws.FnDivBasic': WHATEVER THE INPUT: true; the input reads as it did. -/
def fnDivBasicSpec : ChangeSpec := { name := "fnDivBasic", fn := fun _ => fun
  | [d1, d2] => { results := [.lit (.bool true)], args := [d1, d2] }
  | _ => none }
def fnDivBasicRow : OpenClaim := { program := "ytjapebgihnahjaa", sum := "04a356eeb91fd1b9b5172a449b80073ef30366d68d933e4553e205748c31d45a", func := "loop.example/pub-g03246/laws.FnDivBasic", spec := "fnDivBasic", inPlace := ["math/bits.Add64", "math/bits.Sub64"], apart := false }
def FnDivBasicSaid : Prop := fnDivBasicRow.holds Try.pinned (OpenSpec.ofChange fnDivBasicSpec)

/-- ITS FALSE NEIGHBOUR: 'it returns false'. Refute it at one input. -/
def fnDivBasicWrong : ChangeSpec := { name := "fnDivBasic", fn := fun _ => fun
  | [d1, d2] => { results := [.lit (.bool false)], args := [d1, d2] }
  | _ => none }
def FnDivBasicWrongFalsely : Prop := fnDivBasicRow.holds Try.pinned (OpenSpec.ofChange fnDivBasicWrong)

/- THE SECOND FORM. 'bulk': how many values and letters a reading holds, each counted each time it is reached (what is shared counts as often as it is met; a slice's spare places count too). A statement '..UptoSaid' is the law's where the arguments, and the package variables that the reading takes, are together of bulk at most 1048576: NARROWER than '..Said'. Prove '..Said' where nothing that the law and all that it calls make is longer than what came in: it says more and counts as full. Else prove '..UptoSaid'. A law counts once. -/
mutual
def uptoBulk {H : Type} : DataW H → Nat
  | .lit (.string bytes) => bytes.length + 1
  | .lit _ => 1
  | .nil => 1
  | .ptr d => uptoBulk d + 1
  | .slice elems spare => uptoBulkAll elems + uptoBulkAll spare + 1
  | .agg parts => uptoBulkAll parts + 1
  | .iface _ d => uptoBulk d + 1
  | .map entries => uptoBulkEntries entries + 1
  | .held _ => 1
def uptoBulkAll {H : Type} : List (DataW H) → Nat
  | [] => 0
  | d :: r => uptoBulk d + uptoBulkAll r
def uptoBulkEntries {H : Type} : List (Lit × DataW H) → Nat
  | [] => 0
  | x :: r => uptoBulkEntry x + uptoBulkEntries r
def uptoBulkEntry {H : Type} : Lit × DataW H → Nat
  | (.string bytes, d) => bytes.length + uptoBulk d + 1
  | (_, d) => uptoBulk d + 1
 end
def uptoSmall : (H : Type) → List (DataW H) → Bool := fun _ ds => decide (uptoBulkAll ds ≤ 1048576)
def OpenSpec.upto (s : _root_.Go.ChangeSpec) : _root_.Go.OpenSpec := { _root_.Go.OpenSpec.ofChange s with cond := some uptoSmall }

/-- 'laws.FnSticky', WHERE WHAT IT READS IS OF BULK AT MOST 1048576: true; the input reads as it did. -/
def fnStickyUptoRow : OpenClaim := { program := "ytjapebgihnahjaa", sum := "04a356eeb91fd1b9b5172a449b80073ef30366d68d933e4553e205748c31d45a", func := "loop.example/pub-g03246/laws.FnSticky", spec := "fnSticky", apart := false, narrowed := true }
def FnStickyUptoSaid : Prop := fnStickyUptoRow.holds Try.pinned (OpenSpec.upto fnStickySpec)

/-- 'laws.FnBytes', WHERE WHAT IT READS IS OF BULK AT MOST 1048576: true; the input reads as it did. -/
def fnBytesUptoRow : OpenClaim := { program := "ytjapebgihnahjaa", sum := "04a356eeb91fd1b9b5172a449b80073ef30366d68d933e4553e205748c31d45a", func := "loop.example/pub-g03246/laws.FnBytes", spec := "fnBytes", apart := false, narrowed := true }
def FnBytesUptoSaid : Prop := fnBytesUptoRow.holds Try.pinned (OpenSpec.upto fnBytesSpec)

/-- 'laws.FnTrunc', WHERE WHAT IT READS IS OF BULK AT MOST 1048576: true; the input reads as it did. -/
def fnTruncUptoRow : OpenClaim := { program := "ytjapebgihnahjaa", sum := "04a356eeb91fd1b9b5172a449b80073ef30366d68d933e4553e205748c31d45a", func := "loop.example/pub-g03246/laws.FnTrunc", spec := "fnTrunc", apart := false, narrowed := true }
def FnTruncUptoSaid : Prop := fnTruncUptoRow.holds Try.pinned (OpenSpec.upto fnTruncSpec)

/-- 'laws.FnSetBytes', WHERE WHAT IT READS IS OF BULK AT MOST 1048576: true; the input reads as it did. -/
def fnSetBytesUptoRow : OpenClaim := { program := "ytjapebgihnahjaa", sum := "04a356eeb91fd1b9b5172a449b80073ef30366d68d933e4553e205748c31d45a", func := "loop.example/pub-g03246/laws.FnSetBytes", spec := "fnSetBytes", apart := false, narrowed := true }
def FnSetBytesUptoSaid : Prop := fnSetBytesUptoRow.holds Try.pinned (OpenSpec.upto fnSetBytesSpec)

/-- 'laws.FnSetBit', WHERE WHAT IT READS IS OF BULK AT MOST 1048576: true; the input reads as it did. -/
def fnSetBitUptoRow : OpenClaim := { program := "ytjapebgihnahjaa", sum := "04a356eeb91fd1b9b5172a449b80073ef30366d68d933e4553e205748c31d45a", func := "loop.example/pub-g03246/laws.FnSetBit", spec := "fnSetBit", apart := false, narrowed := true }
def FnSetBitUptoSaid : Prop := fnSetBitUptoRow.holds Try.pinned (OpenSpec.upto fnSetBitSpec)

/-- 'laws.FnReciprocal', WHERE WHAT IT READS IS OF BULK AT MOST 1048576: true; the input reads as it did. -/
def fnReciprocalUptoRow : OpenClaim := { program := "ytjapebgihnahjaa", sum := "04a356eeb91fd1b9b5172a449b80073ef30366d68d933e4553e205748c31d45a", func := "loop.example/pub-g03246/laws.FnReciprocal", spec := "fnReciprocal", apart := false, narrowed := true }
def FnReciprocalUptoSaid : Prop := fnReciprocalUptoRow.holds Try.pinned (OpenSpec.upto fnReciprocalSpec)

/-- 'laws.FnBasicMul', WHERE WHAT IT READS IS OF BULK AT MOST 1048576: true; the input reads as it did. -/
def fnBasicMulUptoRow : OpenClaim := { program := "ytjapebgihnahjaa", sum := "04a356eeb91fd1b9b5172a449b80073ef30366d68d933e4553e205748c31d45a", func := "loop.example/pub-g03246/laws.FnBasicMul", spec := "fnBasicMul", inPlace := ["math/bits.Add64"], apart := false, narrowed := true }
def FnBasicMulUptoSaid : Prop := fnBasicMulUptoRow.holds Try.pinned (OpenSpec.upto fnBasicMulSpec)

/-- 'laws.FnRsh', WHERE WHAT IT READS IS OF BULK AT MOST 1048576: true; the input reads as it did. -/
def fnRshUptoRow : OpenClaim := { program := "ytjapebgihnahjaa", sum := "04a356eeb91fd1b9b5172a449b80073ef30366d68d933e4553e205748c31d45a", func := "loop.example/pub-g03246/laws.FnRsh", spec := "fnRsh", apart := false, narrowed := true }
def FnRshUptoSaid : Prop := fnRshUptoRow.holds Try.pinned (OpenSpec.upto fnRshSpec)

/-- 'laws.FnLsh', WHERE WHAT IT READS IS OF BULK AT MOST 1048576: true; the input reads as it did. -/
def fnLshUptoRow : OpenClaim := { program := "ytjapebgihnahjaa", sum := "04a356eeb91fd1b9b5172a449b80073ef30366d68d933e4553e205748c31d45a", func := "loop.example/pub-g03246/laws.FnLsh", spec := "fnLsh", apart := false, narrowed := true }
def FnLshUptoSaid : Prop := fnLshUptoRow.holds Try.pinned (OpenSpec.upto fnLshSpec)

/-- 'laws.FnBitwise', WHERE WHAT IT READS IS OF BULK AT MOST 1048576: true; the input reads as it did. -/
def fnBitwiseUptoRow : OpenClaim := { program := "ytjapebgihnahjaa", sum := "04a356eeb91fd1b9b5172a449b80073ef30366d68d933e4553e205748c31d45a", func := "loop.example/pub-g03246/laws.FnBitwise", spec := "fnBitwise", apart := false, narrowed := true }
def FnBitwiseUptoSaid : Prop := fnBitwiseUptoRow.holds Try.pinned (OpenSpec.upto fnBitwiseSpec)

/-- 'laws.FnAdd', WHERE WHAT IT READS IS OF BULK AT MOST 1048576: true; the input reads as it did. -/
def fnAddUptoRow : OpenClaim := { program := "ytjapebgihnahjaa", sum := "04a356eeb91fd1b9b5172a449b80073ef30366d68d933e4553e205748c31d45a", func := "loop.example/pub-g03246/laws.FnAdd", spec := "fnAdd", inPlace := ["math/bits.Add64"], recurses := true, apart := false, narrowed := true }
def FnAddUptoSaid : Prop := fnAddUptoRow.holds Try.pinned (OpenSpec.upto fnAddSpec)

/-- 'laws.FnShifts', WHERE WHAT IT READS IS OF BULK AT MOST 1048576: true; the input reads as it did. -/
def fnShiftsUptoRow : OpenClaim := { program := "ytjapebgihnahjaa", sum := "04a356eeb91fd1b9b5172a449b80073ef30366d68d933e4553e205748c31d45a", func := "loop.example/pub-g03246/laws.FnShifts", spec := "fnShifts", apart := false, narrowed := true }
def FnShiftsUptoSaid : Prop := fnShiftsUptoRow.holds Try.pinned (OpenSpec.upto fnShiftsSpec)

/-- 'laws.FnSub', WHERE WHAT IT READS IS OF BULK AT MOST 1048576: true; the input reads as it did. -/
def fnSubUptoRow : OpenClaim := { program := "ytjapebgihnahjaa", sum := "04a356eeb91fd1b9b5172a449b80073ef30366d68d933e4553e205748c31d45a", func := "loop.example/pub-g03246/laws.FnSub", spec := "fnSub", inPlace := ["math/bits.Sub64"], apart := false, narrowed := true }
def FnSubUptoSaid : Prop := fnSubUptoRow.holds Try.pinned (OpenSpec.upto fnSubSpec)

/-- 'laws.FnMontgomery', WHERE WHAT IT READS IS OF BULK AT MOST 1048576: true; the input reads as it did. -/
def fnMontgomeryUptoRow : OpenClaim := { program := "ytjapebgihnahjaa", sum := "04a356eeb91fd1b9b5172a449b80073ef30366d68d933e4553e205748c31d45a", func := "loop.example/pub-g03246/laws.FnMontgomery", spec := "fnMontgomery", inPlace := ["math/bits.Add64", "math/bits.Sub64"], apart := false, narrowed := true }
def FnMontgomeryUptoSaid : Prop := fnMontgomeryUptoRow.holds Try.pinned (OpenSpec.upto fnMontgomerySpec)

/-- 'laws.FnDivWW', WHERE WHAT IT READS IS OF BULK AT MOST 1048576: true; the input reads as it did. -/
def fnDivWWUptoRow : OpenClaim := { program := "ytjapebgihnahjaa", sum := "04a356eeb91fd1b9b5172a449b80073ef30366d68d933e4553e205748c31d45a", func := "loop.example/pub-g03246/laws.FnDivWW", spec := "fnDivWW", inPlace := ["math/bits.Add64", "math/bits.Sub64"], apart := false, narrowed := true }
def FnDivWWUptoSaid : Prop := fnDivWWUptoRow.holds Try.pinned (OpenSpec.upto fnDivWWSpec)

/-- 'laws.FnDivW', WHERE WHAT IT READS IS OF BULK AT MOST 1048576: true; the input reads as it did. -/
def fnDivWUptoRow : OpenClaim := { program := "ytjapebgihnahjaa", sum := "04a356eeb91fd1b9b5172a449b80073ef30366d68d933e4553e205748c31d45a", func := "loop.example/pub-g03246/laws.FnDivW", spec := "fnDivW", inPlace := ["math/bits.Add64", "math/bits.Sub64"], apart := false, narrowed := true }
def FnDivWUptoSaid : Prop := fnDivWUptoRow.holds Try.pinned (OpenSpec.upto fnDivWSpec)

/-- 'laws.FnDivBasic', WHERE WHAT IT READS IS OF BULK AT MOST 1048576: true; the input reads as it did. -/
def fnDivBasicUptoRow : OpenClaim := { program := "ytjapebgihnahjaa", sum := "04a356eeb91fd1b9b5172a449b80073ef30366d68d933e4553e205748c31d45a", func := "loop.example/pub-g03246/laws.FnDivBasic", spec := "fnDivBasic", inPlace := ["math/bits.Add64", "math/bits.Sub64"], apart := false, narrowed := true }
def FnDivBasicUptoSaid : Prop := fnDivBasicUptoRow.holds Try.pinned (OpenSpec.upto fnDivBasicSpec)

end Rows
end Go.Proofs.Ytjapebgihnahjaa
