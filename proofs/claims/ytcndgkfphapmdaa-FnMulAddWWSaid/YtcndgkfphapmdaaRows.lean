/-
  No cell of these rows narrows 'for every input' (looked for: loops, veiled, ifaces, maps, wideKeys, modest, calm, conditions, laid).
  DERIVED. THE GIVEN ROWS OF THIS SEAT. 11 by the template 'for every input the law returns true; each argument reads behind the call as it read before'; 0 by the template 'total and deterministic' (their statements: YtcndgkfphapmdaaTotals.lean).
  GIVEN WITH THE SEED: the statements are not yours to turn. If you find one false, say at which input.
  Laid BY PROGRAM, IN A SANDBOX (cutbox-rows.mjs): the forced cells as the released guide's own fill.sh prints them over the translation b5aafd2615a7313b… (all of the seat's roots in one cut). By AI agents, Wed Nov 11 2026. No macro, syntax, notation, axiom, sorry.
-/
import Derived.Test.YtcndgkfphapmdaaChecked
import GoSem.Claim
import GoSem.ClaimJoined
import GoSem.ClaimMapViews
import Derived.JoinedTies
import Derived.KernelRfl
namespace Go.Proofs.Ytcndgkfphapmdaa
/- THE CELL 'sum', in the pinned program and in every row, IS THE sha256 OF THE DUMP (.gsa) THAT YtcndgkfphapmdaaProg.lean LOADS. Nothing in Lean hashes anything: it is a label: what it is worth is what the hold of that sum in a sandbox is worth. -/
noncomputable def Try.pinned : Pinned := { name := "ytcndgkfphapmdaa", sum := "b5aafd2615a7313b606ef22b315d75f1e5bd71e8c330772fc1bcc47c5805c727", checked := Try.checked }
namespace Rows
def none {H : Type} : Left H := { results := [], args := [] }

/-- 'laws.FnRsh': WHATEVER THE INPUT: true; the input reads as it did. -/
def fnRshSpec : ChangeSpec := { name := "fnRsh", fn := fun _ => fun
  | [d1, d2] => { results := [.lit (.bool true)], args := [d1, d2] }
  | _ => none }
def fnRshRow : OpenClaim := { program := "ytcndgkfphapmdaa", sum := "b5aafd2615a7313b606ef22b315d75f1e5bd71e8c330772fc1bcc47c5805c727", func := "loop.example/pub-g03246/laws.FnRsh", spec := "fnRsh", apart := false }
def FnRshSaid : Prop := fnRshRow.holds Try.pinned (OpenSpec.ofChange fnRshSpec)

/-- ITS FALSE NEIGHBOUR: 'it returns false'. Refute it at one input. -/
def fnRshWrong : ChangeSpec := { name := "fnRsh", fn := fun _ => fun
  | [d1, d2] => { results := [.lit (.bool false)], args := [d1, d2] }
  | _ => none }
def FnRshWrongFalsely : Prop := fnRshRow.holds Try.pinned (OpenSpec.ofChange fnRshWrong)

/-- 'laws.FnLsh': WHATEVER THE INPUT: true; the input reads as it did. -/
def fnLshSpec : ChangeSpec := { name := "fnLsh", fn := fun _ => fun
  | [d1, d2] => { results := [.lit (.bool true)], args := [d1, d2] }
  | _ => none }
def fnLshRow : OpenClaim := { program := "ytcndgkfphapmdaa", sum := "b5aafd2615a7313b606ef22b315d75f1e5bd71e8c330772fc1bcc47c5805c727", func := "loop.example/pub-g03246/laws.FnLsh", spec := "fnLsh", apart := false }
def FnLshSaid : Prop := fnLshRow.holds Try.pinned (OpenSpec.ofChange fnLshSpec)

/-- ITS FALSE NEIGHBOUR: 'it returns false'. Refute it at one input. -/
def fnLshWrong : ChangeSpec := { name := "fnLsh", fn := fun _ => fun
  | [d1, d2] => { results := [.lit (.bool false)], args := [d1, d2] }
  | _ => none }
def FnLshWrongFalsely : Prop := fnLshRow.holds Try.pinned (OpenSpec.ofChange fnLshWrong)

/-- 'laws.FnBitwise': WHATEVER THE INPUT: true; the input reads as it did. -/
def fnBitwiseSpec : ChangeSpec := { name := "fnBitwise", fn := fun _ => fun
  | [d1, d2] => { results := [.lit (.bool true)], args := [d1, d2] }
  | _ => none }
def fnBitwiseRow : OpenClaim := { program := "ytcndgkfphapmdaa", sum := "b5aafd2615a7313b606ef22b315d75f1e5bd71e8c330772fc1bcc47c5805c727", func := "loop.example/pub-g03246/laws.FnBitwise", spec := "fnBitwise", apart := false }
def FnBitwiseSaid : Prop := fnBitwiseRow.holds Try.pinned (OpenSpec.ofChange fnBitwiseSpec)

/-- ITS FALSE NEIGHBOUR: 'it returns false'. Refute it at one input. -/
def fnBitwiseWrong : ChangeSpec := { name := "fnBitwise", fn := fun _ => fun
  | [d1, d2] => { results := [.lit (.bool false)], args := [d1, d2] }
  | _ => none }
def FnBitwiseWrongFalsely : Prop := fnBitwiseRow.holds Try.pinned (OpenSpec.ofChange fnBitwiseWrong)

/-- 'laws.FnMulAddWW': WHATEVER THE INPUT: true; the input reads as it did. -/
def fnMulAddWWSpec : ChangeSpec := { name := "fnMulAddWW", fn := fun _ => fun
  | [d1, d2, d3] => { results := [.lit (.bool true)], args := [d1, d2, d3] }
  | _ => none }
def fnMulAddWWRow : OpenClaim := { program := "ytcndgkfphapmdaa", sum := "b5aafd2615a7313b606ef22b315d75f1e5bd71e8c330772fc1bcc47c5805c727", func := "loop.example/pub-g03246/laws.FnMulAddWW", spec := "fnMulAddWW", inPlace := ["math/bits.Add64"], apart := false }
def FnMulAddWWSaid : Prop := fnMulAddWWRow.holds Try.pinned (OpenSpec.ofChange fnMulAddWWSpec)

/-- ITS FALSE NEIGHBOUR: 'it returns false'. Refute it at one input. -/
def fnMulAddWWWrong : ChangeSpec := { name := "fnMulAddWW", fn := fun _ => fun
  | [d1, d2, d3] => { results := [.lit (.bool false)], args := [d1, d2, d3] }
  | _ => none }
def FnMulAddWWWrongFalsely : Prop := fnMulAddWWRow.holds Try.pinned (OpenSpec.ofChange fnMulAddWWWrong)

/-- 'laws.FnAdd': WHATEVER THE INPUT: true; the input reads as it did. -/
def fnAddSpec : ChangeSpec := { name := "fnAdd", fn := fun _ => fun
  | [d1, d2] => { results := [.lit (.bool true)], args := [d1, d2] }
  | _ => none }
def fnAddRow : OpenClaim := { program := "ytcndgkfphapmdaa", sum := "b5aafd2615a7313b606ef22b315d75f1e5bd71e8c330772fc1bcc47c5805c727", func := "loop.example/pub-g03246/laws.FnAdd", spec := "fnAdd", inPlace := ["math/bits.Add64"], recurses := true, apart := false }
def FnAddSaid : Prop := fnAddRow.holds Try.pinned (OpenSpec.ofChange fnAddSpec)

/-- ITS FALSE NEIGHBOUR: 'it returns false'. Refute it at one input. -/
def fnAddWrong : ChangeSpec := { name := "fnAdd", fn := fun _ => fun
  | [d1, d2] => { results := [.lit (.bool false)], args := [d1, d2] }
  | _ => none }
def FnAddWrongFalsely : Prop := fnAddRow.holds Try.pinned (OpenSpec.ofChange fnAddWrong)

/-- 'laws.FnShifts': WHATEVER THE INPUT: true; the input reads as it did. -/
def fnShiftsSpec : ChangeSpec := { name := "fnShifts", fn := fun _ => fun
  | [d1, d2] => { results := [.lit (.bool true)], args := [d1, d2] }
  | _ => none }
def fnShiftsRow : OpenClaim := { program := "ytcndgkfphapmdaa", sum := "b5aafd2615a7313b606ef22b315d75f1e5bd71e8c330772fc1bcc47c5805c727", func := "loop.example/pub-g03246/laws.FnShifts", spec := "fnShifts", apart := false }
def FnShiftsSaid : Prop := fnShiftsRow.holds Try.pinned (OpenSpec.ofChange fnShiftsSpec)

/-- ITS FALSE NEIGHBOUR: 'it returns false'. Refute it at one input. -/
def fnShiftsWrong : ChangeSpec := { name := "fnShifts", fn := fun _ => fun
  | [d1, d2] => { results := [.lit (.bool false)], args := [d1, d2] }
  | _ => none }
def FnShiftsWrongFalsely : Prop := fnShiftsRow.holds Try.pinned (OpenSpec.ofChange fnShiftsWrong)

/-- 'laws.FnSub': WHATEVER THE INPUT: true; the input reads as it did. -/
def fnSubSpec : ChangeSpec := { name := "fnSub", fn := fun _ => fun
  | [d1, d2] => { results := [.lit (.bool true)], args := [d1, d2] }
  | _ => none }
def fnSubRow : OpenClaim := { program := "ytcndgkfphapmdaa", sum := "b5aafd2615a7313b606ef22b315d75f1e5bd71e8c330772fc1bcc47c5805c727", func := "loop.example/pub-g03246/laws.FnSub", spec := "fnSub", inPlace := ["math/bits.Sub64"], apart := false }
def FnSubSaid : Prop := fnSubRow.holds Try.pinned (OpenSpec.ofChange fnSubSpec)

/-- ITS FALSE NEIGHBOUR: 'it returns false'. Refute it at one input. -/
def fnSubWrong : ChangeSpec := { name := "fnSub", fn := fun _ => fun
  | [d1, d2] => { results := [.lit (.bool false)], args := [d1, d2] }
  | _ => none }
def FnSubWrongFalsely : Prop := fnSubRow.holds Try.pinned (OpenSpec.ofChange fnSubWrong)

/-- 'laws.FnMontgomery': WHATEVER THE INPUT: true; the input reads as it did. -/
def fnMontgomerySpec : ChangeSpec := { name := "fnMontgomery", fn := fun _ => fun
  | [d1, d2, d3] => { results := [.lit (.bool true)], args := [d1, d2, d3] }
  | _ => none }
def fnMontgomeryRow : OpenClaim := { program := "ytcndgkfphapmdaa", sum := "b5aafd2615a7313b606ef22b315d75f1e5bd71e8c330772fc1bcc47c5805c727", func := "loop.example/pub-g03246/laws.FnMontgomery", spec := "fnMontgomery", inPlace := ["math/bits.Add64", "math/bits.Sub64"], apart := false }
def FnMontgomerySaid : Prop := fnMontgomeryRow.holds Try.pinned (OpenSpec.ofChange fnMontgomerySpec)

/-- ITS FALSE NEIGHBOUR: 'it returns false'. Refute it at one input. -/
def fnMontgomeryWrong : ChangeSpec := { name := "fnMontgomery", fn := fun _ => fun
  | [d1, d2, d3] => { results := [.lit (.bool false)], args := [d1, d2, d3] }
  | _ => none }
def FnMontgomeryWrongFalsely : Prop := fnMontgomeryRow.holds Try.pinned (OpenSpec.ofChange fnMontgomeryWrong)

/-- 'laws.FnDivWW': WHATEVER THE INPUT: true; the input reads as it did. -/
def fnDivWWSpec : ChangeSpec := { name := "fnDivWW", fn := fun _ => fun
  | [d1, d2, d3] => { results := [.lit (.bool true)], args := [d1, d2, d3] }
  | _ => none }
def fnDivWWRow : OpenClaim := { program := "ytcndgkfphapmdaa", sum := "b5aafd2615a7313b606ef22b315d75f1e5bd71e8c330772fc1bcc47c5805c727", func := "loop.example/pub-g03246/laws.FnDivWW", spec := "fnDivWW", inPlace := ["math/bits.Add64", "math/bits.Sub64"], apart := false }
def FnDivWWSaid : Prop := fnDivWWRow.holds Try.pinned (OpenSpec.ofChange fnDivWWSpec)

/-- ITS FALSE NEIGHBOUR: 'it returns false'. Refute it at one input. -/
def fnDivWWWrong : ChangeSpec := { name := "fnDivWW", fn := fun _ => fun
  | [d1, d2, d3] => { results := [.lit (.bool false)], args := [d1, d2, d3] }
  | _ => none }
def FnDivWWWrongFalsely : Prop := fnDivWWRow.holds Try.pinned (OpenSpec.ofChange fnDivWWWrong)

/-- 'laws.FnDivW': WHATEVER THE INPUT: true; the input reads as it did. -/
def fnDivWSpec : ChangeSpec := { name := "fnDivW", fn := fun _ => fun
  | [d1, d2] => { results := [.lit (.bool true)], args := [d1, d2] }
  | _ => none }
def fnDivWRow : OpenClaim := { program := "ytcndgkfphapmdaa", sum := "b5aafd2615a7313b606ef22b315d75f1e5bd71e8c330772fc1bcc47c5805c727", func := "loop.example/pub-g03246/laws.FnDivW", spec := "fnDivW", inPlace := ["math/bits.Add64", "math/bits.Sub64"], apart := false }
def FnDivWSaid : Prop := fnDivWRow.holds Try.pinned (OpenSpec.ofChange fnDivWSpec)

/-- ITS FALSE NEIGHBOUR: 'it returns false'. Refute it at one input. -/
def fnDivWWrong : ChangeSpec := { name := "fnDivW", fn := fun _ => fun
  | [d1, d2] => { results := [.lit (.bool false)], args := [d1, d2] }
  | _ => none }
def FnDivWWrongFalsely : Prop := fnDivWRow.holds Try.pinned (OpenSpec.ofChange fnDivWWrong)

/-- 'laws.FnDivBasic': WHATEVER THE INPUT: true; the input reads as it did. -/
def fnDivBasicSpec : ChangeSpec := { name := "fnDivBasic", fn := fun _ => fun
  | [d1, d2] => { results := [.lit (.bool true)], args := [d1, d2] }
  | _ => none }
def fnDivBasicRow : OpenClaim := { program := "ytcndgkfphapmdaa", sum := "b5aafd2615a7313b606ef22b315d75f1e5bd71e8c330772fc1bcc47c5805c727", func := "loop.example/pub-g03246/laws.FnDivBasic", spec := "fnDivBasic", inPlace := ["math/bits.Add64", "math/bits.Sub64"], apart := false }
def FnDivBasicSaid : Prop := fnDivBasicRow.holds Try.pinned (OpenSpec.ofChange fnDivBasicSpec)

/-- ITS FALSE NEIGHBOUR: 'it returns false'. Refute it at one input. -/
def fnDivBasicWrong : ChangeSpec := { name := "fnDivBasic", fn := fun _ => fun
  | [d1, d2] => { results := [.lit (.bool false)], args := [d1, d2] }
  | _ => none }
def FnDivBasicWrongFalsely : Prop := fnDivBasicRow.holds Try.pinned (OpenSpec.ofChange fnDivBasicWrong)

/- THE SECOND FORM. 'bulk': how many values and letters a reading holds, each counted each time it is reached (what is shared counts as often as it is met; a slice's spare places count too). A statement '..UptoSaid' is the law's where the arguments, and the package variables that the reading takes, are together of bulk at most 1048576: NARROWER than '..Said'. Prove '..Said' where nothing that the law and all that it calls make is longer than what came in: it says more and counts as full. Else prove '..UptoSaid'. A law counts once. -/
mutual
def uptoBulk {H : Type} : DataW H → Nat
  | .lit (.string bytes) => bytes.length + 1
  | .lit _ => 1
  | .nil => 1
  | .ptr d => uptoBulk d + 1
  | .slice elems spare => uptoBulkAll elems + uptoBulkAll spare + 1
  | .agg parts => uptoBulkAll parts + 1
  | .iface _ d => uptoBulk d + 1
  | .map entries => uptoBulkEntries entries + 1
  | .held _ => 1
def uptoBulkAll {H : Type} : List (DataW H) → Nat
  | [] => 0
  | d :: r => uptoBulk d + uptoBulkAll r
def uptoBulkEntries {H : Type} : List (Lit × DataW H) → Nat
  | [] => 0
  | x :: r => uptoBulkEntry x + uptoBulkEntries r
def uptoBulkEntry {H : Type} : Lit × DataW H → Nat
  | (.string bytes, d) => bytes.length + uptoBulk d + 1
  | (_, d) => uptoBulk d + 1
 end
def uptoSmall : (H : Type) → List (DataW H) → Bool := fun _ ds => decide (uptoBulkAll ds ≤ 1048576)
def OpenSpec.upto (s : _root_.Go.ChangeSpec) : _root_.Go.OpenSpec := { _root_.Go.OpenSpec.ofChange s with cond := some uptoSmall }

/-- 'laws.FnRsh', WHERE WHAT IT READS IS OF BULK AT MOST 1048576: true; the input reads as it did. -/
def fnRshUptoRow : OpenClaim := { program := "ytcndgkfphapmdaa", sum := "b5aafd2615a7313b606ef22b315d75f1e5bd71e8c330772fc1bcc47c5805c727", func := "loop.example/pub-g03246/laws.FnRsh", spec := "fnRsh", apart := false, narrowed := true }
def FnRshUptoSaid : Prop := fnRshUptoRow.holds Try.pinned (OpenSpec.upto fnRshSpec)

/-- 'laws.FnLsh', WHERE WHAT IT READS IS OF BULK AT MOST 1048576: true; the input reads as it did. -/
def fnLshUptoRow : OpenClaim := { program := "ytcndgkfphapmdaa", sum := "b5aafd2615a7313b606ef22b315d75f1e5bd71e8c330772fc1bcc47c5805c727", func := "loop.example/pub-g03246/laws.FnLsh", spec := "fnLsh", apart := false, narrowed := true }
def FnLshUptoSaid : Prop := fnLshUptoRow.holds Try.pinned (OpenSpec.upto fnLshSpec)

/-- 'laws.FnBitwise', WHERE WHAT IT READS IS OF BULK AT MOST 1048576: true; the input reads as it did. -/
def fnBitwiseUptoRow : OpenClaim := { program := "ytcndgkfphapmdaa", sum := "b5aafd2615a7313b606ef22b315d75f1e5bd71e8c330772fc1bcc47c5805c727", func := "loop.example/pub-g03246/laws.FnBitwise", spec := "fnBitwise", apart := false, narrowed := true }
def FnBitwiseUptoSaid : Prop := fnBitwiseUptoRow.holds Try.pinned (OpenSpec.upto fnBitwiseSpec)

/-- 'laws.FnMulAddWW', WHERE WHAT IT READS IS OF BULK AT MOST 1048576: true; the input reads as it did. -/
def fnMulAddWWUptoRow : OpenClaim := { program := "ytcndgkfphapmdaa", sum := "b5aafd2615a7313b606ef22b315d75f1e5bd71e8c330772fc1bcc47c5805c727", func := "loop.example/pub-g03246/laws.FnMulAddWW", spec := "fnMulAddWW", inPlace := ["math/bits.Add64"], apart := false, narrowed := true }
def FnMulAddWWUptoSaid : Prop := fnMulAddWWUptoRow.holds Try.pinned (OpenSpec.upto fnMulAddWWSpec)

/-- 'laws.FnAdd', WHERE WHAT IT READS IS OF BULK AT MOST 1048576: true; the input reads as it did. -/
def fnAddUptoRow : OpenClaim := { program := "ytcndgkfphapmdaa", sum := "b5aafd2615a7313b606ef22b315d75f1e5bd71e8c330772fc1bcc47c5805c727", func := "loop.example/pub-g03246/laws.FnAdd", spec := "fnAdd", inPlace := ["math/bits.Add64"], recurses := true, apart := false, narrowed := true }
def FnAddUptoSaid : Prop := fnAddUptoRow.holds Try.pinned (OpenSpec.upto fnAddSpec)

/-- 'laws.FnShifts', WHERE WHAT IT READS IS OF BULK AT MOST 1048576: true; the input reads as it did. -/
def fnShiftsUptoRow : OpenClaim := { program := "ytcndgkfphapmdaa", sum := "b5aafd2615a7313b606ef22b315d75f1e5bd71e8c330772fc1bcc47c5805c727", func := "loop.example/pub-g03246/laws.FnShifts", spec := "fnShifts", apart := false, narrowed := true }
def FnShiftsUptoSaid : Prop := fnShiftsUptoRow.holds Try.pinned (OpenSpec.upto fnShiftsSpec)

/-- 'laws.FnSub', WHERE WHAT IT READS IS OF BULK AT MOST 1048576: true; the input reads as it did. -/
def fnSubUptoRow : OpenClaim := { program := "ytcndgkfphapmdaa", sum := "b5aafd2615a7313b606ef22b315d75f1e5bd71e8c330772fc1bcc47c5805c727", func := "loop.example/pub-g03246/laws.FnSub", spec := "fnSub", inPlace := ["math/bits.Sub64"], apart := false, narrowed := true }
def FnSubUptoSaid : Prop := fnSubUptoRow.holds Try.pinned (OpenSpec.upto fnSubSpec)

/-- 'laws.FnMontgomery', WHERE WHAT IT READS IS OF BULK AT MOST 1048576: true; the input reads as it did. -/
def fnMontgomeryUptoRow : OpenClaim := { program := "ytcndgkfphapmdaa", sum := "b5aafd2615a7313b606ef22b315d75f1e5bd71e8c330772fc1bcc47c5805c727", func := "loop.example/pub-g03246/laws.FnMontgomery", spec := "fnMontgomery", inPlace := ["math/bits.Add64", "math/bits.Sub64"], apart := false, narrowed := true }
def FnMontgomeryUptoSaid : Prop := fnMontgomeryUptoRow.holds Try.pinned (OpenSpec.upto fnMontgomerySpec)

/-- 'laws.FnDivWW', WHERE WHAT IT READS IS OF BULK AT MOST 1048576: true; the input reads as it did. -/
def fnDivWWUptoRow : OpenClaim := { program := "ytcndgkfphapmdaa", sum := "b5aafd2615a7313b606ef22b315d75f1e5bd71e8c330772fc1bcc47c5805c727", func := "loop.example/pub-g03246/laws.FnDivWW", spec := "fnDivWW", inPlace := ["math/bits.Add64", "math/bits.Sub64"], apart := false, narrowed := true }
def FnDivWWUptoSaid : Prop := fnDivWWUptoRow.holds Try.pinned (OpenSpec.upto fnDivWWSpec)

/-- 'laws.FnDivW', WHERE WHAT IT READS IS OF BULK AT MOST 1048576: true; the input reads as it did. -/
def fnDivWUptoRow : OpenClaim := { program := "ytcndgkfphapmdaa", sum := "b5aafd2615a7313b606ef22b315d75f1e5bd71e8c330772fc1bcc47c5805c727", func := "loop.example/pub-g03246/laws.FnDivW", spec := "fnDivW", inPlace := ["math/bits.Add64", "math/bits.Sub64"], apart := false, narrowed := true }
def FnDivWUptoSaid : Prop := fnDivWUptoRow.holds Try.pinned (OpenSpec.upto fnDivWSpec)

/-- 'laws.FnDivBasic', WHERE WHAT IT READS IS OF BULK AT MOST 1048576: true; the input reads as it did. -/
def fnDivBasicUptoRow : OpenClaim := { program := "ytcndgkfphapmdaa", sum := "b5aafd2615a7313b606ef22b315d75f1e5bd71e8c330772fc1bcc47c5805c727", func := "loop.example/pub-g03246/laws.FnDivBasic", spec := "fnDivBasic", inPlace := ["math/bits.Add64", "math/bits.Sub64"], apart := false, narrowed := true }
def FnDivBasicUptoSaid : Prop := fnDivBasicUptoRow.holds Try.pinned (OpenSpec.upto fnDivBasicSpec)

end Rows
end Go.Proofs.Ytcndgkfphapmdaa
