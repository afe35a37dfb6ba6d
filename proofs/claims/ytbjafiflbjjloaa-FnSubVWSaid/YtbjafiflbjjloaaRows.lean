/-
  No cell of these rows narrows 'for every input' (looked for: loops, veiled, ifaces, maps, wideKeys, modest, calm, conditions, laid).
  DERIVED. THE GIVEN ROWS OF THIS SEAT. 11 by the template 'for every input the law returns true; each argument reads behind the call as it read before'; 0 by the template 'total and deterministic' (their statements: YtbjafiflbjjloaaTotals.lean).
  GIVEN WITH THE SEED: the statements are not yours to turn. If you find one false, say at which input.
  Laid BY PROGRAM, IN A SANDBOX (cutbox-rows.mjs): the forced cells as the released guide's own fill.sh prints them over the translation c6d378106d117541… (all of the seat's roots in one cut). By AI agents, Wed Nov 11 2026. No macro, syntax, notation, axiom, sorry.
-/
import Derived.Test.YtbjafiflbjjloaaChecked
import GoSem.Claim
import GoSem.ClaimJoined
import GoSem.ClaimMapViews
import Derived.JoinedTies
import Derived.KernelRfl
namespace Go.Proofs.Ytbjafiflbjjloaa
/- THE CELL 'sum', in the pinned program and in every row, IS THE sha256 OF THE DUMP (.gsa) THAT YtbjafiflbjjloaaProg.lean LOADS. Nothing in Lean hashes anything: it is a label: what it is worth is what the hold of that sum in a sandbox is worth. -/
noncomputable def Try.pinned : Pinned := { name := "ytbjafiflbjjloaa", sum := "c6d378106d117541f62c1c77a8da2ab415019b95222b021879e85de575c8e758", checked := Try.checked }
namespace Rows
def none {H : Type} : Left H := { results := [], args := [] }

/-- 'laws.FnTrunc': WHATEVER THE INPUT: true; the input reads as it did. -/
def fnTruncSpec : ChangeSpec := { name := "fnTrunc", fn := fun _ => fun
  | [d1, d2] => { results := [.lit (.bool true)], args := [d1, d2] }
  | _ => none }
def fnTruncRow : OpenClaim := { program := "ytbjafiflbjjloaa", sum := "c6d378106d117541f62c1c77a8da2ab415019b95222b021879e85de575c8e758", func := "loop.example/pub-g03246/laws.FnTrunc", spec := "fnTrunc", apart := false }
def FnTruncSaid : Prop := fnTruncRow.holds Try.pinned (OpenSpec.ofChange fnTruncSpec)

/-- ITS FALSE NEIGHBOUR: 'it returns false'. Refute it at one input. -/
def fnTruncWrong : ChangeSpec := { name := "fnTrunc", fn := fun _ => fun
  | [d1, d2] => { results := [.lit (.bool false)], args := [d1, d2] }
  | _ => none }
def FnTruncWrongFalsely : Prop := fnTruncRow.holds Try.pinned (OpenSpec.ofChange fnTruncWrong)

/-- 'laws.FnAddVV': WHATEVER THE INPUT: true; the input reads as it did. -/
def fnAddVVSpec : ChangeSpec := { name := "fnAddVV", fn := fun _ => fun
  | [d1, d2] => { results := [.lit (.bool true)], args := [d1, d2] }
  | _ => none }
def fnAddVVRow : OpenClaim := { program := "ytbjafiflbjjloaa", sum := "c6d378106d117541f62c1c77a8da2ab415019b95222b021879e85de575c8e758", func := "loop.example/pub-g03246/laws.FnAddVV", spec := "fnAddVV", inPlace := ["math/bits.Add64"], apart := false }
def FnAddVVSaid : Prop := fnAddVVRow.holds Try.pinned (OpenSpec.ofChange fnAddVVSpec)

/-- ITS FALSE NEIGHBOUR: 'it returns false'. Refute it at one input. -/
def fnAddVVWrong : ChangeSpec := { name := "fnAddVV", fn := fun _ => fun
  | [d1, d2] => { results := [.lit (.bool false)], args := [d1, d2] }
  | _ => none }
def FnAddVVWrongFalsely : Prop := fnAddVVRow.holds Try.pinned (OpenSpec.ofChange fnAddVVWrong)

/-- 'laws.FnSubVV': WHATEVER THE INPUT: true; the input reads as it did. -/
def fnSubVVSpec : ChangeSpec := { name := "fnSubVV", fn := fun _ => fun
  | [d1, d2] => { results := [.lit (.bool true)], args := [d1, d2] }
  | _ => none }
def fnSubVVRow : OpenClaim := { program := "ytbjafiflbjjloaa", sum := "c6d378106d117541f62c1c77a8da2ab415019b95222b021879e85de575c8e758", func := "loop.example/pub-g03246/laws.FnSubVV", spec := "fnSubVV", inPlace := ["math/bits.Sub64"], apart := false }
def FnSubVVSaid : Prop := fnSubVVRow.holds Try.pinned (OpenSpec.ofChange fnSubVVSpec)

/-- ITS FALSE NEIGHBOUR: 'it returns false'. Refute it at one input. -/
def fnSubVVWrong : ChangeSpec := { name := "fnSubVV", fn := fun _ => fun
  | [d1, d2] => { results := [.lit (.bool false)], args := [d1, d2] }
  | _ => none }
def FnSubVVWrongFalsely : Prop := fnSubVVRow.holds Try.pinned (OpenSpec.ofChange fnSubVVWrong)

/-- 'laws.FnSetBytes': WHATEVER THE INPUT: true; the input reads as it did. -/
def fnSetBytesSpec : ChangeSpec := { name := "fnSetBytes", fn := fun _ => fun
  | [d] => { results := [.lit (.bool true)], args := [d] }
  | _ => none }
def fnSetBytesRow : OpenClaim := { program := "ytbjafiflbjjloaa", sum := "c6d378106d117541f62c1c77a8da2ab415019b95222b021879e85de575c8e758", func := "loop.example/pub-g03246/laws.FnSetBytes", spec := "fnSetBytes", apart := false }
def FnSetBytesSaid : Prop := fnSetBytesRow.holds Try.pinned (OpenSpec.ofChange fnSetBytesSpec)

/-- ITS FALSE NEIGHBOUR: 'it returns false'. Refute it at one input. -/
def fnSetBytesWrong : ChangeSpec := { name := "fnSetBytes", fn := fun _ => fun
  | [d] => { results := [.lit (.bool false)], args := [d] }
  | _ => none }
def FnSetBytesWrongFalsely : Prop := fnSetBytesRow.holds Try.pinned (OpenSpec.ofChange fnSetBytesWrong)

/-- 'laws.FnAddVW': WHATEVER THE INPUT: true; the input reads as it did. -/
def fnAddVWSpec : ChangeSpec := { name := "fnAddVW", fn := fun _ => fun
  | [d1, d2] => { results := [.lit (.bool true)], args := [d1, d2] }
  | _ => none }
def fnAddVWRow : OpenClaim := { program := "ytbjafiflbjjloaa", sum := "c6d378106d117541f62c1c77a8da2ab415019b95222b021879e85de575c8e758", func := "loop.example/pub-g03246/laws.FnAddVW", spec := "fnAddVW", inPlace := ["math/bits.Add64"], apart := false }
def FnAddVWSaid : Prop := fnAddVWRow.holds Try.pinned (OpenSpec.ofChange fnAddVWSpec)

/-- ITS FALSE NEIGHBOUR: 'it returns false'. Refute it at one input. -/
def fnAddVWWrong : ChangeSpec := { name := "fnAddVW", fn := fun _ => fun
  | [d1, d2] => { results := [.lit (.bool false)], args := [d1, d2] }
  | _ => none }
def FnAddVWWrongFalsely : Prop := fnAddVWRow.holds Try.pinned (OpenSpec.ofChange fnAddVWWrong)

/-- 'laws.FnSetBit': WHATEVER THE INPUT: true; the input reads as it did. -/
def fnSetBitSpec : ChangeSpec := { name := "fnSetBit", fn := fun _ => fun
  | [d1, d2, d3] => { results := [.lit (.bool true)], args := [d1, d2, d3] }
  | _ => none }
def fnSetBitRow : OpenClaim := { program := "ytbjafiflbjjloaa", sum := "c6d378106d117541f62c1c77a8da2ab415019b95222b021879e85de575c8e758", func := "loop.example/pub-g03246/laws.FnSetBit", spec := "fnSetBit", apart := false }
def FnSetBitSaid : Prop := fnSetBitRow.holds Try.pinned (OpenSpec.ofChange fnSetBitSpec)

/-- ITS FALSE NEIGHBOUR: 'it returns false'. Refute it at one input. -/
def fnSetBitWrong : ChangeSpec := { name := "fnSetBit", fn := fun _ => fun
  | [d1, d2, d3] => { results := [.lit (.bool false)], args := [d1, d2, d3] }
  | _ => none }
def FnSetBitWrongFalsely : Prop := fnSetBitRow.holds Try.pinned (OpenSpec.ofChange fnSetBitWrong)

/-- 'laws.FnSubVW': WHATEVER THE INPUT: true; the input reads as it did. -/
def fnSubVWSpec : ChangeSpec := { name := "fnSubVW", fn := fun _ => fun
  | [d1, d2] => { results := [.lit (.bool true)], args := [d1, d2] }
  | _ => none }
def fnSubVWRow : OpenClaim := { program := "ytbjafiflbjjloaa", sum := "c6d378106d117541f62c1c77a8da2ab415019b95222b021879e85de575c8e758", func := "loop.example/pub-g03246/laws.FnSubVW", spec := "fnSubVW", inPlace := ["math/bits.Sub64"], apart := false }
def FnSubVWSaid : Prop := fnSubVWRow.holds Try.pinned (OpenSpec.ofChange fnSubVWSpec)

/-- ITS FALSE NEIGHBOUR: 'it returns false'. Refute it at one input. -/
def fnSubVWWrong : ChangeSpec := { name := "fnSubVW", fn := fun _ => fun
  | [d1, d2] => { results := [.lit (.bool false)], args := [d1, d2] }
  | _ => none }
def FnSubVWWrongFalsely : Prop := fnSubVWRow.holds Try.pinned (OpenSpec.ofChange fnSubVWWrong)

/-- 'laws.FnMulAddVWW': WHATEVER THE INPUT: true; the input reads as it did. -/
def fnMulAddVWWSpec : ChangeSpec := { name := "fnMulAddVWW", fn := fun _ => fun
  | [d1, d2, d3] => { results := [.lit (.bool true)], args := [d1, d2, d3] }
  | _ => none }
def fnMulAddVWWRow : OpenClaim := { program := "ytbjafiflbjjloaa", sum := "c6d378106d117541f62c1c77a8da2ab415019b95222b021879e85de575c8e758", func := "loop.example/pub-g03246/laws.FnMulAddVWW", spec := "fnMulAddVWW", inPlace := ["math/bits.Add64"], apart := false }
def FnMulAddVWWSaid : Prop := fnMulAddVWWRow.holds Try.pinned (OpenSpec.ofChange fnMulAddVWWSpec)

/-- ITS FALSE NEIGHBOUR: 'it returns false'. Refute it at one input. -/
def fnMulAddVWWWrong : ChangeSpec := { name := "fnMulAddVWW", fn := fun _ => fun
  | [d1, d2, d3] => { results := [.lit (.bool false)], args := [d1, d2, d3] }
  | _ => none }
def FnMulAddVWWWrongFalsely : Prop := fnMulAddVWWRow.holds Try.pinned (OpenSpec.ofChange fnMulAddVWWWrong)

/-- 'laws.FnReciprocal': WHATEVER THE INPUT: true; the input reads as it did. -/
def fnReciprocalSpec : ChangeSpec := { name := "fnReciprocal", fn := fun _ => fun
  | [d] => { results := [.lit (.bool true)], args := [d] }
  | _ => none }
def fnReciprocalRow : OpenClaim := { program := "ytbjafiflbjjloaa", sum := "c6d378106d117541f62c1c77a8da2ab415019b95222b021879e85de575c8e758", func := "loop.example/pub-g03246/laws.FnReciprocal", spec := "fnReciprocal", apart := false }
def FnReciprocalSaid : Prop := fnReciprocalRow.holds Try.pinned (OpenSpec.ofChange fnReciprocalSpec)

/-- ITS FALSE NEIGHBOUR: 'it returns false'. Refute it at one input. -/
def fnReciprocalWrong : ChangeSpec := { name := "fnReciprocal", fn := fun _ => fun
  | [d] => { results := [.lit (.bool false)], args := [d] }
  | _ => none }
def FnReciprocalWrongFalsely : Prop := fnReciprocalRow.holds Try.pinned (OpenSpec.ofChange fnReciprocalWrong)

/-- 'laws.FnAddMulVVWW': WHATEVER THE INPUT: true; the input reads as it did. -/
def fnAddMulVVWWSpec : ChangeSpec := { name := "fnAddMulVVWW", fn := fun _ => fun
  | [d1, d2, d3, d4] => { results := [.lit (.bool true)], args := [d1, d2, d3, d4] }
  | _ => none }
def fnAddMulVVWWRow : OpenClaim := { program := "ytbjafiflbjjloaa", sum := "c6d378106d117541f62c1c77a8da2ab415019b95222b021879e85de575c8e758", func := "loop.example/pub-g03246/laws.FnAddMulVVWW", spec := "fnAddMulVVWW", inPlace := ["math/bits.Add64"], apart := false }
def FnAddMulVVWWSaid : Prop := fnAddMulVVWWRow.holds Try.pinned (OpenSpec.ofChange fnAddMulVVWWSpec)

/-- ITS FALSE NEIGHBOUR: 'it returns false'. Refute it at one input. -/
def fnAddMulVVWWWrong : ChangeSpec := { name := "fnAddMulVVWW", fn := fun _ => fun
  | [d1, d2, d3, d4] => { results := [.lit (.bool false)], args := [d1, d2, d3, d4] }
  | _ => none }
def FnAddMulVVWWWrongFalsely : Prop := fnAddMulVVWWRow.holds Try.pinned (OpenSpec.ofChange fnAddMulVVWWWrong)

/-- 'laws.FnBasicMul': WHATEVER THE INPUT: true; the input reads as it did. -/
def fnBasicMulSpec : ChangeSpec := { name := "fnBasicMul", fn := fun _ => fun
  | [d1, d2] => { results := [.lit (.bool true)], args := [d1, d2] }
  | _ => none }
def fnBasicMulRow : OpenClaim := { program := "ytbjafiflbjjloaa", sum := "c6d378106d117541f62c1c77a8da2ab415019b95222b021879e85de575c8e758", func := "loop.example/pub-g03246/laws.FnBasicMul", spec := "fnBasicMul", inPlace := ["math/bits.Add64"], apart := false }
def FnBasicMulSaid : Prop := fnBasicMulRow.holds Try.pinned (OpenSpec.ofChange fnBasicMulSpec)

/-- ITS FALSE NEIGHBOUR: 'it returns false'. Refute it at one input. -/
def fnBasicMulWrong : ChangeSpec := { name := "fnBasicMul", fn := fun _ => fun
  | [d1, d2] => { results := [.lit (.bool false)], args := [d1, d2] }
  | _ => none }
def FnBasicMulWrongFalsely : Prop := fnBasicMulRow.holds Try.pinned (OpenSpec.ofChange fnBasicMulWrong)

/- THE SECOND FORM. 'bulk': how many values and letters a reading holds, each counted each time it is reached (what is shared counts as often as it is met; a slice's spare places count too). A statement '..UptoSaid' is the law's where the arguments, and the package variables that the reading takes, are together of bulk at most 1048576: NARROWER than '..Said'. Prove '..Said' where nothing that the law and all that it calls make is longer than what came in: it says more and counts as full. Else prove '..UptoSaid'. A law counts once. -/
mutual
def uptoBulk {H : Type} : DataW H → Nat
  | .lit (.string bytes) => bytes.length + 1
  | .lit _ => 1
  | .nil => 1
  | .ptr d => uptoBulk d + 1
  | .slice elems spare => uptoBulkAll elems + uptoBulkAll spare + 1
  | .agg parts => uptoBulkAll parts + 1
  | .iface _ d => uptoBulk d + 1
  | .map entries => uptoBulkEntries entries + 1
  | .held _ => 1
def uptoBulkAll {H : Type} : List (DataW H) → Nat
  | [] => 0
  | d :: r => uptoBulk d + uptoBulkAll r
def uptoBulkEntries {H : Type} : List (Lit × DataW H) → Nat
  | [] => 0
  | x :: r => uptoBulkEntry x + uptoBulkEntries r
def uptoBulkEntry {H : Type} : Lit × DataW H → Nat
  | (.string bytes, d) => bytes.length + uptoBulk d + 1
  | (_, d) => uptoBulk d + 1
 end
def uptoSmall : (H : Type) → List (DataW H) → Bool := fun _ ds => decide (uptoBulkAll ds ≤ 1048576)
def OpenSpec.upto (s : _root_.Go.ChangeSpec) : _root_.Go.OpenSpec := { _root_.Go.OpenSpec.ofChange s with cond := some uptoSmall }

/-- 'laws.FnTrunc', WHERE WHAT IT READS IS OF BULK AT MOST 1048576: true; the input reads as it did. -/
def fnTruncUptoRow : OpenClaim := { program := "ytbjafiflbjjloaa", sum := "c6d378106d117541f62c1c77a8da2ab415019b95222b021879e85de575c8e758", func := "loop.example/pub-g03246/laws.FnTrunc", spec := "fnTrunc", apart := false, narrowed := true }
def FnTruncUptoSaid : Prop := fnTruncUptoRow.holds Try.pinned (OpenSpec.upto fnTruncSpec)

/-- 'laws.FnAddVV', WHERE WHAT IT READS IS OF BULK AT MOST 1048576: true; the input reads as it did. -/
def fnAddVVUptoRow : OpenClaim := { program := "ytbjafiflbjjloaa", sum := "c6d378106d117541f62c1c77a8da2ab415019b95222b021879e85de575c8e758", func := "loop.example/pub-g03246/laws.FnAddVV", spec := "fnAddVV", inPlace := ["math/bits.Add64"], apart := false, narrowed := true }
def FnAddVVUptoSaid : Prop := fnAddVVUptoRow.holds Try.pinned (OpenSpec.upto fnAddVVSpec)

/-- 'laws.FnSubVV', WHERE WHAT IT READS IS OF BULK AT MOST 1048576: true; the input reads as it did. -/
def fnSubVVUptoRow : OpenClaim := { program := "ytbjafiflbjjloaa", sum := "c6d378106d117541f62c1c77a8da2ab415019b95222b021879e85de575c8e758", func := "loop.example/pub-g03246/laws.FnSubVV", spec := "fnSubVV", inPlace := ["math/bits.Sub64"], apart := false, narrowed := true }
def FnSubVVUptoSaid : Prop := fnSubVVUptoRow.holds Try.pinned (OpenSpec.upto fnSubVVSpec)

/-- 'laws.FnSetBytes', WHERE WHAT IT READS IS OF BULK AT MOST 1048576: true; the input reads as it did. -/
def fnSetBytesUptoRow : OpenClaim := { program := "ytbjafiflbjjloaa", sum := "c6d378106d117541f62c1c77a8da2ab415019b95222b021879e85de575c8e758", func := "loop.example/pub-g03246/laws.FnSetBytes", spec := "fnSetBytes", apart := false, narrowed := true }
def FnSetBytesUptoSaid : Prop := fnSetBytesUptoRow.holds Try.pinned (OpenSpec.upto fnSetBytesSpec)

/-- 'laws.FnAddVW', WHERE WHAT IT READS IS OF BULK AT MOST 1048576: true; the input reads as it did. -/
def fnAddVWUptoRow : OpenClaim := { program := "ytbjafiflbjjloaa", sum := "c6d378106d117541f62c1c77a8da2ab415019b95222b021879e85de575c8e758", func := "loop.example/pub-g03246/laws.FnAddVW", spec := "fnAddVW", inPlace := ["math/bits.Add64"], apart := false, narrowed := true }
def FnAddVWUptoSaid : Prop := fnAddVWUptoRow.holds Try.pinned (OpenSpec.upto fnAddVWSpec)

/-- 'laws.FnSetBit', WHERE WHAT IT READS IS OF BULK AT MOST 1048576: true; the input reads as it did. -/
def fnSetBitUptoRow : OpenClaim := { program := "ytbjafiflbjjloaa", sum := "c6d378106d117541f62c1c77a8da2ab415019b95222b021879e85de575c8e758", func := "loop.example/pub-g03246/laws.FnSetBit", spec := "fnSetBit", apart := false, narrowed := true }
def FnSetBitUptoSaid : Prop := fnSetBitUptoRow.holds Try.pinned (OpenSpec.upto fnSetBitSpec)

/-- 'laws.FnSubVW', WHERE WHAT IT READS IS OF BULK AT MOST 1048576: true; the input reads as it did. -/
def fnSubVWUptoRow : OpenClaim := { program := "ytbjafiflbjjloaa", sum := "c6d378106d117541f62c1c77a8da2ab415019b95222b021879e85de575c8e758", func := "loop.example/pub-g03246/laws.FnSubVW", spec := "fnSubVW", inPlace := ["math/bits.Sub64"], apart := false, narrowed := true }
def FnSubVWUptoSaid : Prop := fnSubVWUptoRow.holds Try.pinned (OpenSpec.upto fnSubVWSpec)

/-- 'laws.FnMulAddVWW', WHERE WHAT IT READS IS OF BULK AT MOST 1048576: true; the input reads as it did. -/
def fnMulAddVWWUptoRow : OpenClaim := { program := "ytbjafiflbjjloaa", sum := "c6d378106d117541f62c1c77a8da2ab415019b95222b021879e85de575c8e758", func := "loop.example/pub-g03246/laws.FnMulAddVWW", spec := "fnMulAddVWW", inPlace := ["math/bits.Add64"], apart := false, narrowed := true }
def FnMulAddVWWUptoSaid : Prop := fnMulAddVWWUptoRow.holds Try.pinned (OpenSpec.upto fnMulAddVWWSpec)

/-- 'laws.FnReciprocal', WHERE WHAT IT READS IS OF BULK AT MOST 1048576: true; the input reads as it did. -/
def fnReciprocalUptoRow : OpenClaim := { program := "ytbjafiflbjjloaa", sum := "c6d378106d117541f62c1c77a8da2ab415019b95222b021879e85de575c8e758", func := "loop.example/pub-g03246/laws.FnReciprocal", spec := "fnReciprocal", apart := false, narrowed := true }
def FnReciprocalUptoSaid : Prop := fnReciprocalUptoRow.holds Try.pinned (OpenSpec.upto fnReciprocalSpec)

/-- 'laws.FnAddMulVVWW', WHERE WHAT IT READS IS OF BULK AT MOST 1048576: true; the input reads as it did. -/
def fnAddMulVVWWUptoRow : OpenClaim := { program := "ytbjafiflbjjloaa", sum := "c6d378106d117541f62c1c77a8da2ab415019b95222b021879e85de575c8e758", func := "loop.example/pub-g03246/laws.FnAddMulVVWW", spec := "fnAddMulVVWW", inPlace := ["math/bits.Add64"], apart := false, narrowed := true }
def FnAddMulVVWWUptoSaid : Prop := fnAddMulVVWWUptoRow.holds Try.pinned (OpenSpec.upto fnAddMulVVWWSpec)

/-- 'laws.FnBasicMul', WHERE WHAT IT READS IS OF BULK AT MOST 1048576: true; the input reads as it did. -/
def fnBasicMulUptoRow : OpenClaim := { program := "ytbjafiflbjjloaa", sum := "c6d378106d117541f62c1c77a8da2ab415019b95222b021879e85de575c8e758", func := "loop.example/pub-g03246/laws.FnBasicMul", spec := "fnBasicMul", inPlace := ["math/bits.Add64"], apart := false, narrowed := true }
def FnBasicMulUptoSaid : Prop := fnBasicMulUptoRow.holds Try.pinned (OpenSpec.upto fnBasicMulSpec)

end Rows
end Go.Proofs.Ytbjafiflbjjloaa
