/-
  No cell of these rows narrows 'for every input' (looked for: loops, veiled, ifaces, maps, wideKeys, modest, calm, conditions, laid).
  DERIVED. THE GIVEN ROWS OF THIS SEAT. 12 by the template 'for every input the law returns true; each argument reads behind the call as it read before'; 0 by the template 'total and deterministic' (their statements: YtnopbmfdjicnoaaTotals.lean).
  GIVEN WITH THE SEED: the statements are not yours to turn. If you find one false, say at which input.
  Laid BY PROGRAM, IN A SANDBOX (cutbox-rows.mjs): the forced cells as the released guide's own fill.sh prints them over the translation 8558cdd6415fd79e… (all of the seat's roots in one cut). By AI agents, Wed Nov 11 2026. No macro, syntax, notation, axiom, sorry.
-/
import Derived.Test.YtnopbmfdjicnoaaChecked
import GoSem.Claim
import GoSem.ClaimJoined
import GoSem.ClaimMapViews
import Derived.JoinedTies
import Derived.KernelRfl
namespace Go.Proofs.Ytnopbmfdjicnoaa
/- THE CELL 'sum', in the pinned program and in every row, IS THE sha256 OF THE DUMP (.gsa) THAT YtnopbmfdjicnoaaProg.lean LOADS. Nothing in Lean hashes anything: it is a label: what it is worth is what the hold of that sum in a sandbox is worth. -/
noncomputable def Try.pinned : Pinned := { name := "ytnopbmfdjicnoaa", sum := "8558cdd6415fd79ece65f8b1de9f5aec42ae683d5f0030bf3634cebaf3be3e96", checked := Try.checked }
namespace Rows
def none {H : Type} : Left H := { results := [], args := [] }

/-- 'laws.FnMaxPow': WHATEVER THE INPUT: true; the input reads as it did. -/
def fnMaxPowSpec : ChangeSpec := { name := "fnMaxPow", fn := fun _ => fun
  | [d] => { results := [.lit (.bool true)], args := [d] }
  | _ => none }
def fnMaxPowRow : OpenClaim := { program := "ytnopbmfdjicnoaa", sum := "8558cdd6415fd79ece65f8b1de9f5aec42ae683d5f0030bf3634cebaf3be3e96", func := "loop.example/pub-g03246/laws.FnMaxPow", spec := "fnMaxPow", apart := false }
def FnMaxPowSaid : Prop := fnMaxPowRow.holds Try.pinned (OpenSpec.ofChange fnMaxPowSpec)

/-- ITS FALSE NEIGHBOUR: 'it returns false'. Refute it at one input. -/
def fnMaxPowWrong : ChangeSpec := { name := "fnMaxPow", fn := fun _ => fun
  | [d] => { results := [.lit (.bool false)], args := [d] }
  | _ => none }
def FnMaxPowWrongFalsely : Prop := fnMaxPowRow.holds Try.pinned (OpenSpec.ofChange fnMaxPowWrong)

/-- 'laws.FnPow': WHATEVER THE INPUT: true; the input reads as it did. -/
def fnPowSpec : ChangeSpec := { name := "fnPow", fn := fun _ => fun
  | [d1, d2] => { results := [.lit (.bool true)], args := [d1, d2] }
  | _ => none }
def fnPowRow : OpenClaim := { program := "ytnopbmfdjicnoaa", sum := "8558cdd6415fd79ece65f8b1de9f5aec42ae683d5f0030bf3634cebaf3be3e96", func := "loop.example/pub-g03246/laws.FnPow", spec := "fnPow", apart := false }
def FnPowSaid : Prop := fnPowRow.holds Try.pinned (OpenSpec.ofChange fnPowSpec)

/-- ITS FALSE NEIGHBOUR: 'it returns false'. Refute it at one input. -/
def fnPowWrong : ChangeSpec := { name := "fnPow", fn := fun _ => fun
  | [d1, d2] => { results := [.lit (.bool false)], args := [d1, d2] }
  | _ => none }
def FnPowWrongFalsely : Prop := fnPowRow.holds Try.pinned (OpenSpec.ofChange fnPowWrong)

/-- 'laws.FnNorm': WHATEVER THE INPUT: true; the input reads as it did. -/
def fnNormSpec : ChangeSpec := { name := "fnNorm", fn := fun _ => fun
  | [d] => { results := [.lit (.bool true)], args := [d] }
  | _ => none }
def fnNormRow : OpenClaim := { program := "ytnopbmfdjicnoaa", sum := "8558cdd6415fd79ece65f8b1de9f5aec42ae683d5f0030bf3634cebaf3be3e96", func := "loop.example/pub-g03246/laws.FnNorm", spec := "fnNorm", apart := false }
def FnNormSaid : Prop := fnNormRow.holds Try.pinned (OpenSpec.ofChange fnNormSpec)

/-- ITS FALSE NEIGHBOUR: 'it returns false'. Refute it at one input. -/
def fnNormWrong : ChangeSpec := { name := "fnNorm", fn := fun _ => fun
  | [d] => { results := [.lit (.bool false)], args := [d] }
  | _ => none }
def FnNormWrongFalsely : Prop := fnNormRow.holds Try.pinned (OpenSpec.ofChange fnNormWrong)

/-- 'laws.FnMulWW': WHATEVER THE INPUT: true; the input reads as it did. -/
def fnMulWWSpec : ChangeSpec := { name := "fnMulWW", fn := fun _ => fun
  | [d1, d2] => { results := [.lit (.bool true)], args := [d1, d2] }
  | _ => none }
def fnMulWWRow : OpenClaim := { program := "ytnopbmfdjicnoaa", sum := "8558cdd6415fd79ece65f8b1de9f5aec42ae683d5f0030bf3634cebaf3be3e96", func := "loop.example/pub-g03246/laws.FnMulWW", spec := "fnMulWW", apart := false }
def FnMulWWSaid : Prop := fnMulWWRow.holds Try.pinned (OpenSpec.ofChange fnMulWWSpec)

/-- ITS FALSE NEIGHBOUR: 'it returns false'. Refute it at one input. -/
def fnMulWWWrong : ChangeSpec := { name := "fnMulWW", fn := fun _ => fun
  | [d1, d2] => { results := [.lit (.bool false)], args := [d1, d2] }
  | _ => none }
def FnMulWWWrongFalsely : Prop := fnMulWWRow.holds Try.pinned (OpenSpec.ofChange fnMulWWWrong)

/-- 'laws.FnNlz': WHATEVER THE INPUT: true; the input reads as it did. -/
def fnNlzSpec : ChangeSpec := { name := "fnNlz", fn := fun _ => fun
  | [d] => { results := [.lit (.bool true)], args := [d] }
  | _ => none }
def fnNlzRow : OpenClaim := { program := "ytnopbmfdjicnoaa", sum := "8558cdd6415fd79ece65f8b1de9f5aec42ae683d5f0030bf3634cebaf3be3e96", func := "loop.example/pub-g03246/laws.FnNlz", spec := "fnNlz", apart := false }
def FnNlzSaid : Prop := fnNlzRow.holds Try.pinned (OpenSpec.ofChange fnNlzSpec)

/-- ITS FALSE NEIGHBOUR: 'it returns false'. Refute it at one input. -/
def fnNlzWrong : ChangeSpec := { name := "fnNlz", fn := fun _ => fun
  | [d] => { results := [.lit (.bool false)], args := [d] }
  | _ => none }
def FnNlzWrongFalsely : Prop := fnNlzRow.holds Try.pinned (OpenSpec.ofChange fnNlzWrong)

/-- 'laws.FnBit': WHATEVER THE INPUT: true; the input reads as it did. -/
def fnBitSpec : ChangeSpec := { name := "fnBit", fn := fun _ => fun
  | [d1, d2] => { results := [.lit (.bool true)], args := [d1, d2] }
  | _ => none }
def fnBitRow : OpenClaim := { program := "ytnopbmfdjicnoaa", sum := "8558cdd6415fd79ece65f8b1de9f5aec42ae683d5f0030bf3634cebaf3be3e96", func := "loop.example/pub-g03246/laws.FnBit", spec := "fnBit", apart := false }
def FnBitSaid : Prop := fnBitRow.holds Try.pinned (OpenSpec.ofChange fnBitSpec)

/-- ITS FALSE NEIGHBOUR: 'it returns false'. Refute it at one input. -/
def fnBitWrong : ChangeSpec := { name := "fnBit", fn := fun _ => fun
  | [d1, d2] => { results := [.lit (.bool false)], args := [d1, d2] }
  | _ => none }
def FnBitWrongFalsely : Prop := fnBitRow.holds Try.pinned (OpenSpec.ofChange fnBitWrong)

/-- 'laws.FnSticky': WHATEVER THE INPUT: true; the input reads as it did. -/
def fnStickySpec : ChangeSpec := { name := "fnSticky", fn := fun _ => fun
  | [d1, d2] => { results := [.lit (.bool true)], args := [d1, d2] }
  | _ => none }
def fnStickyRow : OpenClaim := { program := "ytnopbmfdjicnoaa", sum := "8558cdd6415fd79ece65f8b1de9f5aec42ae683d5f0030bf3634cebaf3be3e96", func := "loop.example/pub-g03246/laws.FnSticky", spec := "fnSticky", apart := false }
def FnStickySaid : Prop := fnStickyRow.holds Try.pinned (OpenSpec.ofChange fnStickySpec)

/-- ITS FALSE NEIGHBOUR: 'it returns false'. Refute it at one input. -/
def fnStickyWrong : ChangeSpec := { name := "fnSticky", fn := fun _ => fun
  | [d1, d2] => { results := [.lit (.bool false)], args := [d1, d2] }
  | _ => none }
def FnStickyWrongFalsely : Prop := fnStickyRow.holds Try.pinned (OpenSpec.ofChange fnStickyWrong)

/-- 'laws.FnLshVU': WHATEVER THE INPUT: true; the input reads as it did. -/
def fnLshVUSpec : ChangeSpec := { name := "fnLshVU", fn := fun _ => fun
  | [d1, d2] => { results := [.lit (.bool true)], args := [d1, d2] }
  | _ => none }
def fnLshVURow : OpenClaim := { program := "ytnopbmfdjicnoaa", sum := "8558cdd6415fd79ece65f8b1de9f5aec42ae683d5f0030bf3634cebaf3be3e96", func := "loop.example/pub-g03246/laws.FnLshVU", spec := "fnLshVU", apart := false }
def FnLshVUSaid : Prop := fnLshVURow.holds Try.pinned (OpenSpec.ofChange fnLshVUSpec)

/-- ITS FALSE NEIGHBOUR: 'it returns false'. Refute it at one input. -/
def fnLshVUWrong : ChangeSpec := { name := "fnLshVU", fn := fun _ => fun
  | [d1, d2] => { results := [.lit (.bool false)], args := [d1, d2] }
  | _ => none }
def FnLshVUWrongFalsely : Prop := fnLshVURow.holds Try.pinned (OpenSpec.ofChange fnLshVUWrong)

/-- 'laws.FnRshVU': WHATEVER THE INPUT: true; the input reads as it did. -/
def fnRshVUSpec : ChangeSpec := { name := "fnRshVU", fn := fun _ => fun
  | [d1, d2] => { results := [.lit (.bool true)], args := [d1, d2] }
  | _ => none }
def fnRshVURow : OpenClaim := { program := "ytnopbmfdjicnoaa", sum := "8558cdd6415fd79ece65f8b1de9f5aec42ae683d5f0030bf3634cebaf3be3e96", func := "loop.example/pub-g03246/laws.FnRshVU", spec := "fnRshVU", apart := false }
def FnRshVUSaid : Prop := fnRshVURow.holds Try.pinned (OpenSpec.ofChange fnRshVUSpec)

/-- ITS FALSE NEIGHBOUR: 'it returns false'. Refute it at one input. -/
def fnRshVUWrong : ChangeSpec := { name := "fnRshVU", fn := fun _ => fun
  | [d1, d2] => { results := [.lit (.bool false)], args := [d1, d2] }
  | _ => none }
def FnRshVUWrongFalsely : Prop := fnRshVURow.holds Try.pinned (OpenSpec.ofChange fnRshVUWrong)

/-- 'laws.FnMulAddWWW': WHATEVER THE INPUT: true; the input reads as it did. -/
def fnMulAddWWWSpec : ChangeSpec := { name := "fnMulAddWWW", fn := fun _ => fun
  | [d1, d2, d3] => { results := [.lit (.bool true)], args := [d1, d2, d3] }
  | _ => none }
def fnMulAddWWWRow : OpenClaim := { program := "ytnopbmfdjicnoaa", sum := "8558cdd6415fd79ece65f8b1de9f5aec42ae683d5f0030bf3634cebaf3be3e96", func := "loop.example/pub-g03246/laws.FnMulAddWWW", spec := "fnMulAddWWW", inPlace := ["math/bits.Add64"], apart := false }
def FnMulAddWWWSaid : Prop := fnMulAddWWWRow.holds Try.pinned (OpenSpec.ofChange fnMulAddWWWSpec)

/-- ITS FALSE NEIGHBOUR: 'it returns false'. Refute it at one input. -/
def fnMulAddWWWWrong : ChangeSpec := { name := "fnMulAddWWW", fn := fun _ => fun
  | [d1, d2, d3] => { results := [.lit (.bool false)], args := [d1, d2, d3] }
  | _ => none }
def FnMulAddWWWWrongFalsely : Prop := fnMulAddWWWRow.holds Try.pinned (OpenSpec.ofChange fnMulAddWWWWrong)

/-- 'laws.FnCmp': WHATEVER THE INPUT: true; the input reads as it did. -/
def fnCmpSpec : ChangeSpec := { name := "fnCmp", fn := fun _ => fun
  | [d1, d2] => { results := [.lit (.bool true)], args := [d1, d2] }
  | _ => none }
def fnCmpRow : OpenClaim := { program := "ytnopbmfdjicnoaa", sum := "8558cdd6415fd79ece65f8b1de9f5aec42ae683d5f0030bf3634cebaf3be3e96", func := "loop.example/pub-g03246/laws.FnCmp", spec := "fnCmp", apart := false }
def FnCmpSaid : Prop := fnCmpRow.holds Try.pinned (OpenSpec.ofChange fnCmpSpec)

/-- ITS FALSE NEIGHBOUR: 'it returns false'. Refute it at one input. -/
def fnCmpWrong : ChangeSpec := { name := "fnCmp", fn := fun _ => fun
  | [d1, d2] => { results := [.lit (.bool false)], args := [d1, d2] }
  | _ => none }
def FnCmpWrongFalsely : Prop := fnCmpRow.holds Try.pinned (OpenSpec.ofChange fnCmpWrong)

/-- 'laws.FnBytes': WHATEVER THE INPUT: true; the input reads as it did. -/
def fnBytesSpec : ChangeSpec := { name := "fnBytes", fn := fun _ => fun
  | [d] => { results := [.lit (.bool true)], args := [d] }
  | _ => none }
def fnBytesRow : OpenClaim := { program := "ytnopbmfdjicnoaa", sum := "8558cdd6415fd79ece65f8b1de9f5aec42ae683d5f0030bf3634cebaf3be3e96", func := "loop.example/pub-g03246/laws.FnBytes", spec := "fnBytes", apart := false }
def FnBytesSaid : Prop := fnBytesRow.holds Try.pinned (OpenSpec.ofChange fnBytesSpec)

/-- ITS FALSE NEIGHBOUR: 'it returns false'. Refute it at one input. -/
def fnBytesWrong : ChangeSpec := { name := "fnBytes", fn := fun _ => fun
  | [d] => { results := [.lit (.bool false)], args := [d] }
  | _ => none }
def FnBytesWrongFalsely : Prop := fnBytesRow.holds Try.pinned (OpenSpec.ofChange fnBytesWrong)

/- THE SECOND FORM. 'bulk': how many values and letters a reading holds, each counted each time it is reached (what is shared counts as often as it is met; a slice's spare places count too). A statement '..UptoSaid' is the law's where the arguments, and the package variables that the reading takes, are together of bulk at most 1048576: NARROWER than '..Said'. Prove '..Said' where nothing that the law and all that it calls make is longer than what came in: it says more and counts as full. Else prove '..UptoSaid'. A law counts once. -/
mutual
def uptoBulk {H : Type} : DataW H → Nat
  | .lit (.string bytes) => bytes.length + 1
  | .lit _ => 1
  | .nil => 1
  | .ptr d => uptoBulk d + 1
  | .slice elems spare => uptoBulkAll elems + uptoBulkAll spare + 1
  | .agg parts => uptoBulkAll parts + 1
  | .iface _ d => uptoBulk d + 1
  | .map entries => uptoBulkEntries entries + 1
  | .held _ => 1
def uptoBulkAll {H : Type} : List (DataW H) → Nat
  | [] => 0
  | d :: r => uptoBulk d + uptoBulkAll r
def uptoBulkEntries {H : Type} : List (Lit × DataW H) → Nat
  | [] => 0
  | x :: r => uptoBulkEntry x + uptoBulkEntries r
def uptoBulkEntry {H : Type} : Lit × DataW H → Nat
  | (.string bytes, d) => bytes.length + uptoBulk d + 1
  | (_, d) => uptoBulk d + 1
 end
def uptoSmall : (H : Type) → List (DataW H) → Bool := fun _ ds => decide (uptoBulkAll ds ≤ 1048576)
def OpenSpec.upto (s : _root_.Go.ChangeSpec) : _root_.Go.OpenSpec := { _root_.Go.OpenSpec.ofChange s with cond := some uptoSmall }

/-- 'laws.FnMaxPow', WHERE WHAT IT READS IS OF BULK AT MOST 1048576: true; the input reads as it did. -/
def fnMaxPowUptoRow : OpenClaim := { program := "ytnopbmfdjicnoaa", sum := "8558cdd6415fd79ece65f8b1de9f5aec42ae683d5f0030bf3634cebaf3be3e96", func := "loop.example/pub-g03246/laws.FnMaxPow", spec := "fnMaxPow", apart := false, narrowed := true }
def FnMaxPowUptoSaid : Prop := fnMaxPowUptoRow.holds Try.pinned (OpenSpec.upto fnMaxPowSpec)

/-- 'laws.FnPow', WHERE WHAT IT READS IS OF BULK AT MOST 1048576: true; the input reads as it did. -/
def fnPowUptoRow : OpenClaim := { program := "ytnopbmfdjicnoaa", sum := "8558cdd6415fd79ece65f8b1de9f5aec42ae683d5f0030bf3634cebaf3be3e96", func := "loop.example/pub-g03246/laws.FnPow", spec := "fnPow", apart := false, narrowed := true }
def FnPowUptoSaid : Prop := fnPowUptoRow.holds Try.pinned (OpenSpec.upto fnPowSpec)

/-- 'laws.FnNorm', WHERE WHAT IT READS IS OF BULK AT MOST 1048576: true; the input reads as it did. -/
def fnNormUptoRow : OpenClaim := { program := "ytnopbmfdjicnoaa", sum := "8558cdd6415fd79ece65f8b1de9f5aec42ae683d5f0030bf3634cebaf3be3e96", func := "loop.example/pub-g03246/laws.FnNorm", spec := "fnNorm", apart := false, narrowed := true }
def FnNormUptoSaid : Prop := fnNormUptoRow.holds Try.pinned (OpenSpec.upto fnNormSpec)

/-- 'laws.FnMulWW', WHERE WHAT IT READS IS OF BULK AT MOST 1048576: true; the input reads as it did. -/
def fnMulWWUptoRow : OpenClaim := { program := "ytnopbmfdjicnoaa", sum := "8558cdd6415fd79ece65f8b1de9f5aec42ae683d5f0030bf3634cebaf3be3e96", func := "loop.example/pub-g03246/laws.FnMulWW", spec := "fnMulWW", apart := false, narrowed := true }
def FnMulWWUptoSaid : Prop := fnMulWWUptoRow.holds Try.pinned (OpenSpec.upto fnMulWWSpec)

/-- 'laws.FnNlz', WHERE WHAT IT READS IS OF BULK AT MOST 1048576: true; the input reads as it did. -/
def fnNlzUptoRow : OpenClaim := { program := "ytnopbmfdjicnoaa", sum := "8558cdd6415fd79ece65f8b1de9f5aec42ae683d5f0030bf3634cebaf3be3e96", func := "loop.example/pub-g03246/laws.FnNlz", spec := "fnNlz", apart := false, narrowed := true }
def FnNlzUptoSaid : Prop := fnNlzUptoRow.holds Try.pinned (OpenSpec.upto fnNlzSpec)

/-- 'laws.FnBit', WHERE WHAT IT READS IS OF BULK AT MOST 1048576: true; the input reads as it did. -/
def fnBitUptoRow : OpenClaim := { program := "ytnopbmfdjicnoaa", sum := "8558cdd6415fd79ece65f8b1de9f5aec42ae683d5f0030bf3634cebaf3be3e96", func := "loop.example/pub-g03246/laws.FnBit", spec := "fnBit", apart := false, narrowed := true }
def FnBitUptoSaid : Prop := fnBitUptoRow.holds Try.pinned (OpenSpec.upto fnBitSpec)

/-- 'laws.FnSticky', WHERE WHAT IT READS IS OF BULK AT MOST 1048576: true; the input reads as it did. -/
def fnStickyUptoRow : OpenClaim := { program := "ytnopbmfdjicnoaa", sum := "8558cdd6415fd79ece65f8b1de9f5aec42ae683d5f0030bf3634cebaf3be3e96", func := "loop.example/pub-g03246/laws.FnSticky", spec := "fnSticky", apart := false, narrowed := true }
def FnStickyUptoSaid : Prop := fnStickyUptoRow.holds Try.pinned (OpenSpec.upto fnStickySpec)

/-- 'laws.FnLshVU', WHERE WHAT IT READS IS OF BULK AT MOST 1048576: true; the input reads as it did. -/
def fnLshVUUptoRow : OpenClaim := { program := "ytnopbmfdjicnoaa", sum := "8558cdd6415fd79ece65f8b1de9f5aec42ae683d5f0030bf3634cebaf3be3e96", func := "loop.example/pub-g03246/laws.FnLshVU", spec := "fnLshVU", apart := false, narrowed := true }
def FnLshVUUptoSaid : Prop := fnLshVUUptoRow.holds Try.pinned (OpenSpec.upto fnLshVUSpec)

/-- 'laws.FnRshVU', WHERE WHAT IT READS IS OF BULK AT MOST 1048576: true; the input reads as it did. -/
def fnRshVUUptoRow : OpenClaim := { program := "ytnopbmfdjicnoaa", sum := "8558cdd6415fd79ece65f8b1de9f5aec42ae683d5f0030bf3634cebaf3be3e96", func := "loop.example/pub-g03246/laws.FnRshVU", spec := "fnRshVU", apart := false, narrowed := true }
def FnRshVUUptoSaid : Prop := fnRshVUUptoRow.holds Try.pinned (OpenSpec.upto fnRshVUSpec)

/-- 'laws.FnMulAddWWW', WHERE WHAT IT READS IS OF BULK AT MOST 1048576: true; the input reads as it did. -/
def fnMulAddWWWUptoRow : OpenClaim := { program := "ytnopbmfdjicnoaa", sum := "8558cdd6415fd79ece65f8b1de9f5aec42ae683d5f0030bf3634cebaf3be3e96", func := "loop.example/pub-g03246/laws.FnMulAddWWW", spec := "fnMulAddWWW", inPlace := ["math/bits.Add64"], apart := false, narrowed := true }
def FnMulAddWWWUptoSaid : Prop := fnMulAddWWWUptoRow.holds Try.pinned (OpenSpec.upto fnMulAddWWWSpec)

/-- 'laws.FnCmp', WHERE WHAT IT READS IS OF BULK AT MOST 1048576: true; the input reads as it did. -/
def fnCmpUptoRow : OpenClaim := { program := "ytnopbmfdjicnoaa", sum := "8558cdd6415fd79ece65f8b1de9f5aec42ae683d5f0030bf3634cebaf3be3e96", func := "loop.example/pub-g03246/laws.FnCmp", spec := "fnCmp", apart := false, narrowed := true }
def FnCmpUptoSaid : Prop := fnCmpUptoRow.holds Try.pinned (OpenSpec.upto fnCmpSpec)

/-- 'laws.FnBytes', WHERE WHAT IT READS IS OF BULK AT MOST 1048576: true; the input reads as it did. -/
def fnBytesUptoRow : OpenClaim := { program := "ytnopbmfdjicnoaa", sum := "8558cdd6415fd79ece65f8b1de9f5aec42ae683d5f0030bf3634cebaf3be3e96", func := "loop.example/pub-g03246/laws.FnBytes", spec := "fnBytes", apart := false, narrowed := true }
def FnBytesUptoSaid : Prop := fnBytesUptoRow.holds Try.pinned (OpenSpec.upto fnBytesSpec)

end Rows
end Go.Proofs.Ytnopbmfdjicnoaa
