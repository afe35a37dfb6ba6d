/-
  NARROWER THAN 'FOR EVERY INPUT', by the rows' own cells (each row's printed sentence says how): FnIsPow2: laid · FnBitLen: laid · FnBasicSqr: laid · FnSqr: laid · FnMul: laid · FnKaratsuba: laid · FnDistribute: laid · FnMulRoads: laid · FnBinomial: laid · FnDivRecursive: laid · FnDiv: laid · FnDivBack: laid · FnMulDiv: laid · FnSqrt: laid.
  DERIVED. THE GIVEN ROWS OF THIS SEAT. 14 by the template 'for every input the law returns true; each argument reads behind the call as it read before'; 0 by the template 'total and deterministic' (their statements: YtknokndpeneogaaDoorTotals.lean).
  GIVEN WITH THE SEED: the statements are not yours to turn. If you find one false, say at which input.
  Laid BY PROGRAM, IN A SANDBOX (cutbox-rows.mjs): the forced cells as the released guide's own fill.sh prints them over the translation face434f18366f13… (all of the seat's roots in one cut). By AI agents, Wed Nov 11 2026. No macro, syntax, notation, axiom, sorry.
-/
import Derived.Test.YtknokndpeneogaaDoorChecked
import GoSem.Claim
import GoSem.ClaimJoined
import GoSem.ClaimMapViews
import Derived.JoinedTies
import Derived.KernelRfl
namespace Go.Proofs.YtknokndpeneogaaDoor
/- THE CELL 'sum', in the pinned program and in every row, IS THE sha256 OF THE DUMP (.gsa) THAT YtknokndpeneogaaDoorProg.lean LOADS. Nothing in Lean hashes anything: it is a label: what it is worth is what the hold of that sum in a sandbox is worth. -/
noncomputable def Tryd.pinned : Pinned := { name := "ytknokndpeneogaadoor", sum := "face434f18366f13e0c5dcc9d4c62a348a2e8d26c31202b4fe9dce649f949e2d", checked := Tryd.checked }
namespace Rows
def none {H : Type} : Left H := { results := [], args := [] }

/- WHAT THE LISTED PACKAGE-LEVEL VARIABLES READ AS WHEN THE CALL BEGINS. Each datum BY PROGRAM (the guide's laid-datum.mjs) off the statement by which the dump's own 'gosem.cut.vars' lays the variable. In a bare row this is a premise. The card (YtknokndpeneogaaDoorCards.lean) ties it to the program's text. -/
def laid_math_bits_deBruijn32tab {H : Type} : DataW H := .agg [.lit (.int .u8 0), .lit (.int .u8 1), .lit (.int .u8 28), .lit (.int .u8 2), .lit (.int .u8 29), .lit (.int .u8 14), .lit (.int .u8 24), .lit (.int .u8 3), .lit (.int .u8 30), .lit (.int .u8 22), .lit (.int .u8 20), .lit (.int .u8 15), .lit (.int .u8 25), .lit (.int .u8 17), .lit (.int .u8 4), .lit (.int .u8 8), .lit (.int .u8 31), .lit (.int .u8 27), .lit (.int .u8 13), .lit (.int .u8 23), .lit (.int .u8 21), .lit (.int .u8 19), .lit (.int .u8 16), .lit (.int .u8 7), .lit (.int .u8 26), .lit (.int .u8 12), .lit (.int .u8 18), .lit (.int .u8 6), .lit (.int .u8 11), .lit (.int .u8 5), .lit (.int .u8 10), .lit (.int .u8 9)]
def laid_math_bits_deBruijn64tab {H : Type} : DataW H := .agg [.lit (.int .u8 0), .lit (.int .u8 1), .lit (.int .u8 56), .lit (.int .u8 2), .lit (.int .u8 57), .lit (.int .u8 49), .lit (.int .u8 28), .lit (.int .u8 3), .lit (.int .u8 61), .lit (.int .u8 58), .lit (.int .u8 42), .lit (.int .u8 50), .lit (.int .u8 38), .lit (.int .u8 29), .lit (.int .u8 17), .lit (.int .u8 4), .lit (.int .u8 62), .lit (.int .u8 47), .lit (.int .u8 59), .lit (.int .u8 36), .lit (.int .u8 45), .lit (.int .u8 43), .lit (.int .u8 51), .lit (.int .u8 22), .lit (.int .u8 53), .lit (.int .u8 39), .lit (.int .u8 33), .lit (.int .u8 30), .lit (.int .u8 24), .lit (.int .u8 18), .lit (.int .u8 12), .lit (.int .u8 5), .lit (.int .u8 63), .lit (.int .u8 55), .lit (.int .u8 48), .lit (.int .u8 27), .lit (.int .u8 60), .lit (.int .u8 41), .lit (.int .u8 37), .lit (.int .u8 16), .lit (.int .u8 46), .lit (.int .u8 35), .lit (.int .u8 44), .lit (.int .u8 21), .lit (.int .u8 52), .lit (.int .u8 32), .lit (.int .u8 23), .lit (.int .u8 11), .lit (.int .u8 54), .lit (.int .u8 26), .lit (.int .u8 40), .lit (.int .u8 15), .lit (.int .u8 34), .lit (.int .u8 20), .lit (.int .u8 31), .lit (.int .u8 10), .lit (.int .u8 25), .lit (.int .u8 14), .lit (.int .u8 19), .lit (.int .u8 9), .lit (.int .u8 13), .lit (.int .u8 8), .lit (.int .u8 7), .lit (.int .u8 6)]
def laid_loop_example_pub_g03246_pub_big2_basicSqrThreshold {H : Type} : DataW H := .lit (.int .i64 12)
def laid_loop_example_pub_g03246_pub_big2_karatsubaSqrThreshold {H : Type} : DataW H := .lit (.int .i64 80)
def laid_loop_example_pub_g03246_pub_big2_karatsubaThreshold {H : Type} : DataW H := .lit (.int .i64 40)
def laid_loop_example_pub_g03246_pub_big2_divRecursiveThreshold {H : Type} : DataW H := .lit (.int .i64 40)

/-- 'laws.FnIsPow2': WHATEVER THE INPUT: true; the input reads as it did. -/
def fnIsPow2Spec : ChangeSpec := { name := "fnIsPow2", fn := fun _ => fun
  | [d] => { results := [.lit (.bool true)], args := [d] }
  | _ => none }
def fnIsPow2Row : OpenClaim := { program := "ytknokndpeneogaadoor", sum := "face434f18366f13e0c5dcc9d4c62a348a2e8d26c31202b4fe9dce649f949e2d", func := "loop.example/pub-g03246/laws.FnIsPow2", spec := "fnIsPow2", named := ["math/bits.deBruijn32tab", "math/bits.deBruijn64tab"], apart := false, laid := [("math/bits.deBruijn32tab", laid_math_bits_deBruijn32tab), ("math/bits.deBruijn64tab", laid_math_bits_deBruijn64tab)] }
def FnIsPow2Said : Prop := fnIsPow2Row.holds Tryd.pinned (OpenSpec.ofChange fnIsPow2Spec)

/-- ITS FALSE NEIGHBOUR: 'it returns false'. Refute it at one input. -/
def fnIsPow2Wrong : ChangeSpec := { name := "fnIsPow2", fn := fun _ => fun
  | [d] => { results := [.lit (.bool false)], args := [d] }
  | _ => none }
def FnIsPow2WrongFalsely : Prop := fnIsPow2Row.holds Tryd.pinned (OpenSpec.ofChange fnIsPow2Wrong)

/-- 'laws.FnBitLen': WHATEVER THE INPUT: true; the input reads as it did. -/
def fnBitLenSpec : ChangeSpec := { name := "fnBitLen", fn := fun _ => fun
  | [d] => { results := [.lit (.bool true)], args := [d] }
  | _ => none }
def fnBitLenRow : OpenClaim := { program := "ytknokndpeneogaadoor", sum := "face434f18366f13e0c5dcc9d4c62a348a2e8d26c31202b4fe9dce649f949e2d", func := "loop.example/pub-g03246/laws.FnBitLen", spec := "fnBitLen", named := ["math/bits.deBruijn32tab", "math/bits.deBruijn64tab"], apart := false, laid := [("math/bits.deBruijn32tab", laid_math_bits_deBruijn32tab), ("math/bits.deBruijn64tab", laid_math_bits_deBruijn64tab)] }
def FnBitLenSaid : Prop := fnBitLenRow.holds Tryd.pinned (OpenSpec.ofChange fnBitLenSpec)

/-- ITS FALSE NEIGHBOUR: 'it returns false'. Refute it at one input. -/
def fnBitLenWrong : ChangeSpec := { name := "fnBitLen", fn := fun _ => fun
  | [d] => { results := [.lit (.bool false)], args := [d] }
  | _ => none }
def FnBitLenWrongFalsely : Prop := fnBitLenRow.holds Tryd.pinned (OpenSpec.ofChange fnBitLenWrong)

/-- 'laws.FnBasicSqr': WHATEVER THE INPUT: true; the input reads as it did. -/
def fnBasicSqrSpec : ChangeSpec := { name := "fnBasicSqr", vars := ["loop.example/pub-g03246/pub/big2.basicSqrThreshold"], fn := fun _ => fun
  | [d, g1] => { results := [.lit (.bool true)], args := [d], vars := [g1] }
  | _ => none }
def fnBasicSqrRow : OpenClaim := { program := "ytknokndpeneogaadoor", sum := "face434f18366f13e0c5dcc9d4c62a348a2e8d26c31202b4fe9dce649f949e2d", func := "loop.example/pub-g03246/laws.FnBasicSqr", spec := "fnBasicSqr", inPlace := ["math/bits.Add64"], named := ["loop.example/pub-g03246/pub/big2.basicSqrThreshold"], apart := false, laid := [("loop.example/pub-g03246/pub/big2.basicSqrThreshold", laid_loop_example_pub_g03246_pub_big2_basicSqrThreshold)] }
def FnBasicSqrSaid : Prop := fnBasicSqrRow.holds Tryd.pinned (OpenSpec.ofChange fnBasicSqrSpec)

/-- ITS FALSE NEIGHBOUR: 'it returns false'. Refute it at one input. -/
def fnBasicSqrWrong : ChangeSpec := { name := "fnBasicSqr", vars := ["loop.example/pub-g03246/pub/big2.basicSqrThreshold"], fn := fun _ => fun
  | [d, g1] => { results := [.lit (.bool false)], args := [d], vars := [g1] }
  | _ => none }
def FnBasicSqrWrongFalsely : Prop := fnBasicSqrRow.holds Tryd.pinned (OpenSpec.ofChange fnBasicSqrWrong)

/-- 'laws.FnSqr': WHATEVER THE INPUT: true; the input reads as it did. -/
def fnSqrSpec : ChangeSpec := { name := "fnSqr", vars := ["loop.example/pub-g03246/pub/big2.basicSqrThreshold", "loop.example/pub-g03246/pub/big2.karatsubaSqrThreshold"], fn := fun _ => fun
  | [d, g1, g2] => { results := [.lit (.bool true)], args := [d], vars := [g1, g2] }
  | _ => none }
def fnSqrRow : OpenClaim := { program := "ytknokndpeneogaadoor", sum := "face434f18366f13e0c5dcc9d4c62a348a2e8d26c31202b4fe9dce649f949e2d", func := "loop.example/pub-g03246/laws.FnSqr", spec := "fnSqr", inPlace := ["math/bits.Add64", "math/bits.Sub64"], recurses := true, named := ["loop.example/pub-g03246/pub/big2.basicSqrThreshold", "loop.example/pub-g03246/pub/big2.karatsubaSqrThreshold"], apart := false, laid := [("loop.example/pub-g03246/pub/big2.basicSqrThreshold", laid_loop_example_pub_g03246_pub_big2_basicSqrThreshold), ("loop.example/pub-g03246/pub/big2.karatsubaSqrThreshold", laid_loop_example_pub_g03246_pub_big2_karatsubaSqrThreshold)] }
def FnSqrSaid : Prop := fnSqrRow.holds Tryd.pinned (OpenSpec.ofChange fnSqrSpec)

/-- ITS FALSE NEIGHBOUR: 'it returns false'. Refute it at one input. -/
def fnSqrWrong : ChangeSpec := { name := "fnSqr", vars := ["loop.example/pub-g03246/pub/big2.basicSqrThreshold", "loop.example/pub-g03246/pub/big2.karatsubaSqrThreshold"], fn := fun _ => fun
  | [d, g1, g2] => { results := [.lit (.bool false)], args := [d], vars := [g1, g2] }
  | _ => none }
def FnSqrWrongFalsely : Prop := fnSqrRow.holds Tryd.pinned (OpenSpec.ofChange fnSqrWrong)

/-- 'laws.FnMul': WHATEVER THE INPUT: true; the input reads as it did. -/
def fnMulSpec : ChangeSpec := { name := "fnMul", vars := ["loop.example/pub-g03246/pub/big2.karatsubaThreshold", "loop.example/pub-g03246/pub/big2.basicSqrThreshold", "loop.example/pub-g03246/pub/big2.karatsubaSqrThreshold"], fn := fun _ => fun
  | [d1, d2, g1, g2, g3] => { results := [.lit (.bool true)], args := [d1, d2], vars := [g1, g2, g3] }
  | _ => none }
def fnMulRow : OpenClaim := { program := "ytknokndpeneogaadoor", sum := "face434f18366f13e0c5dcc9d4c62a348a2e8d26c31202b4fe9dce649f949e2d", func := "loop.example/pub-g03246/laws.FnMul", spec := "fnMul", inPlace := ["math/bits.Add64", "math/bits.Sub64"], recurses := true, named := ["loop.example/pub-g03246/pub/big2.karatsubaThreshold", "loop.example/pub-g03246/pub/big2.basicSqrThreshold", "loop.example/pub-g03246/pub/big2.karatsubaSqrThreshold"], apart := false, laid := [("loop.example/pub-g03246/pub/big2.karatsubaThreshold", laid_loop_example_pub_g03246_pub_big2_karatsubaThreshold), ("loop.example/pub-g03246/pub/big2.basicSqrThreshold", laid_loop_example_pub_g03246_pub_big2_basicSqrThreshold), ("loop.example/pub-g03246/pub/big2.karatsubaSqrThreshold", laid_loop_example_pub_g03246_pub_big2_karatsubaSqrThreshold)] }
def FnMulSaid : Prop := fnMulRow.holds Tryd.pinned (OpenSpec.ofChange fnMulSpec)

/-- ITS FALSE NEIGHBOUR: 'it returns false'. Refute it at one input. -/
def fnMulWrong : ChangeSpec := { name := "fnMul", vars := ["loop.example/pub-g03246/pub/big2.karatsubaThreshold", "loop.example/pub-g03246/pub/big2.basicSqrThreshold", "loop.example/pub-g03246/pub/big2.karatsubaSqrThreshold"], fn := fun _ => fun
  | [d1, d2, g1, g2, g3] => { results := [.lit (.bool false)], args := [d1, d2], vars := [g1, g2, g3] }
  | _ => none }
def FnMulWrongFalsely : Prop := fnMulRow.holds Tryd.pinned (OpenSpec.ofChange fnMulWrong)

/-- 'laws.FnKaratsuba': WHATEVER THE INPUT: true; the input reads as it did. -/
def fnKaratsubaSpec : ChangeSpec := { name := "fnKaratsuba", vars := ["loop.example/pub-g03246/pub/big2.karatsubaThreshold", "loop.example/pub-g03246/pub/big2.basicSqrThreshold", "loop.example/pub-g03246/pub/big2.karatsubaSqrThreshold"], fn := fun _ => fun
  | [d1, d2, g1, g2, g3] => { results := [.lit (.bool true)], args := [d1, d2], vars := [g1, g2, g3] }
  | _ => none }
def fnKaratsubaRow : OpenClaim := { program := "ytknokndpeneogaadoor", sum := "face434f18366f13e0c5dcc9d4c62a348a2e8d26c31202b4fe9dce649f949e2d", func := "loop.example/pub-g03246/laws.FnKaratsuba", spec := "fnKaratsuba", inPlace := ["math/bits.Add64", "math/bits.Sub64"], recurses := true, named := ["loop.example/pub-g03246/pub/big2.karatsubaThreshold", "loop.example/pub-g03246/pub/big2.basicSqrThreshold", "loop.example/pub-g03246/pub/big2.karatsubaSqrThreshold"], apart := false, laid := [("loop.example/pub-g03246/pub/big2.karatsubaThreshold", laid_loop_example_pub_g03246_pub_big2_karatsubaThreshold), ("loop.example/pub-g03246/pub/big2.basicSqrThreshold", laid_loop_example_pub_g03246_pub_big2_basicSqrThreshold), ("loop.example/pub-g03246/pub/big2.karatsubaSqrThreshold", laid_loop_example_pub_g03246_pub_big2_karatsubaSqrThreshold)] }
def FnKaratsubaSaid : Prop := fnKaratsubaRow.holds Tryd.pinned (OpenSpec.ofChange fnKaratsubaSpec)

/-- ITS FALSE NEIGHBOUR: 'it returns false'. Refute it at one input. -/
def fnKaratsubaWrong : ChangeSpec := { name := "fnKaratsuba", vars := ["loop.example/pub-g03246/pub/big2.karatsubaThreshold", "loop.example/pub-g03246/pub/big2.basicSqrThreshold", "loop.example/pub-g03246/pub/big2.karatsubaSqrThreshold"], fn := fun _ => fun
  | [d1, d2, g1, g2, g3] => { results := [.lit (.bool false)], args := [d1, d2], vars := [g1, g2, g3] }
  | _ => none }
def FnKaratsubaWrongFalsely : Prop := fnKaratsubaRow.holds Tryd.pinned (OpenSpec.ofChange fnKaratsubaWrong)

/-- 'laws.FnDistribute': WHATEVER THE INPUT: true; the input reads as it did. -/
def fnDistributeSpec : ChangeSpec := { name := "fnDistribute", vars := ["loop.example/pub-g03246/pub/big2.karatsubaThreshold", "loop.example/pub-g03246/pub/big2.basicSqrThreshold", "loop.example/pub-g03246/pub/big2.karatsubaSqrThreshold"], fn := fun _ => fun
  | [d1, d2, d3, g1, g2, g3] => { results := [.lit (.bool true)], args := [d1, d2, d3], vars := [g1, g2, g3] }
  | _ => none }
def fnDistributeRow : OpenClaim := { program := "ytknokndpeneogaadoor", sum := "face434f18366f13e0c5dcc9d4c62a348a2e8d26c31202b4fe9dce649f949e2d", func := "loop.example/pub-g03246/laws.FnDistribute", spec := "fnDistribute", inPlace := ["math/bits.Add64", "math/bits.Sub64"], recurses := true, named := ["loop.example/pub-g03246/pub/big2.karatsubaThreshold", "loop.example/pub-g03246/pub/big2.basicSqrThreshold", "loop.example/pub-g03246/pub/big2.karatsubaSqrThreshold"], apart := false, laid := [("loop.example/pub-g03246/pub/big2.karatsubaThreshold", laid_loop_example_pub_g03246_pub_big2_karatsubaThreshold), ("loop.example/pub-g03246/pub/big2.basicSqrThreshold", laid_loop_example_pub_g03246_pub_big2_basicSqrThreshold), ("loop.example/pub-g03246/pub/big2.karatsubaSqrThreshold", laid_loop_example_pub_g03246_pub_big2_karatsubaSqrThreshold)] }
def FnDistributeSaid : Prop := fnDistributeRow.holds Tryd.pinned (OpenSpec.ofChange fnDistributeSpec)

/-- ITS FALSE NEIGHBOUR: 'it returns false'. Refute it at one input. -/
def fnDistributeWrong : ChangeSpec := { name := "fnDistribute", vars := ["loop.example/pub-g03246/pub/big2.karatsubaThreshold", "loop.example/pub-g03246/pub/big2.basicSqrThreshold", "loop.example/pub-g03246/pub/big2.karatsubaSqrThreshold"], fn := fun _ => fun
  | [d1, d2, d3, g1, g2, g3] => { results := [.lit (.bool false)], args := [d1, d2, d3], vars := [g1, g2, g3] }
  | _ => none }
def FnDistributeWrongFalsely : Prop := fnDistributeRow.holds Tryd.pinned (OpenSpec.ofChange fnDistributeWrong)

/-- 'laws.FnMulRoads': WHATEVER THE INPUT: true; the input reads as it did. -/
def fnMulRoadsSpec : ChangeSpec := { name := "fnMulRoads", vars := ["loop.example/pub-g03246/pub/big2.karatsubaThreshold", "loop.example/pub-g03246/pub/big2.basicSqrThreshold", "loop.example/pub-g03246/pub/big2.karatsubaSqrThreshold"], fn := fun _ => fun
  | [d1, d2, g1, g2, g3] => { results := [.lit (.bool true)], args := [d1, d2], vars := [g1, g2, g3] }
  | _ => none }
def fnMulRoadsRow : OpenClaim := { program := "ytknokndpeneogaadoor", sum := "face434f18366f13e0c5dcc9d4c62a348a2e8d26c31202b4fe9dce649f949e2d", func := "loop.example/pub-g03246/laws.FnMulRoads", spec := "fnMulRoads", inPlace := ["math/bits.Add64", "math/bits.Sub64"], recurses := true, named := ["loop.example/pub-g03246/pub/big2.karatsubaThreshold", "loop.example/pub-g03246/pub/big2.basicSqrThreshold", "loop.example/pub-g03246/pub/big2.karatsubaSqrThreshold"], apart := false, laid := [("loop.example/pub-g03246/pub/big2.karatsubaThreshold", laid_loop_example_pub_g03246_pub_big2_karatsubaThreshold), ("loop.example/pub-g03246/pub/big2.basicSqrThreshold", laid_loop_example_pub_g03246_pub_big2_basicSqrThreshold), ("loop.example/pub-g03246/pub/big2.karatsubaSqrThreshold", laid_loop_example_pub_g03246_pub_big2_karatsubaSqrThreshold)] }
def FnMulRoadsSaid : Prop := fnMulRoadsRow.holds Tryd.pinned (OpenSpec.ofChange fnMulRoadsSpec)

/-- ITS FALSE NEIGHBOUR: 'it returns false'. Refute it at one input. -/
def fnMulRoadsWrong : ChangeSpec := { name := "fnMulRoads", vars := ["loop.example/pub-g03246/pub/big2.karatsubaThreshold", "loop.example/pub-g03246/pub/big2.basicSqrThreshold", "loop.example/pub-g03246/pub/big2.karatsubaSqrThreshold"], fn := fun _ => fun
  | [d1, d2, g1, g2, g3] => { results := [.lit (.bool false)], args := [d1, d2], vars := [g1, g2, g3] }
  | _ => none }
def FnMulRoadsWrongFalsely : Prop := fnMulRoadsRow.holds Tryd.pinned (OpenSpec.ofChange fnMulRoadsWrong)

/-- 'laws.FnBinomial': WHATEVER THE INPUT: true; the input reads as it did. -/
def fnBinomialSpec : ChangeSpec := { name := "fnBinomial", vars := ["loop.example/pub-g03246/pub/big2.basicSqrThreshold", "loop.example/pub-g03246/pub/big2.karatsubaSqrThreshold", "loop.example/pub-g03246/pub/big2.karatsubaThreshold"], fn := fun _ => fun
  | [d1, d2, g1, g2, g3] => { results := [.lit (.bool true)], args := [d1, d2], vars := [g1, g2, g3] }
  | _ => none }
def fnBinomialRow : OpenClaim := { program := "ytknokndpeneogaadoor", sum := "face434f18366f13e0c5dcc9d4c62a348a2e8d26c31202b4fe9dce649f949e2d", func := "loop.example/pub-g03246/laws.FnBinomial", spec := "fnBinomial", inPlace := ["math/bits.Add64", "math/bits.Sub64"], recurses := true, named := ["loop.example/pub-g03246/pub/big2.basicSqrThreshold", "loop.example/pub-g03246/pub/big2.karatsubaSqrThreshold", "loop.example/pub-g03246/pub/big2.karatsubaThreshold"], apart := false, laid := [("loop.example/pub-g03246/pub/big2.karatsubaThreshold", laid_loop_example_pub_g03246_pub_big2_karatsubaThreshold), ("loop.example/pub-g03246/pub/big2.basicSqrThreshold", laid_loop_example_pub_g03246_pub_big2_basicSqrThreshold), ("loop.example/pub-g03246/pub/big2.karatsubaSqrThreshold", laid_loop_example_pub_g03246_pub_big2_karatsubaSqrThreshold)] }
def FnBinomialSaid : Prop := fnBinomialRow.holds Tryd.pinned (OpenSpec.ofChange fnBinomialSpec)

/-- ITS FALSE NEIGHBOUR: 'it returns false'. Refute it at one input. -/
def fnBinomialWrong : ChangeSpec := { name := "fnBinomial", vars := ["loop.example/pub-g03246/pub/big2.basicSqrThreshold", "loop.example/pub-g03246/pub/big2.karatsubaSqrThreshold", "loop.example/pub-g03246/pub/big2.karatsubaThreshold"], fn := fun _ => fun
  | [d1, d2, g1, g2, g3] => { results := [.lit (.bool false)], args := [d1, d2], vars := [g1, g2, g3] }
  | _ => none }
def FnBinomialWrongFalsely : Prop := fnBinomialRow.holds Tryd.pinned (OpenSpec.ofChange fnBinomialWrong)

/-- 'laws.FnDivRecursive': WHATEVER THE INPUT: true; the input reads as it did. -/
def fnDivRecursiveSpec : ChangeSpec := { name := "fnDivRecursive", vars := ["loop.example/pub-g03246/pub/big2.divRecursiveThreshold", "loop.example/pub-g03246/pub/big2.karatsubaThreshold", "loop.example/pub-g03246/pub/big2.basicSqrThreshold", "loop.example/pub-g03246/pub/big2.karatsubaSqrThreshold"], fn := fun _ => fun
  | [d1, d2, g1, g2, g3, g4] => { results := [.lit (.bool true)], args := [d1, d2], vars := [g1, g2, g3, g4] }
  | _ => none }
def fnDivRecursiveRow : OpenClaim := { program := "ytknokndpeneogaadoor", sum := "face434f18366f13e0c5dcc9d4c62a348a2e8d26c31202b4fe9dce649f949e2d", func := "loop.example/pub-g03246/laws.FnDivRecursive", spec := "fnDivRecursive", inPlace := ["math/bits.Add64", "math/bits.Sub64"], recurses := true, named := ["loop.example/pub-g03246/pub/big2.divRecursiveThreshold", "loop.example/pub-g03246/pub/big2.karatsubaThreshold", "loop.example/pub-g03246/pub/big2.basicSqrThreshold", "loop.example/pub-g03246/pub/big2.karatsubaSqrThreshold"], apart := false, laid := [("loop.example/pub-g03246/pub/big2.divRecursiveThreshold", laid_loop_example_pub_g03246_pub_big2_divRecursiveThreshold), ("loop.example/pub-g03246/pub/big2.karatsubaThreshold", laid_loop_example_pub_g03246_pub_big2_karatsubaThreshold), ("loop.example/pub-g03246/pub/big2.basicSqrThreshold", laid_loop_example_pub_g03246_pub_big2_basicSqrThreshold), ("loop.example/pub-g03246/pub/big2.karatsubaSqrThreshold", laid_loop_example_pub_g03246_pub_big2_karatsubaSqrThreshold)] }
def FnDivRecursiveSaid : Prop := fnDivRecursiveRow.holds Tryd.pinned (OpenSpec.ofChange fnDivRecursiveSpec)

/-- ITS FALSE NEIGHBOUR: 'it returns false'. Refute it at one input. -/
def fnDivRecursiveWrong : ChangeSpec := { name := "fnDivRecursive", vars := ["loop.example/pub-g03246/pub/big2.divRecursiveThreshold", "loop.example/pub-g03246/pub/big2.karatsubaThreshold", "loop.example/pub-g03246/pub/big2.basicSqrThreshold", "loop.example/pub-g03246/pub/big2.karatsubaSqrThreshold"], fn := fun _ => fun
  | [d1, d2, g1, g2, g3, g4] => { results := [.lit (.bool false)], args := [d1, d2], vars := [g1, g2, g3, g4] }
  | _ => none }
def FnDivRecursiveWrongFalsely : Prop := fnDivRecursiveRow.holds Tryd.pinned (OpenSpec.ofChange fnDivRecursiveWrong)

/-- 'laws.FnDiv': WHATEVER THE INPUT: true; the input reads as it did. -/
def fnDivSpec : ChangeSpec := { name := "fnDiv", vars := ["loop.example/pub-g03246/pub/big2.divRecursiveThreshold", "loop.example/pub-g03246/pub/big2.karatsubaThreshold", "loop.example/pub-g03246/pub/big2.basicSqrThreshold", "loop.example/pub-g03246/pub/big2.karatsubaSqrThreshold"], fn := fun _ => fun
  | [d1, d2, g1, g2, g3, g4] => { results := [.lit (.bool true)], args := [d1, d2], vars := [g1, g2, g3, g4] }
  | _ => none }
def fnDivRow : OpenClaim := { program := "ytknokndpeneogaadoor", sum := "face434f18366f13e0c5dcc9d4c62a348a2e8d26c31202b4fe9dce649f949e2d", func := "loop.example/pub-g03246/laws.FnDiv", spec := "fnDiv", inPlace := ["math/bits.Add64", "math/bits.Sub64"], recurses := true, named := ["loop.example/pub-g03246/pub/big2.divRecursiveThreshold", "loop.example/pub-g03246/pub/big2.karatsubaThreshold", "loop.example/pub-g03246/pub/big2.basicSqrThreshold", "loop.example/pub-g03246/pub/big2.karatsubaSqrThreshold"], apart := false, laid := [("loop.example/pub-g03246/pub/big2.divRecursiveThreshold", laid_loop_example_pub_g03246_pub_big2_divRecursiveThreshold), ("loop.example/pub-g03246/pub/big2.karatsubaThreshold", laid_loop_example_pub_g03246_pub_big2_karatsubaThreshold), ("loop.example/pub-g03246/pub/big2.basicSqrThreshold", laid_loop_example_pub_g03246_pub_big2_basicSqrThreshold), ("loop.example/pub-g03246/pub/big2.karatsubaSqrThreshold", laid_loop_example_pub_g03246_pub_big2_karatsubaSqrThreshold)] }
def FnDivSaid : Prop := fnDivRow.holds Tryd.pinned (OpenSpec.ofChange fnDivSpec)

/-- ITS FALSE NEIGHBOUR: 'it returns false'. Refute it at one input. -/
def fnDivWrong : ChangeSpec := { name := "fnDiv", vars := ["loop.example/pub-g03246/pub/big2.divRecursiveThreshold", "loop.example/pub-g03246/pub/big2.karatsubaThreshold", "loop.example/pub-g03246/pub/big2.basicSqrThreshold", "loop.example/pub-g03246/pub/big2.karatsubaSqrThreshold"], fn := fun _ => fun
  | [d1, d2, g1, g2, g3, g4] => { results := [.lit (.bool false)], args := [d1, d2], vars := [g1, g2, g3, g4] }
  | _ => none }
def FnDivWrongFalsely : Prop := fnDivRow.holds Tryd.pinned (OpenSpec.ofChange fnDivWrong)

/-- 'laws.FnDivBack': WHATEVER THE INPUT: true; the input reads as it did. -/
def fnDivBackSpec : ChangeSpec := { name := "fnDivBack", vars := ["loop.example/pub-g03246/pub/big2.divRecursiveThreshold", "loop.example/pub-g03246/pub/big2.karatsubaThreshold", "loop.example/pub-g03246/pub/big2.basicSqrThreshold", "loop.example/pub-g03246/pub/big2.karatsubaSqrThreshold"], fn := fun _ => fun
  | [d1, d2, g1, g2, g3, g4] => { results := [.lit (.bool true)], args := [d1, d2], vars := [g1, g2, g3, g4] }
  | _ => none }
def fnDivBackRow : OpenClaim := { program := "ytknokndpeneogaadoor", sum := "face434f18366f13e0c5dcc9d4c62a348a2e8d26c31202b4fe9dce649f949e2d", func := "loop.example/pub-g03246/laws.FnDivBack", spec := "fnDivBack", inPlace := ["math/bits.Add64", "math/bits.Sub64"], recurses := true, named := ["loop.example/pub-g03246/pub/big2.divRecursiveThreshold", "loop.example/pub-g03246/pub/big2.karatsubaThreshold", "loop.example/pub-g03246/pub/big2.basicSqrThreshold", "loop.example/pub-g03246/pub/big2.karatsubaSqrThreshold"], apart := false, laid := [("loop.example/pub-g03246/pub/big2.divRecursiveThreshold", laid_loop_example_pub_g03246_pub_big2_divRecursiveThreshold), ("loop.example/pub-g03246/pub/big2.karatsubaThreshold", laid_loop_example_pub_g03246_pub_big2_karatsubaThreshold), ("loop.example/pub-g03246/pub/big2.basicSqrThreshold", laid_loop_example_pub_g03246_pub_big2_basicSqrThreshold), ("loop.example/pub-g03246/pub/big2.karatsubaSqrThreshold", laid_loop_example_pub_g03246_pub_big2_karatsubaSqrThreshold)] }
def FnDivBackSaid : Prop := fnDivBackRow.holds Tryd.pinned (OpenSpec.ofChange fnDivBackSpec)

/-- ITS FALSE NEIGHBOUR: 'it returns false'. Refute it at one input. -/
def fnDivBackWrong : ChangeSpec := { name := "fnDivBack", vars := ["loop.example/pub-g03246/pub/big2.divRecursiveThreshold", "loop.example/pub-g03246/pub/big2.karatsubaThreshold", "loop.example/pub-g03246/pub/big2.basicSqrThreshold", "loop.example/pub-g03246/pub/big2.karatsubaSqrThreshold"], fn := fun _ => fun
  | [d1, d2, g1, g2, g3, g4] => { results := [.lit (.bool false)], args := [d1, d2], vars := [g1, g2, g3, g4] }
  | _ => none }
def FnDivBackWrongFalsely : Prop := fnDivBackRow.holds Tryd.pinned (OpenSpec.ofChange fnDivBackWrong)

/-- 'laws.FnMulDiv': WHATEVER THE INPUT: true; the input reads as it did. -/
def fnMulDivSpec : ChangeSpec := { name := "fnMulDiv", vars := ["loop.example/pub-g03246/pub/big2.karatsubaThreshold", "loop.example/pub-g03246/pub/big2.basicSqrThreshold", "loop.example/pub-g03246/pub/big2.karatsubaSqrThreshold", "loop.example/pub-g03246/pub/big2.divRecursiveThreshold"], fn := fun _ => fun
  | [d1, d2, d3, g1, g2, g3, g4] => { results := [.lit (.bool true)], args := [d1, d2, d3], vars := [g1, g2, g3, g4] }
  | _ => none }
def fnMulDivRow : OpenClaim := { program := "ytknokndpeneogaadoor", sum := "face434f18366f13e0c5dcc9d4c62a348a2e8d26c31202b4fe9dce649f949e2d", func := "loop.example/pub-g03246/laws.FnMulDiv", spec := "fnMulDiv", inPlace := ["math/bits.Add64", "math/bits.Sub64"], recurses := true, named := ["loop.example/pub-g03246/pub/big2.karatsubaThreshold", "loop.example/pub-g03246/pub/big2.basicSqrThreshold", "loop.example/pub-g03246/pub/big2.karatsubaSqrThreshold", "loop.example/pub-g03246/pub/big2.divRecursiveThreshold"], apart := false, laid := [("loop.example/pub-g03246/pub/big2.divRecursiveThreshold", laid_loop_example_pub_g03246_pub_big2_divRecursiveThreshold), ("loop.example/pub-g03246/pub/big2.karatsubaThreshold", laid_loop_example_pub_g03246_pub_big2_karatsubaThreshold), ("loop.example/pub-g03246/pub/big2.basicSqrThreshold", laid_loop_example_pub_g03246_pub_big2_basicSqrThreshold), ("loop.example/pub-g03246/pub/big2.karatsubaSqrThreshold", laid_loop_example_pub_g03246_pub_big2_karatsubaSqrThreshold)] }
def FnMulDivSaid : Prop := fnMulDivRow.holds Tryd.pinned (OpenSpec.ofChange fnMulDivSpec)

/-- ITS FALSE NEIGHBOUR: 'it returns false'. Refute it at one input. -/
def fnMulDivWrong : ChangeSpec := { name := "fnMulDiv", vars := ["loop.example/pub-g03246/pub/big2.karatsubaThreshold", "loop.example/pub-g03246/pub/big2.basicSqrThreshold", "loop.example/pub-g03246/pub/big2.karatsubaSqrThreshold", "loop.example/pub-g03246/pub/big2.divRecursiveThreshold"], fn := fun _ => fun
  | [d1, d2, d3, g1, g2, g3, g4] => { results := [.lit (.bool false)], args := [d1, d2, d3], vars := [g1, g2, g3, g4] }
  | _ => none }
def FnMulDivWrongFalsely : Prop := fnMulDivRow.holds Tryd.pinned (OpenSpec.ofChange fnMulDivWrong)

/-- 'laws.FnSqrt': WHATEVER THE INPUT: true; the input reads as it did. -/
def fnSqrtSpec : ChangeSpec := { name := "fnSqrt", vars := ["loop.example/pub-g03246/pub/big2.divRecursiveThreshold", "loop.example/pub-g03246/pub/big2.karatsubaThreshold", "loop.example/pub-g03246/pub/big2.basicSqrThreshold", "loop.example/pub-g03246/pub/big2.karatsubaSqrThreshold"], fn := fun _ => fun
  | [d, g1, g2, g3, g4] => { results := [.lit (.bool true)], args := [d], vars := [g1, g2, g3, g4] }
  | _ => none }
def fnSqrtRow : OpenClaim := { program := "ytknokndpeneogaadoor", sum := "face434f18366f13e0c5dcc9d4c62a348a2e8d26c31202b4fe9dce649f949e2d", func := "loop.example/pub-g03246/laws.FnSqrt", spec := "fnSqrt", inPlace := ["math/bits.Add64", "math/bits.Sub64"], recurses := true, named := ["loop.example/pub-g03246/pub/big2.divRecursiveThreshold", "loop.example/pub-g03246/pub/big2.karatsubaThreshold", "loop.example/pub-g03246/pub/big2.basicSqrThreshold", "loop.example/pub-g03246/pub/big2.karatsubaSqrThreshold"], apart := false, laid := [("loop.example/pub-g03246/pub/big2.divRecursiveThreshold", laid_loop_example_pub_g03246_pub_big2_divRecursiveThreshold), ("loop.example/pub-g03246/pub/big2.karatsubaThreshold", laid_loop_example_pub_g03246_pub_big2_karatsubaThreshold), ("loop.example/pub-g03246/pub/big2.basicSqrThreshold", laid_loop_example_pub_g03246_pub_big2_basicSqrThreshold), ("loop.example/pub-g03246/pub/big2.karatsubaSqrThreshold", laid_loop_example_pub_g03246_pub_big2_karatsubaSqrThreshold)] }
def FnSqrtSaid : Prop := fnSqrtRow.holds Tryd.pinned (OpenSpec.ofChange fnSqrtSpec)

/-- ITS FALSE NEIGHBOUR: 'it returns false'. Refute it at one input. -/
def fnSqrtWrong : ChangeSpec := { name := "fnSqrt", vars := ["loop.example/pub-g03246/pub/big2.divRecursiveThreshold", "loop.example/pub-g03246/pub/big2.karatsubaThreshold", "loop.example/pub-g03246/pub/big2.basicSqrThreshold", "loop.example/pub-g03246/pub/big2.karatsubaSqrThreshold"], fn := fun _ => fun
  | [d, g1, g2, g3, g4] => { results := [.lit (.bool false)], args := [d], vars := [g1, g2, g3, g4] }
  | _ => none }
def FnSqrtWrongFalsely : Prop := fnSqrtRow.holds Tryd.pinned (OpenSpec.ofChange fnSqrtWrong)

/- THE SECOND FORM. 'bulk': how many values and letters a reading holds, each counted each time it is reached (what is shared counts as often as it is met; a slice's spare places count too). A statement '..UptoSaid' is the law's where the arguments, and the package variables that the reading takes, are together of bulk at most 1048576: NARROWER than '..Said'. Prove '..Said' where nothing that the law and all that it calls make is longer than what came in: it says more and counts as full. Else prove '..UptoSaid'. A law counts once. -/
mutual
def uptoBulk {H : Type} : DataW H → Nat
  | .lit (.string bytes) => bytes.length + 1
  | .lit _ => 1
  | .nil => 1
  | .ptr d => uptoBulk d + 1
  | .slice elems spare => uptoBulkAll elems + uptoBulkAll spare + 1
  | .agg parts => uptoBulkAll parts + 1
  | .iface _ d => uptoBulk d + 1
  | .map entries => uptoBulkEntries entries + 1
  | .held _ => 1
def uptoBulkAll {H : Type} : List (DataW H) → Nat
  | [] => 0
  | d :: r => uptoBulk d + uptoBulkAll r
def uptoBulkEntries {H : Type} : List (Lit × DataW H) → Nat
  | [] => 0
  | x :: r => uptoBulkEntry x + uptoBulkEntries r
def uptoBulkEntry {H : Type} : Lit × DataW H → Nat
  | (.string bytes, d) => bytes.length + uptoBulk d + 1
  | (_, d) => uptoBulk d + 1
 end
def uptoSmall : (H : Type) → List (DataW H) → Bool := fun _ ds => decide (uptoBulkAll ds ≤ 1048576)
def OpenSpec.upto (s : _root_.Go.ChangeSpec) : _root_.Go.OpenSpec := { _root_.Go.OpenSpec.ofChange s with cond := some uptoSmall }

/-- 'laws.FnIsPow2', WHERE WHAT IT READS IS OF BULK AT MOST 1048576: true; the input reads as it did. -/
def fnIsPow2UptoRow : OpenClaim := { program := "ytknokndpeneogaadoor", sum := "face434f18366f13e0c5dcc9d4c62a348a2e8d26c31202b4fe9dce649f949e2d", func := "loop.example/pub-g03246/laws.FnIsPow2", spec := "fnIsPow2", named := ["math/bits.deBruijn32tab", "math/bits.deBruijn64tab"], apart := false, laid := [("math/bits.deBruijn32tab", laid_math_bits_deBruijn32tab), ("math/bits.deBruijn64tab", laid_math_bits_deBruijn64tab)], narrowed := true }
def FnIsPow2UptoSaid : Prop := fnIsPow2UptoRow.holds Tryd.pinned (OpenSpec.upto fnIsPow2Spec)

/-- 'laws.FnBitLen', WHERE WHAT IT READS IS OF BULK AT MOST 1048576: true; the input reads as it did. -/
def fnBitLenUptoRow : OpenClaim := { program := "ytknokndpeneogaadoor", sum := "face434f18366f13e0c5dcc9d4c62a348a2e8d26c31202b4fe9dce649f949e2d", func := "loop.example/pub-g03246/laws.FnBitLen", spec := "fnBitLen", named := ["math/bits.deBruijn32tab", "math/bits.deBruijn64tab"], apart := false, laid := [("math/bits.deBruijn32tab", laid_math_bits_deBruijn32tab), ("math/bits.deBruijn64tab", laid_math_bits_deBruijn64tab)], narrowed := true }
def FnBitLenUptoSaid : Prop := fnBitLenUptoRow.holds Tryd.pinned (OpenSpec.upto fnBitLenSpec)

/-- 'laws.FnBasicSqr', WHERE WHAT IT READS IS OF BULK AT MOST 1048576: true; the input reads as it did. -/
def fnBasicSqrUptoRow : OpenClaim := { program := "ytknokndpeneogaadoor", sum := "face434f18366f13e0c5dcc9d4c62a348a2e8d26c31202b4fe9dce649f949e2d", func := "loop.example/pub-g03246/laws.FnBasicSqr", spec := "fnBasicSqr", inPlace := ["math/bits.Add64"], named := ["loop.example/pub-g03246/pub/big2.basicSqrThreshold"], apart := false, laid := [("loop.example/pub-g03246/pub/big2.basicSqrThreshold", laid_loop_example_pub_g03246_pub_big2_basicSqrThreshold)], narrowed := true }
def FnBasicSqrUptoSaid : Prop := fnBasicSqrUptoRow.holds Tryd.pinned (OpenSpec.upto fnBasicSqrSpec)

/-- 'laws.FnSqr', WHERE WHAT IT READS IS OF BULK AT MOST 1048576: true; the input reads as it did. -/
def fnSqrUptoRow : OpenClaim := { program := "ytknokndpeneogaadoor", sum := "face434f18366f13e0c5dcc9d4c62a348a2e8d26c31202b4fe9dce649f949e2d", func := "loop.example/pub-g03246/laws.FnSqr", spec := "fnSqr", inPlace := ["math/bits.Add64", "math/bits.Sub64"], recurses := true, named := ["loop.example/pub-g03246/pub/big2.basicSqrThreshold", "loop.example/pub-g03246/pub/big2.karatsubaSqrThreshold"], apart := false, laid := [("loop.example/pub-g03246/pub/big2.basicSqrThreshold", laid_loop_example_pub_g03246_pub_big2_basicSqrThreshold), ("loop.example/pub-g03246/pub/big2.karatsubaSqrThreshold", laid_loop_example_pub_g03246_pub_big2_karatsubaSqrThreshold)], narrowed := true }
def FnSqrUptoSaid : Prop := fnSqrUptoRow.holds Tryd.pinned (OpenSpec.upto fnSqrSpec)

/-- 'laws.FnMul', WHERE WHAT IT READS IS OF BULK AT MOST 1048576: true; the input reads as it did. -/
def fnMulUptoRow : OpenClaim := { program := "ytknokndpeneogaadoor", sum := "face434f18366f13e0c5dcc9d4c62a348a2e8d26c31202b4fe9dce649f949e2d", func := "loop.example/pub-g03246/laws.FnMul", spec := "fnMul", inPlace := ["math/bits.Add64", "math/bits.Sub64"], recurses := true, named := ["loop.example/pub-g03246/pub/big2.karatsubaThreshold", "loop.example/pub-g03246/pub/big2.basicSqrThreshold", "loop.example/pub-g03246/pub/big2.karatsubaSqrThreshold"], apart := false, laid := [("loop.example/pub-g03246/pub/big2.karatsubaThreshold", laid_loop_example_pub_g03246_pub_big2_karatsubaThreshold), ("loop.example/pub-g03246/pub/big2.basicSqrThreshold", laid_loop_example_pub_g03246_pub_big2_basicSqrThreshold), ("loop.example/pub-g03246/pub/big2.karatsubaSqrThreshold", laid_loop_example_pub_g03246_pub_big2_karatsubaSqrThreshold)], narrowed := true }
def FnMulUptoSaid : Prop := fnMulUptoRow.holds Tryd.pinned (OpenSpec.upto fnMulSpec)

/-- 'laws.FnKaratsuba', WHERE WHAT IT READS IS OF BULK AT MOST 1048576: true; the input reads as it did. -/
def fnKaratsubaUptoRow : OpenClaim := { program := "ytknokndpeneogaadoor", sum := "face434f18366f13e0c5dcc9d4c62a348a2e8d26c31202b4fe9dce649f949e2d", func := "loop.example/pub-g03246/laws.FnKaratsuba", spec := "fnKaratsuba", inPlace := ["math/bits.Add64", "math/bits.Sub64"], recurses := true, named := ["loop.example/pub-g03246/pub/big2.karatsubaThreshold", "loop.example/pub-g03246/pub/big2.basicSqrThreshold", "loop.example/pub-g03246/pub/big2.karatsubaSqrThreshold"], apart := false, laid := [("loop.example/pub-g03246/pub/big2.karatsubaThreshold", laid_loop_example_pub_g03246_pub_big2_karatsubaThreshold), ("loop.example/pub-g03246/pub/big2.basicSqrThreshold", laid_loop_example_pub_g03246_pub_big2_basicSqrThreshold), ("loop.example/pub-g03246/pub/big2.karatsubaSqrThreshold", laid_loop_example_pub_g03246_pub_big2_karatsubaSqrThreshold)], narrowed := true }
def FnKaratsubaUptoSaid : Prop := fnKaratsubaUptoRow.holds Tryd.pinned (OpenSpec.upto fnKaratsubaSpec)

/-- 'laws.FnDistribute', WHERE WHAT IT READS IS OF BULK AT MOST 1048576: true; the input reads as it did. -/
def fnDistributeUptoRow : OpenClaim := { program := "ytknokndpeneogaadoor", sum := "face434f18366f13e0c5dcc9d4c62a348a2e8d26c31202b4fe9dce649f949e2d", func := "loop.example/pub-g03246/laws.FnDistribute", spec := "fnDistribute", inPlace := ["math/bits.Add64", "math/bits.Sub64"], recurses := true, named := ["loop.example/pub-g03246/pub/big2.karatsubaThreshold", "loop.example/pub-g03246/pub/big2.basicSqrThreshold", "loop.example/pub-g03246/pub/big2.karatsubaSqrThreshold"], apart := false, laid := [("loop.example/pub-g03246/pub/big2.karatsubaThreshold", laid_loop_example_pub_g03246_pub_big2_karatsubaThreshold), ("loop.example/pub-g03246/pub/big2.basicSqrThreshold", laid_loop_example_pub_g03246_pub_big2_basicSqrThreshold), ("loop.example/pub-g03246/pub/big2.karatsubaSqrThreshold", laid_loop_example_pub_g03246_pub_big2_karatsubaSqrThreshold)], narrowed := true }
def FnDistributeUptoSaid : Prop := fnDistributeUptoRow.holds Tryd.pinned (OpenSpec.upto fnDistributeSpec)

/-- 'laws.FnMulRoads', WHERE WHAT IT READS IS OF BULK AT MOST 1048576: true; the input reads as it did. -/
def fnMulRoadsUptoRow : OpenClaim := { program := "ytknokndpeneogaadoor", sum := "face434f18366f13e0c5dcc9d4c62a348a2e8d26c31202b4fe9dce649f949e2d", func := "loop.example/pub-g03246/laws.FnMulRoads", spec := "fnMulRoads", inPlace := ["math/bits.Add64", "math/bits.Sub64"], recurses := true, named := ["loop.example/pub-g03246/pub/big2.karatsubaThreshold", "loop.example/pub-g03246/pub/big2.basicSqrThreshold", "loop.example/pub-g03246/pub/big2.karatsubaSqrThreshold"], apart := false, laid := [("loop.example/pub-g03246/pub/big2.karatsubaThreshold", laid_loop_example_pub_g03246_pub_big2_karatsubaThreshold), ("loop.example/pub-g03246/pub/big2.basicSqrThreshold", laid_loop_example_pub_g03246_pub_big2_basicSqrThreshold), ("loop.example/pub-g03246/pub/big2.karatsubaSqrThreshold", laid_loop_example_pub_g03246_pub_big2_karatsubaSqrThreshold)], narrowed := true }
def FnMulRoadsUptoSaid : Prop := fnMulRoadsUptoRow.holds Tryd.pinned (OpenSpec.upto fnMulRoadsSpec)

/-- 'laws.FnBinomial', WHERE WHAT IT READS IS OF BULK AT MOST 1048576: true; the input reads as it did. -/
def fnBinomialUptoRow : OpenClaim := { program := "ytknokndpeneogaadoor", sum := "face434f18366f13e0c5dcc9d4c62a348a2e8d26c31202b4fe9dce649f949e2d", func := "loop.example/pub-g03246/laws.FnBinomial", spec := "fnBinomial", inPlace := ["math/bits.Add64", "math/bits.Sub64"], recurses := true, named := ["loop.example/pub-g03246/pub/big2.basicSqrThreshold", "loop.example/pub-g03246/pub/big2.karatsubaSqrThreshold", "loop.example/pub-g03246/pub/big2.karatsubaThreshold"], apart := false, laid := [("loop.example/pub-g03246/pub/big2.karatsubaThreshold", laid_loop_example_pub_g03246_pub_big2_karatsubaThreshold), ("loop.example/pub-g03246/pub/big2.basicSqrThreshold", laid_loop_example_pub_g03246_pub_big2_basicSqrThreshold), ("loop.example/pub-g03246/pub/big2.karatsubaSqrThreshold", laid_loop_example_pub_g03246_pub_big2_karatsubaSqrThreshold)], narrowed := true }
def FnBinomialUptoSaid : Prop := fnBinomialUptoRow.holds Tryd.pinned (OpenSpec.upto fnBinomialSpec)

/-- 'laws.FnDivRecursive', WHERE WHAT IT READS IS OF BULK AT MOST 1048576: true; the input reads as it did. -/
def fnDivRecursiveUptoRow : OpenClaim := { program := "ytknokndpeneogaadoor", sum := "face434f18366f13e0c5dcc9d4c62a348a2e8d26c31202b4fe9dce649f949e2d", func := "loop.example/pub-g03246/laws.FnDivRecursive", spec := "fnDivRecursive", inPlace := ["math/bits.Add64", "math/bits.Sub64"], recurses := true, named := ["loop.example/pub-g03246/pub/big2.divRecursiveThreshold", "loop.example/pub-g03246/pub/big2.karatsubaThreshold", "loop.example/pub-g03246/pub/big2.basicSqrThreshold", "loop.example/pub-g03246/pub/big2.karatsubaSqrThreshold"], apart := false, laid := [("loop.example/pub-g03246/pub/big2.divRecursiveThreshold", laid_loop_example_pub_g03246_pub_big2_divRecursiveThreshold), ("loop.example/pub-g03246/pub/big2.karatsubaThreshold", laid_loop_example_pub_g03246_pub_big2_karatsubaThreshold), ("loop.example/pub-g03246/pub/big2.basicSqrThreshold", laid_loop_example_pub_g03246_pub_big2_basicSqrThreshold), ("loop.example/pub-g03246/pub/big2.karatsubaSqrThreshold", laid_loop_example_pub_g03246_pub_big2_karatsubaSqrThreshold)], narrowed := true }
def FnDivRecursiveUptoSaid : Prop := fnDivRecursiveUptoRow.holds Tryd.pinned (OpenSpec.upto fnDivRecursiveSpec)

/-- 'laws.FnDiv', WHERE WHAT IT READS IS OF BULK AT MOST 1048576: true; the input reads as it did. -/
def fnDivUptoRow : OpenClaim := { program := "ytknokndpeneogaadoor", sum := "face434f18366f13e0c5dcc9d4c62a348a2e8d26c31202b4fe9dce649f949e2d", func := "loop.example/pub-g03246/laws.FnDiv", spec := "fnDiv", inPlace := ["math/bits.Add64", "math/bits.Sub64"], recurses := true, named := ["loop.example/pub-g03246/pub/big2.divRecursiveThreshold", "loop.example/pub-g03246/pub/big2.karatsubaThreshold", "loop.example/pub-g03246/pub/big2.basicSqrThreshold", "loop.example/pub-g03246/pub/big2.karatsubaSqrThreshold"], apart := false, laid := [("loop.example/pub-g03246/pub/big2.divRecursiveThreshold", laid_loop_example_pub_g03246_pub_big2_divRecursiveThreshold), ("loop.example/pub-g03246/pub/big2.karatsubaThreshold", laid_loop_example_pub_g03246_pub_big2_karatsubaThreshold), ("loop.example/pub-g03246/pub/big2.basicSqrThreshold", laid_loop_example_pub_g03246_pub_big2_basicSqrThreshold), ("loop.example/pub-g03246/pub/big2.karatsubaSqrThreshold", laid_loop_example_pub_g03246_pub_big2_karatsubaSqrThreshold)], narrowed := true }
def FnDivUptoSaid : Prop := fnDivUptoRow.holds Tryd.pinned (OpenSpec.upto fnDivSpec)

/-- 'laws.FnDivBack', WHERE WHAT IT READS IS OF BULK AT MOST 1048576: true; the input reads as it did. -/
def fnDivBackUptoRow : OpenClaim := { program := "ytknokndpeneogaadoor", sum := "face434f18366f13e0c5dcc9d4c62a348a2e8d26c31202b4fe9dce649f949e2d", func := "loop.example/pub-g03246/laws.FnDivBack", spec := "fnDivBack", inPlace := ["math/bits.Add64", "math/bits.Sub64"], recurses := true, named := ["loop.example/pub-g03246/pub/big2.divRecursiveThreshold", "loop.example/pub-g03246/pub/big2.karatsubaThreshold", "loop.example/pub-g03246/pub/big2.basicSqrThreshold", "loop.example/pub-g03246/pub/big2.karatsubaSqrThreshold"], apart := false, laid := [("loop.example/pub-g03246/pub/big2.divRecursiveThreshold", laid_loop_example_pub_g03246_pub_big2_divRecursiveThreshold), ("loop.example/pub-g03246/pub/big2.karatsubaThreshold", laid_loop_example_pub_g03246_pub_big2_karatsubaThreshold), ("loop.example/pub-g03246/pub/big2.basicSqrThreshold", laid_loop_example_pub_g03246_pub_big2_basicSqrThreshold), ("loop.example/pub-g03246/pub/big2.karatsubaSqrThreshold", laid_loop_example_pub_g03246_pub_big2_karatsubaSqrThreshold)], narrowed := true }
def FnDivBackUptoSaid : Prop := fnDivBackUptoRow.holds Tryd.pinned (OpenSpec.upto fnDivBackSpec)

/-- 'laws.FnMulDiv', WHERE WHAT IT READS IS OF BULK AT MOST 1048576: true; the input reads as it did. -/
def fnMulDivUptoRow : OpenClaim := { program := "ytknokndpeneogaadoor", sum := "face434f18366f13e0c5dcc9d4c62a348a2e8d26c31202b4fe9dce649f949e2d", func := "loop.example/pub-g03246/laws.FnMulDiv", spec := "fnMulDiv", inPlace := ["math/bits.Add64", "math/bits.Sub64"], recurses := true, named := ["loop.example/pub-g03246/pub/big2.karatsubaThreshold", "loop.example/pub-g03246/pub/big2.basicSqrThreshold", "loop.example/pub-g03246/pub/big2.karatsubaSqrThreshold", "loop.example/pub-g03246/pub/big2.divRecursiveThreshold"], apart := false, laid := [("loop.example/pub-g03246/pub/big2.divRecursiveThreshold", laid_loop_example_pub_g03246_pub_big2_divRecursiveThreshold), ("loop.example/pub-g03246/pub/big2.karatsubaThreshold", laid_loop_example_pub_g03246_pub_big2_karatsubaThreshold), ("loop.example/pub-g03246/pub/big2.basicSqrThreshold", laid_loop_example_pub_g03246_pub_big2_basicSqrThreshold), ("loop.example/pub-g03246/pub/big2.karatsubaSqrThreshold", laid_loop_example_pub_g03246_pub_big2_karatsubaSqrThreshold)], narrowed := true }
def FnMulDivUptoSaid : Prop := fnMulDivUptoRow.holds Tryd.pinned (OpenSpec.upto fnMulDivSpec)

/-- 'laws.FnSqrt', WHERE WHAT IT READS IS OF BULK AT MOST 1048576: true; the input reads as it did. -/
def fnSqrtUptoRow : OpenClaim := { program := "ytknokndpeneogaadoor", sum := "face434f18366f13e0c5dcc9d4c62a348a2e8d26c31202b4fe9dce649f949e2d", func := "loop.example/pub-g03246/laws.FnSqrt", spec := "fnSqrt", inPlace := ["math/bits.Add64", "math/bits.Sub64"], recurses := true, named := ["loop.example/pub-g03246/pub/big2.divRecursiveThreshold", "loop.example/pub-g03246/pub/big2.karatsubaThreshold", "loop.example/pub-g03246/pub/big2.basicSqrThreshold", "loop.example/pub-g03246/pub/big2.karatsubaSqrThreshold"], apart := false, laid := [("loop.example/pub-g03246/pub/big2.divRecursiveThreshold", laid_loop_example_pub_g03246_pub_big2_divRecursiveThreshold), ("loop.example/pub-g03246/pub/big2.karatsubaThreshold", laid_loop_example_pub_g03246_pub_big2_karatsubaThreshold), ("loop.example/pub-g03246/pub/big2.basicSqrThreshold", laid_loop_example_pub_g03246_pub_big2_basicSqrThreshold), ("loop.example/pub-g03246/pub/big2.karatsubaSqrThreshold", laid_loop_example_pub_g03246_pub_big2_karatsubaSqrThreshold)], narrowed := true }
def FnSqrtUptoSaid : Prop := fnSqrtUptoRow.holds Tryd.pinned (OpenSpec.upto fnSqrtSpec)

end Rows
end Go.Proofs.YtknokndpeneogaaDoor
