/-
  DERIVED. GIVEN WITH THE SEED: THE PROGRAM's TIES (one call each: nine closed facts by the kernel) AND EACH ROW's TIE, after the 31st guide's Derived/Test/Toyas{Tie, Card}.lean. No idea stands in it: it is a product of the set-up. Laid BY PROGRAM, IN A SANDBOX (cutbox-door.mjs). By AI agents, Wed Nov 11 2026. No macro, syntax, notation, axiom, sorry.
-/
import Derived.Test.YtknokndpeneogaaDoorRows
import Derived.LaidByTextLater
import Derived.SevenTiedAt
import Derived.LaidSub
import Derived.LaidOnce
namespace Go.Proofs.YtknokndpeneogaaDoor
open Go
set_option maxRecDepth 100000
theorem seatTie1 : Tryd.prog.laidByTextLater [("math/bits.deBruijn32tab", Rows.laid_math_bits_deBruijn32tab), ("math/bits.deBruijn64tab", Rows.laid_math_bits_deBruijn64tab), ("loop.example/pub-g03246/pub/big2.divRecursiveThreshold", Rows.laid_loop_example_pub_g03246_pub_big2_divRecursiveThreshold), ("loop.example/pub-g03246/pub/big2.karatsubaThreshold", Rows.laid_loop_example_pub_g03246_pub_big2_karatsubaThreshold), ("loop.example/pub-g03246/pub/big2.basicSqrThreshold", Rows.laid_loop_example_pub_g03246_pub_big2_basicSqrThreshold), ("loop.example/pub-g03246/pub/big2.karatsubaSqrThreshold", Rows.laid_loop_example_pub_g03246_pub_big2_karatsubaSqrThreshold)] [.data, .data, .data, .data, .data, .data] true :=
  Program.laidByTextLater_by_one 35 8 65 (by kernel_rfl) (by kernel_rfl) (by kernel_rfl) (by kernel_rfl) (by kernel_rfl) (by kernel_rfl) (fun _ _ => by kernel_rfl)
theorem noOwnUnsafe : Tryd.pinned.checked.prog.headLifts.contains "ownunsafe" = false := by kernel_rfl
theorem tie : Tryd.prog.laidByTextLater [("math/bits.deBruijn32tab", Rows.laid_math_bits_deBruijn32tab), ("math/bits.deBruijn64tab", Rows.laid_math_bits_deBruijn64tab)] [.data, .data] true :=
  Program.laidByTextLater.sub seatTie1 ["math/bits.deBruijn32tab", "math/bits.deBruijn64tab"] (by kernel_rfl) (by kernel_rfl)
theorem fnIsPow2_row_tie : Rows.fnIsPow2Row.laidByTextAt .later Tryd.pinned [.data, .data] true :=
  OpenClaim.laidByTextAt_later rfl rfl tie noOwnUnsafe
theorem fnBitLen_row_tie : Rows.fnBitLenRow.laidByTextAt .later Tryd.pinned [.data, .data] true :=
  OpenClaim.laidByTextAt_later rfl rfl tie noOwnUnsafe
theorem tie2 : Tryd.prog.laidByTextLater [("loop.example/pub-g03246/pub/big2.basicSqrThreshold", Rows.laid_loop_example_pub_g03246_pub_big2_basicSqrThreshold)] [.data] true :=
  Program.laidByTextLater.sub seatTie1 ["loop.example/pub-g03246/pub/big2.basicSqrThreshold"] (by kernel_rfl) (by kernel_rfl)
theorem fnBasicSqr_row_tie : Rows.fnBasicSqrRow.laidByTextAt .later Tryd.pinned [.data] true :=
  OpenClaim.laidByTextAt_later rfl rfl tie2 noOwnUnsafe
theorem tie3 : Tryd.prog.laidByTextLater [("loop.example/pub-g03246/pub/big2.basicSqrThreshold", Rows.laid_loop_example_pub_g03246_pub_big2_basicSqrThreshold), ("loop.example/pub-g03246/pub/big2.karatsubaSqrThreshold", Rows.laid_loop_example_pub_g03246_pub_big2_karatsubaSqrThreshold)] [.data, .data] true :=
  Program.laidByTextLater.sub seatTie1 ["loop.example/pub-g03246/pub/big2.basicSqrThreshold", "loop.example/pub-g03246/pub/big2.karatsubaSqrThreshold"] (by kernel_rfl) (by kernel_rfl)
theorem fnSqr_row_tie : Rows.fnSqrRow.laidByTextAt .later Tryd.pinned [.data, .data] true :=
  OpenClaim.laidByTextAt_later rfl rfl tie3 noOwnUnsafe
theorem tie4 : Tryd.prog.laidByTextLater [("loop.example/pub-g03246/pub/big2.karatsubaThreshold", Rows.laid_loop_example_pub_g03246_pub_big2_karatsubaThreshold), ("loop.example/pub-g03246/pub/big2.basicSqrThreshold", Rows.laid_loop_example_pub_g03246_pub_big2_basicSqrThreshold), ("loop.example/pub-g03246/pub/big2.karatsubaSqrThreshold", Rows.laid_loop_example_pub_g03246_pub_big2_karatsubaSqrThreshold)] [.data, .data, .data] true :=
  Program.laidByTextLater.sub seatTie1 ["loop.example/pub-g03246/pub/big2.karatsubaThreshold", "loop.example/pub-g03246/pub/big2.basicSqrThreshold", "loop.example/pub-g03246/pub/big2.karatsubaSqrThreshold"] (by kernel_rfl) (by kernel_rfl)
theorem fnMul_row_tie : Rows.fnMulRow.laidByTextAt .later Tryd.pinned [.data, .data, .data] true :=
  OpenClaim.laidByTextAt_later rfl rfl tie4 noOwnUnsafe
theorem fnKaratsuba_row_tie : Rows.fnKaratsubaRow.laidByTextAt .later Tryd.pinned [.data, .data, .data] true :=
  OpenClaim.laidByTextAt_later rfl rfl tie4 noOwnUnsafe
theorem fnDistribute_row_tie : Rows.fnDistributeRow.laidByTextAt .later Tryd.pinned [.data, .data, .data] true :=
  OpenClaim.laidByTextAt_later rfl rfl tie4 noOwnUnsafe
theorem fnMulRoads_row_tie : Rows.fnMulRoadsRow.laidByTextAt .later Tryd.pinned [.data, .data, .data] true :=
  OpenClaim.laidByTextAt_later rfl rfl tie4 noOwnUnsafe
theorem fnBinomial_row_tie : Rows.fnBinomialRow.laidByTextAt .later Tryd.pinned [.data, .data, .data] true :=
  OpenClaim.laidByTextAt_later rfl rfl tie4 noOwnUnsafe
theorem tie5 : Tryd.prog.laidByTextLater [("loop.example/pub-g03246/pub/big2.divRecursiveThreshold", Rows.laid_loop_example_pub_g03246_pub_big2_divRecursiveThreshold), ("loop.example/pub-g03246/pub/big2.karatsubaThreshold", Rows.laid_loop_example_pub_g03246_pub_big2_karatsubaThreshold), ("loop.example/pub-g03246/pub/big2.basicSqrThreshold", Rows.laid_loop_example_pub_g03246_pub_big2_basicSqrThreshold), ("loop.example/pub-g03246/pub/big2.karatsubaSqrThreshold", Rows.laid_loop_example_pub_g03246_pub_big2_karatsubaSqrThreshold)] [.data, .data, .data, .data] true :=
  Program.laidByTextLater.sub seatTie1 ["loop.example/pub-g03246/pub/big2.divRecursiveThreshold", "loop.example/pub-g03246/pub/big2.karatsubaThreshold", "loop.example/pub-g03246/pub/big2.basicSqrThreshold", "loop.example/pub-g03246/pub/big2.karatsubaSqrThreshold"] (by kernel_rfl) (by kernel_rfl)
theorem fnDivRecursive_row_tie : Rows.fnDivRecursiveRow.laidByTextAt .later Tryd.pinned [.data, .data, .data, .data] true :=
  OpenClaim.laidByTextAt_later rfl rfl tie5 noOwnUnsafe
theorem fnDiv_row_tie : Rows.fnDivRow.laidByTextAt .later Tryd.pinned [.data, .data, .data, .data] true :=
  OpenClaim.laidByTextAt_later rfl rfl tie5 noOwnUnsafe
theorem fnDivBack_row_tie : Rows.fnDivBackRow.laidByTextAt .later Tryd.pinned [.data, .data, .data, .data] true :=
  OpenClaim.laidByTextAt_later rfl rfl tie5 noOwnUnsafe
theorem fnMulDiv_row_tie : Rows.fnMulDivRow.laidByTextAt .later Tryd.pinned [.data, .data, .data, .data] true :=
  OpenClaim.laidByTextAt_later rfl rfl tie5 noOwnUnsafe
theorem fnSqrt_row_tie : Rows.fnSqrtRow.laidByTextAt .later Tryd.pinned [.data, .data, .data, .data] true :=
  OpenClaim.laidByTextAt_later rfl rfl tie5 noOwnUnsafe
theorem fnIsPow2Upto_row_tie : Rows.fnIsPow2UptoRow.laidByTextAt .later Tryd.pinned [.data, .data] true :=
  OpenClaim.laidByTextAt_later rfl rfl tie noOwnUnsafe
theorem fnBitLenUpto_row_tie : Rows.fnBitLenUptoRow.laidByTextAt .later Tryd.pinned [.data, .data] true :=
  OpenClaim.laidByTextAt_later rfl rfl tie noOwnUnsafe
theorem fnBasicSqrUpto_row_tie : Rows.fnBasicSqrUptoRow.laidByTextAt .later Tryd.pinned [.data] true :=
  OpenClaim.laidByTextAt_later rfl rfl tie2 noOwnUnsafe
theorem fnSqrUpto_row_tie : Rows.fnSqrUptoRow.laidByTextAt .later Tryd.pinned [.data, .data] true :=
  OpenClaim.laidByTextAt_later rfl rfl tie3 noOwnUnsafe
theorem fnMulUpto_row_tie : Rows.fnMulUptoRow.laidByTextAt .later Tryd.pinned [.data, .data, .data] true :=
  OpenClaim.laidByTextAt_later rfl rfl tie4 noOwnUnsafe
theorem fnKaratsubaUpto_row_tie : Rows.fnKaratsubaUptoRow.laidByTextAt .later Tryd.pinned [.data, .data, .data] true :=
  OpenClaim.laidByTextAt_later rfl rfl tie4 noOwnUnsafe
theorem fnDistributeUpto_row_tie : Rows.fnDistributeUptoRow.laidByTextAt .later Tryd.pinned [.data, .data, .data] true :=
  OpenClaim.laidByTextAt_later rfl rfl tie4 noOwnUnsafe
theorem fnMulRoadsUpto_row_tie : Rows.fnMulRoadsUptoRow.laidByTextAt .later Tryd.pinned [.data, .data, .data] true :=
  OpenClaim.laidByTextAt_later rfl rfl tie4 noOwnUnsafe
theorem fnBinomialUpto_row_tie : Rows.fnBinomialUptoRow.laidByTextAt .later Tryd.pinned [.data, .data, .data] true :=
  OpenClaim.laidByTextAt_later rfl rfl tie4 noOwnUnsafe
theorem fnDivRecursiveUpto_row_tie : Rows.fnDivRecursiveUptoRow.laidByTextAt .later Tryd.pinned [.data, .data, .data, .data] true :=
  OpenClaim.laidByTextAt_later rfl rfl tie5 noOwnUnsafe
theorem fnDivUpto_row_tie : Rows.fnDivUptoRow.laidByTextAt .later Tryd.pinned [.data, .data, .data, .data] true :=
  OpenClaim.laidByTextAt_later rfl rfl tie5 noOwnUnsafe
theorem fnDivBackUpto_row_tie : Rows.fnDivBackUptoRow.laidByTextAt .later Tryd.pinned [.data, .data, .data, .data] true :=
  OpenClaim.laidByTextAt_later rfl rfl tie5 noOwnUnsafe
theorem fnMulDivUpto_row_tie : Rows.fnMulDivUptoRow.laidByTextAt .later Tryd.pinned [.data, .data, .data, .data] true :=
  OpenClaim.laidByTextAt_later rfl rfl tie5 noOwnUnsafe
theorem fnSqrtUpto_row_tie : Rows.fnSqrtUptoRow.laidByTextAt .later Tryd.pinned [.data, .data, .data, .data] true :=
  OpenClaim.laidByTextAt_later rfl rfl tie5 noOwnUnsafe
end Go.Proofs.YtknokndpeneogaaDoor
