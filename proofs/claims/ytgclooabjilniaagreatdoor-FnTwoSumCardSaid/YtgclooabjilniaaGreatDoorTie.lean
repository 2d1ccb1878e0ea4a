/-
  DERIVED. GIVEN WITH THE SEED: THE PROGRAM's TIES (one call each: nine closed facts by the kernel) AND EACH ROW's TIE, after the 31st guide's Derived/Test/Toyas{Tie, Card}.lean. No idea stands in it: it is a product of the set-up. Laid BY PROGRAM, IN A SANDBOX (cutbox-door.mjs). By AI agents, Wed Nov 11 2026. No macro, syntax, notation, axiom, sorry.
-/
import Derived.Test.YtgclooabjilniaaGreatDoorRows
import Derived.LaidByTextLater
import Derived.SevenTiedAt
import Derived.LaidSub
import Derived.LaidOnce
namespace Go.Proofs.YtgclooabjilniaaGreatDoor
open Go
set_option maxRecDepth 100000
theorem seatTie1 : Tryz.prog.laidByTextLater [("math/bits.deBruijn32tab", Rows.laid_math_bits_deBruijn32tab), ("math/bits.deBruijn64tab", Rows.laid_math_bits_deBruijn64tab), ("loop.example/pub-g03235/pub/bigall.divRecursiveThreshold", Rows.laid_loop_example_pub_g03235_pub_bigall_divRecursiveThreshold), ("loop.example/pub-g03235/pub/bigall.karatsubaThreshold", Rows.laid_loop_example_pub_g03235_pub_bigall_karatsubaThreshold), ("loop.example/pub-g03235/pub/bigall.basicSqrThreshold", Rows.laid_loop_example_pub_g03235_pub_bigall_basicSqrThreshold), ("loop.example/pub-g03235/pub/bigall.karatsubaSqrThreshold", Rows.laid_loop_example_pub_g03235_pub_bigall_karatsubaSqrThreshold)] [.data, .data, .data, .data, .data, .data] true :=
  Program.laidByTextLater_by_one 35 8 65 (by kernel_rfl) (by kernel_rfl) (by kernel_rfl) (by kernel_rfl) (by kernel_rfl) (by kernel_rfl) (fun _ _ => by kernel_rfl)
theorem noOwnUnsafe : Tryz.pinned.checked.prog.headLifts.contains "ownunsafe" = false := by kernel_rfl
theorem tie : Tryz.prog.laidByTextLater [("math/bits.deBruijn32tab", Rows.laid_math_bits_deBruijn32tab), ("math/bits.deBruijn64tab", Rows.laid_math_bits_deBruijn64tab), ("loop.example/pub-g03235/pub/bigall.karatsubaThreshold", Rows.laid_loop_example_pub_g03235_pub_bigall_karatsubaThreshold), ("loop.example/pub-g03235/pub/bigall.basicSqrThreshold", Rows.laid_loop_example_pub_g03235_pub_bigall_basicSqrThreshold), ("loop.example/pub-g03235/pub/bigall.karatsubaSqrThreshold", Rows.laid_loop_example_pub_g03235_pub_bigall_karatsubaSqrThreshold)] [.data, .data, .data, .data, .data] true :=
  Program.laidByTextLater.sub seatTie1 ["math/bits.deBruijn32tab", "math/bits.deBruijn64tab", "loop.example/pub-g03235/pub/bigall.karatsubaThreshold", "loop.example/pub-g03235/pub/bigall.basicSqrThreshold", "loop.example/pub-g03235/pub/bigall.karatsubaSqrThreshold"] (by kernel_rfl) (by kernel_rfl)
theorem fnMulInt_row_tie : Rows.fnMulIntRow.laidByTextAt .later Tryz.pinned [.data, .data, .data, .data, .data] true :=
  OpenClaim.laidByTextAt_later rfl rfl tie noOwnUnsafe
theorem fnMul_row_tie : Rows.fnMulRow.laidByTextAt .later Tryz.pinned [.data, .data, .data, .data, .data] true :=
  OpenClaim.laidByTextAt_later rfl rfl tie noOwnUnsafe
theorem tie2 : Tryz.prog.laidByTextLater [("math/bits.deBruijn32tab", Rows.laid_math_bits_deBruijn32tab), ("math/bits.deBruijn64tab", Rows.laid_math_bits_deBruijn64tab)] [.data, .data] true :=
  Program.laidByTextLater.sub seatTie1 ["math/bits.deBruijn32tab", "math/bits.deBruijn64tab"] (by kernel_rfl) (by kernel_rfl)
theorem fnSterbenz_row_tie : Rows.fnSterbenzRow.laidByTextAt .later Tryz.pinned [.data, .data] true :=
  OpenClaim.laidByTextAt_later rfl rfl tie2 noOwnUnsafe
theorem fnTwoSum_row_tie : Rows.fnTwoSumRow.laidByTextAt .later Tryz.pinned [.data, .data] true :=
  OpenClaim.laidByTextAt_later rfl rfl tie2 noOwnUnsafe
theorem tie3 : Tryz.prog.laidByTextLater [("math/bits.deBruijn32tab", Rows.laid_math_bits_deBruijn32tab), ("math/bits.deBruijn64tab", Rows.laid_math_bits_deBruijn64tab), ("loop.example/pub-g03235/pub/bigall.divRecursiveThreshold", Rows.laid_loop_example_pub_g03235_pub_bigall_divRecursiveThreshold), ("loop.example/pub-g03235/pub/bigall.karatsubaThreshold", Rows.laid_loop_example_pub_g03235_pub_bigall_karatsubaThreshold), ("loop.example/pub-g03235/pub/bigall.basicSqrThreshold", Rows.laid_loop_example_pub_g03235_pub_bigall_basicSqrThreshold), ("loop.example/pub-g03235/pub/bigall.karatsubaSqrThreshold", Rows.laid_loop_example_pub_g03235_pub_bigall_karatsubaSqrThreshold)] [.data, .data, .data, .data, .data, .data] true :=
  Program.laidByTextLater.sub seatTie1 ["math/bits.deBruijn32tab", "math/bits.deBruijn64tab", "loop.example/pub-g03235/pub/bigall.divRecursiveThreshold", "loop.example/pub-g03235/pub/bigall.karatsubaThreshold", "loop.example/pub-g03235/pub/bigall.basicSqrThreshold", "loop.example/pub-g03235/pub/bigall.karatsubaSqrThreshold"] (by kernel_rfl) (by kernel_rfl)
theorem fnQuo_row_tie : Rows.fnQuoRow.laidByTextAt .later Tryz.pinned [.data, .data, .data, .data, .data, .data] true :=
  OpenClaim.laidByTextAt_later rfl rfl tie3 noOwnUnsafe
theorem fnCommute_row_tie : Rows.fnCommuteRow.laidByTextAt .later Tryz.pinned [.data, .data, .data, .data, .data, .data] true :=
  OpenClaim.laidByTextAt_later rfl rfl tie3 noOwnUnsafe
theorem fnInfinite_row_tie : Rows.fnInfiniteRow.laidByTextAt .later Tryz.pinned [.data, .data, .data, .data, .data, .data] true :=
  OpenClaim.laidByTextAt_later rfl rfl tie3 noOwnUnsafe
theorem fnScale_row_tie : Rows.fnScaleRow.laidByTextAt .later Tryz.pinned [.data, .data, .data, .data, .data, .data] true :=
  OpenClaim.laidByTextAt_later rfl rfl tie3 noOwnUnsafe
theorem fnZeroSigns_row_tie : Rows.fnZeroSignsRow.laidByTextAt .later Tryz.pinned [.data, .data, .data, .data, .data, .data] true :=
  OpenClaim.laidByTextAt_later rfl rfl tie3 noOwnUnsafe
theorem fnInto_row_tie : Rows.fnIntoRow.laidByTextAt .later Tryz.pinned [.data, .data, .data, .data, .data, .data] true :=
  OpenClaim.laidByTextAt_later rfl rfl tie3 noOwnUnsafe
theorem fnMulIntUpto_row_tie : Rows.fnMulIntUptoRow.laidByTextAt .later Tryz.pinned [.data, .data, .data, .data, .data] true :=
  OpenClaim.laidByTextAt_later rfl rfl tie noOwnUnsafe
theorem fnMulUpto_row_tie : Rows.fnMulUptoRow.laidByTextAt .later Tryz.pinned [.data, .data, .data, .data, .data] true :=
  OpenClaim.laidByTextAt_later rfl rfl tie noOwnUnsafe
theorem fnSterbenzUpto_row_tie : Rows.fnSterbenzUptoRow.laidByTextAt .later Tryz.pinned [.data, .data] true :=
  OpenClaim.laidByTextAt_later rfl rfl tie2 noOwnUnsafe
theorem fnTwoSumUpto_row_tie : Rows.fnTwoSumUptoRow.laidByTextAt .later Tryz.pinned [.data, .data] true :=
  OpenClaim.laidByTextAt_later rfl rfl tie2 noOwnUnsafe
theorem fnQuoUpto_row_tie : Rows.fnQuoUptoRow.laidByTextAt .later Tryz.pinned [.data, .data, .data, .data, .data, .data] true :=
  OpenClaim.laidByTextAt_later rfl rfl tie3 noOwnUnsafe
theorem fnCommuteUpto_row_tie : Rows.fnCommuteUptoRow.laidByTextAt .later Tryz.pinned [.data, .data, .data, .data, .data, .data] true :=
  OpenClaim.laidByTextAt_later rfl rfl tie3 noOwnUnsafe
theorem fnInfiniteUpto_row_tie : Rows.fnInfiniteUptoRow.laidByTextAt .later Tryz.pinned [.data, .data, .data, .data, .data, .data] true :=
  OpenClaim.laidByTextAt_later rfl rfl tie3 noOwnUnsafe
theorem fnScaleUpto_row_tie : Rows.fnScaleUptoRow.laidByTextAt .later Tryz.pinned [.data, .data, .data, .data, .data, .data] true :=
  OpenClaim.laidByTextAt_later rfl rfl tie3 noOwnUnsafe
theorem fnZeroSignsUpto_row_tie : Rows.fnZeroSignsUptoRow.laidByTextAt .later Tryz.pinned [.data, .data, .data, .data, .data, .data] true :=
  OpenClaim.laidByTextAt_later rfl rfl tie3 noOwnUnsafe
theorem fnIntoUpto_row_tie : Rows.fnIntoUptoRow.laidByTextAt .later Tryz.pinned [.data, .data, .data, .data, .data, .data] true :=
  OpenClaim.laidByTextAt_later rfl rfl tie3 noOwnUnsafe
end Go.Proofs.YtgclooabjilniaaGreatDoor
