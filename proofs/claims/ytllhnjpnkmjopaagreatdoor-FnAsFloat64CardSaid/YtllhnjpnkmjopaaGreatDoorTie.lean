/-
  DERIVED. GIVEN WITH THE SEED: THE PROGRAM's TIES (one call each: nine closed facts by the kernel) AND EACH ROW's TIE, after the 31st guide's Derived/Test/Toyas{Tie, Card}.lean. No idea stands in it: it is a product of the set-up. Laid BY PROGRAM, IN A SANDBOX (cutbox-door.mjs). By AI agents, Wed Nov 11 2026. No macro, syntax, notation, axiom, sorry.
-/
import Derived.Test.YtllhnjpnkmjopaaGreatDoorRows
import Derived.LaidByTextLater
import Derived.SevenTiedAt
import Derived.LaidSub
import Derived.LaidOnce
namespace Go.Proofs.YtllhnjpnkmjopaaGreatDoor
open Go
set_option maxRecDepth 100000
theorem seatTie1 : Tryz.prog.laidByTextLater [("math/bits.deBruijn32tab", Rows.laid_math_bits_deBruijn32tab), ("math/bits.deBruijn64tab", Rows.laid_math_bits_deBruijn64tab), ("loop.example/pub-g03235/pub/bigall.divRecursiveThreshold", Rows.laid_loop_example_pub_g03235_pub_bigall_divRecursiveThreshold), ("loop.example/pub-g03235/pub/bigall.karatsubaThreshold", Rows.laid_loop_example_pub_g03235_pub_bigall_karatsubaThreshold), ("loop.example/pub-g03235/pub/bigall.basicSqrThreshold", Rows.laid_loop_example_pub_g03235_pub_bigall_basicSqrThreshold), ("loop.example/pub-g03235/pub/bigall.karatsubaSqrThreshold", Rows.laid_loop_example_pub_g03235_pub_bigall_karatsubaSqrThreshold)] [.data, .data, .data, .data, .data, .data] true :=
  Program.laidByTextLater_by_one 35 8 65 (by kernel_rfl) (by kernel_rfl) (by kernel_rfl) (by kernel_rfl) (by kernel_rfl) (by kernel_rfl) (fun _ _ => by kernel_rfl)
theorem noOwnUnsafe : Tryz.pinned.checked.prog.headLifts.contains "ownunsafe" = false := by kernel_rfl
theorem tie : Tryz.prog.laidByTextLater [("loop.example/pub-g03235/pub/bigall.divRecursiveThreshold", Rows.laid_loop_example_pub_g03235_pub_bigall_divRecursiveThreshold), ("loop.example/pub-g03235/pub/bigall.karatsubaThreshold", Rows.laid_loop_example_pub_g03235_pub_bigall_karatsubaThreshold), ("loop.example/pub-g03235/pub/bigall.basicSqrThreshold", Rows.laid_loop_example_pub_g03235_pub_bigall_basicSqrThreshold), ("loop.example/pub-g03235/pub/bigall.karatsubaSqrThreshold", Rows.laid_loop_example_pub_g03235_pub_bigall_karatsubaSqrThreshold)] [.data, .data, .data, .data] true :=
  Program.laidByTextLater.sub seatTie1 ["loop.example/pub-g03235/pub/bigall.divRecursiveThreshold", "loop.example/pub-g03235/pub/bigall.karatsubaThreshold", "loop.example/pub-g03235/pub/bigall.basicSqrThreshold", "loop.example/pub-g03235/pub/bigall.karatsubaSqrThreshold"] (by kernel_rfl) (by kernel_rfl)
theorem fnRatInto_row_tie : Rows.fnRatIntoRow.laidByTextAt .later Tryz.pinned [.data, .data, .data, .data] true :=
  OpenClaim.laidByTextAt_later rfl rfl tie noOwnUnsafe
theorem tie2 : Tryz.prog.laidByTextLater [("math/bits.deBruijn32tab", Rows.laid_math_bits_deBruijn32tab), ("math/bits.deBruijn64tab", Rows.laid_math_bits_deBruijn64tab), ("loop.example/pub-g03235/pub/bigall.karatsubaThreshold", Rows.laid_loop_example_pub_g03235_pub_bigall_karatsubaThreshold), ("loop.example/pub-g03235/pub/bigall.basicSqrThreshold", Rows.laid_loop_example_pub_g03235_pub_bigall_basicSqrThreshold), ("loop.example/pub-g03235/pub/bigall.karatsubaSqrThreshold", Rows.laid_loop_example_pub_g03235_pub_bigall_karatsubaSqrThreshold)] [.data, .data, .data, .data, .data] true :=
  Program.laidByTextLater.sub seatTie1 ["math/bits.deBruijn32tab", "math/bits.deBruijn64tab", "loop.example/pub-g03235/pub/bigall.karatsubaThreshold", "loop.example/pub-g03235/pub/bigall.basicSqrThreshold", "loop.example/pub-g03235/pub/bigall.karatsubaSqrThreshold"] (by kernel_rfl) (by kernel_rfl)
theorem fnSqrt_row_tie : Rows.fnSqrtRow.laidByTextAt .later Tryz.pinned [.data, .data, .data, .data, .data] true :=
  OpenClaim.laidByTextAt_later rfl rfl tie2 noOwnUnsafe
theorem fnRootOfSquare_row_tie : Rows.fnRootOfSquareRow.laidByTextAt .later Tryz.pinned [.data, .data, .data, .data, .data] true :=
  OpenClaim.laidByTextAt_later rfl rfl tie2 noOwnUnsafe
theorem tie3 : Tryz.prog.laidByTextLater [("math/bits.deBruijn32tab", Rows.laid_math_bits_deBruijn32tab), ("math/bits.deBruijn64tab", Rows.laid_math_bits_deBruijn64tab), ("loop.example/pub-g03235/pub/bigall.divRecursiveThreshold", Rows.laid_loop_example_pub_g03235_pub_bigall_divRecursiveThreshold), ("loop.example/pub-g03235/pub/bigall.karatsubaThreshold", Rows.laid_loop_example_pub_g03235_pub_bigall_karatsubaThreshold), ("loop.example/pub-g03235/pub/bigall.basicSqrThreshold", Rows.laid_loop_example_pub_g03235_pub_bigall_basicSqrThreshold), ("loop.example/pub-g03235/pub/bigall.karatsubaSqrThreshold", Rows.laid_loop_example_pub_g03235_pub_bigall_karatsubaSqrThreshold)] [.data, .data, .data, .data, .data, .data] true :=
  Program.laidByTextLater.sub seatTie1 ["math/bits.deBruijn32tab", "math/bits.deBruijn64tab", "loop.example/pub-g03235/pub/bigall.divRecursiveThreshold", "loop.example/pub-g03235/pub/bigall.karatsubaThreshold", "loop.example/pub-g03235/pub/bigall.basicSqrThreshold", "loop.example/pub-g03235/pub/bigall.karatsubaSqrThreshold"] (by kernel_rfl) (by kernel_rfl)
theorem fnInto_row_tie : Rows.fnIntoRow.laidByTextAt .later Tryz.pinned [.data, .data, .data, .data, .data, .data] true :=
  OpenClaim.laidByTextAt_later rfl rfl tie3 noOwnUnsafe
theorem fnAsFloat64_row_tie : Rows.fnAsFloat64Row.laidByTextAt .later Tryz.pinned [.data, .data, .data, .data, .data, .data] true :=
  OpenClaim.laidByTextAt_later rfl rfl tie3 noOwnUnsafe
theorem fnRatIntoUpto_row_tie : Rows.fnRatIntoUptoRow.laidByTextAt .later Tryz.pinned [.data, .data, .data, .data] true :=
  OpenClaim.laidByTextAt_later rfl rfl tie noOwnUnsafe
theorem fnSqrtUpto_row_tie : Rows.fnSqrtUptoRow.laidByTextAt .later Tryz.pinned [.data, .data, .data, .data, .data] true :=
  OpenClaim.laidByTextAt_later rfl rfl tie2 noOwnUnsafe
theorem fnRootOfSquareUpto_row_tie : Rows.fnRootOfSquareUptoRow.laidByTextAt .later Tryz.pinned [.data, .data, .data, .data, .data] true :=
  OpenClaim.laidByTextAt_later rfl rfl tie2 noOwnUnsafe
theorem fnIntoUpto_row_tie : Rows.fnIntoUptoRow.laidByTextAt .later Tryz.pinned [.data, .data, .data, .data, .data, .data] true :=
  OpenClaim.laidByTextAt_later rfl rfl tie3 noOwnUnsafe
theorem fnAsFloat64Upto_row_tie : Rows.fnAsFloat64UptoRow.laidByTextAt .later Tryz.pinned [.data, .data, .data, .data, .data, .data] true :=
  OpenClaim.laidByTextAt_later rfl rfl tie3 noOwnUnsafe
end Go.Proofs.YtllhnjpnkmjopaaGreatDoor
