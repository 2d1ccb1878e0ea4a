/-
  DERIVED. GIVEN WITH THE SEED: THE PROGRAM's TIES (one call each: nine closed facts by the kernel) AND EACH ROW's TIE, after the 31st guide's Derived/Test/Toyas{Tie, Card}.lean. No idea stands in it: it is a product of the set-up. Laid BY PROGRAM, IN A SANDBOX (cutbox-door.mjs). By AI agents, Wed Nov 11 2026. No macro, syntax, notation, axiom, sorry.
-/
import Derived.Test.YtlapgbkngkejpaaDoorRows
import Derived.LaidByTextLater
import Derived.SevenTiedAt
import Derived.LaidSub
import Derived.LaidOnce
namespace Go.Proofs.YtlapgbkngkejpaaDoor
open Go
set_option maxRecDepth 100000
theorem seatTie1 : Tryd.prog.laidByTextLater [("loop.example/pub-g03235/pub/bigall.karatsubaThreshold", Rows.laid_loop_example_pub_g03235_pub_bigall_karatsubaThreshold), ("loop.example/pub-g03235/pub/bigall.basicSqrThreshold", Rows.laid_loop_example_pub_g03235_pub_bigall_basicSqrThreshold), ("loop.example/pub-g03235/pub/bigall.karatsubaSqrThreshold", Rows.laid_loop_example_pub_g03235_pub_bigall_karatsubaSqrThreshold)] [.data, .data, .data] true :=
  Program.laidByTextLater_by_one 21 8 2 (by kernel_rfl) (by kernel_rfl) (by kernel_rfl) (by kernel_rfl) (by kernel_rfl) (by kernel_rfl) (fun _ _ => by kernel_rfl)
theorem noOwnUnsafe : Tryd.pinned.checked.prog.headLifts.contains "ownunsafe" = false := by kernel_rfl
theorem tie : Tryd.prog.laidByTextLater [("loop.example/pub-g03235/pub/bigall.karatsubaThreshold", Rows.laid_loop_example_pub_g03235_pub_bigall_karatsubaThreshold), ("loop.example/pub-g03235/pub/bigall.basicSqrThreshold", Rows.laid_loop_example_pub_g03235_pub_bigall_basicSqrThreshold), ("loop.example/pub-g03235/pub/bigall.karatsubaSqrThreshold", Rows.laid_loop_example_pub_g03235_pub_bigall_karatsubaSqrThreshold)] [.data, .data, .data] true :=
  Program.laidByTextLater.sub seatTie1 ["loop.example/pub-g03235/pub/bigall.karatsubaThreshold", "loop.example/pub-g03235/pub/bigall.basicSqrThreshold", "loop.example/pub-g03235/pub/bigall.karatsubaSqrThreshold"] (by kernel_rfl) (by kernel_rfl)
theorem fnRatCmp_row_tie : Rows.fnRatCmpRow.laidByTextAt .later Tryd.pinned [.data, .data, .data] true :=
  OpenClaim.laidByTextAt_later rfl rfl tie noOwnUnsafe
theorem fnRatCmpUpto_row_tie : Rows.fnRatCmpUptoRow.laidByTextAt .later Tryd.pinned [.data, .data, .data] true :=
  OpenClaim.laidByTextAt_later rfl rfl tie noOwnUnsafe
end Go.Proofs.YtlapgbkngkejpaaDoor
