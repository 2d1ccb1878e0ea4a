/-
Texts of this proof, joined: RnI. No condition.
-/
import Derived.Test.YtdepidpgbgfjlaaGreatDoorK30
namespace Go.Proofs.YtdepidpgbgfjlaaGreatDoor
open Go.RowKit

theorem makeAcc_is (x : Bool) (acc : Int) (w : World) (h : acc = if x then 1 else -1) : Calls Tryz.prog 136 #[.bool x] w fun e w' => e = .returned (.int .i8 acc) ∧ w = w' := by
  rw [h]; exact makeAcc_any x w
end Go.Proofs.YtdepidpgbgfjlaaGreatDoor
