/-
FnSterbenz: the closed facts of its row. No condition.
-/
import Derived.Test.YtgbmlaffilccnaaGreatDoorTie
import Derived.WalkKit
import Derived.ProofKit
import Derived.OpenShut
import Derived.ShutString
import Derived.ChangeOld
import Derived.Below
import Derived.Deep.DeepHandedRow
import Derived.Lib.LaidTab
import Derived.LaidSub
namespace Go.Proofs.YtgbmlaffilccnaaGreatDoor.fnSterbenz
open Go.ChangeShapes Go.WideShapes Go.ChangeAt Go.RowKit

theorem band {a b : Bool} (h : a = true) (g : b = true) : (a && b) = true := by rw [h, g]; rfl
set_option maxHeartbeats 6400000 in
theorem facts : joinedFacts Tryz.pinned.checked.prog 4 Tryz.f4 (OpenSpec.ofChange Rows.fnSterbenzSpec).bare Rows.fnSterbenzRow = true := by
  unfold joinedFacts
  repeat' (with_reducible refine band ?_ ?_)
  all_goals (as_aux_lemma => kernel_rfl)

end Go.Proofs.YtgbmlaffilccnaaGreatDoor.fnSterbenz
