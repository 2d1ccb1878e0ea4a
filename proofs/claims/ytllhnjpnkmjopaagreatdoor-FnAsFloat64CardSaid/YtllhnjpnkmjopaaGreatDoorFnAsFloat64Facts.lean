/-
FnAsFloat64: the closed facts of its row. No condition.
-/
import Derived.Test.YtllhnjpnkmjopaaGreatDoorTie
import Derived.WalkKit
import Derived.ProofKit
import Derived.OpenShut
import Derived.ShutString
import Derived.ChangeOld
import Derived.Below
import Derived.Deep.DeepHandedRow
import Derived.Lib.LaidTab
import Derived.LaidSub
import Derived.OpenVars
namespace Go.Proofs.YtllhnjpnkmjopaaGreatDoor.fnAsFloat64
open Go.ChangeShapes Go.WideShapes Go.ChangeAt Go.RowKit

theorem band {a b : Bool} (h : a = true) (g : b = true) : (a && b) = true := by rw [h, g]; rfl
set_option maxHeartbeats 6400000 in
theorem facts : joinedFacts Tryz.pinned.checked.prog 7 Tryz.f7 (OpenSpec.ofChange Rows.fnAsFloat64Spec).bare Rows.fnAsFloat64Row = true := by
  unfold joinedFacts
  repeat' (with_reducible refine band ?_ ?_)
  all_goals (as_aux_lemma => kernel_rfl)

end Go.Proofs.YtllhnjpnkmjopaaGreatDoor.fnAsFloat64
