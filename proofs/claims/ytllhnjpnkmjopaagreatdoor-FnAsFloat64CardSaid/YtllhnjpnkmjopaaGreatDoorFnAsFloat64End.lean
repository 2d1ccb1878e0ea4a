/-
FnAsFloat64: for every input the call returns true and leaves its arguments as they were; the tables that it reads are as the program's text lays them. No condition.
-/
import Derived.Test.YtllhnjpnkmjopaaGreatDoorFnAsFloat64Row
import Derived.Test.YtllhnjpnkmjopaaGreatDoorCards
import Derived.Test.YtllhnjpnkmjopaaGreatDoorTie
import Derived.WalkKit
import Derived.ProofKit
import Derived.OpenShut
import Derived.ShutString
import Derived.ChangeOld
import Derived.Below
import Derived.Deep.DeepHandedRow
import Derived.Lib.LaidTab
import Derived.LaidSub
import Derived.OpenVars
namespace Go.Proofs.YtllhnjpnkmjopaaGreatDoor.fnAsFloat64
open Go.ChangeShapes Go.WideShapes Go.ChangeAt Go.RowKit

theorem proved : Rows.FnAsFloat64CardSaid :=
  Claim7.holds_tied_plain_at .later [] _ _ _ _ said (fun _ h => by cases h) (by as_aux_lemma => kernel_rfl) (fun _ h => by cases h) fnAsFloat64_row_tie rfl ⟨rfl, rfl⟩ (by as_aux_lemma => kernel_rfl) rfl plain (by as_aux_lemma => kernel_rfl)
end Go.Proofs.YtllhnjpnkmjopaaGreatDoor.fnAsFloat64
