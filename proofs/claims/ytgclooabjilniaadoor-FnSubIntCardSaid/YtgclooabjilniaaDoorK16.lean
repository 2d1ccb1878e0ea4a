/-
Texts of this proof, joined: FlQ. No condition.
-/
import Derived.Test.YtgclooabjilniaaDoorK02
import Derived.Test.YtgclooabjilniaaDoorK15
import Derived.Deep.QuietTactic
import Derived.BigQuiet
/-
The statements' real: when a Real is taken. No condition.
-/
namespace Go.Proofs.YtgclooabjilniaaDoor
open Go.RowKit

/-- What laws.real lets through, of any Real. -/
def RealIs (P E : Nat) (p m f : Int) (ws : List Nat) (e : Int) : Prop :=
  ∃ p' m' f' : Nat, p = p' ∧ m = m' ∧ f = f' ∧ RealOk P E p' m' f' ws e
end Go.Proofs.YtgclooabjilniaaDoor
