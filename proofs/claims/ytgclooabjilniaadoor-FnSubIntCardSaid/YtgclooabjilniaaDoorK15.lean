/-
Texts of this proof, joined: FlP. No condition.
-/
import Derived.Test.YtgclooabjilniaaDoorK08
/-
Signs of floats, the statements' reals. No condition.
-/
namespace Go.Proofs.YtgclooabjilniaaDoor
open Go.RowKit

def sgF (f : Nat) (neg : Bool) : Int := if f = 0 then 0 else if neg then -1 else 1
/-- A Real that the statements take. -/
def RealOk (P E p m f : Nat) (ws : List Nat) (e : Int) : Prop :=
  0 < p ∧ p ≤ P ∧ m ≤ 5 ∧ (f = 0 ∨ f = 2 ∨ (f = 1 ∧ 0 < wv ws ∧ bl (wv ws) ≤ p ∧ ws.length ≤ 1000000 ∧ -(E : Int) ≤ e ∧ e ≤ E))
end Go.Proofs.YtgclooabjilniaaDoor
