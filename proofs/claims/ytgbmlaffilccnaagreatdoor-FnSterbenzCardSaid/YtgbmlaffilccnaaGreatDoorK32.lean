/-
Texts of this proof, joined: AdB AdI. No condition.
-/
import Derived.Test.YtgbmlaffilccnaaGreatDoorK18
import Derived.Test.YtgbmlaffilccnaaGreatDoorK27
import Derived.Test.YtgbmlaffilccnaaGreatDoorK31
/-
Floats: Add and Sub of a new receiver and any operands that are not infinite. No condition.
-/
namespace Go.Proofs.YtgbmlaffilccnaaGreatDoor
open Go.RowKit

theorem deq_low {M : Nat} {E e : Int} (h : e ≤ E) : deq M E (lo M E e) e := ⟨(E - e).toNat, 0, by simp [lo], by omega⟩
end Go.Proofs.YtgbmlaffilccnaaGreatDoor

/-
The thin package's Add. No condition.
-/
namespace Go.Proofs.YtgbmlaffilccnaaGreatDoor
open Go.RowKit

section
variable {W X : World} {i j : Nat} {a b c d e f a' b' c' d' e' f' : Value} {T T' : TypeId}
end
end Go.Proofs.YtgbmlaffilccnaaGreatDoor
