/-
Natural numbers of the reference: DivMod, Gcd. No condition.
-/
import Derived.Test.YtniingblgkghgaaSpH
namespace Go.Proofs.Ytniingblgkghgaa
open Go.RowKit

/-- What DivMod answers. -/
def DMPost (x y : Nat) (w : World) (v : Value) (w' : World) : Prop := ∃ q r, v = .tuple #[q, r] ∧ NatV w' q (x / y) ∧ NatV w' r (x % y) ∧ Below w.heap.size w w'
/-- DivMod's relation. -/
def DvRel (x y B : Nat) (w : World) (i : Int) (a q : Value) (wr : World) : Prop := ∃ m k : Nat, NatV wr a m ∧ NatV wr q k ∧ k * y + m = x ∧ m < y * 2 ^ (i + 1).toNat ∧ Below B w wr
theorem bl_mul_two {y : Nat} (hy : 0 < y) (i : Nat) : bl (y * 2 ^ i) = i + bl y := by
  refine bl_shift hy ?_
  rw [Nat.mul_mod_left]; grind
theorem dv_start {x y : Nat} (hy : 0 < y) : x < y * 2 ^ (((bl x : Nat) : Int) - (bl y : Nat) + 1).toNat := by
  have h1 := lt_bl x
  have h2 := bl_ge hy
  have h3 := bl_pos hy
  by_cases h : bl y ≤ bl x
  · rw [show (((bl x : Nat) : Int) - (bl y : Nat) + 1).toNat = bl x - bl y + 1 by omega]
    refine Nat.lt_of_lt_of_le h1 ?_
    have : 2 ^ bl x = 2 ^ (bl y - 1) * 2 ^ (bl x - bl y + 1) := by rw [← Nat.pow_add]; congr 1; omega
    rw [this]
    exact Nat.mul_le_mul_right _ h2
  · rw [show (((bl x : Nat) : Int) - (bl y : Nat) + 1).toNat = 0 by omega, Nat.pow_zero, Nat.mul_one]
    exact Nat.lt_of_lt_of_le h1 (Nat.le_trans (Nat.pow_le_pow_right (by decide) (by omega)) h2)
end Go.Proofs.Ytniingblgkghgaa
