/-
Texts of this proof, joined: NvD. No condition.
-/
import Derived.Test.YtbghmceglemppaaGreatDoorK04
import Derived.Test.YtbghmceglemppaaGreatDoorK05
/-
A number's slice lies in no dyad's cells; a dyadic value of the reference. No condition.
-/
namespace Go.Proofs.YtbghmceglemppaaGreatDoor
open Go.RowKit

theorem natv_dyad {w : World} {k T n : Nat} {a : Bool} {b x y z v : Value} (hb : IsS b) (hv : NatV w v n) (h : w.heap[k]? = some (.cells #[.bool a, b, .int .i64 0] T (0, 0))) :
    NatV (((w.setCell ⟨k, 0, none⟩ x).setCell ⟨k, 1, none⟩ y).setCell ⟨k, 2, none⟩ z) v n := by
  refine ⟨hv.isS, hv.len, fun i hi => ?_⟩
  have hne : sBlk v ≠ k := by
    intro he
    have ht := hv.cell (nl n - 1) (by omega)
    rw [he, cell_of_row w k _ _ _ _ h] at ht
    obtain ⟨b1, b2, b3, rfl⟩ := hb.form
    have hd : dig n (nl n - 1) ≠ 0 := dig_last (Nat.pos_of_ne_zero fun h0 => by rw [h0] at hi; rw [nl_zero] at hi; omega)
    rcases Nat.lt_or_ge (sOff v + (nl n - 1)) 3 with h3 | h3
    · rcases (by omega : sOff v + (nl n - 1) = 0 ∨ sOff v + (nl n - 1) = 1 ∨ sOff v + (nl n - 1) = 2) with e | e | e <;> rw [e] at ht <;> simp at ht
      exact hd (by omega)
    · rw [Array.getElem?_eq_none (by simpa using h3)] at ht; cases ht
  have hh : (((w.setCell ⟨k, 0, none⟩ x).setCell ⟨k, 1, none⟩ y).setCell ⟨k, 2, none⟩ z).heap[sBlk v]? = w.heap[sBlk v]? := by
    rw [heap_setCell_other _ _ _ _ (by simpa using hne), heap_setCell_other _ _ _ _ (by simpa using hne), heap_setCell_other _ _ _ _ (by simpa using hne)]
  exact (World.cell?_of_block hh).trans (hv.cell i hi)
/-- A dyadic value of the reference. -/
def DyV (w : World) (v : Value) (n : Bool) (x : Nat) (e : Int) : Prop := ∃ a, v = .agg #[.bool n, a, .int .i64 e] ∧ NatV w a x
theorem bl_two (x n : Nat) : bl (x * 2 ^ n) ≤ bl x + n := bl_le (by
  rw [Nat.pow_add]; exact Nat.mul_lt_mul_of_pos_right (lt_bl x) (Nat.two_pow_pos n))
theorem nl_of_bl {n k : Nat} (h : bl n ≤ k) : nl n ≤ k := nl_bl (by omega)
theorem wrap_i64_id {a : Int} (h1 : -9223372036854775808 ≤ a) (h2 : a ≤ 9223372036854775807) : IntKind.i64.wrap a = a := by rw [IntKind.wrap_i64]; omega
theorem row_new (w : World) (cs : Array Value) (T k : Nat) (hk : w.heap.size = k) : (w.alloc (.cells cs T)).heap[k]? = some (.cells cs T (0, 0)) := by
  subst hk; exact box_row (Below.refl _ _)
end Go.Proofs.YtbghmceglemppaaGreatDoor
