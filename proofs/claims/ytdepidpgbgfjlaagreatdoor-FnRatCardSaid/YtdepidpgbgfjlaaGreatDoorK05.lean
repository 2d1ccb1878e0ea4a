/-
Texts of this proof, joined: WdF. No condition.
-/
import Derived.Test.YtdepidpgbgfjlaaGreatDoorK04
import Derived.Deep.RegionHeld3
import Derived.Deep.DeepCutAuto
import Derived.Deep.CutRange
namespace Go.Proofs.YtdepidpgbgfjlaaGreatDoor
open Go.RowKit

section
variable {P : Program} {ops : Array Oper} {Q : Exit → Act → World → Prop} {md : Region.Mode} {S : World → Prop}
end
theorem box_row {w w1 : World} {cs : Array Value} {T : TypeId} (hb : Below (w.alloc (.cells cs T)).heap.size (w.alloc (.cells cs T)) w1) : w1.heap[w.heap.size]? = some (.cells cs T (0, 0)) := by
  have h1 : (w.alloc (.cells cs T)).heap[w.heap.size]? = some (.cells cs T) := heap_alloc_new w _
  exact (hb.block _ (heap_alloc_lt (o := .cells #[] 0) h1).2).trans h1
theorem keep_row {w w1 : World} {k : Nat} {o : Obj} (hb : Below w.heap.size w w1) (h : w.heap[k]? = some o) : w1.heap[k]? = some o := (hb.block _ (heap_alloc_lt (o := .cells #[] 0) h).2).trans h
theorem row3 {w : World} {k T : Nat} {a b c : Value} (h : w.heap[k]? = some (.cells #[a, b, c] T (0, 0))) :
    w.cell? ⟨k, 0, none⟩ = some a ∧ w.cell? ⟨k, 1, none⟩ = some b ∧ w.cell? ⟨k, 2, none⟩ = some c ∧ w.frozen? ⟨k, 0, none⟩ = false ∧ w.frozen? ⟨k, 1, none⟩ = false ∧ w.frozen? ⟨k, 2, none⟩ = false :=
  ⟨by rw [cell_of_row w k 0 _ _ _ h]; rfl, by rw [cell_of_row w k 1 _ _ _ h]; rfl, by rw [cell_of_row w k 2 _ _ _ h]; rfl, frozen_of_row w k 0 _ _ h, frozen_of_row w k 1 _ _ h, frozen_of_row w k 2 _ _ h⟩
theorem bset3 {W w : World} {g : Nat} {a b c : Value} (h : Below W.heap.size W w) (hg : W.heap.size ≤ g) : Below W.heap.size W (((w.setCell ⟨g, 0, none⟩ a).setCell ⟨g, 1, none⟩ b).setCell ⟨g, 2, none⟩ c) := bset (bset (bset h hg) hg) hg
theorem row3_set {w : World} {k T : Nat} {a b c x y z : Value} (h : w.heap[k]? = some (.cells #[a, b, c] T (0, 0))) :
    (((w.setCell ⟨k, 0, none⟩ x).setCell ⟨k, 1, none⟩ y).setCell ⟨k, 2, none⟩ z).heap[k]? = some (.cells #[x, y, z] T (0, 0)) := by
  have h1 := heap_setCell_same w k 0 _ _ x h
  have h2 := heap_setCell_same _ k 1 _ _ y h1
  have h3 := heap_setCell_same _ k 2 _ _ z h2
  rw [h3]; rfl
theorem natv_row3 {w : World} {k T n : Nat} {a : Bool} {b c x y z v : Value} (hb : IsS b) (hc : IsS c) (hv : NatV w v n) (h : w.heap[k]? = some (.cells #[.bool a, b, c] T (0, 0))) :
    NatV (((w.setCell ⟨k, 0, none⟩ x).setCell ⟨k, 1, none⟩ y).setCell ⟨k, 2, none⟩ z) v n := by
  refine ⟨hv.isS, hv.len, fun i hi => ?_⟩
  have hcell := hv.cell i hi
  have hne : sBlk v ≠ k := by
    intro he
    rw [he, cell_of_row w k _ _ _ _ h] at hcell
    obtain ⟨b1, b2, b3, rfl⟩ := hb.form
    obtain ⟨c1, c2, c3, rfl⟩ := hc.form
    rcases Nat.lt_or_ge (sOff v + i) 3 with h3 | h3
    · rcases (by omega : sOff v + i = 0 ∨ sOff v + i = 1 ∨ sOff v + i = 2) with e | e | e <;> rw [e] at hcell <;> simp at hcell
    · rw [Array.getElem?_eq_none (by simpa using h3)] at hcell; cases hcell
  have hh : (((w.setCell ⟨k, 0, none⟩ x).setCell ⟨k, 1, none⟩ y).setCell ⟨k, 2, none⟩ z).heap[sBlk v]? = w.heap[sBlk v]? := by
    rw [heap_setCell_other _ _ _ _ (by simpa using hne), heap_setCell_other _ _ _ _ (by simpa using hne), heap_setCell_other _ _ _ _ (by simpa using hne)]
  exact (World.cell?_of_block hh).trans hcell
end Go.Proofs.YtdepidpgbgfjlaaGreatDoor
