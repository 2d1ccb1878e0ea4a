/-
Texts of this proof, joined: GcE. No condition.
-/
import Derived.Test.YtllhnjpnkmjopaaGreatDoorK24
import Derived.Test.YtllhnjpnkmjopaaGreatDoorK31
namespace Go.Proofs.YtllhnjpnkmjopaaGreatDoor
open Go.RowKit

structure IntRo (b o : Nat) (cs : Array Value) (T : TypeId) (vz : Value) (neg : Bool) (N B : Nat) (w w' : World) : Prop where
  row : ∃ r, w'.heap[b]? = some (.cells ((cs.setIfInBounds (o + 1) r).setIfInBounds o (.bool neg)) T (0, 0)) ∧ Own w' B 116 r (cellsW (wds N)) ∧ (0 < sCap r → (0 < sCap vz ∧ sBlk r = sBlk vz) ∨ w.heap.size ≤ sBlk r)
  below : Below B w w'
  fr : ∀ k, k < w.heap.size → k ≠ b → (0 < sCap vz → k ≠ sBlk vz) → w'.heap[k]? = w.heap[k]?
theorem IntRo.of {b o : Nat} {cs : Array Value} {T : TypeId} {vz r : Value} {neg : Bool} {N B : Nat} {w w1 : World} (hz : w.heap[b]? = some (.cells cs T (0, 0))) (hT : T ≠ 116) (hb : B ≤ b) (hne : 0 < sCap vz → b ≠ sBlk vz) (h : NatR vz r N B w w1) :
    IntRo b o cs T vz neg N B w ((w1.setCell ⟨b, o + 1, none⟩ r).setCell ⟨b, o, none⟩ (.bool neg)) := by
  have hr1 := h.fr.row hz hne
  have r1 := rowset (i := o + 1) r hr1
  have r2 := rowset (i := o) (.bool neg) r1
  refine ⟨⟨r, r2, (h.own.away hr1 hT (o + 1) r).away r1 hT o (.bool neg), h.at'⟩, bset (bset h.below hb) hb, fun k hk h1 h2 => ?_⟩
  rw [heap_setCell_other _ _ _ _ (by simpa using h1), heap_setCell_other _ _ _ _ (by simpa using h1)]
  exact h.fr k hk h2
end Go.Proofs.YtllhnjpnkmjopaaGreatDoor
