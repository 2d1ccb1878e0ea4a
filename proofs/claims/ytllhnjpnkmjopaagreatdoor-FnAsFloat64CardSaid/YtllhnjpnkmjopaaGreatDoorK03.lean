/-
Texts of this proof, joined: WdF. No condition.
-/
import Derived.Test.YtllhnjpnkmjopaaGreatDoorK02
import Derived.Deep.RegionHeld3
import Derived.Deep.DeepCutAuto
import Derived.Deep.CutRange
namespace Go.Proofs.YtllhnjpnkmjopaaGreatDoor
open Go.RowKit

section
variable {P : Program} {ops : Array Oper} {Q : Exit → Act → World → Prop} {md : Region.Mode} {S : World → Prop}
end
theorem box_row {w w1 : World} {cs : Array Value} {T : TypeId} (hb : Below (w.alloc (.cells cs T)).heap.size (w.alloc (.cells cs T)) w1) : w1.heap[w.heap.size]? = some (.cells cs T (0, 0)) := by
  have h1 : (w.alloc (.cells cs T)).heap[w.heap.size]? = some (.cells cs T) := heap_alloc_new w _
  exact (hb.block _ (heap_alloc_lt (o := .cells #[] 0) h1).2).trans h1
theorem keep_row {w w1 : World} {k : Nat} {o : Obj} (hb : Below w.heap.size w w1) (h : w.heap[k]? = some o) : w1.heap[k]? = some o := (hb.block _ (heap_alloc_lt (o := .cells #[] 0) h).2).trans h
end Go.Proofs.YtllhnjpnkmjopaaGreatDoor
