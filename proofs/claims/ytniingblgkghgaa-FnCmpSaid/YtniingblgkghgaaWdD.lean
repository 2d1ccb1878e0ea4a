/-
Words: HasWords; the sizes of the statements' structs. No condition.
-/
import Derived.Test.YtniingblgkghgaaWdC

import Derived.Test.YtniingblgkghgaaCmA
namespace Go.Proofs.Ytniingblgkghgaa
open Go.RowKit

theorem ret_boolE {a b : Bool} (h : a = b) : Ending.returned (.bool a) = Ending.returned (.bool b) := by rw [h]
/-- A cell of a box, behind whatever leaves the old memory as it was. -/
theorem box_cell {w w1 : World} {cs : Array Value} {T : TypeId} (hb : Below (w.alloc (.cells cs T)).heap.size (w.alloc (.cells cs T)) w1) {i : Nat} {v : Value} (h : cs[i]? = some v) : w1.cell? ⟨w.heap.size, i, none⟩ = some v := by
  have h1 : (w.alloc (.cells cs T)).heap[w.heap.size]? = some (.cells cs T) := heap_alloc_new w _
  have h2 := (heap_alloc_lt (o := .cells #[] 0) h1).2
  refine (hb.cell (p := ⟨w.heap.size, i, none⟩) h2).trans ?_
  rw [cell_of_row _ _ i _ _ _ h1]
  exact h
end Go.Proofs.Ytniingblgkghgaa
