/-
A word on a world that has grown. No condition.
-/
import Derived.Test.YtniingblgkghgaaOwn
namespace Go.Proofs.Ytniingblgkghgaa
open Go.RowKit

theorem heap_alloc_lt {w : World} {o x : Obj} {k : Nat} (h : w.heap[k]? = some x) : (w.alloc o).heap[k]? = some x ∧ k < w.heap.size := by
  have hlt : k < w.heap.size := by
    rcases Nat.lt_or_ge k w.heap.size with h' | h'
    · exact h'
    · rw [Array.getElem?_eq_none h'] at h; cases h
  exact ⟨(Below.heap_alloc w o k hlt).trans h, hlt⟩
end Go.Proofs.Ytniingblgkghgaa
