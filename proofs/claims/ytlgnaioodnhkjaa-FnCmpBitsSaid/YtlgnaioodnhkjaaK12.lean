/-
Texts of this proof, joined: FlR. No condition.
-/
import Derived.Test.YtlgnaioodnhkjaaK11
/-
The statement on a float's sign. No condition.
-/
namespace Go.Proofs.Ytlgnaioodnhkjaa
open Go.RowKit

theorem ks12 {W X : World} {k : Nat} {a b c d e f : Value} {T : TypeId} (hr : W.heap[k]? = some (.cells #[a, b, c, d, e, f] T (0, 0))) (h : Below W.heap.size W X) :
    Below W.heap.size W X ∧ X.cell? ⟨k, 0, none⟩ = some a ∧ X.cell? ⟨k, 1, none⟩ = some b ∧ X.cell? ⟨k, 2, none⟩ = some c ∧ X.cell? ⟨k, 3, none⟩ = some d ∧ X.cell? ⟨k, 4, none⟩ = some e ∧ X.cell? ⟨k, 5, none⟩ = some f :=
  ⟨h, (row_at (keep_row h hr) rfl).1, (row_at (keep_row h hr) rfl).1, (row_at (keep_row h hr) rfl).1, (row_at (keep_row h hr) rfl).1, (row_at (keep_row h hr) rfl).1, (row_at (keep_row h hr) rfl).1⟩
end Go.Proofs.Ytlgnaioodnhkjaa
