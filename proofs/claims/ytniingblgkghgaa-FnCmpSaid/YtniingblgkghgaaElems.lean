/-
The element types of this program's slices. No condition.
-/
import Derived.Test.YtniingblgkghgaaProg
import Derived.Test.YtniingblgkghgaaOwn
namespace Go.Proofs.Ytniingblgkghgaa
open Go.RowKit
theorem ElemT.of {P : Program} {t e : TypeId} {bytes : Nat} {z : Value} (ht : P.underlying t = some (.slice e)) (hz : z.cells = #[z])
    (h : (P.info? e).map (fun i => (i.zero, i.size, i.bytes)) = some (some z, 1, bytes)) : ElemT P t e bytes z := by
  refine ⟨ht, ?_⟩
  cases hi : P.info? e with
  | none => rw [hi] at h; cases h
  | some i =>
    rw [hi] at h
    simp only [Option.map_some, Option.some.injEq, Prod.mk.injEq] at h
    exact ⟨i, rfl, h.1, h.2.1, h.2.2, hz⟩
theorem elemI : ElemT Try.prog 33 3 8 (.int .i64 0) := .of (z := .int .i64 0) Try.underlying33 rfl (by kernel_rfl)
theorem elemN : ElemT Try.prog 34 3 8 (.int .i64 0) := .of (z := .int .i64 0) Try.underlying34 rfl (by kernel_rfl)
end Go.Proofs.Ytniingblgkghgaa
