/-
The element types of this program's slices. No condition.
-/
import Derived.Test.YtedmkbpfmddafaaProg
import Derived.Test.YtedmkbpfmddafaaOwn
namespace Go.Proofs.Ytedmkbpfmddafaa
open Go.RowKit
theorem ElemT.of {P : Program} {t e : TypeId} {bytes : Nat} {z : Value} (ht : P.underlying t = some (.slice e)) (hz : z.cells = #[z])
    (h : (P.info? e).map (fun i => (i.zero, i.size, i.bytes)) = some (some z, 1, bytes)) : ElemT P t e bytes z := by
  refine ⟨ht, ?_⟩
  cases hi : P.info? e with
  | none => rw [hi] at h; cases h
  | some i =>
    rw [hi] at h
    simp only [Option.map_some, Option.some.injEq, Prod.mk.injEq] at h
    exact ⟨i, rfl, h.1, h.2.1, h.2.2, hz⟩
theorem elemB : ElemT Try.prog 22 5 1 (.int .u8 0) := .of (z := .int .u8 0) Try.underlying22 rfl (by kernel_rfl)
theorem sliceB : Try.prog.underlying 22 = some (.slice 5) := Try.underlying22
theorem elemI : ElemT Try.prog 30 3 8 (.int .i64 0) := .of (z := .int .i64 0) Try.underlying30 rfl (by kernel_rfl)
theorem elemN : ElemT Try.prog 31 3 8 (.int .i64 0) := .of (z := .int .i64 0) Try.underlying31 rfl (by kernel_rfl)
end Go.Proofs.Ytedmkbpfmddafaa
