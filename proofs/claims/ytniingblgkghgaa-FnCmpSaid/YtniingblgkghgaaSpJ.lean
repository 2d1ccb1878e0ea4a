/-
Natural numbers of the reference: Gcd. No condition.
-/
import Derived.Test.YtniingblgkghgaaSpI
namespace Go.Proofs.Ytniingblgkghgaa
open Go.RowKit

theorem NatV.uniq {w : World} {v : Value} {m n : Nat} (h : NatV w v m) (h' : NatV w v n) : m = n := by
  have hl : nl m = nl n := h.len.symm.trans h'.len
  have hd : digs m = digs n := by
    unfold digs
    rw [hl]
    refine List.map_congr_left fun i hi => ?_
    have hi := List.mem_range.1 hi
    have h1 := h.cell i (by omega)
    rw [h'.cell i hi] at h1
    simp at h1
    omega
  rw [← val_digs m, hd, val_digs]
open Classical in
/-- The number that a slice is in a world. -/
noncomputable def natIn (w : World) (v : Value) : Nat := if h : ∃ n, NatV w v n then h.choose else 0
theorem natIn_of {w : World} {v : Value} {n : Nat} (h : NatV w v n) : natIn w v = n := by
  unfold natIn
  rw [dif_pos ⟨n, h⟩]
  exact NatV.uniq (Exists.choose_spec (⟨n, h⟩ : ∃ n, NatV w v n)) h
end Go.Proofs.Ytniingblgkghgaa
