/-
Texts of this proof, joined: AsE. No condition.
-/
import Derived.Test.YtgbmlaffilccnaaGreatDoorK17
import Derived.Test.YtgbmlaffilccnaaGreatDoorK22
/-
Floats: what uadd and usub need. No condition.
-/
namespace Go.Proofs.YtgbmlaffilccnaaGreatDoor
open Go.RowKit

theorem bl_diM (M : Nat) (E : Int) (N : Nat) (F : Int) : bl (diM M E N F) ≤ bl M + (E - min E F).toNat := Nat.le_trans (bl_mono (Nat.sub_le _ _)) (bl_lo _ _ _)
theorem bl_suM (M : Nat) (E : Int) (N : Nat) (F : Int) : bl (suM M E N F) ≤ max (bl M + (E - min E F).toNat) (bl N + (F - min E F).toNat) + 1 := by
  refine bl_le ?_
  unfold suM
  have h1 := lt_bl (lo M E (min E F))
  have h2 := lt_bl (lo N F (min E F))
  have h3 := bl_lo M E (min E F)
  have h4 := bl_lo N F (min E F)
  have h5 := Nat.pow_le_pow_right (show 0 < 2 by decide) (show bl (lo M E (min E F)) ≤ max (bl M + (E - min E F).toNat) (bl N + (F - min E F).toNat) by omega)
  have h6 := Nat.pow_le_pow_right (show 0 < 2 by decide) (show bl (lo N F (min E F)) ≤ max (bl M + (E - min E F).toNat) (bl N + (F - min E F).toNat) by omega)
  rw [Nat.pow_succ]; omega
theorem nw_of_bl {n k : Nat} (h : bl n ≤ 64 * k) : nw n ≤ k := by
  rcases Nat.eq_zero_or_pos n with h0 | h0
  · rw [h0, nw_zero]; exact Nat.zero_le _
  · rw [nw_bl h0]; omega
end Go.Proofs.YtgbmlaffilccnaaGreatDoor
