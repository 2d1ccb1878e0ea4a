/-
Texts of this proof, joined: ObO. No condition.
-/
import Derived.Test.YtlgnaioodnhkjaaK31
import Derived.Test.YtlgnaioodnhkjaaK37
/-
SetFloat64 of a new receiver, infinities too. No condition.
-/
namespace Go.Proofs.Ytlgnaioodnhkjaa
open Go.RowKit

/-- The form of a pattern that is a number or infinite. -/
def obO (x : Nat) : Nat := if x % 9223372036854775808 = 9218868437227405312 then 2 else fO (obM x)
theorem obO_inf {x : Nat} (h : x % 9223372036854775808 = 9218868437227405312) : obO x = 2 := if_pos h
theorem obO_fin {x : Nat} (h : obF x) : obO x = fO (obM x) := if_neg (by unfold obF at h; omega)
theorem obE_bd' (x : Nat) : -1074 ≤ obE x ∧ obE x ≤ 972 := by unfold obE; omega
/-- SetFloat64 of a new receiver, infinities too. -/
theorem setF64_all (x : Nat) (hx : x < 18446744073709551616) (hx2 : x % 9223372036854775808 ≤ 9218868437227405312) (W : World) (b B : Nat) (h : FltR W b 0 0 0 0 false (.slice none 0 0) 0) (hB : B ≤ b) :
    Calls Try.prog 40 #[.pointer (some ⟨b, 0, none⟩), .float .f64 x] W fun e' w' => e' = .returned (.pointer (some ⟨b, 0, none⟩)) ∧ (∃ a, FVal w' B b 53 0 a (obO x) (obN x) (obM x) (obE x)) ∧ Below B W w' := by
  by_cases hi : x % 9223372036854775808 = 9218868437227405312
  · refine (setF64_inf b B 0 0 0 0 0 false x W h hB (by decide) (by decide) hx hi).mono ?_
    rintro _ w' ⟨rfl, hR, hb⟩
    rw [obO_inf hi]
    exact ⟨rfl, ⟨0, _, _, hR, fun h => absurd h (by decide)⟩, hb⟩
  · have hf : obF x := by unfold obF; omega
    obtain ⟨k0, k1, k2⟩ := rQ_fits (p := 53) (m := 0) (obN x) (bl_obM x)
    have := setF64_val b B 0 0 0 0 0 false x W h hB (by decide) (by decide) hx hf
    rw [show pD 0 53 = 53 from rfl, k0, k1, show obE x + ((0 : Nat) : Int) = obE x by omega] at this
    rw [obO_fin hf]
    refine this.mono ?_
    rintro _ w' ⟨rfl, hv, hb⟩
    exact ⟨rfl, ⟨_, hv⟩, hb⟩
theorem obO_le (x : Nat) : obO x ≤ 2 := by
  have := fO_le (obM x)
  unfold obO; split <;> omega
theorem obO_one {x : Nat} (h : obO x = 1) : 0 < obM x := by
  unfold obO at h; split at h
  · omega
  · unfold fO at h; split at h <;> omega
end Go.Proofs.Ytlgnaioodnhkjaa
