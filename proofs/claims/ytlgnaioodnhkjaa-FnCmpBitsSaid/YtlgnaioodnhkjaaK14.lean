/-
Texts of this proof, joined: FlU. No condition.
-/
import Derived.Test.YtlgnaioodnhkjaaK13
/-
The order of two Reals: Cmp's answer is the order of the values. Plain law. No condition.
-/
namespace Go.Proofs.Ytlgnaioodnhkjaa
open Go.RowKit

theorem mul_two_lt {M1 M2 a b : Nat} (h2 : 0 < M2) (h : bl M1 + a < bl M2 + b) : M1 * 2 ^ a < M2 * 2 ^ b := by
  have hp := bl_pos h2
  have k1 : M1 * 2 ^ a < 2 ^ bl M1 * 2 ^ a := Nat.mul_lt_mul_of_pos_right (lt_bl M1) (Nat.two_pow_pos a)
  have k2 : 2 ^ (bl M2 - 1) * 2 ^ b ≤ M2 * 2 ^ b := Nat.mul_le_mul_right _ (bl_ge h2)
  rw [← Nat.pow_add] at k1 k2
  have k3 : 2 ^ (bl M1 + a) ≤ 2 ^ (bl M2 - 1 + b) := Nat.pow_le_pow_right (by decide) (by omega)
  omega
theorem topV_topN {M n : Nat} (h : 0 < M) : topV (topN M) n = M * 2 ^ (64 * nw M - bl M + 64 * n) := by
  unfold topV
  rw [topN_wv h, show (18446744073709551616 : Nat) = 2 ^ 64 from rfl, ← Nat.pow_mul, Nat.mul_assoc, ← Nat.pow_add]
theorem ucmp_real {M1 M2 a b : Nat} {e1 e2 e : Int} (h1 : 0 < M1) (h2 : 0 < M2) (ha : e1 = e + a) (hb : e2 = e + b) :
    ucmpV ((bl M1 : Nat) + e1) ((bl M2 : Nat) + e2) (topN M1) (topN M2) = cmpN (M1 * 2 ^ a) (M2 * 2 ^ b) := by
  subst ha hb
  rcases Nat.lt_trichotomy (bl M1 + a) (bl M2 + b) with h | h | h
  · rw [cmpN_lt (mul_two_lt h2 h)]; unfold ucmpV; rw [if_pos (by omega)]
  · rw [show ((bl M2 : Nat) : Int) + (e + b) = ((bl M1 : Nat) : Int) + (e + a) by omega, ucmpV_eq, topV_topN h1, topV_topN h2, topN_length, topN_length]
    have n1 := nw_bl h1
    have n2 := nw_bl h2
    rw [← cmpN_mul _ _ (Nat.two_pow_pos a), ← cmpN_mul (M1 * 2 ^ a) _ (Nat.two_pow_pos (64 * nw M1 - bl M1 + 64 * nw M2))]
    congr 1
    · rw [Nat.mul_assoc, Nat.mul_assoc, Nat.mul_comm (2 ^ a)]
    · rw [Nat.mul_assoc, Nat.mul_assoc, ← Nat.pow_add, ← Nat.pow_add]
      congr 2
      omega
  · rw [cmpN_gt (mul_two_lt h1 h)]; unfold ucmpV; rw [if_neg (by omega), if_pos (by omega)]
theorem cmpI_nat (x y : Nat) : cmpI (x : Int) (y : Int) = cmpN x y := by
  unfold cmpI cmpN
  simp only [Int.ofNat_lt]
theorem cmpI_neg (x y : Nat) : cmpI (-(x : Int)) (-(y : Int)) = cmpN y x := by
  unfold cmpI cmpN
  by_cases h : x < y
  · rw [if_neg (by omega), if_pos (by omega), if_neg (by omega), if_pos h]
  · by_cases h' : y < x
    · rw [if_pos (by omega), if_pos h']
    · rw [if_neg (by omega), if_neg (by omega), if_neg (by omega), if_neg (by omega)]
theorem cmpI_lt {x y : Int} (h : x < y) : cmpI x y = -1 := if_pos h
theorem cmpI_gt {x y : Int} (h : y < x) : cmpI x y = 1 := by unfold cmpI; rw [if_neg (by omega), if_pos h]
theorem cmpRV_law {f1 f2 M1 M2 a b : Nat} {n1 n2 : Bool} {e1 e2 e : Int} (hf1 : f1 ≤ 1) (hf2 : f2 ≤ 1) (h1 : f1 = 1 → 0 < M1 ∧ e1 = e + a) (h2 : f2 = 1 → 0 < M2 ∧ e2 = e + b) :
    cmpRV f1 n1 M1 e1 f2 n2 M2 e2 = cmpI (if f1 = 1 then sI n1 (M1 * 2 ^ a) else 0) (if f2 = 1 then sI n2 (M2 * 2 ^ b) else 0) := by
  have c1 : f1 = 0 ∨ f1 = 1 := by omega
  have c2 : f2 = 0 ∨ f2 = 1 := by omega
  have pos : ∀ M c : Nat, 0 < M → (0 : Int) < ((M * 2 ^ c : Nat) : Int) := fun M c h => by
    have := Nat.mul_pos h (Nat.two_pow_pos c)
    exact Int.ofNat_lt.2 this
  unfold cmpRV cmpFV
  rcases c1 with rfl | rfl <;> rcases c2 with rfl | rfl
  · cases n1 <;> cases n2 <;> rfl
  · have p := pos M2 b (h2 rfl).1
    cases n1 <;> cases n2 <;> simp only [ordV, sI, if_true, if_false, Bool.false_eq_true, Nat.zero_ne_one] <;>
      first
        | (rw [cmpI_lt (by omega)]; rfl)
        | (rw [cmpI_gt (by omega)]; rfl)
  · have p := pos M1 a (h1 rfl).1
    cases n1 <;> cases n2 <;> simp only [ordV, sI, if_true, if_false, Bool.false_eq_true, Nat.zero_ne_one] <;>
      first
        | (rw [cmpI_lt (by omega)]; rfl)
        | (rw [cmpI_gt (by omega)]; rfl)
  · have p := pos M1 a (h1 rfl).1
    have q := pos M2 b (h2 rfl).1
    have k := ucmp_real (h1 rfl).1 (h2 rfl).1 (h1 rfl).2 (h2 rfl).2
    have k' := ucmp_real (h2 rfl).1 (h1 rfl).1 (h2 rfl).2 (h1 rfl).2
    cases n1 <;> cases n2 <;> simp only [ordV, sI, if_true, if_false, Bool.false_eq_true]
    · rw [cmpI_nat, ← k]; rfl
    · rw [cmpI_gt (by omega)]; rfl
    · rw [cmpI_lt (by omega)]; rfl
    · rw [cmpI_neg, ← k']; rfl
end Go.Proofs.Ytlgnaioodnhkjaa
