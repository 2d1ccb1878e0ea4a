/-
Decimals: the arithmetic of a shift. No condition.
-/
import Derived.Test.YtedmkbpfmddafaaSpE
import Derived.Test.YtedmkbpfmddafaaDecI
namespace Go.Proofs.Ytedmkbpfmddafaa
open Go.RowKit

/-- The figure with the index i; behind the end it is 0. -/
def fig (us : List UInt8) (i : Nat) : Nat := (us.getD i 48).toNat - 48
/-- The number of the first k figures. -/
def pre (us : List UInt8) : Nat → Nat
  | 0 => 0
  | k + 1 => pre us k * 10 + fig us k
theorem fig_ge {us : List UInt8} {i : Nat} (h : us.length ≤ i) : fig us i = 0 := by
  unfold fig; rw [List.getD_eq_getElem?_getD, List.getElem?_eq_none h]; rfl
theorem fig_of {us : List UInt8} {i : Nat} (h : i < us.length) : fig us i = (us.getD i 0).toNat - 48 := by
  unfold fig; simp [List.getD_eq_getElem?_getD, List.getElem?_eq_getElem h]
theorem fig_lt {us : List UInt8} (hf : Figs us) (i : Nat) : fig us i < 10 := by
  by_cases h : i < us.length
  · rw [fig_of h]; have := hf.all i; omega
  · rw [fig_ge (by omega)]; decide
theorem pre_add (us : List UInt8) (j : Nat) : pre us (us.length + j) = pre us us.length * 10 ^ j := by
  induction j with
  | zero => simp
  | succ j ih => rw [← Nat.add_assoc, pre, ih, fig_ge (by omega), Nat.pow_succ]; grind
theorem pre_ge {us : List UInt8} {k : Nat} (h : us.length ≤ k) : pre us k = pre us us.length * 10 ^ (k - us.length) := by
  have := pre_add us (k - us.length)
  rwa [show us.length + (k - us.length) = k by omega] at this
theorem pre_mono {us : List UInt8} {i j : Nat} (h : i ≤ j) : pre us i ≤ pre us j := by
  induction h with
  | refl => exact Nat.le_refl _
  | step _ ih => rw [pre]; omega
/-- One step of the division. -/
theorem sh_div {p f S : Nat} (hf : f < 10) (_hS : 0 < S) : (p * 10 + f) / (10 * S) = p / S := by
  rw [← Nat.div_div_eq_div_mul]
  congr 1
  omega
theorem sh_dig {p S : Nat} (_hS : 0 < S) : p % (10 * S) / S = p / S % 10 := by
  rw [Nat.mul_comm, Nat.mod_mul_right_div_self]
theorem sh_mod {p f S : Nat} (hf : f < 10) (hS : 0 < S) : p % (10 * S) % S * 10 + f = (p * 10 + f) % (10 * S) := by
  rw [Nat.mod_mul_left_mod]
  have h1 := Nat.mod_lt p hS
  have h2 := Nat.div_add_mod p S
  generalize p / S = q at *
  generalize p % S = r at *
  subst h2
  rw [show (S * q + r) * 10 + f = (r * 10 + f) + (10 * S) * q by grind, Nat.add_mul_mod_self_left, Nat.mod_eq_of_lt (by omega)]
theorem sh_fig {p S : Nat} (h : S ≤ p) (hS : 0 < S) : dtx (p / S) = dtx (p / (10 * S)) ++ [UInt8.ofNat (48 + p / S % 10)] := by
  rw [dtx_pos (Nat.div_pos h hS), Nat.div_div_eq_div_mul, Nat.mul_comm S 10]
theorem dtx_ten (n : Nat) (h : 0 < n) : dtx (n * 10) = dtx n ++ [48] := by
  rw [dtx_pos (by omega), Nat.mul_div_cancel _ (by decide), Nat.mul_mod_left]
  rfl
theorem dtx_pow {n : Nat} (h : 0 < n) (k : Nat) : dtx (n * 10 ^ k) = dtx n ++ List.replicate k 48 := by
  induction k with
  | zero => simp
  | succ k ih =>
    rw [Nat.pow_succ, ← Nat.mul_assoc, dtx_ten _ (Nat.mul_pos h (Nat.pow_pos (by decide))), ih, List.append_assoc, List.replicate_succ']
/-- Figures without those that are 0 at the end. -/
def cutz (us : List UInt8) : List UInt8 := us.take (trIdx us us.length)
theorem cutz_snoc (us : List UInt8) : cutz (us ++ [48]) = cutz us := by
  unfold cutz
  have h1 : trIdx (us ++ [48]) (us ++ [48]).length = trIdx us us.length := by
    rw [List.length_append, List.length_singleton]
    conv => lhs; unfold trIdx
    rw [if_pos (by simp [List.getD_eq_getElem?_getD])]
    have := trIdx_take' (us := us ++ [48]) (n := us.length) us.length (Nat.le_refl _)
    rw [← this]; simp
  rw [h1, List.take_append_of_le_length (trIdx_le _ _)]
theorem cutz_rep (us : List UInt8) (k : Nat) : cutz (us ++ List.replicate k 48) = cutz us := by
  induction k with
  | zero => simp
  | succ k ih => rw [List.replicate_succ', ← List.append_assoc, cutz_snoc, ih]
theorem dtx_trIdx (n : Nat) (h : 0 < n) : trIdx (dtx n) (dtx n).length ≠ 0 := by
  induction n using Nat.strongRecOn with
  | _ n ih =>
    by_cases hd : n % 10 = 0
    · have h1 := ih (n / 10) (by omega) (by omega)
      rw [dtx_pos h, hd]
      have h2 := trIdx_take' (us := dtx (n / 10) ++ [48]) (n := (dtx (n / 10)).length) (dtx (n / 10)).length (Nat.le_refl _)
      simp only [List.take_left'] at h2
      rw [List.length_append, List.length_singleton]
      unfold trIdx
      rw [if_pos (by simp [List.getD_eq_getElem?_getD])]
      show trIdx (dtx (n / 10) ++ [48]) _ ≠ 0
      rw [← h2]; exact h1
    · rw [dtx_pos h, List.length_append, List.length_singleton]
      unfold trIdx
      rw [if_neg ?_]
      · omega
      · simp [List.getD_eq_getElem?_getD]
        intro hc
        have := congrArg UInt8.toNat hc
        simp at this
        omega
/-- What is left when the division is done. -/
theorem sh_end {us : List UInt8} {s k w : Nat} (hk : us.length ≤ k) (h0 : pre us k % (10 * 2 ^ s) = 0) (hp : 0 < pre us us.length) (hw : (dtx (pre us k / (10 * 2 ^ s))).length = w) :
    cutz (dtx (pre us k / (10 * 2 ^ s))) = cutz (dtx (pre us us.length * 5 ^ s)) ∧ trIdx (dtx (pre us k / (10 * 2 ^ s))) (dtx (pre us k / (10 * 2 ^ s))).length ≠ 0 ∧
      (dtx (pre us us.length * 5 ^ s)).length + (k - us.length) = w + s + 1 := by
  have h1 := Nat.div_add_mod (pre us k) (10 * 2 ^ s)
  rw [h0, Nat.add_zero] at h1
  rw [pre_ge hk] at h1
  have hp' : 0 < pre us us.length * 10 ^ (k - us.length) := Nat.mul_pos hp (Nat.pow_pos (by decide))
  rw [pre_ge hk] at hw ⊢
  generalize hE : pre us us.length * 10 ^ (k - us.length) / (10 * 2 ^ s) = E at *
  have hE0 : 0 < E := by
    rcases Nat.eq_zero_or_pos E with h | h
    · rw [h, Nat.mul_zero] at h1; omega
    · exact h
  have h2 : E * 10 ^ (s + 1) = pre us us.length * 5 ^ s * 10 ^ (k - us.length) := by
    have e : (10 : Nat) ^ (s + 1) = 10 * (2 ^ s * 5 ^ s) := by rw [Nat.pow_succ, ← Nat.mul_pow, Nat.mul_comm]
    rw [e]
    have h4 : 10 * 2 ^ s * E * 5 ^ s = pre us us.length * 10 ^ (k - us.length) * 5 ^ s := by rw [h1]
    grind
  have h3 := dtx_pow hE0 (s + 1)
  rw [h2, dtx_pow (Nat.mul_pos hp (Nat.pow_pos (by decide)))] at h3
  refine ⟨?_, dtx_trIdx _ hE0, ?_⟩
  · rw [← cutz_rep (dtx E) (s + 1), ← h3, cutz_rep]
  · have := congrArg List.length h3
    simp only [List.length_append, List.length_replicate] at this
    omega
/-- With so many noughts nothing is left. -/
theorem sh_fin {us : List UInt8} {s k : Nat} (hk : us.length + s + 1 ≤ k) : pre us k % (10 * 2 ^ s) = 0 := by
  rw [pre_ge (by omega), show k - us.length = (s + 1) + (k - us.length - (s + 1)) by omega, Nat.pow_add,
    show (10 : Nat) ^ (s + 1) = 10 * 2 ^ s * 5 ^ s by rw [Nat.pow_succ, show (10 : Nat) ^ s = 2 ^ s * 5 ^ s by rw [← Nat.mul_pow]]; grind]
  rw [show ∀ a b c : Nat, a * (10 * 2 ^ s * b * c) = 10 * 2 ^ s * (a * b * c) by intro a b c; grind]
  exact Nat.mul_mod_right _ _
end Go.Proofs.Ytedmkbpfmddafaa
