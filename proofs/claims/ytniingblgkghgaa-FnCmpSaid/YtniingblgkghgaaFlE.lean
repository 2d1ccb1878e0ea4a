/-
Floats: the order of two magnitudes. No condition.
-/
import Derived.Test.YtniingblgkghgaaFlD
namespace Go.Proofs.Ytniingblgkghgaa
open Go.RowKit

/-- The words from the top on, 0 behind them. -/
def topW (xs : List Nat) (k : Nat) : Nat := if k < xs.length then xs.getD (xs.length - 1 - k) 0 else 0
theorem topW_lt {xs : List Nat} (h : ∀ d ∈ xs, d < 18446744073709551616) (k : Nat) : topW xs k < 18446744073709551616 := by
  unfold topW; split
  · exact getD_ltW h _
  · decide
/-- Words ahead of so many places. -/
def topV (xs : List Nat) (n : Nat) : Nat := wv xs * 18446744073709551616 ^ n
theorem wdg_mul_pow (n j i : Nat) : wdg (n * 18446744073709551616 ^ j) i = if i < j then 0 else wdg n (i - j) := by
  unfold wdg
  split
  · rename_i h
    obtain ⟨t, rfl⟩ : ∃ t, j = i + 1 + t := ⟨j - i - 1, by omega⟩
    have : n * 18446744073709551616 ^ (i + 1 + t) = 18446744073709551616 ^ i * (18446744073709551616 * (n * 18446744073709551616 ^ t)) := by
      rw [Nat.pow_add, Nat.pow_succ]; grind
    rw [this, Nat.mul_div_cancel_left _ (wpow_pos i)]; omega
  · rename_i h
    obtain ⟨t, rfl⟩ : ∃ t, i = j + t := ⟨i - j, by omega⟩
    rw [Nat.add_sub_cancel_left, Nat.pow_add, ← Nat.div_div_eq_div_mul, Nat.mul_div_cancel _ (wpow_pos j)]
theorem topV_wdg {xs : List Nat} (h : ∀ d ∈ xs, d < 18446744073709551616) {n k : Nat} (hk : k < xs.length + n) : wdg (topV xs n) (xs.length + n - 1 - k) = topW xs k := by
  unfold topV topW
  rw [wdg_mul_pow]
  by_cases h1 : k < xs.length
  · rw [if_neg (by omega), if_pos h1, wv_dig h, show xs.length + n - 1 - k - n = xs.length - 1 - k by omega]
  · rw [if_pos (by omega), if_neg h1]
theorem topV_lt {xs : List Nat} (h : ∀ d ∈ xs, d < 18446744073709551616) (n : Nat) : topV xs n < 18446744073709551616 ^ (xs.length + n) := by
  unfold topV
  rw [Nat.pow_add]
  exact Nat.mul_lt_mul_of_pos_right (wv_lt h) (wpow_pos n)
theorem lt_of_wdg' {x y i : Nat} (he : x / 18446744073709551616 ^ (i + 1) = y / 18446744073709551616 ^ (i + 1)) (h : wdg x i < wdg y i) : x < y := by
  have h1 := wdv_step x i
  have h2 := wdv_step y i
  refine Nat.lt_of_not_le fun hc => ?_
  have := Nat.div_le_div_right (c := 18446744073709551616 ^ i) hc
  omega
/-- What ucmp answers. -/
def ucmpV (e1 e2 : Int) (xs ys : List Nat) : Int := if e1 < e2 then -1 else if e2 < e1 then 1 else cmpN (topV xs ys.length) (topV ys xs.length)
/-- k words from the top on are alike. -/
def Alike (xs ys : List Nat) (k : Nat) : Prop := topV xs ys.length / 18446744073709551616 ^ (xs.length + ys.length - k) = topV ys xs.length / 18446744073709551616 ^ (xs.length + ys.length - k)
theorem Alike.start {xs ys : List Nat} (hx : ∀ d ∈ xs, d < 18446744073709551616) (hy : ∀ d ∈ ys, d < 18446744073709551616) : Alike xs ys 0 := by
  unfold Alike
  rw [Nat.sub_zero, Nat.div_eq_of_lt (topV_lt hx _), Nat.div_eq_of_lt (by rw [Nat.add_comm]; exact topV_lt hy _)]
theorem Alike.next {xs ys : List Nat} (hx : ∀ d ∈ xs, d < 18446744073709551616) (hy : ∀ d ∈ ys, d < 18446744073709551616) {k : Nat} (hk : k < xs.length + ys.length) (h : Alike xs ys k) (he : topW xs k = topW ys k) : Alike xs ys (k + 1) := by
  unfold Alike at *
  have h1 := topV_wdg hx (n := ys.length) hk
  have h2 := topV_wdg hy (n := xs.length) (show k < ys.length + xs.length by omega)
  rw [Nat.add_comm ys.length] at h2
  obtain ⟨j, hj⟩ : ∃ j, xs.length + ys.length - 1 - k = j := ⟨_, rfl⟩
  rw [hj] at h1 h2
  rw [show xs.length + ys.length - k = j + 1 by omega] at h
  rw [show xs.length + ys.length - (k + 1) = j by omega, wdv_step _ j, wdv_step (topV ys _) j, h, h1, h2, he]
theorem Alike.less {xs ys : List Nat} (hx : ∀ d ∈ xs, d < 18446744073709551616) (hy : ∀ d ∈ ys, d < 18446744073709551616) {k : Nat} (hk : k < xs.length + ys.length) (h : Alike xs ys k) (hl : topW xs k < topW ys k) : topV xs ys.length < topV ys xs.length := by
  unfold Alike at *
  have h1 := topV_wdg hx (n := ys.length) hk
  have h2 := topV_wdg hy (n := xs.length) (show k < ys.length + xs.length by omega)
  rw [Nat.add_comm ys.length] at h2
  obtain ⟨j, hj⟩ : ∃ j, xs.length + ys.length - 1 - k = j := ⟨_, rfl⟩
  rw [hj] at h1 h2
  rw [show xs.length + ys.length - k = j + 1 by omega] at h
  exact lt_of_wdg' h (by rw [h1, h2]; exact hl)
theorem Alike.symm {xs ys : List Nat} {k : Nat} (h : Alike xs ys k) : Alike ys xs k := by
  unfold Alike at *; rw [Nat.add_comm]; exact Eq.symm h
theorem Alike.full {xs ys : List Nat} {k : Nat} (hx : ∀ d ∈ xs, d < 18446744073709551616) (hy : ∀ d ∈ ys, d < 18446744073709551616) (h : Alike xs ys k) (h1 : xs.length ≤ k) (h2 : ys.length ≤ k) : topV xs ys.length = topV ys xs.length := by
  have step : ∀ n, k + n ≤ xs.length + ys.length → Alike xs ys (k + n) := by
    intro n
    induction n with
    | zero => intro _; exact h
    | succ n ih =>
      intro hn
      exact (ih (by omega)).next (k := k + n) hx hy (by omega) (by unfold topW; rw [if_neg (show ¬ k + n < xs.length by omega), if_neg (show ¬ k + n < ys.length by omega)])
  by_cases hk : k ≤ xs.length + ys.length
  · have := step (xs.length + ys.length - k) (by omega)
    rw [show k + (xs.length + ys.length - k) = xs.length + ys.length by omega] at this
    unfold Alike at this
    simpa using this
  · unfold Alike at h
    rw [show xs.length + ys.length - k = 0 by omega] at h
    simpa using h
end Go.Proofs.Ytniingblgkghgaa
