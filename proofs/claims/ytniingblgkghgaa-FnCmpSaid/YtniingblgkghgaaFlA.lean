/-
Words: single bits, what lies below a bit, shifts; plain arithmetic. No condition.
-/
import Derived.Test.YtniingblgkghgaaWdE
namespace Go.Proofs.Ytniingblgkghgaa

theorem wdv_step (n i : Nat) : n / 18446744073709551616 ^ i = 18446744073709551616 * (n / 18446744073709551616 ^ (i + 1)) + wdg n i := by
  unfold wdg
  rw [Nat.pow_succ, ← Nat.div_div_eq_div_mul]
  omega
theorem two_word (i : Nat) : (2 : Nat) ^ i = 18446744073709551616 ^ (i / 64) * 2 ^ (i % 64) := by
  rw [show (18446744073709551616 : Nat) = 2 ^ 64 from rfl, ← Nat.pow_mul, ← Nat.pow_add, Nat.div_add_mod]
theorem word_split {s : Nat} (h : s ≤ 64) : 2 ^ (64 - s) * 2 ^ s = 18446744073709551616 := by
  rw [← Nat.pow_add, show 64 - s + s = 64 by omega]
theorem wdg_bit (n i : Nat) : wdg n (i / 64) / 2 ^ (i % 64) % 2 = n / 2 ^ i % 2 := by
  unfold wdg
  rw [two_word i, ← Nat.div_div_eq_div_mul]
  generalize n / 18446744073709551616 ^ (i / 64) = m
  have hs : i % 64 < 64 := Nat.mod_lt _ (by decide)
  have e := word_split (show i % 64 ≤ 64 by omega)
  have e2 : 2 ^ (64 - i % 64) = 2 * 2 ^ (63 - i % 64) := by rw [show 64 - i % 64 = 63 - i % 64 + 1 by omega, Nat.pow_succ, Nat.mul_comm]
  generalize hP : 2 ^ (i % 64) = P at *
  generalize 2 ^ (63 - i % 64) = Q at *
  generalize 2 ^ (64 - i % 64) = R at *
  subst e2
  have hP0 : 0 < P := by rw [← hP]; exact Nat.pow_pos (by decide)
  rw [← e, Nat.mul_comm (2 * Q) P, Nat.mod_mul_right_div_self, Nat.mod_mul_right_mod]
theorem wlow_zero {n : Nat} : ∀ j : Nat, n % 18446744073709551616 ^ j = 0 ↔ ∀ k, k < j → wdg n k = 0
  | 0 => by simp [Nat.mod_one]
  | j + 1 => by
    have ih := wlow_zero (n := n) j
    have hs := wmod_succ n j
    have hp := wpow_pos j
    constructor
    · intro h k hk
      rw [h] at hs
      have h1 : n % 18446744073709551616 ^ j = 0 := by omega
      have h2 : 18446744073709551616 ^ j * wdg n j = 0 := by omega
      rcases (by omega : k < j ∨ k = j) with hk' | rfl
      · exact ih.1 h1 k hk'
      · rcases Nat.mul_eq_zero.1 h2 with h | h
        · omega
        · exact h
    · intro h
      rw [hs, ih.2 (fun k hk => h k (by omega)), h j (by omega)]
      simp
theorem sticky_iff (n i : Nat) : n % 2 ^ i = 0 ↔ (∀ k, k < i / 64 → wdg n k = 0) ∧ wdg n (i / 64) % 2 ^ (i % 64) = 0 := by
  rw [two_word i, Nat.mod_mul, ← wlow_zero]
  have hs : i % 64 < 64 := Nat.mod_lt _ (by decide)
  have e := word_split (show i % 64 ≤ 64 by omega)
  have h1 : wdg n (i / 64) % 2 ^ (i % 64) = n / 18446744073709551616 ^ (i / 64) % 2 ^ (i % 64) := by
    unfold wdg
    rw [← e, Nat.mul_comm, Nat.mod_mul_right_mod]
  rw [h1]
  have hp := wpow_pos (i / 64)
  generalize n / 18446744073709551616 ^ (i / 64) % 2 ^ (i % 64) = c
  generalize n % 18446744073709551616 ^ (i / 64) = a
  generalize 18446744073709551616 ^ (i / 64) = B at *
  constructor
  · intro h
    have h1 : a = 0 := by omega
    have h2 : B * c = 0 := by omega
    exact ⟨h1, (Nat.mul_eq_zero.1 h2).resolve_left (by omega)⟩
  · rintro ⟨rfl, rfl⟩; simp
theorem wdg_shl_zero (n : Nat) {s : Nat} (_hs : s ≤ 64) : wdg (n * 2 ^ s) 0 = wdg n 0 * 2 ^ s % 18446744073709551616 := by
  rw [wdg_zero_eq, wdg_zero_eq, Nat.mod_mul_mod]
theorem div_shl (n i : Nat) {s : Nat} (hs : s ≤ 64) : n * 2 ^ s / 18446744073709551616 ^ (i + 1) = wdg n i / 2 ^ (64 - s) + n / 18446744073709551616 ^ (i + 1) * 2 ^ s := by
  have hB := wpow_pos i
  have e := word_split hs
  have h1 : n = n % 18446744073709551616 ^ i + 18446744073709551616 ^ i * (wdg n i + 18446744073709551616 * (n / 18446744073709551616 ^ (i + 1))) := by
    have := wdv_step n i
    rw [Nat.add_comm (wdg n i), ← this]
    exact (Nat.mod_add_div n _).symm
  have hl := Nat.mod_lt n hB
  have hS : 0 < 2 ^ s := Nat.pow_pos (by decide)
  have hR : 0 < 2 ^ (64 - s) := Nat.pow_pos (by decide)
  have h3 : n * 2 ^ s / 18446744073709551616 ^ i = n % 18446744073709551616 ^ i * 2 ^ s / 18446744073709551616 ^ i + (wdg n i + 18446744073709551616 * (n / 18446744073709551616 ^ (i + 1))) * 2 ^ s := by
    conv => lhs; rw [h1]
    rw [Nat.add_mul, Nat.mul_assoc, Nat.add_mul_div_left _ _ hB]
  have h4 : n % 18446744073709551616 ^ i * 2 ^ s / 18446744073709551616 ^ i < 2 ^ s := Nat.div_lt_of_lt_mul (Nat.mul_lt_mul_of_pos_right hl hS)
  rw [Nat.pow_succ, ← Nat.div_div_eq_div_mul, h3]
  rw [Nat.pow_succ] at *
  generalize n % 18446744073709551616 ^ i * 2 ^ s / 18446744073709551616 ^ i = c at *
  generalize wdg n i = d at *
  generalize n / (18446744073709551616 ^ i * 18446744073709551616) = m at *
  generalize 2 ^ s = S at *
  generalize 2 ^ (64 - s) = R at *
  have h5 : c + (d + 18446744073709551616 * m) * S = (c + d * S) + 18446744073709551616 * (m * S) := by rw [Nat.add_mul, Nat.mul_assoc]; omega
  rw [h5, Nat.add_mul_div_left _ _ (by decide)]
  congr 1
  rw [← e, Nat.mul_comm R S, ← Nat.div_div_eq_div_mul, Nat.mul_comm d S, Nat.add_mul_div_left _ _ hS, Nat.div_eq_of_lt h4, Nat.zero_add]
theorem wdg_shl_succ (n i : Nat) {s : Nat} (hs : s < 64) : wdg (n * 2 ^ s) (i + 1) = wdg n i / 2 ^ (64 - s) + wdg n (i + 1) * 2 ^ s % 18446744073709551616 := by
  have e := word_split (show s ≤ 64 by omega)
  have h1 := div_shl n i (show s ≤ 64 by omega)
  have hd := wdg_lt n i
  have hS : 0 < 2 ^ s := Nat.pow_pos (by decide)
  have hR : 0 < 2 ^ (64 - s) := Nat.pow_pos (by decide)
  have h2 : wdg n i / 2 ^ (64 - s) < 2 ^ s := Nat.div_lt_of_lt_mul (by rw [e]; exact hd)
  show n * 2 ^ s / 18446744073709551616 ^ (i + 1) % 18446744073709551616 = _
  rw [h1]
  have h3 : wdg n (i + 1) * 2 ^ s % 18446744073709551616 = n / 18446744073709551616 ^ (i + 1) * 2 ^ s % 18446744073709551616 := by
    unfold wdg; rw [Nat.mod_mul_mod]
  rw [h3]
  have h4 : n / 18446744073709551616 ^ (i + 1) * 2 ^ s % 18446744073709551616 = n / 18446744073709551616 ^ (i + 1) % 2 ^ (64 - s) * 2 ^ s := by
    rw [← e, Nat.mul_mod_mul_right]
  have h5 : n / 18446744073709551616 ^ (i + 1) % 2 ^ (64 - s) < 2 ^ (64 - s) := Nat.mod_lt _ hR
  rw [h4]
  generalize wdg n i / 2 ^ (64 - s) = c at *
  generalize hm : n / 18446744073709551616 ^ (i + 1) = m at *
  have h6 : (m % 2 ^ (64 - s) + 1) * 2 ^ s ≤ 2 ^ (64 - s) * 2 ^ s := Nat.mul_le_mul_right _ h5
  rw [e, Nat.add_mul, Nat.one_mul] at h6
  rw [Nat.add_mod, h4, Nat.mod_eq_of_lt (show c < 18446744073709551616 by omega), Nat.mod_eq_of_lt (by omega)]
/-- The two parts of a shifted word don't meet. -/
theorem shl_or {c m s : Nat} (hs : s < 64) (hc : c < 2 ^ s) : (m * 2 ^ s % 18446744073709551616) ||| c = c + m * 2 ^ s % 18446744073709551616 := by
  have e := word_split (show s ≤ 64 by omega)
  have h4 : m * 2 ^ s % 18446744073709551616 = 2 ^ s * (m % 2 ^ (64 - s)) := by
    rw [← e, Nat.mul_mod_mul_right, Nat.mul_comm]
  rw [h4, ← Nat.two_pow_add_eq_or_of_lt hc, Nat.add_comm]
end Go.Proofs.Ytniingblgkghgaa
