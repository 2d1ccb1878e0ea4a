/-
Plain arithmetic: natural numbers by digits to the base 65536. No condition.
-/
namespace Go.Proofs.Ytniingblgkghgaa

/-- The digit with the index i. -/
def dig (n i : Nat) : Nat := n / 65536 ^ i % 65536
/-- How many digits. -/
def nl (n : Nat) : Nat := if n = 0 then 0 else n.log2 / 16 + 1
/-- The number that digits are. -/
def val : List Nat → Nat
  | [] => 0
  | d :: ds => d + 65536 * val ds

theorem pow_pos (i : Nat) : 0 < 65536 ^ i := Nat.pow_pos (by decide)
theorem pow16 (i : Nat) : (65536 : Nat) ^ i = 2 ^ (16 * i) := by rw [Nat.pow_mul]
theorem dig_lt (n i : Nat) : dig n i < 65536 := Nat.mod_lt _ (by decide)
theorem nl_zero : nl 0 = 0 := rfl
theorem nl_pos {n : Nat} (h : 0 < n) : 0 < nl n := by unfold nl; rw [if_neg (by omega)]; omega
theorem lt_nl (n : Nat) : n < 65536 ^ nl n := by
  unfold nl
  split
  · rename_i h; subst h; decide
  · rw [pow16]
    exact Nat.lt_of_lt_of_le Nat.lt_log2_self (Nat.pow_le_pow_right (by decide) (by omega))
theorem nl_ge {n : Nat} (h : 0 < n) : 65536 ^ (nl n - 1) ≤ n := by
  unfold nl
  rw [if_neg (by omega), Nat.add_sub_cancel, pow16]
  exact Nat.le_trans (Nat.pow_le_pow_right (by decide) (by omega)) (Nat.log2_self_le (by omega))
theorem nl_le {n L : Nat} (h : n < 65536 ^ L) : nl n ≤ L := by
  rcases Nat.eq_zero_or_pos n with rfl | hp
  · exact Nat.zero_le _
  · have h1 := nl_ge hp
    have h2 : 65536 ^ (nl n - 1) < 65536 ^ L := by omega
    have h3 := (Nat.pow_lt_pow_iff_right (show 1 < 65536 by decide)).1 h2
    omega
theorem nl_mono {a b : Nat} (h : a ≤ b) : nl a ≤ nl b := nl_le (Nat.lt_of_le_of_lt h (lt_nl b))
theorem nl_one {n : Nat} (h0 : 0 < n) (h : n < 65536) : nl n = 1 := by
  have := nl_pos h0
  have := nl_le (L := 1) (show n < 65536 ^ 1 by omega)
  omega
theorem mod_succ (n i : Nat) : n % 65536 ^ (i + 1) = n % 65536 ^ i + 65536 ^ i * dig n i := Nat.mod_pow_succ
theorem mod_nl {n i : Nat} (h : nl n ≤ i) : n % 65536 ^ i = n :=
  Nat.mod_eq_of_lt (Nat.lt_of_lt_of_le (lt_nl n) (Nat.pow_le_pow_right (by decide) h))
theorem dig_ge {n i : Nat} (h : nl n ≤ i) : dig n i = 0 := by
  unfold dig
  rw [Nat.div_eq_of_lt (Nat.lt_of_lt_of_le (lt_nl n) (Nat.pow_le_pow_right (by decide) h))]
theorem dig_last {n : Nat} (h : 0 < n) : dig n (nl n - 1) ≠ 0 := by
  intro h0
  have h1 := mod_succ n (nl n - 1)
  have := nl_pos h
  rw [show nl n - 1 + 1 = nl n by omega, mod_nl (Nat.le_refl _), h0, Nat.mul_zero, Nat.add_zero] at h1
  have h2 := nl_ge h
  have h3 := Nat.mod_lt n (pow_pos (nl n - 1))
  omega
/-- The last digit of a number of i + 1 digits that is not 0 tells how many they are. -/
theorem nl_of {n i : Nat} (h : n < 65536 ^ (i + 1)) (hd : dig n i ≠ 0) : nl n = i + 1 := by
  have h1 := nl_le h
  rcases Nat.lt_or_ge (nl n) (i + 1) with h2 | h2
  · exact absurd (dig_ge (by omega)) hd
  · omega
theorem lt_of_dig {n i : Nat} (h : n < 65536 ^ (i + 1)) (hd : dig n i = 0) : n < 65536 ^ i := by
  have h1 := mod_succ n i
  rw [hd, Nat.mul_zero, Nat.add_zero, Nat.mod_eq_of_lt h] at h1
  rw [h1]; exact Nat.mod_lt _ (pow_pos i)

theorem val_append (a b : List Nat) : val (a ++ b) = val a + 65536 ^ a.length * val b := by
  induction a with
  | nil => simp [val]
  | cons d ds ih => simp only [List.cons_append, val, ih, List.length_cons, Nat.pow_succ]; grind
theorem val_snoc (a : List Nat) (d : Nat) : val (a ++ [d]) = val a + 65536 ^ a.length * d := by rw [val_append]; simp [val]
theorem val_lt {a : List Nat} (h : ∀ d ∈ a, d < 65536) : val a < 65536 ^ a.length := by
  induction a with
  | nil => decide
  | cons d ds ih =>
    have h1 := ih fun x hx => h x (by simp [hx])
    have h2 := h d (by simp)
    simp only [val, List.length_cons, Nat.pow_succ]
    omega
theorem val_replicate (n : Nat) : val (List.replicate n 0) = 0 := by
  induction n with
  | zero => rfl
  | succ n ih => simp [List.replicate_succ, val, ih]
theorem dig_zero_eq (n : Nat) : dig n 0 = n % 65536 := by simp [dig]
theorem dig_succ (n i : Nat) : dig n (i + 1) = dig (n / 65536) i := by
  unfold dig; rw [Nat.pow_succ, Nat.mul_comm, Nat.div_div_eq_div_mul]
/-- The digits of a list that are digits. -/
theorem val_dig {a : List Nat} (h : ∀ d ∈ a, d < 65536) : ∀ i, dig (val a) i = a.getD i 0 := by
  induction a with
  | nil => intro i; simp [val, dig]
  | cons d ds ih =>
    have h2 := h d (by simp)
    intro i
    cases i with
    | zero => rw [dig_zero_eq]; simp [val]; omega
    | succ i =>
      rw [dig_succ, show val (d :: ds) / 65536 = val ds by simp only [val]; omega, ih (fun x hx => h x (by simp [hx]))]
      simp
theorem val_set {a : List Nat} : ∀ {i : Nat}, i < a.length → ∀ d, val (a.set i d) + 65536 ^ i * a.getD i 0 = val a + 65536 ^ i * d := by
  induction a with
  | nil => intro i h; simp at h
  | cons x xs ih =>
    intro i h d
    cases i with
    | zero => simp [val]; omega
    | succ i =>
      have := ih (show i < xs.length by simpa using h) d
      simp only [List.set_cons_succ, val, Nat.pow_succ]
      simp only [List.getD_eq_getElem?_getD, List.getElem?_cons_succ] at this ⊢
      grind
theorem nl_div {m : Nat} (h : 0 < m) : nl (m / 65536) + 1 ≤ nl m := by
  have h1 := lt_nl m
  have h2 := nl_pos h
  have : nl (m / 65536) ≤ nl m - 1 := by
    apply nl_le
    rw [show nl m = (nl m - 1) + 1 by omega, Nat.pow_succ] at h1
    exact Nat.div_lt_of_lt_mul (by rw [Nat.mul_comm]; exact h1)
  omega
theorem nl_le4 {n : Nat} (h : n < 18446744073709551616) : nl n ≤ 4 := nl_le h
end Go.Proofs.Ytniingblgkghgaa
