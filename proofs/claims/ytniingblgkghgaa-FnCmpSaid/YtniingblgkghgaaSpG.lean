/-
Natural numbers of the reference: Len, Bit, Shl. No condition.
-/
import Derived.Test.YtniingblgkghgaaSpF
namespace Go.Proofs.Ytniingblgkghgaa
open Go.RowKit

/-- How many bits. -/
def bl (n : Nat) : Nat := if n = 0 then 0 else n.log2 + 1
theorem bl_zero : bl 0 = 0 := rfl
theorem lt_bl (n : Nat) : n < 2 ^ bl n := by
  unfold bl
  split
  · rename_i h; subst h; decide
  · exact Nat.lt_log2_self
theorem bl_ge {n : Nat} (h : 0 < n) : 2 ^ (bl n - 1) ≤ n := by
  unfold bl
  rw [if_neg (by omega), Nat.add_sub_cancel]
  exact Nat.log2_self_le (by omega)
theorem bl_le {n k : Nat} (h : n < 2 ^ k) : bl n ≤ k := by
  rcases Nat.eq_zero_or_pos n with rfl | hp
  · exact Nat.zero_le _
  · have h1 := bl_ge hp
    have h2 : 2 ^ (bl n - 1) < 2 ^ k := by omega
    have h3 := (Nat.pow_lt_pow_iff_right (show 1 < 2 by decide)).1 h2
    omega
theorem bl_gt {n k : Nat} (h : 2 ^ k ≤ n) : k < bl n := by
  have h1 := lt_bl n
  have h2 : 2 ^ k < 2 ^ bl n := by omega
  exact (Nat.pow_lt_pow_iff_right (show 1 < 2 by decide)).1 h2
theorem bl_pos {n : Nat} (h : 0 < n) : 0 < bl n := bl_gt (k := 0) (by omega)
theorem bl_of {n k : Nat} (h1 : 2 ^ k ≤ n) (h2 : n < 2 ^ (k + 1)) : bl n = k + 1 := by
  have := bl_le h2
  have := bl_gt h1
  omega
theorem bl_mono {a b : Nat} (h : a ≤ b) : bl a ≤ bl b := bl_le (Nat.lt_of_le_of_lt h (lt_bl b))
theorem bl_half {n : Nat} (h : 0 < n) : bl (n / 2) + 1 = bl n := by
  have h1 := bl_ge h
  have h2 := lt_bl n
  have h3 := bl_pos h
  obtain ⟨k, hk⟩ : ∃ k, bl n = k + 1 := ⟨bl n - 1, by omega⟩
  rw [hk] at h1 h2 ⊢
  rw [Nat.add_sub_cancel] at h1
  cases k with
  | zero =>
    rw [show n / 2 = 0 by simp at h2; omega]; rfl
  | succ k => rw [bl_of (n := n / 2) (k := k) (by rw [Nat.pow_succ] at h1; omega) (by rw [Nat.pow_succ] at h2; omega)]
theorem bl_shift {n t k : Nat} (ht : 0 < t) (hn : n = n % 2 ^ k + 2 ^ k * t) : bl n = k + bl t := by
  have h1 := bl_ge ht
  have h2 := lt_bl t
  have h3 := bl_pos ht
  have h4 := Nat.mod_lt n (Nat.pow_pos (n := k) (show 0 < 2 by decide))
  have h5 := bl_of (n := n) (k := k + (bl t - 1)) (by
    rw [Nat.pow_add, hn]
    have := Nat.mul_le_mul_left (2 ^ k) h1
    omega) (by
    rw [show k + (bl t - 1) + 1 = k + bl t by omega, Nat.pow_add, hn]
    have : 2 ^ k * (t + 1) ≤ 2 ^ k * 2 ^ bl t := Nat.mul_le_mul_left _ h2
    rw [Nat.mul_add] at this
    omega)
  omega
theorem bl_digits {n : Nat} (h : 0 < n) : bl n = 16 * (nl n - 1) + bl (dig n (nl n - 1)) := by
  have h0 := nl_pos h
  refine bl_shift (Nat.pos_of_ne_zero (dig_last h)) ?_
  rw [← pow16, ← mod_succ, show nl n - 1 + 1 = nl n by omega, mod_nl (Nat.le_refl _)]
theorem bl_nl (n : Nat) : bl n ≤ 16 * nl n := bl_le (by rw [← pow16]; exact lt_nl n)
theorem nl_bl {n k : Nat} (h : bl n ≤ 16 * k) : nl n ≤ k := nl_le (by rw [pow16]; exact Nat.lt_of_lt_of_le (lt_bl n) (Nat.pow_le_pow_right (by decide) h))
theorem nl_two (i : Nat) : nl (2 ^ i) = i / 16 + 1 := by
  refine Nat.le_antisymm (nl_le ?_) ?_
  · rw [pow16]; exact Nat.pow_lt_pow_right (by decide) (by omega)
  · refine Nat.lt_of_not_le fun hc => ?_
    have h1 := lt_nl (2 ^ i)
    rw [pow16] at h1
    have := (Nat.pow_lt_pow_iff_right (show 1 < 2 by decide)).1 h1
    omega

set_option maxRecDepth 100000 in
set_option maxHeartbeats 400000 in
theorem spLen (a : Value) (x : Nat) (w : World) (ha : NatV w a x) (hx : nl x ≤ 1000000000) :
    Calls Try.prog 35 #[a] w fun e w' => e = .returned (.int .i64 (bl x : Nat)) ∧ w = w' := by
  have hSa := ha.isS
  have hLa := ha.len
  have Ha := Lib.hid ha
  clear ha
  by_cases hx0 : x = 0
  · subst hx0
    rw [nl_zero] at hLa
    go_enter Try.func35, Try.ntmps35
    go_wp2
    go_ret
    exact ⟨rfl, rfl⟩
  · have h0 := nl_pos (show 0 < x by omega)
    have hd := bl_digits (show 0 < x by omega)
    have c := Ha.out.cell (nl x - 1) (by omega)
    have hz : ((nl x : Int) == 0) = false := by rw [beq_eq_false_iff_ne]; omega
    obtain ⟨t, ht⟩ : ∃ t, t = dig x (nl x - 1) := ⟨_, rfl⟩
    have htl := dig_lt x (nl x - 1)
    rw [← ht] at hd c htl
    obtain ⟨n, hn⟩ : ∃ n, n = nl x := ⟨_, rfl⟩
    rw [← hn] at hLa hx h0 hd c hz
    have Hd := Lib.hid hd
    have hbx := bl_nl x
    rw [← hn] at hbx
    have e1 : (n : Int) - 1 = ((n - 1 : Nat) : Int) := by omega
    clear hd ht hn
    go_enter Try.func35, Try.ntmps35
    go_wp2
    go_loop [3, 4] (fun i u => ∃ k m : Nat, m < 65536 ∧ k ≤ 16000000000 ∧ i = .int .i64 k ∧ u = .int .i64 m ∧ k + bl m = bl x) (fun _ u => (intOf u).toNat)
    case atStart => exact ⟨16 * (n - 1), t, htl, by omega, by go_num, rfl, Hd.out.symm⟩
    case round =>
      obtain ⟨k, m, hm, hk, rfl, rfl, hb⟩ := hrel
      have hkb : k ≤ bl x := by omega
      have hkm : 0 < m → k + 1 ≤ bl x := fun h => by have := bl_pos h; omega
      have Hb := Lib.hid hb
      clear hb
      by_cases hm0 : m = 0
      · subst hm0
        go_wp2
        go_ret
        have e := Hb.out
        rw [bl_zero, Nat.add_zero] at e
        rw [← e]
        exact ⟨rfl, rfl⟩
      · have t1 : decide (0 < m) = true := by rw [decide_eq_true_iff]; omega
        have hh := bl_half (show 0 < m by omega)
        have Hh := Lib.hid hh
        clear hh
        go_wp2
        refine ⟨⟨k + 1, m / 2, by omega, ?_, by go_num, by go_num, ?_⟩, by simp [intOf]; omega⟩
        · have := hkm (by omega); omega
        · have := Hb.out; have := Hh.out; omega
end Go.Proofs.Ytniingblgkghgaa
