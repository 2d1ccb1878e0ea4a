/-
Floats: the number of bits; a shift to the left in place. No condition.
-/
import Derived.Test.YtniingblgkghgaaFlH
namespace Go.Proofs.Ytniingblgkghgaa
open Go.RowKit

theorem bl_or {a b : Nat} (h : b ≤ a) : bl (a ||| b) = bl a := by
  refine Nat.le_antisymm (bl_le (Nat.or_lt_two_pow (lt_bl a) (Nat.lt_of_le_of_lt h (lt_bl a)))) (bl_mono Nat.left_le_or)
theorem or_lt64 {a b : Nat} (ha : a < 18446744073709551616) (hb : b < 18446744073709551616) : a ||| b < 18446744073709551616 := Nat.or_lt_two_pow (n := 64) ha hb
theorem bl_words {n : Nat} (h : 0 < n) : bl n = 64 * (nw n - 1) + bl (wdg n (nw n - 1)) := by
  have hp := nw_pos h
  have h1 := wmod_succ n (nw n - 1)
  rw [show nw n - 1 + 1 = nw n by omega, wmod_nw (Nat.le_refl _)] at h1
  have e : (18446744073709551616 : Nat) ^ (nw n - 1) = 2 ^ (64 * (nw n - 1)) := by rw [show (18446744073709551616 : Nat) = 2 ^ 64 from rfl, ← Nat.pow_mul]
  rw [e] at h1
  exact bl_shift (Nat.pos_of_ne_zero (wdg_last h)) h1
/-- One step of the smear. -/
theorem smear {t q t' k : Nat} (ht : t < 18446744073709551616) (hq : q = t / k) (ht' : t' = t ||| q) : bits .or .u64 (t : Int) (q : Int) = (t' : Int) ∧ t' < 18446744073709551616 ∧ bl t' = bl t ∧ (t : Int) / (k : Int) = (q : Int) := by
  have hqt : q ≤ t := by rw [hq]; exact Nat.div_le_self _ _
  refine ⟨by rw [ht']; exact bits_or_u64_nat t q ht (by omega), by rw [ht']; exact or_lt64 ht (by omega), by rw [ht']; exact bl_or hqt, by rw [hq]; simp⟩
set_option maxRecDepth 100000 in
set_option maxHeartbeats 800000 in
theorem bitLen_any (v : Value) (M : Nat) (w : World) (hv : RW w v (wds M)) (hl : nw M ≤ 1000000000) :
    Calls Try.prog 107 #[v] w fun e w' => e = .returned (.int .i64 (bl M : Nat)) ∧ w = w' := by
  have hS := hv.isS
  have hL := hv.len
  rw [wds_length] at hL
  rcases Nat.eq_zero_or_pos M with h0 | h0
  · subst h0
    have hL0 : sLen v = 0 := hL
    clear hL
    go_enter Try.func107, Try.ntmps107
    go_wp2
    go_ret
    exact ⟨rfl, rfl⟩
  · have hp := nw_pos h0
    have e := bl_words h0
    have hc := hv.cell (nw M - 1) (by rw [wds_length]; omega)
    rw [wds_getD] at hc
    have ht := wdg_lt M (nw M - 1)
    obtain ⟨j, hj⟩ : ∃ j, nw M = j + 1 := ⟨nw M - 1, by omega⟩
    rw [hj, Nat.add_sub_cancel] at e hc ht
    rw [hj] at hL hl
    obtain ⟨t, htt⟩ : ∃ t, t = wdg M j := ⟨_, rfl⟩
    rw [← htt] at e hc ht
    obtain ⟨q1, hq1⟩ : ∃ q, q = t / 2 := ⟨_, rfl⟩
    obtain ⟨t1, ht1⟩ : ∃ u, u = t ||| q1 := ⟨_, rfl⟩
    obtain ⟨o1, b1, l1, d1'⟩ := smear ht hq1 ht1
    have d1 : (t : Int) / 2 = (q1 : Int) := d1'
    obtain ⟨q2, hq2⟩ : ∃ q, q = t1 / 4 := ⟨_, rfl⟩
    obtain ⟨t2, ht2⟩ : ∃ u, u = t1 ||| q2 := ⟨_, rfl⟩
    obtain ⟨o2, b2, l2, d2'⟩ := smear b1 hq2 ht2
    have d2 : (t1 : Int) / 4 = (q2 : Int) := d2'
    obtain ⟨q3, hq3⟩ : ∃ q, q = t2 / 16 := ⟨_, rfl⟩
    obtain ⟨t3, ht3⟩ : ∃ u, u = t2 ||| q3 := ⟨_, rfl⟩
    obtain ⟨o3, b3, l3, d3'⟩ := smear b2 hq3 ht3
    have d3 : (t2 : Int) / 16 = (q3 : Int) := d3'
    obtain ⟨q4, hq4⟩ : ∃ q, q = t3 / 256 := ⟨_, rfl⟩
    obtain ⟨t4, ht4⟩ : ∃ u, u = t3 ||| q4 := ⟨_, rfl⟩
    obtain ⟨o4, b4, l4, d4'⟩ := smear b3 hq4 ht4
    have d4 : (t3 : Int) / 256 = (q4 : Int) := d4'
    obtain ⟨q5, hq5⟩ : ∃ q, q = t4 / 65536 := ⟨_, rfl⟩
    obtain ⟨t5, ht5⟩ : ∃ u, u = t4 ||| q5 := ⟨_, rfl⟩
    obtain ⟨o5, b5, l5, d5'⟩ := smear b4 hq5 ht5
    have d5 : (t4 : Int) / 65536 = (q5 : Int) := d5'
    obtain ⟨q6, hq6⟩ : ∃ q, q = t5 / 4294967296 := ⟨_, rfl⟩
    obtain ⟨q6', hq6'⟩ : ∃ q, q = t5 / 65536 := ⟨_, rfl⟩
    obtain ⟨t6, ht6⟩ : ∃ u, u = t5 ||| q6 := ⟨_, rfl⟩
    obtain ⟨o6, b6, l6, -⟩ := smear b5 hq6 ht6
    have d6 : (t5 : Int) / 65536 = (q6' : Int) := by rw [hq6']; simp
    have d6' : (q6' : Int) / 65536 = (q6 : Int) := by rw [hq6, hq6']; omega
    have E : Hid (bl M = 64 * j + bl t6) := Lib.hid (by rw [e, l6, l5, l4, l3, l2, l1])
    have B6 := Lib.hid b6
    clear hj htt hq1 ht1 hq2 ht2 hq3 ht3 hq4 ht4 hq5 ht5 hq6 hq6' ht6 l1 l2 l3 l4 l5 l6 e hv h0 hp d1' d2' d3' d4' d5'
    go_enter Try.func107, Try.ntmps107
    go_wp2_with fail
    refine (Try.bits_Len (t6 : Int) w (by omega) (by have := B6.out; omega)).mono ?_
    rintro _ _ ⟨rfl, rfl⟩
    rw [Int.toNat_natCast, bitLen_eq B6.out]
    have hb := bl_le64 B6.out
    obtain ⟨l, hl'⟩ : ∃ l, l = bl t6 := ⟨_, rfl⟩
    rw [← hl'] at hb E ⊢
    clear hl'
    go_wp2
    go_ret
    exact ⟨congrArg (fun z => Ending.returned (.int .i64 z)) (by rw [E.out]; omega), rfl⟩
set_option maxRecDepth 100000 in
theorem intBitLen (b o : Nat) (v : Value) (M : Nat) (w : World) (hc : w.cell? ⟨b, o + 1, none⟩ = some v) (hv : RW w v (wds M)) (hl : nw M ≤ 1000000000) :
    Calls Try.prog 90 #[.pointer (some ⟨b, o, none⟩)] w fun e w' => e = .returned (.int .i64 (bl M : Nat)) ∧ w = w' := by
  have hS := hv.isS
  have HV := Lib.hid hv
  clear hv
  go_enter Try.func90, Try.ntmps90
  go_wp2_with fail
  refine (bitLen_any v M w HV.out hl).mono ?_
  rintro _ _ ⟨rfl, rfl⟩
  go_wp2
  go_ret
  exact ⟨rfl, rfl⟩
set_option maxRecDepth 100000 in
theorem nlz_any (x : Nat) (w : World) (h : x < 18446744073709551616) :
    Calls Try.prog 108 #[.int .u64 x] w fun e w' => e = .returned (.int .u64 ((64 - bl x : Nat) : Int)) ∧ w = w' := by
  have hb := bl_le64 h
  have H := Lib.hid h
  have E : Hid ((64 : Int) - (Lib.bitLen x : Nat) = ((64 - bl x : Nat) : Int)) := Lib.hid (by rw [bitLen_eq h]; omega)
  obtain ⟨s, hs⟩ : ∃ s, s = 64 - bl x := ⟨_, rfl⟩
  have hs64 : s ≤ 64 := by omega
  rw [← hs] at E ⊢
  clear h hs hb
  go_enter Try.func108, Try.ntmps108
  go_wp2_with fail
  refine (Try.bits_LeadingZeros (x : Int) w (by omega) (by have := H.out; omega)).mono ?_
  rintro _ _ ⟨rfl, rfl⟩
  rw [Int.toNat_natCast, E.out]
  go_wp2
  go_ret
  exact ⟨rfl, rfl⟩
end Go.Proofs.Ytniingblgkghgaa
