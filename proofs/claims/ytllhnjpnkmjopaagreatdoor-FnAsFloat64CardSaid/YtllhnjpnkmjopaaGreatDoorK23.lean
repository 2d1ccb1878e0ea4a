/-
Texts of this proof, joined: DvC. No condition.
-/
import Derived.Test.YtllhnjpnkmjopaaGreatDoorK04
import Derived.Test.YtllhnjpnkmjopaaGreatDoorK06
import Derived.Test.YtllhnjpnkmjopaaGreatDoorK22
namespace Go.Proofs.YtllhnjpnkmjopaaGreatDoor
open Go.RowKit

set_option maxRecDepth 100000 in
theorem bitsDiv_any (u1 u0 y : Nat) (w : World) (hy : y < 18446744073709551616) (hu1 : u1 < y) (hu0 : u0 < 18446744073709551616) :
    Calls Tryz.prog 230 #[.int .u64 u1, .int .u64 u0, .int .u64 y] w fun e w' => e = .returned (.tuple #[.int .u64 ((u1 * 18446744073709551616 + u0) / y : Nat), .int .u64 ((u1 * 18446744073709551616 + u0) % y : Nat)]) ∧ ∃ n, w' = w.drewN n := by
  have H := Lib.hid (bitsDiv64_any u1 u0 y w hy hu1 hu0)
  have hq : (u1 * 18446744073709551616 + u0) / y < 18446744073709551616 := by
    refine Nat.div_lt_of_lt_mul ?_
    have := Nat.mul_le_mul_right 18446744073709551616 (Nat.succ_le_of_lt hu1)
    rw [Nat.succ_mul] at this
    omega
  have hr : (u1 * 18446744073709551616 + u0) % y < 18446744073709551616 := Nat.lt_trans (Nat.mod_lt _ (by omega)) hy
  obtain ⟨N, hN⟩ : ∃ N, N = (u1 * 18446744073709551616 + u0) / y := ⟨_, rfl⟩
  obtain ⟨M, hM⟩ : ∃ M, M = (u1 * 18446744073709551616 + u0) % y := ⟨_, rfl⟩
  rw [← hN, ← hM] at H
  rw [← hN] at hq
  rw [← hM] at hr
  rw [← hN, ← hM]
  clear hN hM
  go_enter Tryz.func230, Tryz.ntmps230
  go_wp2_with fail
  refine H.out.mono ?_
  rintro _ _ ⟨rfl, n, rfl⟩
  go_wp2
  go_ret2
  exact ⟨rfl, n, rfl⟩
theorem xor_max {u : Nat} (h : u < 18446744073709551616) : 18446744073709551615 ^^^ u = 18446744073709551615 - u := by
  have h' : u < 2 ^ 64 := h
  apply Nat.eq_of_testBit_eq
  intro i
  rw [Nat.testBit_xor, show 18446744073709551615 - u = 2 ^ 64 - (u + 1) by omega, Nat.testBit_two_pow_sub_succ h', show (18446744073709551615 : Nat) = 2 ^ 64 - 1 from rfl, Nat.testBit_two_pow_sub_one]
  by_cases hi : i < 64
  · simp [hi]
  · have : u.testBit i = false := Nat.testBit_lt_two_pow (Nat.lt_of_lt_of_le h' (Nat.pow_le_pow_right (by decide) (by omega)))
    simp [hi, this]
def nrmW (y : Nat) : Nat := y * 2 ^ (64 - bl y)
def recW (y : Nat) : Nat := ((18446744073709551615 - nrmW y) * 18446744073709551616 + 18446744073709551615) / nrmW y
theorem nrmW_bd {y : Nat} (hy : y < 18446744073709551616) (h0 : 0 < y) : 9223372036854775808 ≤ nrmW y ∧ nrmW y < 18446744073709551616 := by
  have hb := bl_le64 hy
  have hp := bl_pos h0
  unfold nrmW
  constructor
  · have h1 := Nat.mul_le_mul_right (2 ^ (64 - bl y)) (bl_ge h0)
    rw [← Nat.pow_add, show bl y - 1 + (64 - bl y) = 63 by omega] at h1
    exact h1
  · have h1 := Nat.mul_lt_mul_of_pos_right (lt_bl y) (Nat.two_pow_pos (64 - bl y))
    rw [← Nat.pow_add, show bl y + (64 - bl y) = 64 by omega] at h1
    exact h1
theorem recW_lt {y : Nat} (hy : y < 18446744073709551616) (h0 : 0 < y) : recW y < 18446744073709551616 := by
  obtain ⟨h1, h2⟩ := nrmW_bd hy h0
  unfold recW
  refine Nat.div_lt_of_lt_mul ?_
  have := Nat.mul_le_mul_right 18446744073709551616 (show 18446744073709551615 - nrmW y + 1 ≤ nrmW y by omega)
  rw [Nat.add_mul] at this
  omega
set_option maxRecDepth 100000 in
set_option maxHeartbeats 800000 in
theorem recip_any (y : Nat) (w : World) (hy : y < 18446744073709551616) (h0 : 0 < y) :
    Calls Tryz.prog 231 #[.int .u64 y] w fun e w' => e = .returned (.int .u64 (recW y : Nat)) ∧ ∃ n, w' = w.drewN n := by
  obtain ⟨n1, n2⟩ := nrmW_bd hy h0
  have hb := bl_le64 hy
  have hrl := recW_lt hy h0
  have H := Lib.hid (fun W => bitsDiv_any (18446744073709551615 - nrmW y) 18446744073709551615 (nrmW y) W n2 (by omega) (by decide))
  rw [show ((18446744073709551615 - nrmW y) * 18446744073709551616 + 18446744073709551615) / nrmW y = recW y from rfl] at H
  have HZ := Lib.hid (fun W => nlz_any y W hy)
  obtain ⟨s, hs⟩ : ∃ s, s = 64 - bl y := ⟨_, rfl⟩
  rw [← hs] at HZ
  have hs64 : s ≤ 64 := by omega
  have hS2 : (2 : Int) ^ s = ((2 ^ s : Nat) : Int) := by simp
  have hn : nrmW y = y * 2 ^ s := by rw [hs]; rfl
  obtain ⟨S, hS⟩ : ∃ S, S = 2 ^ s := ⟨_, rfl⟩
  rw [← hS] at hn hS2
  obtain ⟨u, hu⟩ : ∃ u, u = nrmW y := ⟨_, rfl⟩
  rw [← hu] at hn n1 n2 H
  have a1 : IntKind.u64.wrap ((y : Int) * (S : Int)) = (u : Int) := by
    have : (y : Int) * (S : Int) = (u : Int) := by rw [hn]; simp
    rw [this, wrapV]; omega
  obtain ⟨x, hx⟩ : ∃ x, x = 18446744073709551615 - u := ⟨_, rfl⟩
  have a2 : bits .xor .u64 18446744073709551615 (u : Int) = (x : Int) := by
    rw [show (18446744073709551615 : Int) = ((18446744073709551615 : Nat) : Int) from rfl, u64_xor_nat _ u (by decide) n2, xor_max n2, hx]
  have a3 : bits .xor .u64 (u : Int) 18446744073709551615 = (x : Int) := by
    rw [show (18446744073709551615 : Int) = ((18446744073709551615 : Nat) : Int) from rfl, u64_xor_nat u _ n2 (by decide), Nat.xor_comm, xor_max n2, hx]
  have a4 : bits .xor .u64 IntKind.u64.max (u : Int) = (x : Int) := a2
  have a5 : IntKind.u64.signed = false := rfl
  have H2 : Hid (∀ W : World, ∃ r : Nat, r < 18446744073709551616 ∧ Calls Tryz.prog 230 #[.int .u64 x, .int .u64 18446744073709551615, .int .u64 u] W fun e w' => e = .returned (.tuple #[.int .u64 (recW y : Nat), .int .u64 r]) ∧ ∃ n, w' = W.drewN n) := Lib.hid (fun W => by
    rw [hx]
    exact ⟨_, Nat.lt_trans (Nat.mod_lt _ (by omega)) n2, H.out W⟩)
  obtain ⟨R, hR⟩ : ∃ R, R = recW y := ⟨_, rfl⟩
  rw [← hR] at H2 hrl ⊢
  clear hs hS hn hu hx hR H hb
  go_enter Tryz.func231, Tryz.ntmps231
  go_wp2_with fail
  refine (HZ.out _).mono ?_
  rintro _ _ ⟨rfl, rfl⟩
  go_wp2_with fail
  obtain ⟨r, hr, H3⟩ := H2.out w
  refine H3.mono ?_
  rintro _ _ ⟨rfl, n, rfl⟩
  go_wp2
  go_ret
  exact ⟨rfl, n, rfl⟩
set_option maxRecDepth 100000 in
set_option maxHeartbeats 6400000 in
theorem divWW_any (x1 x0 y : Nat) (w : World) (hy : y < 18446744073709551616) (hx1 : x1 < y) (hx0 : x0 < 18446744073709551616) :
    Calls Tryz.prog 232 #[.int .u64 x1, .int .u64 x0, .int .u64 y, .int .u64 (recW y : Nat)] w fun e w' => e = .returned (.tuple #[.int .u64 ((x1 * 18446744073709551616 + x0) / y : Nat), .int .u64 ((x1 * 18446744073709551616 + x0) % y : Nat)]) ∧ w' = w := by
  have hy0 : 0 < y := by omega
  have hb := bl_le64 hy
  have hbp := bl_pos hy0
  obtain ⟨n1, n2⟩ := nrmW_bd hy hy0
  have hml := recW_lt hy hy0
  obtain ⟨-, v, hv1, hv2, hv3⟩ := rec_ok n1 n2
  rw [show ((18446744073709551615 - nrmW y) * 18446744073709551616 + 18446744073709551615) / nrmW y = recW y from rfl] at hv3
  obtain ⟨m, hm⟩ : ∃ m, m = recW y := ⟨_, rfl⟩
  rw [← hm] at hv3 hml ⊢
  have HZ := Lib.hid (fun W => nlz_any y W hy)
  obtain ⟨s, hs⟩ : ∃ s, s = 64 - bl y := ⟨_, rfl⟩
  rw [← hs] at HZ
  have hs63 : s ≤ 63 := by omega
  obtain ⟨S, hS⟩ : ∃ S, S = 2 ^ s := ⟨_, rfl⟩
  obtain ⟨T, hT⟩ : ∃ T, T = 2 ^ (64 - s) := ⟨_, rfl⟩
  have hS0 : 0 < S := by rw [hS]; exact Nat.two_pow_pos _
  have hT0 : 0 < T := by rw [hT]; exact Nat.two_pow_pos _
  have hST : S * T = 18446744073709551616 := by
    rw [hS, hT, ← Nat.pow_add, show s + (64 - s) = 64 by omega]
  obtain ⟨Y, hY⟩ : ∃ Y, Y = y * S := ⟨_, rfl⟩
  have hYn : Y = nrmW y := by rw [hY, hS, hs]; rfl
  rw [← hYn] at n1 n2 hv1 hv2
  obtain ⟨d1, d2, d3, d4, d5⟩ := dv_two hy0 hx1 hx0 hST (by rw [← hY]; exact n2) hS0 hT0 hS
  rw [← hY] at d1
  have hS2 : (2 : Int) ^ s = (S : Int) := by rw [hS]; simp
  have hT2 : (2 : Int) ^ (64 - s) = (T : Int) := by rw [hT]; simp
  have hs6 : (64 : Int) - (s : Int) = ((64 - s : Nat) : Int) := by omega
  have a1 : IntKind.u64.wrap ((y : Int) * (S : Int)) = (Y : Int) := by
    have : (y : Int) * (S : Int) = (Y : Int) := by rw [hY]; simp
    rw [this, wrapV]; omega
  obtain ⟨A, hA⟩ : ∃ A, A = x1 * S := ⟨_, rfl⟩
  obtain ⟨B, hB⟩ : ∃ B, B = x0 / T := ⟨_, rfl⟩
  rw [← hA, ← hB] at d1 d2 d3
  rw [← hB] at d5
  have a2 : IntKind.u64.wrap ((x1 : Int) * (S : Int)) = (A : Int) := by
    have : (x1 : Int) * (S : Int) = (A : Int) := by rw [hA]; simp
    rw [this, wrapV]; omega
  have a3 : (x0 : Int) / (T : Int) = (B : Int) := by rw [hB]; simp
  obtain ⟨C, hC⟩ : ∃ C, C = x0 % T * S := ⟨_, rfl⟩
  rw [← hC] at d3 d4
  have a4 : IntKind.u64.wrap ((x0 : Int) * (S : Int)) = (C : Int) := by
    have h1 := Nat.div_add_mod x0 T
    rw [← hB] at h1
    have h2 : x0 * S = B * 18446744073709551616 + C := by
      rw [← hST, hC]
      conv => lhs; rw [← h1]
      rw [Nat.add_mul, Nat.mul_comm T B, Nat.mul_assoc, Nat.mul_comm T S]
    have : (x0 : Int) * (S : Int) = ((x0 * S : Nat) : Int) := by simp
    rw [this, h2, wrapV]; omega
  obtain ⟨u, hu⟩ : ∃ u, u = A + B := ⟨_, rfl⟩
  rw [← hu] at d1 d2 d3
  have a5 : bits .or .u64 (A : Int) (B : Int) = (u : Int) := by
    rw [u64_or_nat A B (by omega) (by omega), nat_join s A B (by rw [hA, hS]; exact Nat.mul_mod_left _ _) (by rw [← hS]; exact d5), hu]
  have hone : s = 0 → x1 = u ∧ x0 = C ∧ y = Y := fun h => by
    have hS1 : S = 1 := by rw [hS, h]
    have hT1 : T = 18446744073709551616 := by rw [hT, h]
    rw [hS1, Nat.mul_one] at hA hC hY
    rw [hT1] at hB hC
    omega
  obtain ⟨Q, hQ⟩ : ∃ Q, Q = (v * u + C) / 18446744073709551616 := ⟨_, rfl⟩
  obtain ⟨R, f1, f2, f3, f4, f5, f6⟩ := dw_fix n1 n2 d1 d4 hv1 hv2 hQ
  obtain ⟨z1, z2⟩ := dv_scale (U := x1 * 18446744073709551616 + x0) (y := y) hS0
  rw [d3, ← hY] at z1 z2
  rw [← z1, ← z2]
  obtain ⟨U, hU⟩ : ∃ U, U = u * 18446744073709551616 + C := ⟨_, rfl⟩
  rw [← hU] at f1 f4 f5 f6 ⊢
  -- the guess
  obtain ⟨P, hP⟩ : ∃ P, P = m * u := ⟨_, rfl⟩
  have hPb : P < 340282366920938463463374607431768211456 := by
    have := Nat.mul_le_mul (Nat.le_of_lt hml) (Nat.le_of_lt d2)
    have h3 := Nat.mul_le_mul (Nat.le_of_lt_succ hml) (Nat.le_of_lt_succ d2)
    rw [← hP] at h3
    omega
  have hQ2 : Q = (P + u * 18446744073709551616 + C) / 18446744073709551616 := by
    rw [hQ, hv3, hP, Nat.add_mul, Nat.mul_comm 18446744073709551616 u, Nat.add_comm (u * 18446744073709551616)]
  have HM := Lib.hid (Tryz.bits_Mul m u hml d2)
  rw [← hP] at HM
  obtain ⟨t1, ht1⟩ : ∃ t, t = P / 18446744073709551616 := ⟨_, rfl⟩
  obtain ⟨t0, ht0⟩ : ∃ t, t = P % 18446744073709551616 := ⟨_, rfl⟩
  rw [← ht1, ← ht0] at HM
  have ht0b : t0 < 18446744073709551616 := by omega
  have ht1b : t1 < 18446744073709551616 := by omega
  obtain ⟨s0, c, hc, hs0⟩ : ∃ s0 c, t0 + C = s0 + 18446744073709551616 * c ∧ s0 < 18446744073709551616 := ⟨(t0 + C) % 18446744073709551616, (t0 + C) / 18446744073709551616, by omega, by omega⟩
  have hcb : c ≤ 1 := by omega
  have HA1 := Lib.hid (fun W => bitsAdd0 t0 C s0 c W hc hs0)
  have hQ3 : t1 + u + c = Q + 18446744073709551616 * 0 := by omega
  have HA2 := Lib.hid (fun W => bitsAddC t1 u c Q 0 W hcb hQ3 f3)
  have HM2 := Lib.hid (Tryz.bits_Mul Y Q n2 f3)
  obtain ⟨G, hG⟩ : ∃ G, G = Y * Q := ⟨_, rfl⟩
  have hGQ : Q * Y = G := by rw [hG, Nat.mul_comm]
  rw [← hG] at HM2
  rw [hGQ] at f1
  obtain ⟨g1, hg1⟩ : ∃ t, t = G / 18446744073709551616 := ⟨_, rfl⟩
  obtain ⟨g0, hg0⟩ : ∃ t, t = G % 18446744073709551616 := ⟨_, rfl⟩
  rw [← hg1, ← hg0] at HM2
  have hg0b : g0 < 18446744073709551616 := by omega
  have hg1b : g1 < 18446744073709551616 := by omega
  obtain ⟨r0, b, hb1, hr0, hbb⟩ : ∃ r0 b, C + 18446744073709551616 * b = r0 + g0 + 0 ∧ r0 < 18446744073709551616 ∧ b ≤ 1 := by
    by_cases h : g0 ≤ C
    · exact ⟨C - g0, 0, by omega, by omega, by omega⟩
    · exact ⟨C + 18446744073709551616 - g0, 1, by omega, by omega, by omega⟩
  have HS1 := Lib.hid (fun W => bitsSubC C g0 0 r0 b W (by decide) hbb hb1 d4 hg0b hr0)
  obtain ⟨r1, hr1, hr1b⟩ : ∃ r1, u + 18446744073709551616 * 0 = r1 + g1 + b ∧ r1 ≤ 1 := ⟨u - g1 - b, by omega, by omega⟩
  have HS2 := Lib.hid (fun W => bitsSubC u g1 b r1 0 W hbb (by decide) hr1 d2 hg1b (by omega))
  have hRR : R = r1 * 18446744073709551616 + r0 := by omega
  obtain ⟨N, hN⟩ : ∃ N, N = U / Y := ⟨_, rfl⟩
  obtain ⟨M, hM⟩ : ∃ M, M = U % Y := ⟨_, rfl⟩
  rw [← hN, ← hM] at f4 f5 ⊢
  rw [← hN] at f6
  have hMY : M < Y := by rw [hM]; exact Nat.mod_lt _ (by omega)
  have e9 : (M : Int) / (S : Int) = ((M / S : Nat) : Int) := by simp
  have hMS : M / S < 18446744073709551616 := Nat.lt_of_le_of_lt (Nat.div_le_self _ _) (by omega)
  obtain ⟨MS, hMS2⟩ : ∃ MS, MS = M / S := ⟨_, rfl⟩
  rw [← hMS2] at e9 hMS ⊢
  have HONE := Lib.hid hone
  clear z1 z2 d3 d5 hS hT hST hY hYn hA hB hC hu hQ hQ2 hP hPb ht1 ht0 hc hs0 hQ3 hG hGQ hg1 hg0 hb1 hr1 hN hM hMS2 hU f1 hv1 hv2 hv3 hm hs hone hb hbp
  by_cases hs0 : s = 0
  · obtain ⟨rfl, rfl, rfl⟩ := HONE.out hs0
    have tz : ((s : Int) != 0) = false := by rw [hs0]; rfl
    have tz' : ((s : Int) == 0) = true := by rw [hs0]; rfl
    clear hs0
    rcases (by omega : (r1 = 1 ∧ R - y < y) ∨ (r1 = 1 ∧ y ≤ R - y) ∨ (r1 = 0 ∧ R < y) ∨ (r1 = 0 ∧ y ≤ R)) with ⟨h1, h2⟩ | ⟨h1, h2⟩ | ⟨h1, h2⟩ | ⟨h1, h2⟩
    · obtain ⟨k1, k2⟩ := (f4 (by omega)).1 h2
      have p1 : ((r1 : Int) != 0) = true := by rw [h1]; rfl
      have p1' : ((r1 : Int) == 0) = false := by rw [h1]; rfl
      have q1 : (Q : Int) + 1 = (N : Int) := by omega
      have q2 : IntKind.u64.wrap ((r0 : Int) - (y : Int)) = (M : Int) := by rw [wrapV]; omega
      have p2 : decide ((y : Int) ≤ (M : Int)) = false := decide_eq_false (by omega)
      have p2' : decide (y ≤ M) = false := decide_eq_false (by omega)
      clear f4 f5 hRR h1 h2 k1 k2
      go_enter Tryz.func232, Tryz.ntmps232
      go_wp2_with fail
      refine (HZ.out _).mono ?_
      rintro _ _ ⟨rfl, rfl⟩
      go_wp2_with fail
      refine (HM.out _).mono ?_
      rintro _ _ ⟨rfl, rfl⟩
      go_wp2_with fail
      refine (HA1.out _).mono ?_
      rintro _ _ ⟨rfl, rfl⟩
      go_wp2_with fail
      refine (HA2.out _).mono ?_
      rintro _ _ ⟨rfl, rfl⟩
      go_wp2_with fail
      refine (HM2.out _).mono ?_
      rintro _ _ ⟨rfl, rfl⟩
      go_wp2_with fail
      refine (HS1.out _).mono ?_
      rintro _ _ ⟨rfl, rfl⟩
      go_wp2_with fail
      refine (HS2.out _).mono ?_
      rintro _ _ ⟨rfl, rfl⟩
      go_wp2
      go_ret2
      exact ⟨rfl, rfl⟩
    · obtain ⟨k1, k2⟩ := (f4 (by omega)).2 h2
      have p1 : ((r1 : Int) != 0) = true := by rw [h1]; rfl
      have p1' : ((r1 : Int) == 0) = false := by rw [h1]; rfl
      obtain ⟨Z, hZ⟩ : ∃ Z, Z = R - y := ⟨_, rfl⟩
      obtain ⟨Q1, hQ1⟩ : ∃ Z, Z = Q + 1 := ⟨_, rfl⟩
      have q0 : (Q : Int) + 1 = (Q1 : Int) := by omega
      have q1 : (Q1 : Int) + 1 = (N : Int) := by omega
      have hZb : Z < 18446744073709551616 := by omega
      have hQ1b : Q1 < 18446744073709551616 := by omega
      have q2 : IntKind.u64.wrap ((r0 : Int) - (y : Int)) = (Z : Int) := by rw [wrapV]; omega
      have q3 : (Z : Int) - (y : Int) = (M : Int) := by omega
      have p2 : decide ((y : Int) ≤ (Z : Int)) = true := decide_eq_true (by omega)
      have p2' : decide (y ≤ Z) = true := decide_eq_true (by omega)
      clear f4 f5 hRR h1 h2 k1 k2 hZ hQ1
      go_enter Tryz.func232, Tryz.ntmps232
      go_wp2_with fail
      refine (HZ.out _).mono ?_
      rintro _ _ ⟨rfl, rfl⟩
      go_wp2_with fail
      refine (HM.out _).mono ?_
      rintro _ _ ⟨rfl, rfl⟩
      go_wp2_with fail
      refine (HA1.out _).mono ?_
      rintro _ _ ⟨rfl, rfl⟩
      go_wp2_with fail
      refine (HA2.out _).mono ?_
      rintro _ _ ⟨rfl, rfl⟩
      go_wp2_with fail
      refine (HM2.out _).mono ?_
      rintro _ _ ⟨rfl, rfl⟩
      go_wp2_with fail
      refine (HS1.out _).mono ?_
      rintro _ _ ⟨rfl, rfl⟩
      go_wp2_with fail
      refine (HS2.out _).mono ?_
      rintro _ _ ⟨rfl, rfl⟩
      go_wp2
      go_ret2
      exact ⟨rfl, rfl⟩
    · obtain ⟨k1, k2⟩ := (f5 (by omega)).1 h2
      have p1 : ((r1 : Int) != 0) = false := by rw [h1]; rfl
      have p1' : ((r1 : Int) == 0) = true := by rw [h1]; rfl
      have k3 : r0 = M := by omega
      have k4 : Q = N := by omega
      have p2 : decide ((y : Int) ≤ (r0 : Int)) = false := decide_eq_false (by omega)
      have p2' : decide (y ≤ r0) = false := decide_eq_false (by omega)
      clear f4 f5 hRR h1 h2 k1 k2
      subst k3 k4
      go_enter Tryz.func232, Tryz.ntmps232
      go_wp2_with fail
      refine (HZ.out _).mono ?_
      rintro _ _ ⟨rfl, rfl⟩
      go_wp2_with fail
      refine (HM.out _).mono ?_
      rintro _ _ ⟨rfl, rfl⟩
      go_wp2_with fail
      refine (HA1.out _).mono ?_
      rintro _ _ ⟨rfl, rfl⟩
      go_wp2_with fail
      refine (HA2.out _).mono ?_
      rintro _ _ ⟨rfl, rfl⟩
      go_wp2_with fail
      refine (HM2.out _).mono ?_
      rintro _ _ ⟨rfl, rfl⟩
      go_wp2_with fail
      refine (HS1.out _).mono ?_
      rintro _ _ ⟨rfl, rfl⟩
      go_wp2_with fail
      refine (HS2.out _).mono ?_
      rintro _ _ ⟨rfl, rfl⟩
      go_wp2
      go_ret2
      exact ⟨rfl, rfl⟩
    · obtain ⟨k1, k2⟩ := (f5 (by omega)).2 h2
      have p1 : ((r1 : Int) != 0) = false := by rw [h1]; rfl
      have p1' : ((r1 : Int) == 0) = true := by rw [h1]; rfl
      have q1 : (Q : Int) + 1 = (N : Int) := by omega
      have q3 : (r0 : Int) - (y : Int) = (M : Int) := by omega
      have p2 : decide ((y : Int) ≤ (r0 : Int)) = true := decide_eq_true (by omega)
      have p2' : decide (y ≤ r0) = true := decide_eq_true (by omega)
      clear f4 f5 hRR h1 h2 k1 k2
      go_enter Tryz.func232, Tryz.ntmps232
      go_wp2_with fail
      refine (HZ.out _).mono ?_
      rintro _ _ ⟨rfl, rfl⟩
      go_wp2_with fail
      refine (HM.out _).mono ?_
      rintro _ _ ⟨rfl, rfl⟩
      go_wp2_with fail
      refine (HA1.out _).mono ?_
      rintro _ _ ⟨rfl, rfl⟩
      go_wp2_with fail
      refine (HA2.out _).mono ?_
      rintro _ _ ⟨rfl, rfl⟩
      go_wp2_with fail
      refine (HM2.out _).mono ?_
      rintro _ _ ⟨rfl, rfl⟩
      go_wp2_with fail
      refine (HS1.out _).mono ?_
      rintro _ _ ⟨rfl, rfl⟩
      go_wp2_with fail
      refine (HS2.out _).mono ?_
      rintro _ _ ⟨rfl, rfl⟩
      go_wp2
      go_ret2
      exact ⟨rfl, rfl⟩
  · have tz : ((s : Int) != 0) = true := by rw [bne_iff_ne]; omega
    have tz' : ((s : Int) == 0) = false := by rw [beq_eq_false_iff_ne]; omega
    clear HONE hs0
    rcases (by omega : (r1 = 1 ∧ R - Y < Y) ∨ (r1 = 1 ∧ Y ≤ R - Y) ∨ (r1 = 0 ∧ R < Y) ∨ (r1 = 0 ∧ Y ≤ R)) with ⟨h1, h2⟩ | ⟨h1, h2⟩ | ⟨h1, h2⟩ | ⟨h1, h2⟩
    · obtain ⟨k1, k2⟩ := (f4 (by omega)).1 h2
      have p1 : ((r1 : Int) != 0) = true := by rw [h1]; rfl
      have p1' : ((r1 : Int) == 0) = false := by rw [h1]; rfl
      have q1 : (Q : Int) + 1 = (N : Int) := by omega
      have q2 : IntKind.u64.wrap ((r0 : Int) - (Y : Int)) = (M : Int) := by rw [wrapV]; omega
      have p2 : decide ((Y : Int) ≤ (M : Int)) = false := decide_eq_false (by omega)
      have p2' : decide (Y ≤ M) = false := decide_eq_false (by omega)
      clear f4 f5 hRR h1 h2 k1 k2
      go_enter Tryz.func232, Tryz.ntmps232
      go_wp2_with fail
      refine (HZ.out _).mono ?_
      rintro _ _ ⟨rfl, rfl⟩
      go_wp2_with fail
      refine (HM.out _).mono ?_
      rintro _ _ ⟨rfl, rfl⟩
      go_wp2_with fail
      refine (HA1.out _).mono ?_
      rintro _ _ ⟨rfl, rfl⟩
      go_wp2_with fail
      refine (HA2.out _).mono ?_
      rintro _ _ ⟨rfl, rfl⟩
      go_wp2_with fail
      refine (HM2.out _).mono ?_
      rintro _ _ ⟨rfl, rfl⟩
      go_wp2_with fail
      refine (HS1.out _).mono ?_
      rintro _ _ ⟨rfl, rfl⟩
      go_wp2_with fail
      refine (HS2.out _).mono ?_
      rintro _ _ ⟨rfl, rfl⟩
      go_wp2
      go_ret2
      exact ⟨rfl, rfl⟩
    · obtain ⟨k1, k2⟩ := (f4 (by omega)).2 h2
      have p1 : ((r1 : Int) != 0) = true := by rw [h1]; rfl
      have p1' : ((r1 : Int) == 0) = false := by rw [h1]; rfl
      obtain ⟨Z, hZ⟩ : ∃ Z, Z = R - Y := ⟨_, rfl⟩
      obtain ⟨Q1, hQ1⟩ : ∃ Z, Z = Q + 1 := ⟨_, rfl⟩
      have q0 : (Q : Int) + 1 = (Q1 : Int) := by omega
      have q1 : (Q1 : Int) + 1 = (N : Int) := by omega
      have hZb : Z < 18446744073709551616 := by omega
      have hQ1b : Q1 < 18446744073709551616 := by omega
      have q2 : IntKind.u64.wrap ((r0 : Int) - (Y : Int)) = (Z : Int) := by rw [wrapV]; omega
      have q3 : (Z : Int) - (Y : Int) = (M : Int) := by omega
      have p2 : decide ((Y : Int) ≤ (Z : Int)) = true := decide_eq_true (by omega)
      have p2' : decide (Y ≤ Z) = true := decide_eq_true (by omega)
      clear f4 f5 hRR h1 h2 k1 k2 hZ hQ1
      go_enter Tryz.func232, Tryz.ntmps232
      go_wp2_with fail
      refine (HZ.out _).mono ?_
      rintro _ _ ⟨rfl, rfl⟩
      go_wp2_with fail
      refine (HM.out _).mono ?_
      rintro _ _ ⟨rfl, rfl⟩
      go_wp2_with fail
      refine (HA1.out _).mono ?_
      rintro _ _ ⟨rfl, rfl⟩
      go_wp2_with fail
      refine (HA2.out _).mono ?_
      rintro _ _ ⟨rfl, rfl⟩
      go_wp2_with fail
      refine (HM2.out _).mono ?_
      rintro _ _ ⟨rfl, rfl⟩
      go_wp2_with fail
      refine (HS1.out _).mono ?_
      rintro _ _ ⟨rfl, rfl⟩
      go_wp2_with fail
      refine (HS2.out _).mono ?_
      rintro _ _ ⟨rfl, rfl⟩
      go_wp2
      go_ret2
      exact ⟨rfl, rfl⟩
    · obtain ⟨k1, k2⟩ := (f5 (by omega)).1 h2
      have p1 : ((r1 : Int) != 0) = false := by rw [h1]; rfl
      have p1' : ((r1 : Int) == 0) = true := by rw [h1]; rfl
      have k3 : r0 = M := by omega
      have k4 : Q = N := by omega
      have p2 : decide ((Y : Int) ≤ (r0 : Int)) = false := decide_eq_false (by omega)
      have p2' : decide (Y ≤ r0) = false := decide_eq_false (by omega)
      clear f4 f5 hRR h1 h2 k1 k2
      subst k3 k4
      go_enter Tryz.func232, Tryz.ntmps232
      go_wp2_with fail
      refine (HZ.out _).mono ?_
      rintro _ _ ⟨rfl, rfl⟩
      go_wp2_with fail
      refine (HM.out _).mono ?_
      rintro _ _ ⟨rfl, rfl⟩
      go_wp2_with fail
      refine (HA1.out _).mono ?_
      rintro _ _ ⟨rfl, rfl⟩
      go_wp2_with fail
      refine (HA2.out _).mono ?_
      rintro _ _ ⟨rfl, rfl⟩
      go_wp2_with fail
      refine (HM2.out _).mono ?_
      rintro _ _ ⟨rfl, rfl⟩
      go_wp2_with fail
      refine (HS1.out _).mono ?_
      rintro _ _ ⟨rfl, rfl⟩
      go_wp2_with fail
      refine (HS2.out _).mono ?_
      rintro _ _ ⟨rfl, rfl⟩
      go_wp2
      go_ret2
      exact ⟨rfl, rfl⟩
    · obtain ⟨k1, k2⟩ := (f5 (by omega)).2 h2
      have p1 : ((r1 : Int) != 0) = false := by rw [h1]; rfl
      have p1' : ((r1 : Int) == 0) = true := by rw [h1]; rfl
      have q1 : (Q : Int) + 1 = (N : Int) := by omega
      have q3 : (r0 : Int) - (Y : Int) = (M : Int) := by omega
      have p2 : decide ((Y : Int) ≤ (r0 : Int)) = true := decide_eq_true (by omega)
      have p2' : decide (Y ≤ r0) = true := decide_eq_true (by omega)
      clear f4 f5 hRR h1 h2 k1 k2
      go_enter Tryz.func232, Tryz.ntmps232
      go_wp2_with fail
      refine (HZ.out _).mono ?_
      rintro _ _ ⟨rfl, rfl⟩
      go_wp2_with fail
      refine (HM.out _).mono ?_
      rintro _ _ ⟨rfl, rfl⟩
      go_wp2_with fail
      refine (HA1.out _).mono ?_
      rintro _ _ ⟨rfl, rfl⟩
      go_wp2_with fail
      refine (HA2.out _).mono ?_
      rintro _ _ ⟨rfl, rfl⟩
      go_wp2_with fail
      refine (HM2.out _).mono ?_
      rintro _ _ ⟨rfl, rfl⟩
      go_wp2_with fail
      refine (HS1.out _).mono ?_
      rintro _ _ ⟨rfl, rfl⟩
      go_wp2_with fail
      refine (HS2.out _).mono ?_
      rintro _ _ ⟨rfl, rfl⟩
      go_wp2
      go_ret2
      exact ⟨rfl, rfl⟩
end Go.Proofs.YtllhnjpnkmjopaaGreatDoor
