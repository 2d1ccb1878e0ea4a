/-
Texts of this proof, joined: DvB. No condition.
-/
import Derived.Test.YtllhnjpnkmjopaaGreatDoorK04
import Derived.Test.YtllhnjpnkmjopaaGreatDoorK21
import Derived.Laws.BitsAllLaws
namespace Go.Proofs.YtllhnjpnkmjopaaGreatDoor
open Go.RowKit

def KnI (y1 y0 u d Q R : Nat) : Prop := Q * y1 + R = u ∧ (u * 4294967296 + d) / (y1 * 4294967296 + y0) ≤ Q ∧ Q ≤ 4294967297 ∧ R < 4294967296
theorem KnI.start {y1 y0 u d : Nat} (hy1 : 2147483648 ≤ y1) (hy2 : y1 < 4294967296) (hy0 : y0 < 4294967296) (hu : u < y1 * 4294967296 + y0) (hd : d < 4294967296) : KnI y1 y0 u d (u / y1) (u % y1) := by
  have h1 : 0 < y1 := by omega
  have hm := Nat.mod_lt u h1
  refine ⟨by rw [Nat.mul_comm]; exact Nat.div_add_mod u y1, ?_, kn_start hy1 hy0 hu, by omega⟩
  refine (Nat.div_le_iff_le_mul_add_pred (by omega)).2 ?_
  have h2 := Nat.div_add_mod u y1
  obtain ⟨q, hq⟩ : ∃ q, q = u / y1 := ⟨_, rfl⟩
  obtain ⟨r, hr⟩ : ∃ r, r = u % y1 := ⟨_, rfl⟩
  rw [← hq, ← hr] at h2
  rw [← hr] at hm
  rw [← hq]
  have e1 : (y1 * 4294967296 + y0) * q = y1 * q * 4294967296 + y0 * q := by rw [Nat.add_mul, Nat.mul_right_comm]
  rw [e1, ← h2, Nat.add_mul]
  omega
theorem KnI.next {y1 y0 u d Q R : Nat} (_hy1 : 0 < y1) (h : KnI y1 y0 u d Q R) (hd : d < 4294967296) (hu : u < y1 * 4294967296 + y0) (hc : 4294967296 ≤ Q ∨ R * 4294967296 + d < Q * y0) :
    0 < Q ∧ (Q - 1) * y1 + (R + y1) = u ∧ (u * 4294967296 + d) / (y1 * 4294967296 + y0) ≤ Q - 1 := by
  obtain ⟨h1, h2, h3, h4⟩ := h
  have hY : 0 < y1 * 4294967296 + y0 := by omega
  have hlt : (u * 4294967296 + d) / (y1 * 4294967296 + y0) < Q := by
    refine (Nat.div_lt_iff_lt_mul hY).2 ?_
    rcases hc with hc | hc
    · have := Nat.mul_le_mul_right (y1 * 4294967296 + y0) hc
      omega
    · refine kn_low h1 ?_
      rw [Nat.mul_comm 4294967296]; exact hc
  have hQ : 0 < Q := Nat.lt_of_le_of_lt (Nat.zero_le _) hlt
  refine ⟨hQ, ?_, Nat.le_sub_one_of_lt hlt⟩
  obtain ⟨k, rfl⟩ : ∃ k, Q = k + 1 := ⟨Q - 1, by omega⟩
  rw [Nat.add_mul, Nat.one_mul] at h1
  rw [Nat.add_sub_cancel]; omega
theorem KnI.done {y1 y0 u d Q R : Nat} (hy1 : 0 < y1) (h1 : Q * y1 + R = u) (h2 : (u * 4294967296 + d) / (y1 * 4294967296 + y0) ≤ Q) (hc : Q * y0 ≤ R * 4294967296 + d) :
    Q = (u * 4294967296 + d) / (y1 * 4294967296 + y0) := by
  have hY : 0 < y1 * 4294967296 + y0 := by omega
  refine Nat.le_antisymm ((Nat.le_div_iff_mul_le hY).2 (kn_ok h1 ?_)) h2
  rw [Nat.mul_comm 4294967296]; exact hc
theorem kn_big {Q y0 R d : Nat} (hQ : Q ≤ 4294967296) (hy0 : y0 < 4294967296) (hR : 4294967296 ≤ R) : Q * y0 ≤ R * 4294967296 + d := by
  have h1 := Nat.mul_le_mul hQ (Nat.le_of_lt hy0)
  have h2 := Nat.mul_le_mul_right 4294967296 hR
  omega
theorem kn_mul {Q y0 : Nat} (hQ : Q < 4294967296) (hy0 : y0 < 4294967296) : Q * y0 < 18446744073709551616 := by
  have h1 := Nat.mul_le_mul (Nat.le_of_lt_succ hQ) (Nat.le_of_lt_succ hy0)
  omega
theorem dv_two {u1 u0 y s S T : Nat} (_hy : 0 < y) (hu : u1 < y) (hu0 : u0 < 18446744073709551616) (hS : S * T = 18446744073709551616) (hyS : y * S < 18446744073709551616) (hS0 : 0 < S) (hT0 : 0 < T) (_hs : S = 2 ^ s) :
    u1 * S + u0 / T < y * S ∧ u1 * S + u0 / T < 18446744073709551616 ∧ (u1 * 18446744073709551616 + u0) * S = (u1 * S + u0 / T) * 18446744073709551616 + u0 % T * S ∧ u0 % T * S < 18446744073709551616 ∧ u0 / T < S := by
  have h1 := Nat.div_add_mod u0 T
  have h2 := Nat.mod_lt u0 hT0
  have h3 : u0 / T < S := (Nat.div_lt_iff_lt_mul hT0).2 (by rw [hS]; exact hu0)
  obtain ⟨a, ha⟩ : ∃ a, a = u0 / T := ⟨_, rfl⟩
  obtain ⟨r, hr⟩ : ∃ r, r = u0 % T := ⟨_, rfl⟩
  rw [← ha, ← hr] at h1
  rw [← hr] at h2
  rw [← ha] at h3
  rw [← ha, ← hr]
  have e1 : (u1 + 1) * S ≤ y * S := Nat.mul_le_mul_right S hu
  rw [Nat.add_mul, Nat.one_mul] at e1
  have e2 : r * S < T * S := Nat.mul_lt_mul_of_pos_right h2 hS0
  rw [Nat.mul_comm T, hS] at e2
  refine ⟨by omega, by omega, ?_, e2, h3⟩
  rw [← h1, ← hS, Nat.add_mul, Nat.add_mul, Nat.add_mul]
  have f1 : u1 * (S * T) * S = u1 * S * (S * T) := Nat.mul_right_comm _ _ _
  have f2 : T * a * S = a * (S * T) := by rw [Nat.mul_comm T a, Nat.mul_assoc, Nat.mul_comm T S]
  rw [f1, f2]; exact (Nat.add_assoc _ _ _).symm
theorem dv_join {U Y un32 un1 un0 : Nat} (hY : 0 < Y) (hU : U = un32 * 18446744073709551616 + un1 * 4294967296 + un0) :
    U / Y = (un32 * 4294967296 + un1) / Y * 4294967296 + ((un32 * 4294967296 + un1) % Y * 4294967296 + un0) / Y ∧ U % Y = ((un32 * 4294967296 + un1) % Y * 4294967296 + un0) % Y := by
  have h1 := Nat.div_add_mod (un32 * 4294967296 + un1) Y
  obtain ⟨q, hq⟩ : ∃ q, q = (un32 * 4294967296 + un1) / Y := ⟨_, rfl⟩
  obtain ⟨r, hr⟩ : ∃ r, r = (un32 * 4294967296 + un1) % Y := ⟨_, rfl⟩
  rw [← hq, ← hr] at h1
  rw [← hq, ← hr]
  have e : U = Y * (q * 4294967296) + (r * 4294967296 + un0) := by
    rw [← Nat.mul_assoc]
    have : un32 * 18446744073709551616 + un1 * 4294967296 = (un32 * 4294967296 + un1) * 4294967296 := by rw [Nat.add_mul, Nat.mul_assoc]
    rw [hU, this, ← h1, Nat.add_mul]; exact Nat.add_assoc _ _ _
  rw [e, Nat.mul_add_div hY, Nat.mul_add_mod]
  exact ⟨rfl, rfl⟩
theorem dv_scale {U y S : Nat} (hS : 0 < S) : U * S / (y * S) = U / y ∧ U * S % (y * S) / S = U % y := by
  constructor
  · exact Nat.mul_div_mul_right _ _ hS
  · rw [Nat.mul_mod_mul_right]; exact Nat.mul_div_cancel _ hS
theorem wrapV (x : Int) : IntKind.u64.wrap x = x % 18446744073709551616 := IntKind.wrap_u64 x
theorem dv_rest {u d Y q : Nat} (hY : Y < 18446744073709551616) (hY0 : 0 < Y) (hq : q = (u * 4294967296 + d) / Y) :
    IntKind.u64.wrap (IntKind.u64.wrap (IntKind.u64.wrap ((u : Int) * 4294967296) + (d : Int)) - IntKind.u64.wrap ((q : Int) * (Y : Int))) = (((u * 4294967296 + d) % Y : Nat) : Int) := by
  have h1 := Nat.div_add_mod (u * 4294967296 + d) Y
  have h2 := Nat.mod_lt (u * 4294967296 + d) hY0
  rw [← hq] at h1
  obtain ⟨r, hr⟩ : ∃ r, r = (u * 4294967296 + d) % Y := ⟨_, rfl⟩
  rw [← hr] at h1 h2 ⊢
  have h3 : ((q : Int) * (Y : Int)) = ((Y * q : Nat) : Int) := by rw [Nat.mul_comm]; simp
  obtain ⟨P, hP⟩ : ∃ P, P = Y * q := ⟨_, rfl⟩
  rw [← hP] at h1 h3
  rw [h3, wrapV, wrapV, wrapV, wrapV]
  omega
set_option maxRecDepth 100000 in
set_option maxHeartbeats 6400000 in
theorem bitsDiv64_any (u1 u0 y : Nat) (w : World) (hy : y < 18446744073709551616) (hu1 : u1 < y) (hu0 : u0 < 18446744073709551616) :
    Calls Tryz.prog 236 #[.int .u64 u1, .int .u64 u0, .int .u64 y] w fun e w' => e = .returned (.tuple #[.int .u64 ((u1 * 18446744073709551616 + u0) / y : Nat), .int .u64 ((u1 * 18446744073709551616 + u0) % y : Nat)]) ∧ ∃ n, w' = w.drewN n := by
  have hy0 : 0 < y := by omega
  have t1 : ((y : Int) == 0) = false := by rw [beq_eq_false_iff_ne]; omega
  have t2 : decide ((y : Int) ≤ (u1 : Int)) = false := decide_eq_false (by omega)
  have t2' : decide (y ≤ u1) = false := decide_eq_false (by omega)
  by_cases hz : u1 = 0
  · have t3 : ((u1 : Int) == 0) = true := by rw [hz]; rfl
    have e1 : (u0 : Int) / (y : Int) = ((u0 / y : Nat) : Int) := by simp
    have e2 : (u0 : Int) % (y : Int) = ((u0 % y : Nat) : Int) := by simp
    have e3 : u1 * 18446744073709551616 + u0 = u0 := by rw [hz]; simp
    have ne0 : ¬ ((y : Int) = 0) := by omega
    have e4 : (u0 : Int).tdiv (y : Int) = ((u0 / y : Nat) : Int) := rfl
    have e5 : (u0 : Int).tmod (y : Int) = ((u0 % y : Nat) : Int) := rfl
    rw [e3]
    obtain ⟨a, ha⟩ : ∃ a, a = u0 / y := ⟨_, rfl⟩
    obtain ⟨b, hb⟩ : ∃ b, b = u0 % y := ⟨_, rfl⟩
    have hab : a < 18446744073709551616 := Nat.lt_of_le_of_lt (by rw [ha]; exact Nat.div_le_self _ _) hu0
    have hbb : b < 18446744073709551616 := by have := Nat.mod_lt u0 hy0; omega
    rw [← ha] at e1 e4 ⊢
    rw [← hb] at e2 e5 ⊢
    have e6 : IntKind.u64.wrap (a : Int) = (a : Int) := by rw [wrapV]; omega
    have e7 : IntKind.u64.wrap (b : Int) = (b : Int) := by rw [wrapV]; omega
    clear hz e3 ha hb
    go_enter Tryz.func236, Tryz.ntmps236
    go_wp2_with fail
    go_quiet (fail)
    go_wp2
    go_ret2
    exact ⟨rfl, _, rfl⟩
  · have t3 : ((u1 : Int) == 0) = false := by rw [beq_eq_false_iff_ne]; omega
    have hbl := bl_le64 hy
    have hbp := bl_pos hy0
    obtain ⟨s, hs⟩ : ∃ s, s = 64 - bl y := ⟨_, rfl⟩
    have hs63 : s ≤ 63 := by omega
    obtain ⟨S, hS⟩ : ∃ S, S = 2 ^ s := ⟨_, rfl⟩
    obtain ⟨T, hT⟩ : ∃ T, T = 2 ^ (64 - s) := ⟨_, rfl⟩
    have hS0 : 0 < S := by rw [hS]; exact Nat.two_pow_pos _
    have hT0 : 0 < T := by rw [hT]; exact Nat.two_pow_pos _
    have hST : S * T = 18446744073709551616 := by
      rw [hS, hT, ← Nat.pow_add, show s + (64 - s) = 64 by omega]
    have hyS : y * S < 18446744073709551616 := by
      have h1 := Nat.mul_lt_mul_of_pos_right (lt_bl y) (Nat.two_pow_pos s)
      rw [← Nat.pow_add, show bl y + s = 64 by omega, ← hS] at h1
      exact h1
    have hyS2 : 9223372036854775808 ≤ y * S := by
      have h1 := Nat.mul_le_mul_right (2 ^ s) (bl_ge hy0)
      rw [← Nat.pow_add, show bl y - 1 + s = 63 by omega, ← hS] at h1
      exact h1
    obtain ⟨d1, d2, d3, d4, d5⟩ := dv_two hy0 hu1 hu0 hST hyS hS0 hT0 hS
    have hS2 : (2 : Int) ^ s = (S : Int) := by rw [hS]; simp
    have hT2 : (2 : Int) ^ (64 - s) = (T : Int) := by rw [hT]; simp
    have hs6 : (64 : Int) - (s : Int) = ((64 - s : Nat) : Int) := by omega
    have hlz : ((64 - bl y : Nat) : Int) = (s : Int) := by rw [hs]
    obtain ⟨Y, hY⟩ : ∃ Y, Y = y * S := ⟨_, rfl⟩
    rw [← hY] at hyS hyS2 d1
    have a1 : IntKind.u64.wrap ((y : Int) * (S : Int)) = (Y : Int) := by
      have : (y : Int) * (S : Int) = (Y : Int) := by rw [hY]; simp
      rw [this, wrapV]; omega
    obtain ⟨A, hA⟩ : ∃ A, A = u1 * S := ⟨_, rfl⟩
    obtain ⟨B, hB⟩ : ∃ B, B = u0 / T := ⟨_, rfl⟩
    rw [← hA, ← hB] at d1 d2 d3
    rw [← hB] at d5
    have a2 : IntKind.u64.wrap ((u1 : Int) * (S : Int)) = (A : Int) := by
      have : (u1 : Int) * (S : Int) = (A : Int) := by rw [hA]; simp
      rw [this, wrapV]; omega
    have a3 : (u0 : Int) / (T : Int) = (B : Int) := by rw [hB]; simp
    obtain ⟨C, hC⟩ : ∃ C, C = u0 % T * S := ⟨_, rfl⟩
    rw [← hC] at d3 d4
    have a4 : IntKind.u64.wrap ((u0 : Int) * (S : Int)) = (C : Int) := by
      have h1 := Nat.div_add_mod u0 T
      rw [← hB] at h1
      have h2 : u0 * S = B * 18446744073709551616 + C := by
        rw [← hST, hC]
        conv => lhs; rw [← h1]
        rw [Nat.add_mul, Nat.mul_comm T B, Nat.mul_assoc, Nat.mul_comm T S]
      have : (u0 : Int) * (S : Int) = ((u0 * S : Nat) : Int) := by simp
      rw [this, h2, wrapV]; omega
    obtain ⟨u, hu⟩ : ∃ u, u = A + B := ⟨_, rfl⟩
    rw [← hu] at d1 d2 d3
    have a5 : bits .or .u64 (A : Int) (B : Int) = (u : Int) := by
      rw [u64_or_nat A B (by omega) (by omega), nat_join s A B (by rw [hA, hS]; exact Nat.mul_mod_left _ _) (by rw [← hS]; exact d5), hu]
    obtain ⟨y1, hy1⟩ : ∃ y1, y1 = Y / 4294967296 := ⟨_, rfl⟩
    obtain ⟨y2, hy2⟩ : ∃ y2, y2 = Y % 4294967296 := ⟨_, rfl⟩
    have a6 : (Y : Int) / 4294967296 = (y1 : Int) := by omega
    have mask : ∀ z : Nat, z < 18446744073709551616 → bits .and .u64 (z : Int) 4294967295 = ((z % 4294967296 : Nat) : Int) := fun z hz => by
      rw [show (4294967295 : Int) = ((4294967295 : Nat) : Int) from rfl, u64_and_nat z _ hz (by decide), show (4294967295 : Nat) = 2 ^ 32 - 1 from rfl, Nat.and_two_pow_sub_one_eq_mod]
    have a7 : bits .and .u64 (Y : Int) 4294967295 = (y2 : Int) := by rw [mask Y hyS, hy2]
    obtain ⟨c1, hc1⟩ : ∃ c1, c1 = C / 4294967296 := ⟨_, rfl⟩
    obtain ⟨c0, hc0⟩ : ∃ c0, c0 = C % 4294967296 := ⟨_, rfl⟩
    have a8 : (C : Int) / 4294967296 = (c1 : Int) := by omega
    have a9 : bits .and .u64 (C : Int) 4294967295 = (c0 : Int) := by rw [mask C d4, hc0]
    have hYY : Y = y1 * 4294967296 + y2 := by omega
    have hy1b : 2147483648 ≤ y1 ∧ y1 < 4294967296 := by omega
    have hy2b : y2 < 4294967296 := by omega
    have hcb : c1 < 4294967296 ∧ c0 < 4294967296 := by omega
    have hul : u < 18446744073709551616 := d2
    have huY : u < y1 * 4294967296 + y2 := by omega
    obtain ⟨v1, v2⟩ := dv_scale (U := u1 * 18446744073709551616 + u0) (y := y) hS0
    have hC2 : C = c1 * 4294967296 + c0 := by omega
    obtain ⟨j1, j2⟩ := dv_join (U := (u1 * 18446744073709551616 + u0) * S) (Y := Y) (un32 := u) (un1 := c1) (un0 := c0) (by omega) (by rw [d3, hC2, Nat.add_assoc])
    rw [← hY] at v1 v2
    rw [j1] at v1
    rw [j2] at v2
    obtain ⟨q1, hq1⟩ : ∃ q, q = (u * 4294967296 + c1) / Y := ⟨_, rfl⟩
    obtain ⟨r1, hr1⟩ : ∃ r, r = (u * 4294967296 + c1) % Y := ⟨_, rfl⟩
    have b1 := dv_rest (u := u) (d := c1) (Y := Y) (q := q1) hyS (by omega) hq1
    have hr1Y : r1 < Y := by rw [hr1]; exact Nat.mod_lt _ (by omega)
    rw [← hr1] at b1 v1 v2
    rw [← hq1] at v1
    obtain ⟨q0, hq0⟩ : ∃ q, q = (r1 * 4294967296 + c0) / Y := ⟨_, rfl⟩
    obtain ⟨r0, hr0⟩ : ∃ r, r = (r1 * 4294967296 + c0) % Y := ⟨_, rfl⟩
    have b0 := dv_rest (u := r1) (d := c0) (Y := Y) (q := q0) hyS (by omega) hq0
    have hr0Y : r0 < Y := by rw [hr0]; exact Nat.mod_lt _ (by omega)
    rw [← hr0] at b0 v2
    rw [← hq0] at v1
    have hq1b : q1 < 4294967296 := by
      rw [hq1]; exact Nat.div_lt_of_lt_mul (by rw [hYY, Nat.mul_comm]; omega)
    have hq0b : q0 < 4294967296 := by
      rw [hq0]; exact Nat.div_lt_of_lt_mul (by rw [Nat.mul_comm]; omega)
    have K1 : Hid (KnI y1 y2 u c1 (u / y1) (u % y1)) := Lib.hid (KnI.start hy1b.1 hy1b.2 hy2b huY hcb.1)
    have K0 : Hid (KnI y1 y2 r1 c0 (r1 / y1) (r1 % y1)) := Lib.hid (KnI.start hy1b.1 hy1b.2 hy2b (by omega) hcb.2)
    have NX1 := Lib.hid (fun Q R (h : KnI y1 y2 u c1 Q R) => KnI.next (by omega) h hcb.1 huY)
    have NX0 := Lib.hid (fun Q R (h : KnI y1 y2 r1 c0 Q R) => KnI.next (by omega) h hcb.2 (by omega))
    have DN1 : Hid (∀ Q R, Q * y1 + R = u → (u * 4294967296 + c1) / (y1 * 4294967296 + y2) ≤ Q → Q * y2 ≤ R * 4294967296 + c1 → Q = q1) := Lib.hid (fun Q R h1 h2 h3 => by rw [hq1, hYY]; exact KnI.done (by omega) h1 h2 h3)
    have DN0 : Hid (∀ Q R, Q * y1 + R = r1 → (r1 * 4294967296 + c0) / (y1 * 4294967296 + y2) ≤ Q → Q * y2 ≤ R * 4294967296 + c0 → Q = q0) := Lib.hid (fun Q R h1 h2 h3 => by rw [hq0, hYY]; exact KnI.done (by omega) h1 h2 h3)
    have quo : ∀ z : Nat, z < 18446744073709551616 → (z : Int) / (y1 : Int) = ((z / y1 : Nat) : Int) ∧ (z : Int).tdiv (y1 : Int) = ((z / y1 : Nat) : Int) ∧ IntKind.u64.wrap (((z / y1 : Nat) : Int)) = ((z / y1 : Nat) : Int) ∧ IntKind.u64.wrap ((z : Int) - IntKind.u64.wrap (((z / y1 : Nat) : Int) * (y1 : Int))) = ((z % y1 : Nat) : Int) := fun z hz => by
      have h1 := Nat.div_add_mod z y1
      have h2 := Nat.div_le_self z y1
      have h4 : (z : Int) / (y1 : Int) = ((z / y1 : Nat) : Int) := by simp
      have h5 : (z : Int).tdiv (y1 : Int) = ((z / y1 : Nat) : Int) := rfl
      generalize z / y1 = q at *
      generalize z % y1 = r at *
      have h3 : (q : Int) * (y1 : Int) = ((y1 * q : Nat) : Int) := by rw [Nat.mul_comm]; simp
      refine ⟨h4, h5, by rw [wrapV]; omega, ?_⟩
      rw [h3, wrapV, wrapV]
      generalize y1 * q = P at *
      omega
    obtain ⟨g1, g2, g3, g4⟩ := quo u hul
    obtain ⟨k1, k2, k3, k4⟩ := quo r1 (by omega)
    obtain ⟨qa, hqa⟩ : ∃ q, q = u / y1 := ⟨_, rfl⟩
    obtain ⟨ra, hra⟩ : ∃ q, q = u % y1 := ⟨_, rfl⟩
    obtain ⟨qb, hqb⟩ : ∃ q, q = r1 / y1 := ⟨_, rfl⟩
    obtain ⟨rb, hrb⟩ : ∃ q, q = r1 % y1 := ⟨_, rfl⟩
    rw [← hqa] at g1 g2 g3 g4 K1
    rw [← hra] at g4 K1
    rw [← hqb] at k1 k2 k3 k4 K0
    rw [← hrb] at k4 K0
    have hrab : ra < 4294967296 := K1.out.2.2.2
    have hrbb : rb < 4294967296 := K0.out.2.2.2
    have hqab : qa ≤ 4294967297 := K1.out.2.2.1
    have hqbb : qb ≤ 4294967297 := K0.out.2.2.1
    obtain ⟨N, hN⟩ : ∃ N, N = (u1 * 18446744073709551616 + u0) / y := ⟨_, rfl⟩
    obtain ⟨M, hM⟩ : ∃ M, M = (u1 * 18446744073709551616 + u0) % y := ⟨_, rfl⟩
    rw [← hN] at v1 ⊢
    rw [← hM] at v2 ⊢
    have hMy : M < y := by rw [hM]; exact Nat.mod_lt _ hy0
    have v3 : (r0 : Int) / (S : Int) = (M : Int) := by rw [← v2]; simp
    have HV1 := Lib.hid v1
    have HV3 := Lib.hid v3
    clear hN hM
    have HYY := Lib.hid hYY
    have HUY := Lib.hid huY
    clear quo hqa hra hqb hrb hC2 v1 v2 v3 hYY huY hz hs hS hT hbl hbp hY hA hB hC hu hy1 hy2 hc1 hc0 hq1 hr1 hq0 hr0 d1 d2 d3 d5 hST mask j1 j2
    go_enter Tryz.func236, Tryz.ntmps236
    go_wp2_with fail
    refine (lz64 y _ hy).mono ?_
    rintro _ _ ⟨rfl, rfl⟩
    rw [hlz]
    go_wp2_with fail
    go_loop [15, 16] (fun q r => ∃ Q R : Nat, q = .int .u64 Q ∧ r = .int .u64 R ∧ KnI y1 y2 u c1 Q R) (fun q _ => (intOf q).toNat)
    case atStart => exact ⟨qa, ra, rfl, rfl, K1.out⟩
    case round =>
      obtain ⟨Q, R, rfl, rfl, hI⟩ := hrel
      have hQb : Q ≤ 4294967297 := hI.2.2.1
      have hRb : R < 4294967296 := hI.2.2.2
      have HI := Lib.hid hI
      clear hI
      have hRm : (4294967296 : Int) * (R : Int) + (c1 : Int) < 18446744073709551616 := by omega
      by_cases hx : 4294967296 ≤ Q ∨ R * 4294967296 + c1 < Q * y2
      · obtain ⟨n1, n2, n3⟩ := NX1.out Q R HI.out hx
        have hN2 := Lib.hid n2
        have hN3 := Lib.hid n3
        obtain ⟨P, hP⟩ : ∃ P, P = Q * y2 := ⟨_, rfl⟩
        have hPQ : (Q : Int) * (y2 : Int) = (P : Int) := by rw [hP]; simp
        have hPb : Q < 4294967296 → P < 18446744073709551616 := fun h => by rw [hP]; exact kn_mul h hy2b
        rw [← hP] at hx
        obtain ⟨Q', hQ'⟩ : ∃ Q', Q' = Q - 1 := ⟨_, rfl⟩
        have eQ : (Q : Int) - 1 = (Q' : Int) := by omega
        have hQ'b : Q' ≤ 4294967296 := by omega
        obtain ⟨R', hR'⟩ : ∃ R', R' = R + y1 := ⟨_, rfl⟩
        have eR : (R : Int) + (y1 : Int) = (R' : Int) := by omega
        have hR'b : R' < 18446744073709551616 := by omega
        rw [← hQ', ← hR'] at hN2
        rw [← hQ'] at hN3
        have hlo : Q' < Q := by omega
        by_cases hbig : 4294967296 ≤ Q
        · have w1 : decide ((4294967296 : Int) ≤ ((Q : Nat) : Int)) = true := decide_eq_true (by omega)
          have w1' : decide (4294967296 ≤ Q) = true := decide_eq_true hbig
          by_cases hrb2 : 4294967296 ≤ R'
          · have w2 : decide ((4294967296 : Int) ≤ (R' : Int)) = true := decide_eq_true (by omega)
            have w2' : decide (4294967296 ≤ R') = true := decide_eq_true hrb2
            have HD : Hid (Q' = q1) := Lib.hid (DN1.out Q' R' hN2.out hN3.out (kn_big hQ'b hy2b hrb2))
            clear hx hP hR' hQ' hbig n1 n2 n3 hrb2
            have hQq := HD.out
            subst hQq
            clear HD
            go_wp2_with fail
            go_loop [18, 16] (fun q r => ∃ B G : Nat, q = .int .u64 B ∧ r = .int .u64 G ∧ KnI y1 y2 r1 c0 B G) (fun q _ => (intOf q).toNat)
            case atStart => exact ⟨qb, rb, rfl, rfl, K0.out⟩
            case round =>
              obtain ⟨B, G, rfl, rfl, hI⟩ := hrel
              have hQb : B ≤ 4294967297 := hI.2.2.1
              have hRb : G < 4294967296 := hI.2.2.2
              have HI := Lib.hid hI
              clear hI
              have hRm : (4294967296 : Int) * (G : Int) + (c0 : Int) < 18446744073709551616 := by omega
              by_cases hx : 4294967296 ≤ B ∨ G * 4294967296 + c0 < B * y2
              · obtain ⟨n1, n2, n3⟩ := NX0.out B G HI.out hx
                have hN2 := Lib.hid n2
                have hN3 := Lib.hid n3
                obtain ⟨P, hP⟩ : ∃ P, P = B * y2 := ⟨_, rfl⟩
                have hPQ : (B : Int) * (y2 : Int) = (P : Int) := by rw [hP]; simp
                have hPb : B < 4294967296 → P < 18446744073709551616 := fun h => by rw [hP]; exact kn_mul h hy2b
                rw [← hP] at hx
                obtain ⟨B', hB'⟩ : ∃ B', B' = B - 1 := ⟨_, rfl⟩
                have eQ : (B : Int) - 1 = (B' : Int) := by omega
                have hB'b : B' ≤ 4294967296 := by omega
                obtain ⟨G', hR'⟩ : ∃ G', G' = G + y1 := ⟨_, rfl⟩
                have eR : (G : Int) + (y1 : Int) = (G' : Int) := by omega
                have hR'b : G' < 18446744073709551616 := by omega
                rw [← hB', ← hR'] at hN2
                rw [← hB'] at hN3
                have hlo : B' < B := by omega
                by_cases hbig : 4294967296 ≤ B
                · have w1 : decide ((4294967296 : Int) ≤ ((B : Nat) : Int)) = true := decide_eq_true (by omega)
                  have w1' : decide (4294967296 ≤ B) = true := decide_eq_true hbig
                  by_cases hrb2 : 4294967296 ≤ G'
                  · have w2 : decide ((4294967296 : Int) ≤ (G' : Int)) = true := decide_eq_true (by omega)
                    have w2' : decide (4294967296 ≤ G') = true := decide_eq_true hrb2
                    have HD : Hid (B' = q0) := Lib.hid (DN0.out B' G' hN2.out hN3.out (kn_big hB'b hy2b hrb2))
                    clear hx hP hR' hB' hbig n1 n2 n3 hrb2
                    have hQq := HD.out
                    subst hQq
                    have hv := HV1.out
                    have hNN : (N : Int) = (Q' : Int) * 4294967296 + (B' : Int) := by omega
                    have HNN := Lib.hid hNN
                    have v3 := HV3.out
                    clear hNN hv
                    go_wp2_with fail
                    go_ret2
                    refine ⟨?_, 0, rfl⟩
                    rw [HNN.out]
                    rfl
                  · have w2 : decide ((4294967296 : Int) ≤ (G' : Int)) = false := decide_eq_false (by omega)
                    have w2' : decide (4294967296 ≤ G') = false := decide_eq_false hrb2
                    have HN : Hid (KnI y1 y2 r1 c0 B' G') := Lib.hid ⟨hN2.out, hN3.out, by omega, by omega⟩
                    clear hx hP hR' hB' hbig n1 n2 n3 hrb2
                    go_wp2
                    exact ⟨⟨B', G', by go_num, by go_num, HN.out⟩, by simp [intOf]; omega⟩
                · have w1 : decide ((4294967296 : Int) ≤ ((B : Nat) : Int)) = false := decide_eq_false (by omega)
                  have w1' : decide (4294967296 ≤ B) = false := decide_eq_false hbig
                  have hlt : G * 4294967296 + c0 < P := by rcases hx with h | h; exact absurd h hbig; exact h
                  have hPb2 : P < 18446744073709551616 := hPb (by omega)
                  have w3 : decide ((4294967296 : Int) * (G : Int) + (c0 : Int) < (P : Int)) = true := decide_eq_true (by omega)
                  by_cases hrb2 : 4294967296 ≤ G'
                  · have w2 : decide ((4294967296 : Int) ≤ (G' : Int)) = true := decide_eq_true (by omega)
                    have w2' : decide (4294967296 ≤ G') = true := decide_eq_true hrb2
                    have HD : Hid (B' = q0) := Lib.hid (DN0.out B' G' hN2.out hN3.out (kn_big hB'b hy2b hrb2))
                    clear hx hP hR' hB' hbig n1 n2 n3 hrb2 hlt hPb
                    have hQq := HD.out
                    subst hQq
                    have hv := HV1.out
                    have hNN : (N : Int) = (Q' : Int) * 4294967296 + (B' : Int) := by omega
                    have HNN := Lib.hid hNN
                    have v3 := HV3.out
                    clear hNN hv
                    go_wp2_with fail
                    go_ret2
                    refine ⟨?_, 0, rfl⟩
                    rw [HNN.out]
                    rfl
                  · have w2 : decide ((4294967296 : Int) ≤ (G' : Int)) = false := decide_eq_false (by omega)
                    have w2' : decide (4294967296 ≤ G') = false := decide_eq_false hrb2
                    have HN : Hid (KnI y1 y2 r1 c0 B' G') := Lib.hid ⟨hN2.out, hN3.out, by omega, by omega⟩
                    clear hx hP hR' hB' hbig n1 n2 n3 hrb2 hlt hPb
                    go_wp2
                    exact ⟨⟨B', G', by go_num, by go_num, HN.out⟩, by simp [intOf]; omega⟩
              · have hx1 : B < 4294967296 := by omega
                have hx2 : B * y2 ≤ G * 4294967296 + c0 := by omega
                have HD : Hid (B = q0) := Lib.hid (DN0.out B G HI.out.1 HI.out.2.1 hx2)
                obtain ⟨P, hP⟩ : ∃ P, P = B * y2 := ⟨_, rfl⟩
                have hPQ : (B : Int) * (y2 : Int) = (P : Int) := by rw [hP]; simp
                have hPb2 : P < 18446744073709551616 := by rw [hP]; exact kn_mul hx1 hy2b
                rw [← hP] at hx2
                have w1 : decide ((4294967296 : Int) ≤ (B : Int)) = false := decide_eq_false (by omega)
                have w1' : decide (4294967296 ≤ B) = false := decide_eq_false (by omega)
                have w3 : decide ((4294967296 : Int) * (G : Int) + (c0 : Int) < (P : Int)) = false := decide_eq_false (by omega)
                clear hx hx2 hP
                have hQq := HD.out
                subst hQq
                have hv := HV1.out
                have hNN : (N : Int) = (Q' : Int) * 4294967296 + (B : Int) := by omega
                have HNN := Lib.hid hNN
                have v3 := HV3.out
                clear hNN hv
                go_wp2_with fail
                go_ret2
                refine ⟨?_, 0, rfl⟩
                rw [HNN.out]
                rfl
          · have w2 : decide ((4294967296 : Int) ≤ (R' : Int)) = false := decide_eq_false (by omega)
            have w2' : decide (4294967296 ≤ R') = false := decide_eq_false hrb2
            have HN : Hid (KnI y1 y2 u c1 Q' R') := Lib.hid ⟨hN2.out, hN3.out, by omega, by omega⟩
            clear hx hP hR' hQ' hbig n1 n2 n3 hrb2
            go_wp2
            exact ⟨⟨Q', R', by go_num, by go_num, HN.out⟩, by simp [intOf]; omega⟩
        · have w1 : decide ((4294967296 : Int) ≤ ((Q : Nat) : Int)) = false := decide_eq_false (by omega)
          have w1' : decide (4294967296 ≤ Q) = false := decide_eq_false hbig
          have hlt : R * 4294967296 + c1 < P := by rcases hx with h | h; exact absurd h hbig; exact h
          have hPb2 : P < 18446744073709551616 := hPb (by omega)
          have w3 : decide ((4294967296 : Int) * (R : Int) + (c1 : Int) < (P : Int)) = true := decide_eq_true (by omega)
          by_cases hrb2 : 4294967296 ≤ R'
          · have w2 : decide ((4294967296 : Int) ≤ (R' : Int)) = true := decide_eq_true (by omega)
            have w2' : decide (4294967296 ≤ R') = true := decide_eq_true hrb2
            have HD : Hid (Q' = q1) := Lib.hid (DN1.out Q' R' hN2.out hN3.out (kn_big hQ'b hy2b hrb2))
            clear hx hP hR' hQ' hbig n1 n2 n3 hrb2 hlt hPb
            have hQq := HD.out
            subst hQq
            clear HD
            go_wp2_with fail
            go_loop [18, 16] (fun q r => ∃ B G : Nat, q = .int .u64 B ∧ r = .int .u64 G ∧ KnI y1 y2 r1 c0 B G) (fun q _ => (intOf q).toNat)
            case atStart => exact ⟨qb, rb, rfl, rfl, K0.out⟩
            case round =>
              obtain ⟨B, G, rfl, rfl, hI⟩ := hrel
              have hQb : B ≤ 4294967297 := hI.2.2.1
              have hRb : G < 4294967296 := hI.2.2.2
              have HI := Lib.hid hI
              clear hI
              have hRm : (4294967296 : Int) * (G : Int) + (c0 : Int) < 18446744073709551616 := by omega
              by_cases hx : 4294967296 ≤ B ∨ G * 4294967296 + c0 < B * y2
              · obtain ⟨n1, n2, n3⟩ := NX0.out B G HI.out hx
                have hN2 := Lib.hid n2
                have hN3 := Lib.hid n3
                obtain ⟨P, hP⟩ : ∃ P, P = B * y2 := ⟨_, rfl⟩
                have hPQ : (B : Int) * (y2 : Int) = (P : Int) := by rw [hP]; simp
                have hPb : B < 4294967296 → P < 18446744073709551616 := fun h => by rw [hP]; exact kn_mul h hy2b
                rw [← hP] at hx
                obtain ⟨B', hB'⟩ : ∃ B', B' = B - 1 := ⟨_, rfl⟩
                have eQ : (B : Int) - 1 = (B' : Int) := by omega
                have hB'b : B' ≤ 4294967296 := by omega
                obtain ⟨G', hR'⟩ : ∃ G', G' = G + y1 := ⟨_, rfl⟩
                have eR : (G : Int) + (y1 : Int) = (G' : Int) := by omega
                have hR'b : G' < 18446744073709551616 := by omega
                rw [← hB', ← hR'] at hN2
                rw [← hB'] at hN3
                have hlo : B' < B := by omega
                by_cases hbig : 4294967296 ≤ B
                · have w1 : decide ((4294967296 : Int) ≤ ((B : Nat) : Int)) = true := decide_eq_true (by omega)
                  have w1' : decide (4294967296 ≤ B) = true := decide_eq_true hbig
                  by_cases hrb2 : 4294967296 ≤ G'
                  · have w2 : decide ((4294967296 : Int) ≤ (G' : Int)) = true := decide_eq_true (by omega)
                    have w2' : decide (4294967296 ≤ G') = true := decide_eq_true hrb2
                    have HD : Hid (B' = q0) := Lib.hid (DN0.out B' G' hN2.out hN3.out (kn_big hB'b hy2b hrb2))
                    clear hx hP hR' hB' hbig n1 n2 n3 hrb2
                    have hQq := HD.out
                    subst hQq
                    have hv := HV1.out
                    have hNN : (N : Int) = (Q' : Int) * 4294967296 + (B' : Int) := by omega
                    have HNN := Lib.hid hNN
                    have v3 := HV3.out
                    clear hNN hv
                    go_wp2_with fail
                    go_ret2
                    refine ⟨?_, 0, rfl⟩
                    rw [HNN.out]
                    rfl
                  · have w2 : decide ((4294967296 : Int) ≤ (G' : Int)) = false := decide_eq_false (by omega)
                    have w2' : decide (4294967296 ≤ G') = false := decide_eq_false hrb2
                    have HN : Hid (KnI y1 y2 r1 c0 B' G') := Lib.hid ⟨hN2.out, hN3.out, by omega, by omega⟩
                    clear hx hP hR' hB' hbig n1 n2 n3 hrb2
                    go_wp2
                    exact ⟨⟨B', G', by go_num, by go_num, HN.out⟩, by simp [intOf]; omega⟩
                · have w1 : decide ((4294967296 : Int) ≤ ((B : Nat) : Int)) = false := decide_eq_false (by omega)
                  have w1' : decide (4294967296 ≤ B) = false := decide_eq_false hbig
                  have hlt : G * 4294967296 + c0 < P := by rcases hx with h | h; exact absurd h hbig; exact h
                  have hPb2 : P < 18446744073709551616 := hPb (by omega)
                  have w3 : decide ((4294967296 : Int) * (G : Int) + (c0 : Int) < (P : Int)) = true := decide_eq_true (by omega)
                  by_cases hrb2 : 4294967296 ≤ G'
                  · have w2 : decide ((4294967296 : Int) ≤ (G' : Int)) = true := decide_eq_true (by omega)
                    have w2' : decide (4294967296 ≤ G') = true := decide_eq_true hrb2
                    have HD : Hid (B' = q0) := Lib.hid (DN0.out B' G' hN2.out hN3.out (kn_big hB'b hy2b hrb2))
                    clear hx hP hR' hB' hbig n1 n2 n3 hrb2 hlt hPb
                    have hQq := HD.out
                    subst hQq
                    have hv := HV1.out
                    have hNN : (N : Int) = (Q' : Int) * 4294967296 + (B' : Int) := by omega
                    have HNN := Lib.hid hNN
                    have v3 := HV3.out
                    clear hNN hv
                    go_wp2_with fail
                    go_ret2
                    refine ⟨?_, 0, rfl⟩
                    rw [HNN.out]
                    rfl
                  · have w2 : decide ((4294967296 : Int) ≤ (G' : Int)) = false := decide_eq_false (by omega)
                    have w2' : decide (4294967296 ≤ G') = false := decide_eq_false hrb2
                    have HN : Hid (KnI y1 y2 r1 c0 B' G') := Lib.hid ⟨hN2.out, hN3.out, by omega, by omega⟩
                    clear hx hP hR' hB' hbig n1 n2 n3 hrb2 hlt hPb
                    go_wp2
                    exact ⟨⟨B', G', by go_num, by go_num, HN.out⟩, by simp [intOf]; omega⟩
              · have hx1 : B < 4294967296 := by omega
                have hx2 : B * y2 ≤ G * 4294967296 + c0 := by omega
                have HD : Hid (B = q0) := Lib.hid (DN0.out B G HI.out.1 HI.out.2.1 hx2)
                obtain ⟨P, hP⟩ : ∃ P, P = B * y2 := ⟨_, rfl⟩
                have hPQ : (B : Int) * (y2 : Int) = (P : Int) := by rw [hP]; simp
                have hPb2 : P < 18446744073709551616 := by rw [hP]; exact kn_mul hx1 hy2b
                rw [← hP] at hx2
                have w1 : decide ((4294967296 : Int) ≤ (B : Int)) = false := decide_eq_false (by omega)
                have w1' : decide (4294967296 ≤ B) = false := decide_eq_false (by omega)
                have w3 : decide ((4294967296 : Int) * (G : Int) + (c0 : Int) < (P : Int)) = false := decide_eq_false (by omega)
                clear hx hx2 hP
                have hQq := HD.out
                subst hQq
                have hv := HV1.out
                have hNN : (N : Int) = (Q' : Int) * 4294967296 + (B : Int) := by omega
                have HNN := Lib.hid hNN
                have v3 := HV3.out
                clear hNN hv
                go_wp2_with fail
                go_ret2
                refine ⟨?_, 0, rfl⟩
                rw [HNN.out]
                rfl
          · have w2 : decide ((4294967296 : Int) ≤ (R' : Int)) = false := decide_eq_false (by omega)
            have w2' : decide (4294967296 ≤ R') = false := decide_eq_false hrb2
            have HN : Hid (KnI y1 y2 u c1 Q' R') := Lib.hid ⟨hN2.out, hN3.out, by omega, by omega⟩
            clear hx hP hR' hQ' hbig n1 n2 n3 hrb2 hlt hPb
            go_wp2
            exact ⟨⟨Q', R', by go_num, by go_num, HN.out⟩, by simp [intOf]; omega⟩
      · have hx1 : Q < 4294967296 := by omega
        have hx2 : Q * y2 ≤ R * 4294967296 + c1 := by omega
        have HD : Hid (Q = q1) := Lib.hid (DN1.out Q R HI.out.1 HI.out.2.1 hx2)
        obtain ⟨P, hP⟩ : ∃ P, P = Q * y2 := ⟨_, rfl⟩
        have hPQ : (Q : Int) * (y2 : Int) = (P : Int) := by rw [hP]; simp
        have hPb2 : P < 18446744073709551616 := by rw [hP]; exact kn_mul hx1 hy2b
        rw [← hP] at hx2
        have w1 : decide ((4294967296 : Int) ≤ (Q : Int)) = false := decide_eq_false (by omega)
        have w1' : decide (4294967296 ≤ Q) = false := decide_eq_false (by omega)
        have w3 : decide ((4294967296 : Int) * (R : Int) + (c1 : Int) < (P : Int)) = false := decide_eq_false (by omega)
        clear hx hx2 hP
        have hQq := HD.out
        subst hQq
        clear HD
        go_wp2_with fail
        go_loop [18, 16] (fun q r => ∃ B G : Nat, q = .int .u64 B ∧ r = .int .u64 G ∧ KnI y1 y2 r1 c0 B G) (fun q _ => (intOf q).toNat)
        case atStart => exact ⟨qb, rb, rfl, rfl, K0.out⟩
        case round =>
          obtain ⟨B, G, rfl, rfl, hI⟩ := hrel
          have hQb : B ≤ 4294967297 := hI.2.2.1
          have hRb : G < 4294967296 := hI.2.2.2
          have HI := Lib.hid hI
          clear hI
          have hRm : (4294967296 : Int) * (G : Int) + (c0 : Int) < 18446744073709551616 := by omega
          by_cases hx : 4294967296 ≤ B ∨ G * 4294967296 + c0 < B * y2
          · obtain ⟨n1, n2, n3⟩ := NX0.out B G HI.out hx
            have hN2 := Lib.hid n2
            have hN3 := Lib.hid n3
            obtain ⟨P, hP⟩ : ∃ P, P = B * y2 := ⟨_, rfl⟩
            have hPQ : (B : Int) * (y2 : Int) = (P : Int) := by rw [hP]; simp
            have hPb : B < 4294967296 → P < 18446744073709551616 := fun h => by rw [hP]; exact kn_mul h hy2b
            rw [← hP] at hx
            obtain ⟨B', hB'⟩ : ∃ B', B' = B - 1 := ⟨_, rfl⟩
            have eQ : (B : Int) - 1 = (B' : Int) := by omega
            have hB'b : B' ≤ 4294967296 := by omega
            obtain ⟨G', hR'⟩ : ∃ G', G' = G + y1 := ⟨_, rfl⟩
            have eR : (G : Int) + (y1 : Int) = (G' : Int) := by omega
            have hR'b : G' < 18446744073709551616 := by omega
            rw [← hB', ← hR'] at hN2
            rw [← hB'] at hN3
            have hlo : B' < B := by omega
            by_cases hbig : 4294967296 ≤ B
            · have w1 : decide ((4294967296 : Int) ≤ ((B : Nat) : Int)) = true := decide_eq_true (by omega)
              have w1' : decide (4294967296 ≤ B) = true := decide_eq_true hbig
              by_cases hrb2 : 4294967296 ≤ G'
              · have w2 : decide ((4294967296 : Int) ≤ (G' : Int)) = true := decide_eq_true (by omega)
                have w2' : decide (4294967296 ≤ G') = true := decide_eq_true hrb2
                have HD : Hid (B' = q0) := Lib.hid (DN0.out B' G' hN2.out hN3.out (kn_big hB'b hy2b hrb2))
                clear hx hP hR' hB' hbig n1 n2 n3 hrb2
                have hQq := HD.out
                subst hQq
                have hv := HV1.out
                have hNN : (N : Int) = (Q : Int) * 4294967296 + (B' : Int) := by omega
                have HNN := Lib.hid hNN
                have v3 := HV3.out
                clear hNN hv
                go_wp2_with fail
                go_ret2
                refine ⟨?_, 0, rfl⟩
                rw [HNN.out]
                rfl
              · have w2 : decide ((4294967296 : Int) ≤ (G' : Int)) = false := decide_eq_false (by omega)
                have w2' : decide (4294967296 ≤ G') = false := decide_eq_false hrb2
                have HN : Hid (KnI y1 y2 r1 c0 B' G') := Lib.hid ⟨hN2.out, hN3.out, by omega, by omega⟩
                clear hx hP hR' hB' hbig n1 n2 n3 hrb2
                go_wp2
                exact ⟨⟨B', G', by go_num, by go_num, HN.out⟩, by simp [intOf]; omega⟩
            · have w1 : decide ((4294967296 : Int) ≤ ((B : Nat) : Int)) = false := decide_eq_false (by omega)
              have w1' : decide (4294967296 ≤ B) = false := decide_eq_false hbig
              have hlt : G * 4294967296 + c0 < P := by rcases hx with h | h; exact absurd h hbig; exact h
              have hPb2 : P < 18446744073709551616 := hPb (by omega)
              have w3 : decide ((4294967296 : Int) * (G : Int) + (c0 : Int) < (P : Int)) = true := decide_eq_true (by omega)
              by_cases hrb2 : 4294967296 ≤ G'
              · have w2 : decide ((4294967296 : Int) ≤ (G' : Int)) = true := decide_eq_true (by omega)
                have w2' : decide (4294967296 ≤ G') = true := decide_eq_true hrb2
                have HD : Hid (B' = q0) := Lib.hid (DN0.out B' G' hN2.out hN3.out (kn_big hB'b hy2b hrb2))
                clear hx hP hR' hB' hbig n1 n2 n3 hrb2 hlt hPb
                have hQq := HD.out
                subst hQq
                have hv := HV1.out
                have hNN : (N : Int) = (Q : Int) * 4294967296 + (B' : Int) := by omega
                have HNN := Lib.hid hNN
                have v3 := HV3.out
                clear hNN hv
                go_wp2_with fail
                go_ret2
                refine ⟨?_, 0, rfl⟩
                rw [HNN.out]
                rfl
              · have w2 : decide ((4294967296 : Int) ≤ (G' : Int)) = false := decide_eq_false (by omega)
                have w2' : decide (4294967296 ≤ G') = false := decide_eq_false hrb2
                have HN : Hid (KnI y1 y2 r1 c0 B' G') := Lib.hid ⟨hN2.out, hN3.out, by omega, by omega⟩
                clear hx hP hR' hB' hbig n1 n2 n3 hrb2 hlt hPb
                go_wp2
                exact ⟨⟨B', G', by go_num, by go_num, HN.out⟩, by simp [intOf]; omega⟩
          · have hx1 : B < 4294967296 := by omega
            have hx2 : B * y2 ≤ G * 4294967296 + c0 := by omega
            have HD : Hid (B = q0) := Lib.hid (DN0.out B G HI.out.1 HI.out.2.1 hx2)
            obtain ⟨P, hP⟩ : ∃ P, P = B * y2 := ⟨_, rfl⟩
            have hPQ : (B : Int) * (y2 : Int) = (P : Int) := by rw [hP]; simp
            have hPb2 : P < 18446744073709551616 := by rw [hP]; exact kn_mul hx1 hy2b
            rw [← hP] at hx2
            have w1 : decide ((4294967296 : Int) ≤ (B : Int)) = false := decide_eq_false (by omega)
            have w1' : decide (4294967296 ≤ B) = false := decide_eq_false (by omega)
            have w3 : decide ((4294967296 : Int) * (G : Int) + (c0 : Int) < (P : Int)) = false := decide_eq_false (by omega)
            clear hx hx2 hP
            have hQq := HD.out
            subst hQq
            have hv := HV1.out
            have hNN : (N : Int) = (Q : Int) * 4294967296 + (B : Int) := by omega
            have HNN := Lib.hid hNN
            have v3 := HV3.out
            clear hNN hv
            go_wp2_with fail
            go_ret2
            refine ⟨?_, 0, rfl⟩
            rw [HNN.out]
            rfl
end Go.Proofs.YtllhnjpnkmjopaaGreatDoor
