/-
Texts of this proof, joined: DdA DdB DdC SkA InG InH InJ InL RcB SkB. No condition.
-/
import Derived.Test.YtllhnjpnkmjopaaGreatDoorK02
import Derived.Test.YtllhnjpnkmjopaaGreatDoorK03
import Derived.Test.YtllhnjpnkmjopaaGreatDoorK05
import Derived.Test.YtllhnjpnkmjopaaGreatDoorK06
import Derived.Test.YtllhnjpnkmjopaaGreatDoorK18
import Derived.Test.YtllhnjpnkmjopaaGreatDoorK21
import Derived.Test.YtllhnjpnkmjopaaGreatDoorK23
import Derived.Lib.AppendZeros
namespace Go.Proofs.YtllhnjpnkmjopaaGreatDoor
open Go.RowKit

theorem kd_le {D N T v r q V R : Nat} (hV : V = D * T + v) (hR : R = N * T + r) (hr : r < T) (hq : q * V ≤ R) : q * D ≤ N := by
  have h1 : q * D * T ≤ q * V := by rw [hV, Nat.mul_add, ← Nat.mul_assoc]; exact Nat.le_add_right _ _
  have h2 : q * D * T < (N + 1) * T := by rw [Nat.add_mul, Nat.one_mul]; omega
  have := Nat.lt_of_mul_lt_mul_right h2
  omega
theorem kd_ge {b D N T v r q V R : Nat} (hV : V = D * T + v) (hR : R = N * T + r) (hv : v < T) (hb : b * T ≤ V) (hVp : 0 < V) (h3 : q * D ≤ N) (hq : q ≤ b) : q * V < R + V := by
  have h1 : q * V = q * D * T + q * v := by rw [hV, Nat.mul_add, ← Nat.mul_assoc]
  have h2 : q * D * T ≤ N * T := Nat.mul_le_mul_right _ h3
  rcases Nat.eq_zero_or_pos q with h0 | h0
  · rw [h0, Nat.zero_mul]; omega
  · have h4 : q * v < q * T := (Nat.mul_lt_mul_left h0).2 hv
    have h5 : q * T ≤ b * T := Nat.mul_le_mul_right _ hq
    omega
theorem le_div_of {q V R : Nat} (hV : 0 < V) (h : q * V ≤ R) : q ≤ R / V := (Nat.le_div_iff_mul_le hV).2 h
theorem kd_near {q V R : Nat} (hV : 0 < V) (h : q * V < R + V) : q ≤ R / V + 1 := by
  have h1 : R < (R / V + 1) * V := by rw [Nat.add_mul, Nat.one_mul, Nat.mul_comm]; have := Nat.div_add_mod R V; have := Nat.mod_lt R hV; omega
  have h2 : q * V < (R / V + 2) * V := by rw [show R / V + 2 = R / V + 1 + 1 by omega, Nat.add_mul (R / V + 1), Nat.one_mul]; omega
  have := Nat.lt_of_mul_lt_mul_right h2
  omega
theorem kd_guess {b T v1 v2 v u2 u1 u0 r V R qh rh : Nat} (hV : V = (v1 * b + v2) * T + v) (hR : R = ((u2 * b + u1) * b + u0) * T + r) (hv : v < T) (hr : r < T) (hv1 : 0 < v1) (hb : 0 < b)
    (inv : qh * v1 + rh = u2 * b + u1) (up : (u2 * b + u1) * b + u0 < (qh + 1) * (v1 * b + v2)) (stop : qh * v2 ≤ rh * b + u0) (hq : qh ≤ b) : R / V ≤ qh ∧ qh ≤ R / V + 1 := by
  have hbT : b * T ≤ V := by
    have h1 : b ≤ v1 * b := Nat.le_mul_of_pos_left _ hv1
    have h2 : b * T ≤ (v1 * b + v2) * T := Nat.mul_le_mul_right _ (by omega)
    omega
  have hVp : 0 < V := by have := Nat.mul_pos hb (show 0 < T by omega); omega
  constructor
  · have h1 := kd_le (q := R / V) hV hR hr (Nat.div_mul_le_self R V)
    have h2 : R / V * (v1 * b + v2) < (qh + 1) * (v1 * b + v2) := Nat.lt_of_le_of_lt h1 up
    have := Nat.lt_of_mul_lt_mul_right h2
    omega
  · refine kd_near hVp (kd_ge hV hR hv hbT hVp ?_ hq)
    have h1 : qh * (v1 * b + v2) = (qh * v1) * b + qh * v2 := by rw [Nat.mul_add, Nat.mul_assoc]
    have h2 : (u2 * b + u1) * b = qh * v1 * b + rh * b := by rw [← inv, Nat.add_mul]
    omega
theorem kd_start {b v1 v2 u0 N2 qh rh : Nat} (inv : qh * v1 + rh = N2) (hrh : rh < v1) (hu0 : u0 < b) : N2 * b + u0 < (qh + 1) * (v1 * b + v2) := by
  have h1 : (qh + 1) * (v1 * b + v2) = ((qh + 1) * v1) * b + (qh + 1) * v2 := by rw [Nat.mul_add, Nat.mul_assoc]
  have h2 : N2 + 1 ≤ (qh + 1) * v1 := by rw [Nat.add_mul, Nat.one_mul]; omega
  have h3 : (N2 + 1) * b ≤ (qh + 1) * v1 * b := Nat.mul_le_mul_right _ h2
  rw [Nat.add_mul, Nat.one_mul] at h3
  omega
theorem kd_step {b v1 v2 u0 N2 qh rh : Nat} (inv : (qh + 1) * v1 + rh = N2) (go : rh * b + u0 < (qh + 1) * v2) : N2 * b + u0 < (qh + 1) * (v1 * b + v2) ∧ qh * v1 + (rh + v1) = N2 := by
  have h1 : (qh + 1) * (v1 * b + v2) = ((qh + 1) * v1) * b + (qh + 1) * v2 := by rw [Nat.mul_add, Nat.mul_assoc]
  have h2 : N2 * b = (qh + 1) * v1 * b + rh * b := by rw [← inv, Nat.add_mul]
  refine ⟨by omega, ?_⟩
  rw [Nat.add_mul, Nat.one_mul] at inv
  omega
theorem kd_max {b T v1 v2 v u1 u0 r V R : Nat} (hV : V = (v1 * b + v2) * T + v) (hR : R = ((v1 * b + u1) * b + u0) * T + r) (hv : v < T) (hv2 : v2 < b) (hb : b ≤ 2 * v1 + 2) (hVp : 0 < V) (hRV : R < b * V) :
    R / V ≤ b - 1 ∧ b - 1 ≤ R / V + 1 := by
  have h0 : R / V < b := (Nat.div_lt_iff_lt_mul hVp).2 hRV
  refine ⟨by omega, ?_⟩
  have h1 : V ≤ (v1 + 1) * (b * T) := by
    have e1 : (v1 + 1) * (b * T) = v1 * b * T + b * T := by rw [Nat.add_mul, Nat.one_mul, Nat.mul_assoc]
    have e2 : (v1 * b + v2) * T = v1 * b * T + v2 * T := Nat.add_mul _ _ _
    have e3 : (v2 + 1) * T ≤ b * T := Nat.mul_le_mul_right _ hv2
    rw [Nat.add_mul, Nat.one_mul] at e3
    omega
  have h2 : v1 * b * (b * T) ≤ R := by
    have e1 : v1 * b * (b * T) = v1 * b * b * T := (Nat.mul_assoc _ _ _).symm
    have e2 : v1 * b * b * T ≤ ((v1 * b + u1) * b + u0) * T := Nat.mul_le_mul_right _ (by rw [Nat.add_mul]; omega)
    omega
  have h3 : (b - 2) * (v1 + 1) ≤ v1 * b := by
    rcases Nat.lt_or_ge b 2 with hlt | hge
    · rw [show b - 2 = 0 by omega, Nat.zero_mul]; exact Nat.zero_le _
    · obtain ⟨c, rfl⟩ : ∃ c, b = c + 2 := ⟨b - 2, by omega⟩
      rw [show c + 2 - 2 = c by omega, Nat.mul_add, Nat.mul_one, Nat.mul_add, Nat.mul_comm c]
      omega
  have h4 : (b - 2) * V ≤ R := by
    refine Nat.le_trans (Nat.mul_le_mul_left _ h1) (Nat.le_trans ?_ h2)
    rw [← Nat.mul_assoc]
    exact Nat.mul_le_mul_right _ h3
  have := le_div_of hVp h4
  omega
theorem kd_sub0 {V R qh Z : Nat} (hVp : 0 < V) (h1 : R / V ≤ qh) (h : R = qh * V + Z) (_h2 : qh ≤ R / V + 1) : qh = R / V ∧ Z = R % V := by
  have h3 : qh ≤ R / V := le_div_of hVp (by omega)
  have h4 : qh = R / V := by omega
  refine ⟨h4, ?_⟩
  have := Nat.div_add_mod R V
  rw [h4, Nat.mul_comm] at h
  omega
theorem kd_sub1 {V R qh Z bn b Zl Zh L c : Nat} (hVp : 0 < V) (_h1 : R / V ≤ qh) (h2 : qh ≤ R / V + 1) (h : R + bn * b = qh * V + Z) (hZ : Z = Zl + bn * Zh) (hZl : Zl < bn) (hZh : Zh < b) (ha : Zl + V = L + bn * c) (hL : L < bn) (hV : V ≤ bn) :
    0 < qh ∧ qh - 1 = R / V ∧ L = R % V ∧ Zh + c = b := by
  have hlt : R < qh * V := by
    have : bn * (Zh + 1) ≤ bn * b := Nat.mul_le_mul_left _ hZh
    rw [Nat.mul_add, Nat.mul_one] at this
    omega
  have h3 : R / V < qh := (Nat.div_lt_iff_lt_mul hVp).2 hlt
  have h4 : qh = R / V + 1 := by omega
  have hm := Nat.mod_lt R hVp
  have hd := Nat.div_add_mod R V
  generalize hQ : R / V = Q at *
  generalize hM : R % V = M at *
  have h5 : qh * V = V * Q + V := by rw [h4, Nat.add_mul, Nat.one_mul, Nat.mul_comm]
  have h6 : M + bn * b = L + bn * (Zh + c) := by rw [Nat.mul_add]; omega
  have h7 : M < bn := Nat.lt_of_lt_of_le hm hV
  have h8 : L = M := by
    have e1 := congrArg (· % bn) h6
    simp only [Nat.add_mul_mod_self_left, Nat.mod_eq_of_lt h7, Nat.mod_eq_of_lt hL] at e1
    exact e1.symm
  refine ⟨by omega, by omega, h8, ?_⟩
  have h9 : bn * (Zh + c) = bn * b := by omega
  exact Nat.eq_of_mul_eq_mul_left (by omega) h9
theorem wdg_div (X j i : Nat) : wdg (X / 18446744073709551616 ^ j) i = wdg X (j + i) := by
  unfold wdg; rw [Nat.div_div_eq_div_mul, ← Nat.pow_add]
theorem dd_step {U V j : Nat} (hV : 0 < V) :
    U % (V * 18446744073709551616 ^ (j + 1)) / 18446744073709551616 ^ j < 18446744073709551616 * V ∧
    U % (V * 18446744073709551616 ^ (j + 1)) / 18446744073709551616 ^ j / V = wdg (U / V) j ∧
    U % (V * 18446744073709551616 ^ j) = U % (V * 18446744073709551616 ^ (j + 1)) % 18446744073709551616 ^ j + 18446744073709551616 ^ j * (U % (V * 18446744073709551616 ^ (j + 1)) / 18446744073709551616 ^ j % V) := by
  have hP : 0 < 18446744073709551616 ^ j := wpow_pos j
  have hM : 0 < V * 18446744073709551616 ^ (j + 1) := Nat.mul_pos hV (wpow_pos _)
  have e1 : V * 18446744073709551616 ^ (j + 1) = 18446744073709551616 ^ j * V * 18446744073709551616 := by
    rw [Nat.pow_succ, Nat.mul_comm V, Nat.mul_assoc, Nat.mul_assoc, Nat.mul_comm 18446744073709551616 V]
  refine ⟨?_, ?_, ?_⟩
  · refine Nat.div_lt_of_lt_mul ?_
    have := Nat.mod_lt U hM
    have e2 : V * 18446744073709551616 ^ (j + 1) = 18446744073709551616 ^ j * (18446744073709551616 * V) := by rw [e1, Nat.mul_assoc, Nat.mul_comm V]
    omega
  · rw [Nat.div_div_eq_div_mul, e1, Nat.mod_mul_right_div_self]
    unfold wdg
    rw [Nat.div_div_eq_div_mul, Nat.mul_comm V]
  · have e3 : U % (V * 18446744073709551616 ^ (j + 1)) % (18446744073709551616 ^ j * V) = U % (18446744073709551616 ^ j * V) := by
      rw [e1, Nat.mod_mod_of_dvd _ (Nat.dvd_mul_right _ _)]
    rw [Nat.mul_comm V (18446744073709551616 ^ j), ← e3, Nat.mod_mul]
theorem dd_start {U V m : Nat} (h : U < V * 18446744073709551616 ^ m) : U % (V * 18446744073709551616 ^ m) = U ∧ U % (V * 18446744073709551616 ^ (m + 1)) = U ∧ U / V < 18446744073709551616 ^ m ∧ wdg (U / V) m = 0 := by
  have h1 : V * 18446744073709551616 ^ m ≤ V * 18446744073709551616 ^ (m + 1) := Nat.mul_le_mul_left _ (Nat.pow_le_pow_right (by decide) (Nat.le_succ m))
  have h2 : U / V < 18446744073709551616 ^ m := Nat.div_lt_of_lt_mul h
  refine ⟨Nat.mod_eq_of_lt h, Nat.mod_eq_of_lt (by omega), h2, ?_⟩
  unfold wdg
  rw [Nat.div_eq_of_lt h2]
theorem wdsN_window (X L : Nat) {j n : Nat} (h : j + n ≤ L) : ((wdsN X L).take (j + n)).drop j = wdsN (X / 18446744073709551616 ^ j) n := by
  refine wdsN_of (by rw [List.length_drop, List.length_take, wdsN_length]; omega) fun i hi => ?_
  rw [List.getD_eq_getElem?_getD, List.getElem?_drop, List.getElem?_take, if_pos (by omega), ← List.getD_eq_getElem?_getD, wdsN_getD (by omega), wdg_div]
theorem wdg_join {A R j : Nat} (hA : A < 18446744073709551616 ^ j) (i : Nat) : wdg (A + 18446744073709551616 ^ j * R) i = if i < j then wdg A i else wdg R (i - j) := by
  split
  · rename_i h
    unfold wdg
    obtain ⟨k, rfl⟩ : ∃ k, j = i + (k + 1) := ⟨j - i - 1, by omega⟩
    rw [Nat.pow_add, Nat.mul_assoc, Nat.add_mul_div_left _ _ (wpow_pos i), Nat.pow_succ, Nat.mul_comm _ 18446744073709551616, Nat.mul_assoc, Nat.add_mul_mod_self_left]
  · rename_i h
    obtain ⟨k, rfl⟩ : ∃ k, i = j + k := ⟨i - j, by omega⟩
    rw [← wdg_div, Nat.add_mul_div_left _ _ (wpow_pos j), Nat.div_eq_of_lt hA, Nat.zero_add, show j + k - j = k by omega]
theorem wdg_lowmod (X j i : Nat) (h : i < j) : wdg (X % 18446744073709551616 ^ j) i = wdg X i := by
  unfold wdg
  obtain ⟨k, rfl⟩ : ∃ k, j = i + (k + 1) := ⟨j - i - 1, by omega⟩
  rw [Nat.pow_add, Nat.mod_mul_right_div_self, Nat.pow_succ, Nat.mod_mod_of_dvd _ (Nat.dvd_mul_left _ _)]
theorem wdg_small {X i k : Nat} (h : X < 18446744073709551616 ^ k) (hk : k ≤ i) : wdg X i = 0 := by
  unfold wdg
  rw [Nat.div_eq_of_lt (Nat.lt_of_lt_of_le h (Nat.pow_le_pow_right (by decide) hk))]
theorem wdsN_patch {X L j n R : Nat} (h : j + n ≤ L) (hX : X < 18446744073709551616 ^ (j + n)) (hR : R < 18446744073709551616 ^ n) :
    (wdsN X L).take j ++ (wdsN R n ++ (wdsN X L).drop (j + n)) = wdsN (X % 18446744073709551616 ^ j + 18446744073709551616 ^ j * R) L := by
  have l1 : ((wdsN X L).take j).length = j := by rw [List.length_take, wdsN_length]; omega
  refine wdsN_of (by simp [wdsN_length]; omega) fun i hi => ?_
  rw [wdg_join (Nat.mod_lt _ (wpow_pos j)), List.getD_eq_getElem?_getD]
  by_cases h1 : i < j
  · rw [if_pos h1, List.getElem?_append_left (by omega), List.getElem?_take, if_pos h1, ← List.getD_eq_getElem?_getD, wdsN_getD hi, wdg_lowmod _ _ _ h1]
  · rw [if_neg h1, List.getElem?_append_right (by omega), l1]
    by_cases h2 : i - j < n
    · rw [List.getElem?_append_left (by rw [wdsN_length]; exact h2), ← List.getD_eq_getElem?_getD, wdsN_getD h2]
    · rw [List.getElem?_append_right (by rw [wdsN_length]; omega), wdsN_length, List.getElem?_drop, ← List.getD_eq_getElem?_getD, show j + n + (i - j - n) = i by omega, wdsN_getD hi, wdg_small hX (by omega), wdg_small hR (by omega)]
theorem wtop2 {V k : Nat} (h : V < 18446744073709551616 ^ (k + 2)) : V = (wdg V (k + 1) * 18446744073709551616 + wdg V k) * 18446744073709551616 ^ k + V % 18446744073709551616 ^ k := by
  have h1 := wmod_succ V (k + 1)
  have h2 := wmod_succ V k
  rw [show k + 1 + 1 = k + 2 by omega, Nat.mod_eq_of_lt h] at h1
  have e1 : 18446744073709551616 ^ (k + 1) * wdg V (k + 1) = wdg V (k + 1) * 18446744073709551616 * 18446744073709551616 ^ k := by
    rw [Nat.mul_comm (18446744073709551616 ^ (k + 1)), Nat.pow_succ, Nat.mul_comm (18446744073709551616 ^ k), ← Nat.mul_assoc]
  rw [Nat.add_mul, ← e1, Nat.mul_comm (wdg V k)]
  rw [h2] at h1
  exact h1.trans (by rw [Nat.add_comm, Nat.add_comm (V % _), ← Nat.add_assoc])
theorem wtop3 {R k : Nat} (h : R < 18446744073709551616 ^ (k + 3)) : R = ((wdg R (k + 2) * 18446744073709551616 + wdg R (k + 1)) * 18446744073709551616 + wdg R k) * 18446744073709551616 ^ k + R % 18446744073709551616 ^ k := by
  have h1 := wmod_succ R (k + 2)
  rw [show k + 2 + 1 = k + 3 by omega, Nat.mod_eq_of_lt h] at h1
  have h2 := wtop2 (V := R % 18446744073709551616 ^ (k + 2)) (k := k) (Nat.mod_lt _ (wpow_pos _))
  rw [wdg_lowmod _ _ _ (by omega), wdg_lowmod _ _ _ (by omega), Nat.mod_mod_of_dvd _ (Nat.pow_dvd_pow _ (by omega : k ≤ k + 2))] at h2
  have e1 : 18446744073709551616 ^ (k + 2) * wdg R (k + 2) = wdg R (k + 2) * 18446744073709551616 * 18446744073709551616 * 18446744073709551616 ^ k := by
    rw [Nat.pow_succ, Nat.pow_succ]; grind
  have e2 : ((wdg R (k + 2) * 18446744073709551616 + wdg R (k + 1)) * 18446744073709551616 + wdg R k) * 18446744073709551616 ^ k =
      wdg R (k + 2) * 18446744073709551616 * 18446744073709551616 * 18446744073709551616 ^ k + (wdg R (k + 1) * 18446744073709551616 + wdg R k) * 18446744073709551616 ^ k := by
    rw [Nat.add_mul (wdg R (k + 2) * 18446744073709551616), Nat.add_assoc, Nat.add_mul]
  rw [e2, ← e1]
  rw [h2] at h1
  exact h1.trans (by rw [Nat.add_comm, ← Nat.add_assoc])
set_option maxRecDepth 100000 in
theorem mulWW_any (x y : Nat) (w : World) (hx : x < 18446744073709551616) (hy : y < 18446744073709551616) :
    Calls Tryz.prog 166 #[.int .u64 x, .int .u64 y] w fun e w' => e = .returned (.tuple #[.int .u64 ((x * y / 18446744073709551616 : Nat) : Int), .int .u64 ((x * y % 18446744073709551616 : Nat) : Int)]) ∧ w' = w := by
  have HM := Lib.hid (Tryz.bits_Mul x y hx hy w)
  obtain ⟨hi, hhi⟩ : ∃ hi, hi = x * y / 18446744073709551616 := ⟨_, rfl⟩
  obtain ⟨lo, hlo⟩ : ∃ lo, lo = x * y % 18446744073709551616 := ⟨_, rfl⟩
  rw [← hhi, ← hlo] at HM
  rw [← hhi, ← hlo]
  clear hhi hlo
  go_enter Tryz.func166, Tryz.ntmps166
  go_wp2_with fail
  refine HM.out.mono ?_
  rintro _ _ ⟨rfl, rfl⟩
  go_wp2
  go_ret2
  exact ⟨rfl, rfl⟩
set_option maxRecDepth 100000 in
theorem gt_any (x1 x2 y1 y2 : Nat) (b : Bool) (w : World) (hx : x2 < 18446744073709551616) (hy : y2 < 18446744073709551616) (hb : b = decide (y1 * 18446744073709551616 + y2 < x1 * 18446744073709551616 + x2)) :
    Calls Tryz.prog 233 #[.int .u64 x1, .int .u64 x2, .int .u64 y1, .int .u64 y2] w fun e w' => e = .returned (.bool b) ∧ w' = w := by
  rcases Nat.lt_trichotomy y1 x1 with h | h | h
  · have hbt : b = true := by rw [hb]; exact decide_eq_true (by omega)
    subst hbt
    have t1 : decide (y1 < x1) = true := decide_eq_true h
    clear hb hx hy h
    go_enter Tryz.func233, Tryz.ntmps233
    go_wp2
    go_ret
    exact ⟨rfl, rfl⟩
  · subst h
    have t1 : decide (y1 < y1) = false := decide_eq_false (by omega)
    by_cases h2 : y2 < x2
    · have hbt : b = true := by rw [hb]; exact decide_eq_true (by omega)
      subst hbt
      have t2 : decide (y2 < x2) = true := decide_eq_true h2
      clear hb hx hy h2
      go_enter Tryz.func233, Tryz.ntmps233
      go_wp2
      go_ret
      exact ⟨rfl, rfl⟩
    · have hbt : b = false := by rw [hb]; exact decide_eq_false (by omega)
      subst hbt
      have t2 : decide (y2 < x2) = false := decide_eq_false h2
      clear hb hx hy h2
      go_enter Tryz.func233, Tryz.ntmps233
      go_wp2
      go_ret
      exact ⟨rfl, rfl⟩
  · have hbt : b = false := by rw [hb]; exact decide_eq_false (by omega)
    subst hbt
    have t1 : decide (y1 < x1) = false := decide_eq_false (by omega)
    have t2 : ((x1 : Int) == (y1 : Int)) = false := by rw [beq_eq_false_iff_ne]; omega
    have t3 : (x1 == y1) = false := by rw [beq_eq_false_iff_ne]; omega
    clear hb hx hy h
    go_enter Tryz.func233, Tryz.ntmps233
    go_wp2
    go_ret
    exact ⟨rfl, rfl⟩
theorem run_append_more {P : Program} (w : World) (t tn ty e : TypeId) (i : TypeInfo) (z : Value) (kn : IntKind) (ht : P.underlying t = some (.slice e)) (htn : P.underlying tn = some (.int kn)) (hi : P.info? e = some i) (hz : i.zero = some z)
    (base : Option Addr) (c : Nat) (olds : List Value) (hold : (Builtin.firstCells i.size c (.slice base c c)).run P w.drew = .ok olds.toArray w.drew) (n : Nat) (h0 : 0 < n) (hs : i.size = 1)
    (h63 : ((c + n : Nat) : Int) ≤ 9223372036854775807) (h48 : n * i.bytes ≤ 281474976710656) (hfit : Builtin.nextslicecap (c + n) c * i.bytes ≤ 281474976710656) :
    (Builtin.append_ #[t, tn] ty #[.slice base c c, .int .i64 n]).run P w =
      .ok (.slice (some ⟨w.heap.size, 0, none⟩) (c + n) (grownCap w (c + n) c e)) (w.drew.alloc (.cells ((olds.toArray ++ Builtin.zeroCells z.cells n) ++ Builtin.zeroCells z.cells (grownCap w (c + n) c e - (c + n))) e)) := by
  have hn : n ≠ 0 := by omega
  have hw : IntKind.i64.wrap (n : Int) = n := by rw [IntKind.wrap_i64]; omega
  have h63' : ¬ (9223372036854775807 < ((c : Int) + (n : Int))) := by omega
  have h48' : ¬ (281474976710656 < Builtin.nextslicecap (c + n) c * i.bytes) := by omega
  have h48i : ¬ (281474976710656 < (n : Int) * (i.bytes : Int)) := by
    rw [← Int.natCast_mul]
    omega
  have hneg : ¬ ((n : Int) < 0) := by omega
  have hns : ¬ (n * i.size = 0) := Nat.mul_ne_zero hn (by omega)
  have hcn : ¬ (c + n ≤ c) := by omega
  have hold' := hold
  rw [hs] at hold'
  simp [Builtin.append_, run_underlying ht, run_underlying htn, sizeOf, typeInfo, zeroValue, hi, hz, asInt, asIntOf, hw, hn, hneg, hcn, h63', h48', h48i, Question.forced, hs, hold', newRow, grownCap]
theorem zeroCells_rep (z : Value) (n : Nat) : (Builtin.zeroCells #[z] n).toList = List.replicate n z := by
  apply List.ext_getElem
  · simp [Builtin.zeroCells]
  · intro j h1 h2
    simp [Builtin.zeroCells, Nat.mod_one]
theorem wpList_appendN_O {P : Program} {ops : Array Oper} {rest : List Oper} {o : Oper} {a : Act} {Q : Exit → Act → World → Prop} {w : World} (hgd : o.guard = none) (s x : Operand) (t tn : TypeId)
    (ho : o.op = .call { callee := .builtin .append, args := #[s, x], argTypes := #[t, tn] }) {e : TypeId} {bytes : Nat} {z : Value} (E : ElemT P t e bytes z) {kn : IntKind} (htn : P.underlying tn = some (.int kn)) (hby : bytes ≤ 8)
    (B : Nat) (v : Value) (xs : List Value) (hs : a.eval s = v) (hown : Own w B e v xs) (hfull : sCap v = xs.length) (n : Nat) (hx : a.eval x = .int .i64 n) (h0 : 0 < n) (hb : xs.length + n ≤ 1000000000)
    (h : ∀ v' w', Own w' w.heap.size e v' (xs ++ List.replicate n z) → Below w.heap.size w w' → sOff v' = 0 → sBlk v' = w.heap.size → 0 < sCap v' → wpList P ops Q rest (a.put o.dst v') w') : wpList P ops Q (o :: rest) a w := by
  obtain ⟨i, hi, hz, hsz, hbb, hzc⟩ := E.info
  have hl := hown.len
  have hcap := hown.isS.le
  have hxl : sLen v = sCap v := by omega
  have hvv : ∃ b, v = .slice b xs.length xs.length := by
    match v, hown.isS, hl, hfull with
    | .slice b n c, _, h1, h2 => exact ⟨b, by rw [show n = xs.length from h1, show c = xs.length from h2]⟩
  obtain ⟨b, hv⟩ := hvv
  have hold : (Builtin.firstCells i.size xs.length (.slice b xs.length xs.length)).run P w.drew = .ok xs.toArray w.drew := by
    rw [← hv]
    by_cases hc0 : sCap v = 0
    · obtain ⟨a', ha⟩ := hown.isS.out0 hc0
      have hx0 : xs = [] := List.eq_nil_of_length_eq_zero (by omega)
      rw [ha, hx0]
      cases a' <;> simp [Builtin.firstCells, loadCells, loadCellsFrom]
    · have hv2 := hown.isS.out (by omega)
      conv => lhs; rw [hv2]
      rw [hsz, hl]
      rw [show sCap v = xs.length from hfull]
      exact run_firstCells_some w.drew 1 xs.length _ _ _ xs (by simp) (fun j u hj => by rw [Addr.add_mk]; exact hown.cell hj)
  have hfit : Builtin.nextslicecap (xs.length + n) xs.length * i.bytes ≤ 281474976710656 := growslice_fits (by omega) (by rw [hbb]; have := Nat.mul_le_mul_left (xs.length + n) hby; omega)
  have hr := run_append_more (P := P) w t tn o.type e i z kn E.ht htn hi hz b xs.length xs hold n h0 hsz (by omega) (by rw [hbb]; have := Nat.mul_le_mul_left n hby; omega) hfit
  have hge := grownCap_ge w (xs.length + n) xs.length e
  have hcm := grownCap_le_maxLen w (xs.length + n) xs.length e (by unfold maxLen; omega)
  refine wpList_plain hgd fun K hK => ?_
  unfold Oper.wp execOp
  simp only [ho, resolve, invoke, builtin, Sem.run_bind, Sem.run_pure, Result.andThen_ok, List.map_toArray, List.map_cons, List.map_nil, hs, hx, hv, hr]
  refine hK _ _ (h _ _ ⟨IsS.mk hge, by simp, hcm, .inr ⟨Nat.le_refl _, _, heap_alloc_new w.drew _, ?_, ?_⟩⟩ ((Below.refl _ _).drew.alloc (Nat.le_refl _) _) rfl rfl (by rw [sCap_mk]; omega))
  · simp only [sOff_mk, sCap_mk, Array.size_append, List.size_toArray, size_zeroCells, hzc]; simp; omega
  · simp only [sOff_mk, Array.toList_append, List.drop_zero, hzc, zeroCells_rep]
    rw [List.take_left' (by simp)]
theorem intI : Tryz.prog.underlying 3 = some (.int .i64) := Tryz.underlying3
structure GrP (s r : Value) (n B : Nat) (L : Nat) (w w' : World) : Prop where
  own : ∃ ys : List Value, ys.length = L ∧ Own w' B 116 r ys
  room : L + n ≤ sCap r
  how : (w' = w ∧ r = s) ∨ (w.heap.size ≤ sBlk r ∧ sOff r = 0 ∧ Below w.heap.size w w')
set_option maxRecDepth 100000 in
set_option maxHeartbeats 800000 in
theorem growW_any (s : Value) (xs : List Value) (n B : Nat) (w : World) (hs : Own w B 116 s xs) (hn : n ≤ 100000000) (hl : xs.length ≤ 100000000) (hB : B ≤ w.heap.size) :
    Calls Tryz.prog 227 #[s, .int .i64 n] w fun e w' => ∃ r, e = .returned r ∧ GrP s r n B xs.length w w' := by
  have hS := hs.isS
  have hle := hS.le
  have hL := hs.len
  obtain ⟨L, hLL⟩ : ∃ L, L = xs.length := ⟨_, rfl⟩
  rw [← hLL] at hL ⊢
  obtain ⟨c, hcc⟩ : ∃ c, c = sCap s := ⟨_, rfl⟩
  have hcm := hs.cap
  unfold maxLen at hcm
  rw [← hcc] at hle hcm
  rw [← hLL] at hl
  by_cases hr : L + n ≤ c
  · have Q : Hid (GrP s s n B L w w) := Lib.hid ⟨⟨xs, hLL.symm, hs⟩, by omega, .inl ⟨rfl, rfl⟩⟩
    have t1 : decide ((n : Int) < 0) = false := decide_eq_false (by omega)
    have t2 : decide ((n : Int) - ((c : Int) - (L : Int)) > 0) = false := decide_eq_false (by omega)
    have t2' : decide (0 < (n : Int) - ((c : Int) - (L : Int))) = false := decide_eq_false (by omega)
    have hcap : sCap s = c := hcc.symm
    clear hs hcc hLL
    go_enter Tryz.func227, Tryz.ntmps227
    go_wp2
    go_ret
    exact ⟨_, rfl, Q.out⟩
  · obtain ⟨m, hm⟩ : ∃ m, L + n = c + m := ⟨L + n - c, by omega⟩
    have e1 : (n : Int) - ((c : Int) - (L : Int)) = (m : Int) := by omega
    have hmp : 0 < m := by omega
    have t1 : decide ((n : Int) < 0) = false := decide_eq_false (by omega)
    have t2 : decide ((m : Int) > 0) = true := decide_eq_true (by omega)
    have t2' : decide (0 < m) = true := decide_eq_true hmp
    obtain ⟨ys, hy, ho⟩ := hs.grow (n := c) (by omega)
    have hSo := ho.isS
    have hco : sCap (subS s 0 c) = ys.length := by rw [subS_cap hS, hy]; omega
    have hcap : sCap s = c := hcc.symm
    have HO := Lib.hid ho
    have HCO := Lib.hid hco
    have HY := Lib.hid hy
    have HM := Lib.hid hm
    have HB := Lib.hid hB
    have hmb : m ≤ 200000000 := by omega
    clear hs hcc hLL ho hco hy hm hr hB
    go_enter Tryz.func227, Tryz.ntmps227
    go_wp2_with (at_builtin; refine wpList_appendN_O rfl _ _ _ _ rfl elemW intI (by decide) B _ ys rfl HO.out HCO.out m rfl hmp ?c1 ?_)
    case c1 => rw [HY.out]; omega
    intro v' w1 ho1 hb1 hof hbl hcp
    have hS1 := ho1.isS
    have hl1 : sLen v' = c + m := by rw [ho1.len, List.length_append, List.length_replicate, HY.out]
    have hc1 := hS1.le
    have hsub := ho1.sub (l := 0) (n := L) (Nat.zero_le _) (by rw [List.length_append, List.length_replicate, HY.out]; omega)
    have Q : Hid (GrP s (subS v' 0 L) n B L w w1) := Lib.hid ⟨⟨_, by rw [List.length_drop, List.length_take, List.length_append, List.length_replicate, HY.out]; omega, hsub.mono HB.out⟩, by rw [subS_cap hS1]; have := HM.out; omega, .inr ⟨by rw [subS_blk hS1, hbl]; exact Nat.le_refl _, by rw [subS_off0 hS1]; exact hof, hb1⟩⟩
    have hSq := hsub.isS
    clear ho1 hb1 hof hbl hsub
    go_wp2
    go_ret
    exact ⟨_, rfl, Q.out⟩
set_option maxRecDepth 100000 in
set_option maxHeartbeats 800000 in
theorem growN_any (s : Value) (xs : List Value) (n B : Nat) (w : World) (hs : Own w B 116 s xs) (hn : n ≤ 100000000) (hl : xs.length ≤ 100000000) (hB : B ≤ w.heap.size) :
    Calls Tryz.prog 210 #[s, .int .i64 n] w fun e w' => ∃ r, e = .returned r ∧ GrP s r n B xs.length w w' := by
  have hS := hs.isS
  have hle := hS.le
  have hL := hs.len
  obtain ⟨L, hLL⟩ : ∃ L, L = xs.length := ⟨_, rfl⟩
  rw [← hLL] at hL ⊢
  obtain ⟨c, hcc⟩ : ∃ c, c = sCap s := ⟨_, rfl⟩
  have hcm := hs.cap
  unfold maxLen at hcm
  rw [← hcc] at hle hcm
  rw [← hLL] at hl
  by_cases hr : L + n ≤ c
  · have Q : Hid (GrP s s n B L w w) := Lib.hid ⟨⟨xs, hLL.symm, hs⟩, by omega, .inl ⟨rfl, rfl⟩⟩
    have t1 : decide ((n : Int) < 0) = false := decide_eq_false (by omega)
    have t2 : decide ((n : Int) - ((c : Int) - (L : Int)) > 0) = false := decide_eq_false (by omega)
    have t2' : decide (0 < (n : Int) - ((c : Int) - (L : Int))) = false := decide_eq_false (by omega)
    have hcap : sCap s = c := hcc.symm
    clear hs hcc hLL
    go_enter Tryz.func210, Tryz.ntmps210
    go_wp2
    go_ret
    exact ⟨_, rfl, Q.out⟩
  · obtain ⟨m, hm⟩ : ∃ m, L + n = c + m := ⟨L + n - c, by omega⟩
    have e1 : (n : Int) - ((c : Int) - (L : Int)) = (m : Int) := by omega
    have hmp : 0 < m := by omega
    have t1 : decide ((n : Int) < 0) = false := decide_eq_false (by omega)
    have t2 : decide ((m : Int) > 0) = true := decide_eq_true (by omega)
    have t2' : decide (0 < m) = true := decide_eq_true hmp
    obtain ⟨ys, hy, ho⟩ := hs.grow (n := c) (by omega)
    have hSo := ho.isS
    have hco : sCap (subS s 0 c) = ys.length := by rw [subS_cap hS, hy]; omega
    have hcap : sCap s = c := hcc.symm
    have HO := Lib.hid ho
    have HCO := Lib.hid hco
    have HY := Lib.hid hy
    have HM := Lib.hid hm
    have HB := Lib.hid hB
    have hmb : m ≤ 200000000 := by omega
    clear hs hcc hLL ho hco hy hm hr hB
    go_enter Tryz.func210, Tryz.ntmps210
    go_wp2_with (at_builtin; refine wpList_appendN_O rfl _ _ _ _ rfl elemT intI (by decide) B _ ys rfl HO.out HCO.out m rfl hmp ?c1 ?_)
    case c1 => rw [HY.out]; omega
    intro v' w1 ho1 hb1 hof hbl hcp
    have hS1 := ho1.isS
    have hl1 : sLen v' = c + m := by rw [ho1.len, List.length_append, List.length_replicate, HY.out]
    have hc1 := hS1.le
    have hsub := ho1.sub (l := 0) (n := L) (Nat.zero_le _) (by rw [List.length_append, List.length_replicate, HY.out]; omega)
    have Q : Hid (GrP s (subS v' 0 L) n B L w w1) := Lib.hid ⟨⟨_, by rw [List.length_drop, List.length_take, List.length_append, List.length_replicate, HY.out]; omega, hsub.mono HB.out⟩, by rw [subS_cap hS1]; have := HM.out; omega, .inr ⟨by rw [subS_blk hS1, hbl]; exact Nat.le_refl _, by rw [subS_off0 hS1]; exact hof, hb1⟩⟩
    have hSq := hsub.isS
    clear ho1 hb1 hof hbl hsub
    go_wp2
    go_ret
    exact ⟨_, rfl, Q.out⟩
def RatP (w : World) (B b : Nat) (neg : Bool) (n d : Nat) : Prop :=
  ∃ v1 v2, B ≤ b ∧ w.heap[b]? = some (.cells #[.bool neg, v1, .bool false, v2] 112 (0, 0)) ∧ Own w B 116 v1 (cellsW (wds n)) ∧ Own w B 116 v2 (cellsW (wds d))
theorem RatP.below {w w' : World} {B b : Nat} {neg : Bool} {n d : Nat} (h : RatP w B b neg n d) (hb : Below w.heap.size w w') : RatP w' B b neg n d := by
  obtain ⟨v1, v2, h1, h2, h3, h4⟩ := h
  exact ⟨v1, v2, h1, keep_row hb h2, h3.below hb, h4.below hb⟩
theorem RatP.drewN {w : World} {B b : Nat} {neg : Bool} {n d : Nat} (h : RatP w B b neg n d) (k : Nat) : RatP (w.drewN k) B b neg n d := by
  obtain ⟨v1, v2, h1, h2, h3, h4⟩ := h
  exact ⟨v1, v2, h1, h2, h3.drewN k, h4.drewN k⟩
theorem RatP.mono {w : World} {B B' b n d : Nat} {neg : Bool} (h : RatP w B b neg n d) (hB : B' ≤ B) : RatP w B' b neg n d := by
  obtain ⟨v1, v2, h1, h2, h3, h4⟩ := h
  exact ⟨v1, v2, Nat.le_trans hB h1, h2, h3.mono hB, h4.mono hB⟩
theorem IntP.lt {w : World} {B b n : Nat} {neg : Bool} (h : IntP w B b neg n) : b < w.heap.size := by
  obtain ⟨v, _, h2, _⟩ := h
  exact (heap_alloc_lt (o := .cells #[] 0) h2).2
theorem RW.belowB {w w' : World} {v : Value} {ds : List Nat} {B : Nat} (h : RW w v ds) (hb : Below B w w') (hlt : 0 < ds.length → sBlk v < B) : RW w' v ds := ⟨h.ri.belowB hb (by rw [ints_length]; exact hlt), h.lt⟩
theorem wdiv_step (n i : Nat) : n / 18446744073709551616 ^ i = 18446744073709551616 * (n / 18446744073709551616 ^ (i + 1)) + wdg n i := by
  unfold wdg
  rw [Nat.pow_succ, ← Nat.div_div_eq_div_mul]
  omega
theorem lt_of_nw {x y : Nat} (h : nw x < nw y) : x < y := by
  refine Nat.lt_of_not_le fun hc => ?_
  have := nw_mono hc
  omega
theorem lt_of_wdg {x y i : Nat} (he : x / 18446744073709551616 ^ (i + 1) = y / 18446744073709551616 ^ (i + 1)) (h : wdg x i < wdg y i) : x < y := by
  have h1 := wdiv_step x i
  have h2 := wdiv_step y i
  refine Nat.lt_of_not_le fun hc => ?_
  have := Nat.div_le_div_right (c := 18446744073709551616 ^ i) hc
  omega
set_option maxRecDepth 100000 in
set_option maxHeartbeats 800000 in
theorem cmp_any (a b : Value) (x y : Nat) (w : World) (ha : RW w a (wds x)) (hb : RW w b (wds y)) (hx : nw x ≤ 1000000000) (hy : nw y ≤ 1000000000) :
    Calls Tryz.prog 159 #[a, b] w fun e w' => e = .returned (.int .i64 (cmpN x y)) ∧ ∃ n, w' = w.drewN n := by
  have hSa := ha.isS
  have hSb := hb.isS
  have hLa := ha.len
  have hLb := hb.len
  rw [wds_length] at hLa hLb
  obtain ⟨la, hla⟩ : ∃ la, la = nw x := ⟨_, rfl⟩
  obtain ⟨lb, hlb⟩ : ∃ lb, lb = nw y := ⟨_, rfl⟩
  rw [← hla] at hLa hx
  rw [← hlb] at hLb hy
  have Hla := Lib.hid hla
  have Hlb := Lib.hid hlb
  have Ha := Lib.hid ha
  have Hb := Lib.hid hb
  clear hla hlb ha hb
  by_cases h1 : la < lb
  · have t1 : decide (la < lb) = true := by rw [decide_eq_true_iff]; exact h1
    have t2 : ((la : Int) == lb) = false := by rw [beq_eq_false_iff_ne]; omega
    go_enter Tryz.func159, Tryz.ntmps159
    go_wp2
    go_ret
    exact ⟨ret_int (cmpN_lt (lt_of_nw (by rw [← Hla.out, ← Hlb.out]; exact h1))).symm, 0, rfl⟩
  · have t1 : decide (la < lb) = false := by rw [decide_eq_false_iff_not]; exact h1
    by_cases h2 : lb < la
    · have t2 : decide (lb < la) = true := by rw [decide_eq_true_iff]; exact h2
      have t3 : ((la : Int) == lb) = false := by rw [beq_eq_false_iff_ne]; omega
      go_enter Tryz.func159, Tryz.ntmps159
      go_wp2
      go_ret
      exact ⟨ret_int (cmpN_gt (lt_of_nw (by rw [← Hla.out, ← Hlb.out]; exact h2))).symm, 0, rfl⟩
    · have t2 : decide (lb < la) = false := by rw [decide_eq_false_iff_not]; exact h2
      obtain rfl : la = lb := by omega
      clear h1 h2 t1 t2
      by_cases h0 : la = 0
      · have hxy : x = y := by
          have e1 := nw_eq_zero.1 (Hla.out.symm.trans h0)
          have e2 := nw_eq_zero.1 (Hlb.out.symm.trans h0)
          rw [e1, e2]
        have HXY := Lib.hid hxy
        subst h0
        clear hxy
        go_enter Tryz.func159, Tryz.ntmps159
        go_wp2
        go_ret
        exact ⟨ret_int (by rw [HXY.out, cmpN_eq]), 0, rfl⟩
      · have t0 : ((la : Int) == 0) = false := by rw [beq_eq_false_iff_ne]; omega
        have hpos : 1 ≤ la := by omega
        have H0 := Lib.hid h0
        clear h0
        go_enter Tryz.func159, Tryz.ntmps159
        go_wp2
        go_loopw [7] (fun i wr => ∃ k : Nat, k + 1 ≤ la ∧ i = .int .i64 (k : Int) ∧ x / 18446744073709551616 ^ (k + 1) = y / 18446744073709551616 ^ (k + 1) ∧ ∃ n, wr = w.drewN n) (fun i _ => (intOf i).toNat)
        case atStart =>
          refine ⟨la - 1, by omega, by go_num, ?_, 0, rfl⟩
          have e1 := lt_nw x
          have e2 := lt_nw y
          rw [← Hla.out] at e1
          rw [← Hlb.out] at e2
          rw [show la - 1 + 1 = la by omega, Nat.div_eq_of_lt e1, Nat.div_eq_of_lt e2]
        case round =>
          obtain ⟨k, hk, rfl, hv, nn, rfl⟩ := hrel
          have Hv := Lib.hid hv
          clear hv
          have ca := Ha.out.cell k (by rw [wds_length, ← Hla.out]; omega)
          have cb := Hb.out.cell k (by rw [wds_length, ← Hlb.out]; omega)
          rw [wds_getD] at ca cb
          obtain ⟨p, hp⟩ : ∃ p, p = wdg x k := ⟨_, rfl⟩
          obtain ⟨q, hq⟩ : ∃ q, q = wdg y k := ⟨_, rfl⟩
          rw [← hp] at ca
          rw [← hq] at cb
          have Hp := Lib.hid hp
          have Hq := Lib.hid hq
          clear hp hq
          have hkn : k < la := by omega
          by_cases h3 : p < q
          · have t3 : decide (p < q) = true := by rw [decide_eq_true_iff]; exact h3
            have t4 : ((p : Int) == q) = false := by rw [beq_eq_false_iff_ne]; omega
            have hk0 : decide (0 < k) = true ∨ decide (0 < k) = false := by cases decide (0 < k) <;> simp
            rcases hk0 with hk0 | hk0
            all_goals
              go_wp2
              go_quiet (fail)
              go_wp2
              go_quiet (fail)
              go_wp2
              go_ret
              exact ⟨ret_int (cmpN_lt (lt_of_wdg Hv.out (by rw [← Hp.out, ← Hq.out]; exact h3))).symm, by simp only [World.drewN_drewN]; exact ⟨_, rfl⟩⟩
          · have t3 : decide (p < q) = false := by rw [decide_eq_false_iff_not]; exact h3
            by_cases h4 : q < p
            · have t4 : ((p : Int) == q) = false := by rw [beq_eq_false_iff_ne]; omega
              have t5 : decide (q < p) = true := by rw [decide_eq_true_iff]; exact h4
              have hk0 : decide (0 < k) = true ∨ decide (0 < k) = false := by cases decide (0 < k) <;> simp
              rcases hk0 with hk0 | hk0
              all_goals
                go_wp2
                go_quiet (fail)
                go_wp2
                go_quiet (fail)
                go_wp2
                go_quiet (fail)
                go_wp2
                go_ret
                exact ⟨ret_int (cmpN_gt (lt_of_wdg Hv.out.symm (by rw [← Hp.out, ← Hq.out]; exact h4))).symm, by simp only [World.drewN_drewN]; exact ⟨_, rfl⟩⟩
            · have t4 : ((p : Int) == q) = true := by rw [beq_iff_eq]; omega
              have t5 : decide (q < p) = false := by rw [decide_eq_false_iff_not]; exact h4
              have hpq : p = q := by omega
              have e1 := wdiv_step x k
              have e2 := wdiv_step y k
              rw [← Hp.out] at e1
              rw [← Hq.out] at e2
              have e3 : x / 18446744073709551616 ^ k = y / 18446744073709551616 ^ k := by rw [e1, e2, Hv.out, hpq]
              have E3 := Lib.hid e3
              have HPQ := Lib.hid hpq
              clear e1 e2 e3 hpq h3 h4
              by_cases hk0 : 0 < k
              · have t6 : decide (0 < k) = true := decide_eq_true hk0
                go_wp2
                go_quiet (fail)
                go_wp2
                refine ⟨⟨k - 1, by omega, by go_num, ?_, by first | exact ⟨_, rfl⟩ | (simp only [World.drewN_drewN]; exact ⟨_, rfl⟩)⟩, by simp [intOf]; omega⟩
                rw [show k - 1 + 1 = k by omega]; exact E3.out
              · have t6 : decide (0 < k) = false := decide_eq_false hk0
                obtain rfl : k = 0 := by omega
                rw [Nat.add_zero] at ca cb
                go_wp2
                go_quiet (fail)
                go_wp2
                go_quiet (fail)
                go_wp2
                go_quiet (fail)
                go_wp2
                go_ret
                refine ⟨ret_int ?_, by simp only [World.drewN_drewN]; exact ⟨_, rfl⟩⟩
                have := E3.out
                rw [Nat.pow_zero, Nat.div_one, Nat.div_one] at this
                rw [this, cmpN_eq]
def sg (neg : Bool) (n : Nat) : Int := if n = 0 then 0 else if neg then -1 else 1
theorem run_eql_ptr_other {P : Program} (w : World) {tp te : TypeId} {j : TypeInfo} {a b : Addr} {ca cb : Array Value} {ta tb : TypeId} (hp : P.underlying tp = some (.pointer te)) (hte : P.info? te = some j) (hsz : j.size ≠ 0)
    (hne : a ≠ b) (ha : w.heap[a.block]? = some (.cells ca ta (0, 0))) (hb : w.heap[b.block]? = some (.cells cb tb (0, 0))) :
    (binOp .eql tp (.pointer (some a)) (.pointer (some b))).run P w = .ok (.bool false) w := by
  have h : ∀ d : Nat, (Op.equalIn (d + 1) tp (.pointer (some a)) (.pointer (some b))).run P w = .ok false w := fun d => by
    simp [Op.equalIn, run_underlying hp, sizeOf, typeInfo, hte, hsz, run_sameAddr_other w hne ha hb]
  simp only [binOp]
  simp [Op.equal, Op.maxDepth, h 9999]
set_option maxRecDepth 100000 in
theorem getStack_any (w : World) :
    Calls Tryz.prog 120 #[] w fun e w' => e = .returned (.pointer (some ⟨w.heap.size, 0, none⟩)) ∧ w' = w.alloc (.cells #[.pointer none] 182) := by
  go_enter Tryz.func120, Tryz.ntmps120
  go_wp2
  go_ret
  exact ⟨rfl, rfl⟩
set_option maxRecDepth 100000 in
theorem free_d (b : Nat) (u : FrameMode) (w : World) (hb : w.cell? ⟨b, 0, none⟩ = some (.pointer none)) :
    CallsD Tryz.prog 121 #[.pointer (some ⟨b, 0, none⟩)] u w fun e u' w' => u' = u ∧ (e = .returned (.tuple #[]) ∧ w' = w) := by
  go_enter_d Tryz.func121, Tryz.ntmps121
  go_wp2
  go_end0
  exact ⟨rfl, rfl⟩
theorem i64_up4 {a : Nat} (ha : a < 4611686018427387904) : bits .andNot .i64 (a : Int) 3 = ((a / 4 * 4 : Nat) : Int) := by
  have h := andNot_clear (d := a) (t := 2) (by decide) (by omega)
  have h' : IntKind.u64.wrap (((BitVec.ofInt 64 (a : Int) &&& ~~~BitVec.ofInt 64 3).toNat : Nat) : Int) = ((a / 4 * 4 : Nat) : Int) := h
  have hlt := (BitVec.ofInt 64 (a : Int) &&& ~~~BitVec.ofInt 64 3).isLt
  show IntKind.i64.wrap (((BitVec.ofInt 64 (a : Int) &&& ~~~BitVec.ofInt 64 3).toNat : Nat) : Int) = _
  generalize (BitVec.ofInt 64 (a : Int) &&& ~~~BitVec.ofInt 64 3).toNat = N at *
  rw [IntKind.wrap_u64] at h'
  rw [IntKind.wrap_i64]
  omega
theorem Own.beside {w : World} {B : Nat} {e : TypeId} {y : Value} {ys : List Value} (h : Own w B e y ys) {i : Nat} (u : Value) (hi : sOff y + ys.length ≤ i) : Own (w.setCell ⟨sBlk y, i, none⟩ u) B e y ys := by
  refine ⟨h.isS, h.len, h.cap, ?_⟩
  rcases h.row with h0 | ⟨hb, cur, hg, hsz, ht⟩
  · exact .inl h0
  · refine .inr ⟨hb, _, heap_setCell_same w _ _ _ _ _ hg, by simpa using hsz, ?_⟩
    conv => rhs; rw [← ht]
    apply List.ext_getElem?
    intro k
    rw [Array.toList_setIfInBounds, List.getElem?_take, List.getElem?_take]
    split
    · rw [List.getElem?_drop, List.getElem?_drop, List.getElem?_set, if_neg (by omega)]
    · rfl
def subM (v : Value) (l h : Nat) : Value :=
  match v with
  | .slice a _ _ => sliced a l h h 1
  | v => v
theorem subM_eq {v : Value} {l h : Nat} (hv : IsS v) (hlh : l < h) (hc : h ≤ sCap v) : subM v l h = .slice (some ⟨sBlk v, sOff v + l, none⟩) (h - l) (h - l) := by
  have hv2 := hv.out (by omega)
  rw [hv2]
  simp only [subM, sliced, sBlk_mk, sOff_mk, if_neg (show ¬ h = l by omega), Option.map_some, Nat.mul_one, Addr.add_mk]
@[go_sem] theorem run_slice_S_lhm {P : Program} {w : World} (t : TypeId) (v : Value) (kl kh km : IntKind) (l h : Int) (hv : IsS v) (ht : P.underlying t = some (.slice (P.elem t))) (hsz : (sizeOf (P.elem t)).run P w = .ok 1 w) :
    (Instr.slice t v (some (.int kl l)) (some (.int kh h)) (some (.int km h))).run P w = if 0 ≤ l ∧ l ≤ h ∧ h ≤ sCap v then .ok (subM v l.toNat h.toNat) w else (Instr.slice t v (some (.int kl l)) (some (.int kh h)) (some (.int km h))).run P w := by
  split
  · rename_i hb
    match v, hv with
    | .slice a n c, hv => exact (run_slice_lhm (P := P) w t a n c ht kl kh km l h h hb.1 hb.2.1 (Int.le_refl _) hb.2.2).trans (by simp only [hsz, Result.andThen_ok]; rfl)
  · rfl
theorem Own.subM {w : World} {B : Nat} {e : TypeId} {v : Value} {xs : List Value} (h : Own w B e v xs) {l n : Nat} (h1 : l < n) (h2 : n ≤ xs.length) :
    Own w B e (subM v l n) ((xs.take n).drop l) := by
  have hl := h.len
  have hcap := h.isS.le
  have hc2 := h.cap
  rw [subM_eq h.isS h1 (by omega)]
  refine ⟨IsS.mk (Nat.le_refl _), by simp; omega, by rw [sCap_mk]; omega, ?_⟩
  rcases h.row with h0 | ⟨hb, cur, hg, hsz, ht⟩
  · omega
  · refine .inr ⟨hb, cur, hg, ?_, ?_⟩
    · show sOff v + l + (n - l) ≤ cur.size
      omega
    · show (cur.toList.drop (sOff v + l)).take _ = _
      have e1 : ((xs.take n).drop l).length = n - l := by simp; omega
      rw [e1]
      conv => rhs; rw [← ht]
      rw [List.take_take, List.drop_take, List.drop_drop, show min n xs.length = n by omega]
structure SiP (q n B L : Nat) (v x v' : Value) (w w' : World) : Prop where
  row : w'.heap[q]? = some (.cells #[v'] 204 (0, 0))
  own : ∃ ys : List Value, L ≤ ys.length ∧ ys.length ≤ L + n + 3 ∧ Own w' B 116 v' ys
  ownx : ∃ zs : List Value, zs.length = n ∧ Own w' B 116 x zs
  pos : sBlk x = sBlk v' ∧ sOff x = sOff v' + L ∧ sCap x = n ∧ L + n ≤ sLen v'
  at' : (sBlk v' = sBlk v ∧ sOff v' = sOff v ∧ 0 < sCap v) ∨ w.heap.size ≤ sBlk v'
  below : Below B w w'
  frame : ∀ k, k < w.heap.size → k ≠ q → (0 < sCap v → k ≠ sBlk v) → w'.heap[k]? = w.heap[k]?
  live : ∀ y ys, Own w B 116 y ys → (0 < sCap v → sBlk y = sBlk v → sOff y + sCap y ≤ sOff v + L) → Own w' B 116 y ys
set_option maxRecDepth 100000 in
set_option maxHeartbeats 1600000 in
theorem sinat_any (q n B L : Nat) (v : Value) (xs : List Value) (w : World) (hrow : w.heap[q]? = some (.cells #[v] 204 (0, 0))) (ho : Own w B 116 v xs) (hL : xs.length = L) (hB : B ≤ w.heap.size) (hBq : B ≤ q) (hn0 : 0 < n) (hn : n ≤ 1000000) (hl : L ≤ 1000000) :
    Calls Tryz.prog 211 #[.pointer (some ⟨q, 0, none⟩), .int .i64 n] w fun e w' => ∃ x v', e = .returned x ∧ SiP q n B L v x v' w w' := by
  have hS := ho.isS
  have hLv : sLen v = L := by rw [ho.len, hL]
  have hC := hS.le
  obtain ⟨m, hm⟩ : ∃ m, m = (n + 3) / 4 * 4 := ⟨_, rfl⟩
  have hm1 : n ≤ m ∧ m ≤ n + 3 := by omega
  have e1 : bits .andNot .i64 ((n : Int) + 3) 3 = (m : Int) := by rw [hm]; exact i64_up4 (a := n + 3) (by omega)
  obtain ⟨hm2, hm3⟩ := hm1
  obtain ⟨c0, f0⟩ := row_at (i := 0) hrow rfl
  have hql := get_lt hrow
  have HR := Lib.hid hrow
  have HO := Lib.hid ho
  have HL := Lib.hid hL
  have HB := Lib.hid hB
  have HGR := Lib.hid (growW_any v xs m B w ho (by omega) (by omega) hB)
  rw [hL] at HGR
  clear hrow ho hL hm hB
  go_enter Tryz.func211, Tryz.ntmps211
  go_wp2_with fail
  refine HGR.out.mono ?_
  rintro _ w1 ⟨r, rfl, hgr⟩
  obtain ⟨ys, hys, hor⟩ := hgr.own
  have hroom := hgr.room
  have hSr := hor.isS
  have hLr : sLen r = L := by rw [hor.len, hys]
  have hb1 : Below w.heap.size w w1 := by
    rcases hgr.how with ⟨rfl, -⟩ | ⟨-, -, h⟩
    · exact Below.refl _ _
    · exact h
  have rq1 := keep_row hb1 HR.out
  obtain ⟨c1, f1⟩ := row_at (i := 0) rq1 rfl
  have rq2 := rowset (i := 0) r rq1
  obtain ⟨zs, hzs, hoz⟩ := hor.grow (n := L + m) hroom
  have hSz := hoz.isS
  have hLz : sLen (subS r 0 (L + m)) = L + m := by rw [hoz.len, hzs]
  have hCz : sCap (subS r 0 (L + m)) = sCap r := subS_cap hSr
  have rq3 := rowset (i := 0) (subS r 0 (L + m)) rq2
  have hoz2 := ((hoz.away rq1 (by decide) 0 r).away rq2 (by decide) 0 (subS r 0 (L + m)))
  have hx := hoz2.subM (l := L) (n := L + n) (by omega) (by omega)
  have hxe := subM_eq (l := L) (h := L + n) hSz (by omega) (by omega)
  rw [(sub0 hSr).1, (sub0 hSr).2, Nat.add_sub_cancel_left] at hxe
  have hbk : sBlk (subM (subS r 0 (L + m)) L (L + n)) = sBlk r := by rw [hxe]; rfl
  have hof : sOff (subM (subS r 0 (L + m)) L (L + n)) = sOff r + L := by rw [hxe]; rfl
  have hcp : sCap (subM (subS r 0 (L + m)) L (L + n)) = n := by rw [hxe]; rfl
  have hln : sLen (subM (subS r 0 (L + m)) L (L + n)) = n := by rw [hxe]; simp
  obtain ⟨X, hX⟩ : ∃ X, subM (subS r 0 (L + m)) L (L + n) = X := ⟨_, rfl⟩
  rw [hX] at hx hbk hof hcp hln
  have hSx : IsS X := hx.isS
  have hxl : (((zs.take (L + n)).drop L)).length = n := by simp; omega
  obtain ⟨u0, hu0⟩ : ∃ u, ((zs.take (L + n)).drop L)[0]? = some u := ⟨_, List.getElem?_eq_getElem (by omega)⟩
  have cx := hx.cell hu0
  have hcx : 0 < sCap X := by omega
  have fx := hx.frozen hcx (sOff X)
  have hxs := hx.set (i := 0) (by omega) (.int .u64 1043915)
  have hBx := (hx.lt hcx).1
  rw [Nat.add_zero] at cx hxs
  have Q : Hid (SiP q n B L v X (subS r 0 (L + m)) w (((w1.setCell ⟨q, 0, none⟩ r).setCell ⟨q, 0, none⟩ (subS r 0 (L + m))).setCell ⟨sBlk X, sOff X, none⟩ (.int .u64 1043915))) := Lib.hid (by
    have hqr : q ≠ sBlk r := by
      intro he
      rcases hor.row with h0 | ⟨-, cur, hg, -⟩
      · omega
      · rw [← he, rq1] at hg
        have h5 := Option.some.inj hg
        injection h5 with h6 h7
        exact absurd h7 (by decide)
    have hb3 : Below B w (((w1.setCell ⟨q, 0, none⟩ r).setCell ⟨q, 0, none⟩ (subS r 0 (L + m))).setCell ⟨sBlk X, sOff X, none⟩ (.int .u64 1043915)) :=
      bset (bset (bset (hb1.mono HB.out) hBq) hBq) hBx
    refine ⟨?_, ⟨_, ?_, ?_, hoz2.set (i := L) (by omega) (.int .u64 1043915) |> fun h => by rw [(sub0 hSr).1, (sub0 hSr).2] at h; rw [hbk, hof]; exact h⟩, ⟨_, by rw [List.length_set]; exact hxl, hxs⟩, ⟨by rw [hbk, (sub0 hSr).1], by rw [hof, (sub0 hSr).2], hcp, by omega⟩, ?_, hb3, ?_, ?_⟩
    · rw [heap_setCell_other _ _ _ _ (by simp only; rw [hbk]; exact hqr)]; exact rq3
    · rw [List.length_set]; omega
    · rw [List.length_set]; omega
    · rw [(sub0 hSr).1, (sub0 hSr).2]
      rcases hgr.how with ⟨-, rfl⟩ | ⟨h, -, -⟩
      · exact .inl ⟨rfl, rfl, by omega⟩
      · exact .inr h
    · intro k hk hkq hkv
      have hkr : k ≠ sBlk r := by
        rcases hgr.how with ⟨-, rfl⟩ | ⟨h, -, -⟩
        · exact hkv (by omega)
        · omega
      rw [heap_setCell_other _ _ _ _ (by simp only; rw [hbk]; exact hkr), heap_setCell_other _ _ _ _ (by simp only; exact hkq), heap_setCell_other _ _ _ _ (by simp only; exact hkq)]
      exact hb1.block k hk
    · intro y ys' hy hlive
      have hy2 : Own ((w1.setCell ⟨q, 0, none⟩ r).setCell ⟨q, 0, none⟩ (subS r 0 (L + m))) B 116 y ys' := ((hy.below hb1).away rq1 (by decide) 0 r).away rq2 (by decide) 0 (subS r 0 (L + m))
      rw [hbk, hof]
      by_cases hyb : sBlk y = sBlk r
      · rw [← hyb]
        by_cases hyc0 : sCap y = 0
        · exact hy2.same fun h => by omega
        · refine hy2.beside _ ?_
          have hyl := hy.len
          have hyc := hy.isS.le
          rcases hgr.how with ⟨-, rfl⟩ | ⟨h, -, -⟩
          · have := hlive (by omega) hyb; omega
          · have := (hy.lt (by omega)).2; omega
      · exact hy2.same fun _ => heap_setCell_other _ _ _ _ (by simp only; exact hyb))
  clear hor hgr rq1 rq2 rq3 hoz hoz2 hx hu0 hxs hb1 hxe hxl hbk hof hcp
  go_wp2
  go_ret
  exact ⟨X, _, by rw [← hX]; rfl, Q.out⟩
end Go.Proofs.YtllhnjpnkmjopaaGreatDoor
