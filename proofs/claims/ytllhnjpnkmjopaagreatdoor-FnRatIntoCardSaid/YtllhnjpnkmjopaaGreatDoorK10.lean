/-
Texts of this proof, joined: DdA DdB DdC SkA VvL. No condition.
-/
import Derived.Test.YtllhnjpnkmjopaaGreatDoorK03
import Derived.Test.YtllhnjpnkmjopaaGreatDoorK04
import Derived.Test.YtllhnjpnkmjopaaGreatDoorK08
import Derived.Test.YtllhnjpnkmjopaaGreatDoorK09
import Derived.Lib.AppendZeros
namespace Go.Proofs.YtllhnjpnkmjopaaGreatDoor
open Go.RowKit

theorem kd_le {D N T v r q V R : Nat} (hV : V = D * T + v) (hR : R = N * T + r) (hr : r < T) (hq : q * V ≤ R) : q * D ≤ N := by
  have h1 : q * D * T ≤ q * V := by rw [hV, Nat.mul_add, ← Nat.mul_assoc]; exact Nat.le_add_right _ _
  have h2 : q * D * T < (N + 1) * T := by rw [Nat.add_mul, Nat.one_mul]; omega
  have := Nat.lt_of_mul_lt_mul_right h2
  omega
theorem kd_ge {b D N T v r q V R : Nat} (hV : V = D * T + v) (hR : R = N * T + r) (hv : v < T) (hb : b * T ≤ V) (hVp : 0 < V) (h3 : q * D ≤ N) (hq : q ≤ b) : q * V < R + V := by
  have h1 : q * V = q * D * T + q * v := by rw [hV, Nat.mul_add, ← Nat.mul_assoc]
  have h2 : q * D * T ≤ N * T := Nat.mul_le_mul_right _ h3
  rcases Nat.eq_zero_or_pos q with h0 | h0
  · rw [h0, Nat.zero_mul]; omega
  · have h4 : q * v < q * T := (Nat.mul_lt_mul_left h0).2 hv
    have h5 : q * T ≤ b * T := Nat.mul_le_mul_right _ hq
    omega
theorem le_div_of {q V R : Nat} (hV : 0 < V) (h : q * V ≤ R) : q ≤ R / V := (Nat.le_div_iff_mul_le hV).2 h
theorem kd_near {q V R : Nat} (hV : 0 < V) (h : q * V < R + V) : q ≤ R / V + 1 := by
  have h1 : R < (R / V + 1) * V := by rw [Nat.add_mul, Nat.one_mul, Nat.mul_comm]; have := Nat.div_add_mod R V; have := Nat.mod_lt R hV; omega
  have h2 : q * V < (R / V + 2) * V := by rw [show R / V + 2 = R / V + 1 + 1 by omega, Nat.add_mul (R / V + 1), Nat.one_mul]; omega
  have := Nat.lt_of_mul_lt_mul_right h2
  omega
theorem kd_guess {b T v1 v2 v u2 u1 u0 r V R qh rh : Nat} (hV : V = (v1 * b + v2) * T + v) (hR : R = ((u2 * b + u1) * b + u0) * T + r) (hv : v < T) (hr : r < T) (hv1 : 0 < v1) (hb : 0 < b)
    (inv : qh * v1 + rh = u2 * b + u1) (up : (u2 * b + u1) * b + u0 < (qh + 1) * (v1 * b + v2)) (stop : qh * v2 ≤ rh * b + u0) (hq : qh ≤ b) : R / V ≤ qh ∧ qh ≤ R / V + 1 := by
  have hbT : b * T ≤ V := by
    have h1 : b ≤ v1 * b := Nat.le_mul_of_pos_left _ hv1
    have h2 : b * T ≤ (v1 * b + v2) * T := Nat.mul_le_mul_right _ (by omega)
    omega
  have hVp : 0 < V := by have := Nat.mul_pos hb (show 0 < T by omega); omega
  constructor
  · have h1 := kd_le (q := R / V) hV hR hr (Nat.div_mul_le_self R V)
    have h2 : R / V * (v1 * b + v2) < (qh + 1) * (v1 * b + v2) := Nat.lt_of_le_of_lt h1 up
    have := Nat.lt_of_mul_lt_mul_right h2
    omega
  · refine kd_near hVp (kd_ge hV hR hv hbT hVp ?_ hq)
    have h1 : qh * (v1 * b + v2) = (qh * v1) * b + qh * v2 := by rw [Nat.mul_add, Nat.mul_assoc]
    have h2 : (u2 * b + u1) * b = qh * v1 * b + rh * b := by rw [← inv, Nat.add_mul]
    omega
theorem kd_start {b v1 v2 u0 N2 qh rh : Nat} (inv : qh * v1 + rh = N2) (hrh : rh < v1) (hu0 : u0 < b) : N2 * b + u0 < (qh + 1) * (v1 * b + v2) := by
  have h1 : (qh + 1) * (v1 * b + v2) = ((qh + 1) * v1) * b + (qh + 1) * v2 := by rw [Nat.mul_add, Nat.mul_assoc]
  have h2 : N2 + 1 ≤ (qh + 1) * v1 := by rw [Nat.add_mul, Nat.one_mul]; omega
  have h3 : (N2 + 1) * b ≤ (qh + 1) * v1 * b := Nat.mul_le_mul_right _ h2
  rw [Nat.add_mul, Nat.one_mul] at h3
  omega
theorem kd_step {b v1 v2 u0 N2 qh rh : Nat} (inv : (qh + 1) * v1 + rh = N2) (go : rh * b + u0 < (qh + 1) * v2) : N2 * b + u0 < (qh + 1) * (v1 * b + v2) ∧ qh * v1 + (rh + v1) = N2 := by
  have h1 : (qh + 1) * (v1 * b + v2) = ((qh + 1) * v1) * b + (qh + 1) * v2 := by rw [Nat.mul_add, Nat.mul_assoc]
  have h2 : N2 * b = (qh + 1) * v1 * b + rh * b := by rw [← inv, Nat.add_mul]
  refine ⟨by omega, ?_⟩
  rw [Nat.add_mul, Nat.one_mul] at inv
  omega
theorem kd_max {b T v1 v2 v u1 u0 r V R : Nat} (hV : V = (v1 * b + v2) * T + v) (hR : R = ((v1 * b + u1) * b + u0) * T + r) (hv : v < T) (hv2 : v2 < b) (hb : b ≤ 2 * v1 + 2) (hVp : 0 < V) (hRV : R < b * V) :
    R / V ≤ b - 1 ∧ b - 1 ≤ R / V + 1 := by
  have h0 : R / V < b := (Nat.div_lt_iff_lt_mul hVp).2 hRV
  refine ⟨by omega, ?_⟩
  have h1 : V ≤ (v1 + 1) * (b * T) := by
    have e1 : (v1 + 1) * (b * T) = v1 * b * T + b * T := by rw [Nat.add_mul, Nat.one_mul, Nat.mul_assoc]
    have e2 : (v1 * b + v2) * T = v1 * b * T + v2 * T := Nat.add_mul _ _ _
    have e3 : (v2 + 1) * T ≤ b * T := Nat.mul_le_mul_right _ hv2
    rw [Nat.add_mul, Nat.one_mul] at e3
    omega
  have h2 : v1 * b * (b * T) ≤ R := by
    have e1 : v1 * b * (b * T) = v1 * b * b * T := (Nat.mul_assoc _ _ _).symm
    have e2 : v1 * b * b * T ≤ ((v1 * b + u1) * b + u0) * T := Nat.mul_le_mul_right _ (by rw [Nat.add_mul]; omega)
    omega
  have h3 : (b - 2) * (v1 + 1) ≤ v1 * b := by
    rcases Nat.lt_or_ge b 2 with hlt | hge
    · rw [show b - 2 = 0 by omega, Nat.zero_mul]; exact Nat.zero_le _
    · obtain ⟨c, rfl⟩ : ∃ c, b = c + 2 := ⟨b - 2, by omega⟩
      rw [show c + 2 - 2 = c by omega, Nat.mul_add, Nat.mul_one, Nat.mul_add, Nat.mul_comm c]
      omega
  have h4 : (b - 2) * V ≤ R := by
    refine Nat.le_trans (Nat.mul_le_mul_left _ h1) (Nat.le_trans ?_ h2)
    rw [← Nat.mul_assoc]
    exact Nat.mul_le_mul_right _ h3
  have := le_div_of hVp h4
  omega
theorem kd_sub0 {V R qh Z : Nat} (hVp : 0 < V) (h1 : R / V ≤ qh) (h : R = qh * V + Z) (_h2 : qh ≤ R / V + 1) : qh = R / V ∧ Z = R % V := by
  have h3 : qh ≤ R / V := le_div_of hVp (by omega)
  have h4 : qh = R / V := by omega
  refine ⟨h4, ?_⟩
  have := Nat.div_add_mod R V
  rw [h4, Nat.mul_comm] at h
  omega
theorem kd_sub1 {V R qh Z bn b Zl Zh L c : Nat} (hVp : 0 < V) (_h1 : R / V ≤ qh) (h2 : qh ≤ R / V + 1) (h : R + bn * b = qh * V + Z) (hZ : Z = Zl + bn * Zh) (hZl : Zl < bn) (hZh : Zh < b) (ha : Zl + V = L + bn * c) (hL : L < bn) (hV : V ≤ bn) :
    0 < qh ∧ qh - 1 = R / V ∧ L = R % V ∧ Zh + c = b := by
  have hlt : R < qh * V := by
    have : bn * (Zh + 1) ≤ bn * b := Nat.mul_le_mul_left _ hZh
    rw [Nat.mul_add, Nat.mul_one] at this
    omega
  have h3 : R / V < qh := (Nat.div_lt_iff_lt_mul hVp).2 hlt
  have h4 : qh = R / V + 1 := by omega
  have hm := Nat.mod_lt R hVp
  have hd := Nat.div_add_mod R V
  generalize hQ : R / V = Q at *
  generalize hM : R % V = M at *
  have h5 : qh * V = V * Q + V := by rw [h4, Nat.add_mul, Nat.one_mul, Nat.mul_comm]
  have h6 : M + bn * b = L + bn * (Zh + c) := by rw [Nat.mul_add]; omega
  have h7 : M < bn := Nat.lt_of_lt_of_le hm hV
  have h8 : L = M := by
    have e1 := congrArg (· % bn) h6
    simp only [Nat.add_mul_mod_self_left, Nat.mod_eq_of_lt h7, Nat.mod_eq_of_lt hL] at e1
    exact e1.symm
  refine ⟨by omega, by omega, h8, ?_⟩
  have h9 : bn * (Zh + c) = bn * b := by omega
  exact Nat.eq_of_mul_eq_mul_left (by omega) h9
theorem wdg_div (X j i : Nat) : wdg (X / 18446744073709551616 ^ j) i = wdg X (j + i) := by
  unfold wdg; rw [Nat.div_div_eq_div_mul, ← Nat.pow_add]
theorem dd_step {U V j : Nat} (hV : 0 < V) :
    U % (V * 18446744073709551616 ^ (j + 1)) / 18446744073709551616 ^ j < 18446744073709551616 * V ∧
    U % (V * 18446744073709551616 ^ (j + 1)) / 18446744073709551616 ^ j / V = wdg (U / V) j ∧
    U % (V * 18446744073709551616 ^ j) = U % (V * 18446744073709551616 ^ (j + 1)) % 18446744073709551616 ^ j + 18446744073709551616 ^ j * (U % (V * 18446744073709551616 ^ (j + 1)) / 18446744073709551616 ^ j % V) := by
  have hP : 0 < 18446744073709551616 ^ j := wpow_pos j
  have hM : 0 < V * 18446744073709551616 ^ (j + 1) := Nat.mul_pos hV (wpow_pos _)
  have e1 : V * 18446744073709551616 ^ (j + 1) = 18446744073709551616 ^ j * V * 18446744073709551616 := by
    rw [Nat.pow_succ, Nat.mul_comm V, Nat.mul_assoc, Nat.mul_assoc, Nat.mul_comm 18446744073709551616 V]
  refine ⟨?_, ?_, ?_⟩
  · refine Nat.div_lt_of_lt_mul ?_
    have := Nat.mod_lt U hM
    have e2 : V * 18446744073709551616 ^ (j + 1) = 18446744073709551616 ^ j * (18446744073709551616 * V) := by rw [e1, Nat.mul_assoc, Nat.mul_comm V]
    omega
  · rw [Nat.div_div_eq_div_mul, e1, Nat.mod_mul_right_div_self]
    unfold wdg
    rw [Nat.div_div_eq_div_mul, Nat.mul_comm V]
  · have e3 : U % (V * 18446744073709551616 ^ (j + 1)) % (18446744073709551616 ^ j * V) = U % (18446744073709551616 ^ j * V) := by
      rw [e1, Nat.mod_mod_of_dvd _ (Nat.dvd_mul_right _ _)]
    rw [Nat.mul_comm V (18446744073709551616 ^ j), ← e3, Nat.mod_mul]
theorem dd_start {U V m : Nat} (h : U < V * 18446744073709551616 ^ m) : U % (V * 18446744073709551616 ^ m) = U ∧ U % (V * 18446744073709551616 ^ (m + 1)) = U ∧ U / V < 18446744073709551616 ^ m ∧ wdg (U / V) m = 0 := by
  have h1 : V * 18446744073709551616 ^ m ≤ V * 18446744073709551616 ^ (m + 1) := Nat.mul_le_mul_left _ (Nat.pow_le_pow_right (by decide) (Nat.le_succ m))
  have h2 : U / V < 18446744073709551616 ^ m := Nat.div_lt_of_lt_mul h
  refine ⟨Nat.mod_eq_of_lt h, Nat.mod_eq_of_lt (by omega), h2, ?_⟩
  unfold wdg
  rw [Nat.div_eq_of_lt h2]
theorem wdsN_window (X L : Nat) {j n : Nat} (h : j + n ≤ L) : ((wdsN X L).take (j + n)).drop j = wdsN (X / 18446744073709551616 ^ j) n := by
  refine wdsN_of (by rw [List.length_drop, List.length_take, wdsN_length]; omega) fun i hi => ?_
  rw [List.getD_eq_getElem?_getD, List.getElem?_drop, List.getElem?_take, if_pos (by omega), ← List.getD_eq_getElem?_getD, wdsN_getD (by omega), wdg_div]
theorem wdg_join {A R j : Nat} (hA : A < 18446744073709551616 ^ j) (i : Nat) : wdg (A + 18446744073709551616 ^ j * R) i = if i < j then wdg A i else wdg R (i - j) := by
  split
  · rename_i h
    unfold wdg
    obtain ⟨k, rfl⟩ : ∃ k, j = i + (k + 1) := ⟨j - i - 1, by omega⟩
    rw [Nat.pow_add, Nat.mul_assoc, Nat.add_mul_div_left _ _ (wpow_pos i), Nat.pow_succ, Nat.mul_comm _ 18446744073709551616, Nat.mul_assoc, Nat.add_mul_mod_self_left]
  · rename_i h
    obtain ⟨k, rfl⟩ : ∃ k, i = j + k := ⟨i - j, by omega⟩
    rw [← wdg_div, Nat.add_mul_div_left _ _ (wpow_pos j), Nat.div_eq_of_lt hA, Nat.zero_add, show j + k - j = k by omega]
theorem wdg_lowmod (X j i : Nat) (h : i < j) : wdg (X % 18446744073709551616 ^ j) i = wdg X i := by
  unfold wdg
  obtain ⟨k, rfl⟩ : ∃ k, j = i + (k + 1) := ⟨j - i - 1, by omega⟩
  rw [Nat.pow_add, Nat.mod_mul_right_div_self, Nat.pow_succ, Nat.mod_mod_of_dvd _ (Nat.dvd_mul_left _ _)]
theorem wdg_small {X i k : Nat} (h : X < 18446744073709551616 ^ k) (hk : k ≤ i) : wdg X i = 0 := by
  unfold wdg
  rw [Nat.div_eq_of_lt (Nat.lt_of_lt_of_le h (Nat.pow_le_pow_right (by decide) hk))]
theorem wdsN_patch {X L j n R : Nat} (h : j + n ≤ L) (hX : X < 18446744073709551616 ^ (j + n)) (hR : R < 18446744073709551616 ^ n) :
    (wdsN X L).take j ++ (wdsN R n ++ (wdsN X L).drop (j + n)) = wdsN (X % 18446744073709551616 ^ j + 18446744073709551616 ^ j * R) L := by
  have l1 : ((wdsN X L).take j).length = j := by rw [List.length_take, wdsN_length]; omega
  refine wdsN_of (by simp [wdsN_length]; omega) fun i hi => ?_
  rw [wdg_join (Nat.mod_lt _ (wpow_pos j)), List.getD_eq_getElem?_getD]
  by_cases h1 : i < j
  · rw [if_pos h1, List.getElem?_append_left (by omega), List.getElem?_take, if_pos h1, ← List.getD_eq_getElem?_getD, wdsN_getD hi, wdg_lowmod _ _ _ h1]
  · rw [if_neg h1, List.getElem?_append_right (by omega), l1]
    by_cases h2 : i - j < n
    · rw [List.getElem?_append_left (by rw [wdsN_length]; exact h2), ← List.getD_eq_getElem?_getD, wdsN_getD h2]
    · rw [List.getElem?_append_right (by rw [wdsN_length]; omega), wdsN_length, List.getElem?_drop, ← List.getD_eq_getElem?_getD, show j + n + (i - j - n) = i by omega, wdsN_getD hi, wdg_small hX (by omega), wdg_small hR (by omega)]
theorem wtop2 {V k : Nat} (h : V < 18446744073709551616 ^ (k + 2)) : V = (wdg V (k + 1) * 18446744073709551616 + wdg V k) * 18446744073709551616 ^ k + V % 18446744073709551616 ^ k := by
  have h1 := wmod_succ V (k + 1)
  have h2 := wmod_succ V k
  rw [show k + 1 + 1 = k + 2 by omega, Nat.mod_eq_of_lt h] at h1
  have e1 : 18446744073709551616 ^ (k + 1) * wdg V (k + 1) = wdg V (k + 1) * 18446744073709551616 * 18446744073709551616 ^ k := by
    rw [Nat.mul_comm (18446744073709551616 ^ (k + 1)), Nat.pow_succ, Nat.mul_comm (18446744073709551616 ^ k), ← Nat.mul_assoc]
  rw [Nat.add_mul, ← e1, Nat.mul_comm (wdg V k)]
  rw [h2] at h1
  exact h1.trans (by rw [Nat.add_comm, Nat.add_comm (V % _), ← Nat.add_assoc])
theorem wtop3 {R k : Nat} (h : R < 18446744073709551616 ^ (k + 3)) : R = ((wdg R (k + 2) * 18446744073709551616 + wdg R (k + 1)) * 18446744073709551616 + wdg R k) * 18446744073709551616 ^ k + R % 18446744073709551616 ^ k := by
  have h1 := wmod_succ R (k + 2)
  rw [show k + 2 + 1 = k + 3 by omega, Nat.mod_eq_of_lt h] at h1
  have h2 := wtop2 (V := R % 18446744073709551616 ^ (k + 2)) (k := k) (Nat.mod_lt _ (wpow_pos _))
  rw [wdg_lowmod _ _ _ (by omega), wdg_lowmod _ _ _ (by omega), Nat.mod_mod_of_dvd _ (Nat.pow_dvd_pow _ (by omega : k ≤ k + 2))] at h2
  have e1 : 18446744073709551616 ^ (k + 2) * wdg R (k + 2) = wdg R (k + 2) * 18446744073709551616 * 18446744073709551616 * 18446744073709551616 ^ k := by
    rw [Nat.pow_succ, Nat.pow_succ]; grind
  have e2 : ((wdg R (k + 2) * 18446744073709551616 + wdg R (k + 1)) * 18446744073709551616 + wdg R k) * 18446744073709551616 ^ k =
      wdg R (k + 2) * 18446744073709551616 * 18446744073709551616 * 18446744073709551616 ^ k + (wdg R (k + 1) * 18446744073709551616 + wdg R k) * 18446744073709551616 ^ k := by
    rw [Nat.add_mul (wdg R (k + 2) * 18446744073709551616), Nat.add_assoc, Nat.add_mul]
  rw [e2, ← e1]
  rw [h2] at h1
  exact h1.trans (by rw [Nat.add_comm, ← Nat.add_assoc])
set_option maxRecDepth 100000 in
theorem mulWW_any (x y : Nat) (w : World) (hx : x < 18446744073709551616) (hy : y < 18446744073709551616) :
    Calls Tryz.prog 166 #[.int .u64 x, .int .u64 y] w fun e w' => e = .returned (.tuple #[.int .u64 ((x * y / 18446744073709551616 : Nat) : Int), .int .u64 ((x * y % 18446744073709551616 : Nat) : Int)]) ∧ w' = w := by
  have HM := Lib.hid (Tryz.bits_Mul x y hx hy w)
  obtain ⟨hi, hhi⟩ : ∃ hi, hi = x * y / 18446744073709551616 := ⟨_, rfl⟩
  obtain ⟨lo, hlo⟩ : ∃ lo, lo = x * y % 18446744073709551616 := ⟨_, rfl⟩
  rw [← hhi, ← hlo] at HM
  rw [← hhi, ← hlo]
  clear hhi hlo
  go_enter Tryz.func166, Tryz.ntmps166
  go_wp2_with fail
  refine HM.out.mono ?_
  rintro _ _ ⟨rfl, rfl⟩
  go_wp2
  go_ret2
  exact ⟨rfl, rfl⟩
set_option maxRecDepth 100000 in
theorem gt_any (x1 x2 y1 y2 : Nat) (b : Bool) (w : World) (hx : x2 < 18446744073709551616) (hy : y2 < 18446744073709551616) (hb : b = decide (y1 * 18446744073709551616 + y2 < x1 * 18446744073709551616 + x2)) :
    Calls Tryz.prog 233 #[.int .u64 x1, .int .u64 x2, .int .u64 y1, .int .u64 y2] w fun e w' => e = .returned (.bool b) ∧ w' = w := by
  rcases Nat.lt_trichotomy y1 x1 with h | h | h
  · have hbt : b = true := by rw [hb]; exact decide_eq_true (by omega)
    subst hbt
    have t1 : decide (y1 < x1) = true := decide_eq_true h
    clear hb hx hy h
    go_enter Tryz.func233, Tryz.ntmps233
    go_wp2
    go_ret
    exact ⟨rfl, rfl⟩
  · subst h
    have t1 : decide (y1 < y1) = false := decide_eq_false (by omega)
    by_cases h2 : y2 < x2
    · have hbt : b = true := by rw [hb]; exact decide_eq_true (by omega)
      subst hbt
      have t2 : decide (y2 < x2) = true := decide_eq_true h2
      clear hb hx hy h2
      go_enter Tryz.func233, Tryz.ntmps233
      go_wp2
      go_ret
      exact ⟨rfl, rfl⟩
    · have hbt : b = false := by rw [hb]; exact decide_eq_false (by omega)
      subst hbt
      have t2 : decide (y2 < x2) = false := decide_eq_false h2
      clear hb hx hy h2
      go_enter Tryz.func233, Tryz.ntmps233
      go_wp2
      go_ret
      exact ⟨rfl, rfl⟩
  · have hbt : b = false := by rw [hb]; exact decide_eq_false (by omega)
    subst hbt
    have t1 : decide (y1 < x1) = false := decide_eq_false (by omega)
    have t2 : ((x1 : Int) == (y1 : Int)) = false := by rw [beq_eq_false_iff_ne]; omega
    have t3 : (x1 == y1) = false := by rw [beq_eq_false_iff_ne]; omega
    clear hb hx hy h
    go_enter Tryz.func233, Tryz.ntmps233
    go_wp2
    go_ret
    exact ⟨rfl, rfl⟩
theorem run_append_more {P : Program} (w : World) (t tn ty e : TypeId) (i : TypeInfo) (z : Value) (kn : IntKind) (ht : P.underlying t = some (.slice e)) (htn : P.underlying tn = some (.int kn)) (hi : P.info? e = some i) (hz : i.zero = some z)
    (base : Option Addr) (c : Nat) (olds : List Value) (hold : (Builtin.firstCells i.size c (.slice base c c)).run P w.drew = .ok olds.toArray w.drew) (n : Nat) (h0 : 0 < n) (hs : i.size = 1)
    (h63 : ((c + n : Nat) : Int) ≤ 9223372036854775807) (h48 : n * i.bytes ≤ 281474976710656) (hfit : Builtin.nextslicecap (c + n) c * i.bytes ≤ 281474976710656) :
    (Builtin.append_ #[t, tn] ty #[.slice base c c, .int .i64 n]).run P w =
      .ok (.slice (some ⟨w.heap.size, 0, none⟩) (c + n) (grownCap w (c + n) c e)) (w.drew.alloc (.cells ((olds.toArray ++ Builtin.zeroCells z.cells n) ++ Builtin.zeroCells z.cells (grownCap w (c + n) c e - (c + n))) e)) := by
  have hn : n ≠ 0 := by omega
  have hw : IntKind.i64.wrap (n : Int) = n := by rw [IntKind.wrap_i64]; omega
  have h63' : ¬ (9223372036854775807 < ((c : Int) + (n : Int))) := by omega
  have h48' : ¬ (281474976710656 < Builtin.nextslicecap (c + n) c * i.bytes) := by omega
  have h48i : ¬ (281474976710656 < (n : Int) * (i.bytes : Int)) := by
    rw [← Int.natCast_mul]
    omega
  have hneg : ¬ ((n : Int) < 0) := by omega
  have hns : ¬ (n * i.size = 0) := Nat.mul_ne_zero hn (by omega)
  have hcn : ¬ (c + n ≤ c) := by omega
  have hold' := hold
  rw [hs] at hold'
  simp [Builtin.append_, run_underlying ht, run_underlying htn, sizeOf, typeInfo, zeroValue, hi, hz, asInt, asIntOf, hw, hn, hneg, hcn, h63', h48', h48i, Question.forced, hs, hold', newRow, grownCap]
theorem zeroCells_rep (z : Value) (n : Nat) : (Builtin.zeroCells #[z] n).toList = List.replicate n z := by
  apply List.ext_getElem
  · simp [Builtin.zeroCells]
  · intro j h1 h2
    simp [Builtin.zeroCells, Nat.mod_one]
theorem wpList_appendN_O {P : Program} {ops : Array Oper} {rest : List Oper} {o : Oper} {a : Act} {Q : Exit → Act → World → Prop} {w : World} (hgd : o.guard = none) (s x : Operand) (t tn : TypeId)
    (ho : o.op = .call { callee := .builtin .append, args := #[s, x], argTypes := #[t, tn] }) {e : TypeId} {bytes : Nat} {z : Value} (E : ElemT P t e bytes z) {kn : IntKind} (htn : P.underlying tn = some (.int kn)) (hby : bytes ≤ 8)
    (B : Nat) (v : Value) (xs : List Value) (hs : a.eval s = v) (hown : Own w B e v xs) (hfull : sCap v = xs.length) (n : Nat) (hx : a.eval x = .int .i64 n) (h0 : 0 < n) (hb : xs.length + n ≤ 1000000000)
    (h : ∀ v' w', Own w' w.heap.size e v' (xs ++ List.replicate n z) → Below w.heap.size w w' → sOff v' = 0 → sBlk v' = w.heap.size → 0 < sCap v' → wpList P ops Q rest (a.put o.dst v') w') : wpList P ops Q (o :: rest) a w := by
  obtain ⟨i, hi, hz, hsz, hbb, hzc⟩ := E.info
  have hl := hown.len
  have hcap := hown.isS.le
  have hxl : sLen v = sCap v := by omega
  have hvv : ∃ b, v = .slice b xs.length xs.length := by
    match v, hown.isS, hl, hfull with
    | .slice b n c, _, h1, h2 => exact ⟨b, by rw [show n = xs.length from h1, show c = xs.length from h2]⟩
  obtain ⟨b, hv⟩ := hvv
  have hold : (Builtin.firstCells i.size xs.length (.slice b xs.length xs.length)).run P w.drew = .ok xs.toArray w.drew := by
    rw [← hv]
    by_cases hc0 : sCap v = 0
    · obtain ⟨a', ha⟩ := hown.isS.out0 hc0
      have hx0 : xs = [] := List.eq_nil_of_length_eq_zero (by omega)
      rw [ha, hx0]
      cases a' <;> simp [Builtin.firstCells, loadCells, loadCellsFrom]
    · have hv2 := hown.isS.out (by omega)
      conv => lhs; rw [hv2]
      rw [hsz, hl]
      rw [show sCap v = xs.length from hfull]
      exact run_firstCells_some w.drew 1 xs.length _ _ _ xs (by simp) (fun j u hj => by rw [Addr.add_mk]; exact hown.cell hj)
  have hfit : Builtin.nextslicecap (xs.length + n) xs.length * i.bytes ≤ 281474976710656 := growslice_fits (by omega) (by rw [hbb]; have := Nat.mul_le_mul_left (xs.length + n) hby; omega)
  have hr := run_append_more (P := P) w t tn o.type e i z kn E.ht htn hi hz b xs.length xs hold n h0 hsz (by omega) (by rw [hbb]; have := Nat.mul_le_mul_left n hby; omega) hfit
  have hge := grownCap_ge w (xs.length + n) xs.length e
  have hcm := grownCap_le_maxLen w (xs.length + n) xs.length e (by unfold maxLen; omega)
  refine wpList_plain hgd fun K hK => ?_
  unfold Oper.wp execOp
  simp only [ho, resolve, invoke, builtin, Sem.run_bind, Sem.run_pure, Result.andThen_ok, List.map_toArray, List.map_cons, List.map_nil, hs, hx, hv, hr]
  refine hK _ _ (h _ _ ⟨IsS.mk hge, by simp, hcm, .inr ⟨Nat.le_refl _, _, heap_alloc_new w.drew _, ?_, ?_⟩⟩ ((Below.refl _ _).drew.alloc (Nat.le_refl _) _) rfl rfl (by rw [sCap_mk]; omega))
  · simp only [sOff_mk, sCap_mk, Array.size_append, List.size_toArray, size_zeroCells, hzc]; simp; omega
  · simp only [sOff_mk, Array.toList_append, List.drop_zero, hzc, zeroCells_rep]
    rw [List.take_left' (by simp)]
theorem intI : Tryz.prog.underlying 3 = some (.int .i64) := Tryz.underlying3
structure GrP (s r : Value) (n B : Nat) (L : Nat) (w w' : World) : Prop where
  own : ∃ ys : List Value, ys.length = L ∧ Own w' B 116 r ys
  room : L + n ≤ sCap r
  how : (w' = w ∧ r = s) ∨ (w.heap.size ≤ sBlk r ∧ sOff r = 0 ∧ Below w.heap.size w w')
set_option maxRecDepth 100000 in
set_option maxHeartbeats 800000 in
theorem growW_any (s : Value) (xs : List Value) (n B : Nat) (w : World) (hs : Own w B 116 s xs) (hn : n ≤ 100000000) (hl : xs.length ≤ 100000000) (hB : B ≤ w.heap.size) :
    Calls Tryz.prog 227 #[s, .int .i64 n] w fun e w' => ∃ r, e = .returned r ∧ GrP s r n B xs.length w w' := by
  have hS := hs.isS
  have hle := hS.le
  have hL := hs.len
  obtain ⟨L, hLL⟩ : ∃ L, L = xs.length := ⟨_, rfl⟩
  rw [← hLL] at hL ⊢
  obtain ⟨c, hcc⟩ : ∃ c, c = sCap s := ⟨_, rfl⟩
  have hcm := hs.cap
  unfold maxLen at hcm
  rw [← hcc] at hle hcm
  rw [← hLL] at hl
  by_cases hr : L + n ≤ c
  · have Q : Hid (GrP s s n B L w w) := Lib.hid ⟨⟨xs, hLL.symm, hs⟩, by omega, .inl ⟨rfl, rfl⟩⟩
    have t1 : decide ((n : Int) < 0) = false := decide_eq_false (by omega)
    have t2 : decide ((n : Int) - ((c : Int) - (L : Int)) > 0) = false := decide_eq_false (by omega)
    have t2' : decide (0 < (n : Int) - ((c : Int) - (L : Int))) = false := decide_eq_false (by omega)
    have hcap : sCap s = c := hcc.symm
    clear hs hcc hLL
    go_enter Tryz.func227, Tryz.ntmps227
    go_wp2
    go_ret
    exact ⟨_, rfl, Q.out⟩
  · obtain ⟨m, hm⟩ : ∃ m, L + n = c + m := ⟨L + n - c, by omega⟩
    have e1 : (n : Int) - ((c : Int) - (L : Int)) = (m : Int) := by omega
    have hmp : 0 < m := by omega
    have t1 : decide ((n : Int) < 0) = false := decide_eq_false (by omega)
    have t2 : decide ((m : Int) > 0) = true := decide_eq_true (by omega)
    have t2' : decide (0 < m) = true := decide_eq_true hmp
    obtain ⟨ys, hy, ho⟩ := hs.grow (n := c) (by omega)
    have hSo := ho.isS
    have hco : sCap (subS s 0 c) = ys.length := by rw [subS_cap hS, hy]; omega
    have hcap : sCap s = c := hcc.symm
    have HO := Lib.hid ho
    have HCO := Lib.hid hco
    have HY := Lib.hid hy
    have HM := Lib.hid hm
    have HB := Lib.hid hB
    have hmb : m ≤ 200000000 := by omega
    clear hs hcc hLL ho hco hy hm hr hB
    go_enter Tryz.func227, Tryz.ntmps227
    go_wp2_with (at_builtin; refine wpList_appendN_O rfl _ _ _ _ rfl elemW intI (by decide) B _ ys rfl HO.out HCO.out m rfl hmp ?c1 ?_)
    case c1 => rw [HY.out]; omega
    intro v' w1 ho1 hb1 hof hbl hcp
    have hS1 := ho1.isS
    have hl1 : sLen v' = c + m := by rw [ho1.len, List.length_append, List.length_replicate, HY.out]
    have hc1 := hS1.le
    have hsub := ho1.sub (l := 0) (n := L) (Nat.zero_le _) (by rw [List.length_append, List.length_replicate, HY.out]; omega)
    have Q : Hid (GrP s (subS v' 0 L) n B L w w1) := Lib.hid ⟨⟨_, by rw [List.length_drop, List.length_take, List.length_append, List.length_replicate, HY.out]; omega, hsub.mono HB.out⟩, by rw [subS_cap hS1]; have := HM.out; omega, .inr ⟨by rw [subS_blk hS1, hbl]; exact Nat.le_refl _, by rw [subS_off0 hS1]; exact hof, hb1⟩⟩
    have hSq := hsub.isS
    clear ho1 hb1 hof hbl hsub
    go_wp2
    go_ret
    exact ⟨_, rfl, Q.out⟩
set_option maxRecDepth 100000 in
set_option maxHeartbeats 800000 in
theorem growN_any (s : Value) (xs : List Value) (n B : Nat) (w : World) (hs : Own w B 116 s xs) (hn : n ≤ 100000000) (hl : xs.length ≤ 100000000) (hB : B ≤ w.heap.size) :
    Calls Tryz.prog 210 #[s, .int .i64 n] w fun e w' => ∃ r, e = .returned r ∧ GrP s r n B xs.length w w' := by
  have hS := hs.isS
  have hle := hS.le
  have hL := hs.len
  obtain ⟨L, hLL⟩ : ∃ L, L = xs.length := ⟨_, rfl⟩
  rw [← hLL] at hL ⊢
  obtain ⟨c, hcc⟩ : ∃ c, c = sCap s := ⟨_, rfl⟩
  have hcm := hs.cap
  unfold maxLen at hcm
  rw [← hcc] at hle hcm
  rw [← hLL] at hl
  by_cases hr : L + n ≤ c
  · have Q : Hid (GrP s s n B L w w) := Lib.hid ⟨⟨xs, hLL.symm, hs⟩, by omega, .inl ⟨rfl, rfl⟩⟩
    have t1 : decide ((n : Int) < 0) = false := decide_eq_false (by omega)
    have t2 : decide ((n : Int) - ((c : Int) - (L : Int)) > 0) = false := decide_eq_false (by omega)
    have t2' : decide (0 < (n : Int) - ((c : Int) - (L : Int))) = false := decide_eq_false (by omega)
    have hcap : sCap s = c := hcc.symm
    clear hs hcc hLL
    go_enter Tryz.func210, Tryz.ntmps210
    go_wp2
    go_ret
    exact ⟨_, rfl, Q.out⟩
  · obtain ⟨m, hm⟩ : ∃ m, L + n = c + m := ⟨L + n - c, by omega⟩
    have e1 : (n : Int) - ((c : Int) - (L : Int)) = (m : Int) := by omega
    have hmp : 0 < m := by omega
    have t1 : decide ((n : Int) < 0) = false := decide_eq_false (by omega)
    have t2 : decide ((m : Int) > 0) = true := decide_eq_true (by omega)
    have t2' : decide (0 < m) = true := decide_eq_true hmp
    obtain ⟨ys, hy, ho⟩ := hs.grow (n := c) (by omega)
    have hSo := ho.isS
    have hco : sCap (subS s 0 c) = ys.length := by rw [subS_cap hS, hy]; omega
    have hcap : sCap s = c := hcc.symm
    have HO := Lib.hid ho
    have HCO := Lib.hid hco
    have HY := Lib.hid hy
    have HM := Lib.hid hm
    have HB := Lib.hid hB
    have hmb : m ≤ 200000000 := by omega
    clear hs hcc hLL ho hco hy hm hr hB
    go_enter Tryz.func210, Tryz.ntmps210
    go_wp2_with (at_builtin; refine wpList_appendN_O rfl _ _ _ _ rfl elemT intI (by decide) B _ ys rfl HO.out HCO.out m rfl hmp ?c1 ?_)
    case c1 => rw [HY.out]; omega
    intro v' w1 ho1 hb1 hof hbl hcp
    have hS1 := ho1.isS
    have hl1 : sLen v' = c + m := by rw [ho1.len, List.length_append, List.length_replicate, HY.out]
    have hc1 := hS1.le
    have hsub := ho1.sub (l := 0) (n := L) (Nat.zero_le _) (by rw [List.length_append, List.length_replicate, HY.out]; omega)
    have Q : Hid (GrP s (subS v' 0 L) n B L w w1) := Lib.hid ⟨⟨_, by rw [List.length_drop, List.length_take, List.length_append, List.length_replicate, HY.out]; omega, hsub.mono HB.out⟩, by rw [subS_cap hS1]; have := HM.out; omega, .inr ⟨by rw [subS_blk hS1, hbl]; exact Nat.le_refl _, by rw [subS_off0 hS1]; exact hof, hb1⟩⟩
    have hSq := hsub.isS
    clear ho1 hb1 hof hbl hsub
    go_wp2
    go_ret
    exact ⟨_, rfl, Q.out⟩
def Vd (v : Value) (n B k Y : Nat) (w wr : World) : Prop :=
  ∃ os : List Value, Own wr B 116 v os ∧ os.length = n ∧ (∀ j, k ≤ j → j < n → os[j]? = some (.int .u64 ((wdg Y j : Nat) : Int))) ∧ Below B w wr ∧ FrB (sBlk v) (sOff v + k) (sOff v + n) w wr
theorem Vd.start {v : Value} {B Y n : Nat} {os : List Value} {w : World} (h : Own w B 116 v os) (hn : os.length = n) : Vd v n B n Y w w :=
  ⟨os, h, hn, fun j h1 h2 => by omega, Below.refl _ _, FrB.refl _ _ _ _⟩
theorem Vd.put {v : Value} {n B k Y : Nat} {w wr : World} (h : Vd v n B (k + 1) Y w wr) (hk : k < n) (hc : B ≤ sBlk v) {y : Nat} (hy : y = wdg Y k) : Vd v n B k Y w (wr.setCell ⟨sBlk v, sOff v + k, none⟩ (.int .u64 (y : Int))) := by
  obtain ⟨os, h1, h2, h4, h5, h6⟩ := h
  have ho := h1.set (i := k) (by omega) (.int .u64 (y : Int))
  refine ⟨os.set k (.int .u64 (y : Int)), ho, by simpa using h2, fun j hj hjn => ?_, bset h5 hc, (h6.mono (by omega) (Nat.le_refl _)).set (Nat.le_refl _) (by omega) _⟩
  rw [List.getElem?_set]
  split
  · rename_i e; subst e; rw [if_pos (by omega), hy]
  · exact h4 j (by omega) hjn
theorem Vd.drewN {v : Value} {n B i Y k : Nat} {w wr : World} (h : Vd v n B i Y w wr) : Vd v n B i Y w (wr.drewN k) := by
  obtain ⟨os, h1, h2, h4, h5, h6⟩ := h
  exact ⟨os, h1.drewN _, h2, h4, undrewN' h5, h6.drewN⟩
theorem Vd.done {v : Value} {n B Y : Nat} {w wr : World} (h : Vd v n B 0 Y w wr) : VvP v n B Y w wr := by
  obtain ⟨os, h1, h2, h4, h5, h6⟩ := h
  have e : os = cellsW (wdsN Y n) := by
    apply List.ext_getElem?
    intro i
    by_cases hi : i < n
    · rw [h4 i (Nat.zero_le _) hi, cellsW, List.getElem?_map, wdsN, List.getElem?_map, List.getElem?_range hi]; rfl
    · rw [List.getElem?_eq_none (by omega), List.getElem?_eq_none (by rw [cellsW_length, wdsN_length]; omega)]
  rw [VvP, ← e]
  exact ⟨h1, h5, h6⟩
theorem Vd.src {v x : Value} {n B k Y : Nat} {xs : List Nat} {w wr : World} (h : Vd v n B k Y w wr) (hx : RW w x xs) (hal : sBlk x = sBlk v → sOff x ≤ sOff v) {j : Nat} (hij : j < k) (hj : j < xs.length) : wr.cell? ⟨sBlk x, sOff x + j, none⟩ = some (.int .u64 ((xs.getD j 0 : Nat) : Int)) := by
  obtain ⟨os, h1, h2, h4, h5, h6⟩ := h
  exact h6.cell (hx.cell j hj) (fun hb => by have := hal hb; omega)
theorem Vd.frozen {v : Value} {n B i Z : Nat} {w wr : World} (h : Vd v n B i Z w wr) (hc : 0 < sCap v) (k : Nat) : wr.frozen? ⟨sBlk v, k, none⟩ = false := by
  obtain ⟨os, h1, -⟩ := h
  exact h1.frozen hc k
theorem Vd.own {v : Value} {n B i Z : Nat} {w wr : World} (h : Vd v n B i Z w wr) {k : Nat} (hk : k < n) : ∃ u : Value, wr.cell? ⟨sBlk v, sOff v + k, none⟩ = some u := by
  obtain ⟨os, h1, h2, -⟩ := h
  exact ⟨_, h1.cell (List.getElem?_eq_getElem (by omega))⟩
set_option maxRecDepth 100000 in
set_option maxHeartbeats 1600000 in
theorem lshVU_g_gen (v x : Value) (os : List Value) (xs : List Nat) (X s B : Nat) (w : World) (ho : Own w B 116 v os) (hx : RW w x xs) (hX : wv xs = X) (hlen : os.length = xs.length) (hal : sBlk x = sBlk v → sOff x ≤ sOff v)
    (hl0 : 0 < xs.length) (hl : xs.length ≤ 1000000000) (hs0 : 0 < s) (hs : s < 64) :
    Calls Tryz.prog 204 #[v, x, .int .u64 s] w fun e w' => e = .returned (.int .u64 (wdg X (xs.length - 1) / 2 ^ (64 - s) : Nat)) ∧ VvP v xs.length B (X * 2 ^ s) w w' := by
  have hS := ho.isS
  have hSx := hx.isS
  have hL : sLen v = os.length := ho.len
  have hLx : sLen x = xs.length := hx.len
  have hcap : 0 < sCap v := by have := hS.le; omega
  have hB := (ho.lt hcap).1
  have hget : ∀ j, xs.getD j 0 = wdg X j := fun j => by rw [← hX, wv_dig hx.lt]
  obtain ⟨L, hLw⟩ : ∃ L, L + 1 = xs.length := ⟨xs.length - 1, by omega⟩
  have R0 := Lib.hid (Vd.start (Y := X * 2 ^ s) ho hlen)
  rw [← hLw] at R0
  have hc := hx.cell L (by omega)
  rw [hget] at hc
  have HXS : Hid (∀ j, j < L + 1 → j < xs.length) := Lib.hid (fun j hj => by omega)
  rw [← hLw] at hlen hLx hl ⊢
  rw [hlen] at hL
  rw [Nat.add_sub_cancel]
  have n1 := and63 hs
  have n2 := and63 (show 64 - s < 64 by omega)
  obtain ⟨r, hr⟩ : ∃ r, r = 64 - s := ⟨_, rfl⟩
  rw [← hr] at n2 ⊢
  have hr64 : r < 64 := by omega
  have e1 : (64 : Int) - (s : Int) = (r : Int) := by omega
  have hS2 : (2 : Int) ^ s = ((2 ^ s : Nat) : Int) := by simp
  have hR2 : (2 : Int) ^ r = ((2 ^ r : Nat) : Int) := by simp
  obtain ⟨t, ht⟩ : ∃ t, t = wdg X L := ⟨_, rfl⟩
  rw [← ht] at hc ⊢
  obtain ⟨S, hSS⟩ : ∃ S, S = 2 ^ s := ⟨_, rfl⟩
  rw [← hSS] at hS2
  have HS := Lib.hid hSS
  obtain ⟨R, hR⟩ : ∃ R, R = 2 ^ r := ⟨_, rfl⟩
  rw [← hR] at hR2 ⊢
  have hqt : (t : Int) / (R : Int) = ((t / R : Nat) : Int) := by simp
  have htl : t < 18446744073709551616 := by rw [ht]; exact wdg_lt _ _
  obtain ⟨q, hq⟩ : ∃ q, q = t / R := ⟨_, rfl⟩
  rw [← hq] at hqt ⊢
  have ts : ((s : Int) == 0) = false := by rw [beq_eq_false_iff_ne]; omega
  have HX := Lib.hid hx
  have HAL := Lib.hid hal
  have HG := Lib.hid hget
  have HR := Lib.hid hR
  have Hr := Lib.hid hr
  clear ho hLw hX hl0 hget ht hR hq hr hSS hx hlen hal
  go_enter Tryz.func204, Tryz.ntmps204
  go_wp2
  go_loopw [8] (fun i wr => ∃ k : Nat, k ≤ L ∧ i = .int .i64 k ∧ Vd v (L + 1) B (k + 1) (X * 2 ^ s) w wr) (fun i _ => (intOf i).toNat)
  case atStart => exact ⟨L, Nat.le_refl _, rfl, R0.out⟩
  case round =>
    obtain ⟨k, hk, rfl, hrel⟩ := hrel
    have HREL := Lib.hid hrel
    have hkL : k < L + 1 := by omega
    have fz := hrel.frozen hcap
    rcases Nat.eq_zero_or_pos k with hk0 | hk0
    · subst hk0
      have c0 := hrel.src HX.out HAL.out (j := 0) (by omega) (HXS.out 0 (by omega))
      obtain ⟨g, cv⟩ := hrel.own (k := 0) (by omega)
      rw [HG.out, Nat.add_zero] at c0
      rw [Nat.add_zero] at cv
      obtain ⟨d0, hd0⟩ : ∃ d, d = wdg X 0 := ⟨_, rfl⟩
      rw [← hd0] at c0
      have hm := wrapU d0 S
      obtain ⟨m, hmm⟩ : ∃ m, m = d0 * S % 18446744073709551616 := ⟨_, rfl⟩
      rw [← hmm] at hm
      have fz0 := fz (sOff v)
      have HM : m = wdg (X * 2 ^ s) 0 := by rw [wdg_shl_zero _ (by omega), hmm, hd0, HS.out]
      have PUT := (HREL.out.put (k := 0) hkL hB HM).done
      rw [Nat.add_zero] at PUT
      have PUT := Lib.hid PUT
      clear fz hd0 hmm HM hrel
      go_wp2
      go_ret
      exact ⟨rfl, PUT.out⟩
    · obtain ⟨j, rfl⟩ : ∃ j, k = j + 1 := ⟨k - 1, by omega⟩
      have c1 := hrel.src HX.out HAL.out (j := j + 1) (by omega) (HXS.out _ (by omega))
      have c0 := hrel.src HX.out HAL.out (j := j) (by omega) (HXS.out _ (by omega))
      obtain ⟨g, cv⟩ := hrel.own (k := j + 1) (by omega)
      rw [HG.out] at c1 c0
      obtain ⟨d1, hd1⟩ : ∃ d, d = wdg X (j + 1) := ⟨_, rfl⟩
      obtain ⟨d0, hd0⟩ : ∃ d, d = wdg X j := ⟨_, rfl⟩
      rw [← hd1] at c1
      rw [← hd0] at c0
      have hm := wrapU d1 S
      have hq0 : (d0 : Int) / (R : Int) = ((d0 / R : Nat) : Int) := by simp
      obtain ⟨m, hmm⟩ : ∃ m, m = d1 * S % 18446744073709551616 := ⟨_, rfl⟩
      obtain ⟨q0, hqq⟩ : ∃ q, q = d0 / R := ⟨_, rfl⟩
      rw [← hmm] at hm
      rw [← hqq] at hq0
      have hd0l : d0 < 18446744073709551616 := by rw [hd0]; exact wdg_lt _ _
      have hq0l : q0 < 2 ^ s := by
        rw [hqq, HR.out, Hr.out]
        refine Nat.div_lt_of_lt_mul ?_
        rw [word_split (by omega)]; exact hd0l
      have hor := bits_or_u64_nat m q0 (by rw [hmm]; exact Nat.mod_lt _ (by decide)) (by have := Nat.div_le_self d0 R; omega)
      have hy : m ||| q0 = wdg (X * 2 ^ s) (j + 1) := by
        rw [wdg_shl_succ _ _ hs, hmm, HS.out, shl_or hs hq0l, hqq, hd0, hd1, HR.out, Hr.out]
      rw [hy] at hor
      obtain ⟨y, hyy⟩ : ∃ y, y = wdg (X * 2 ^ s) (j + 1) := ⟨_, rfl⟩
      rw [← hyy] at hor
      have HY := Lib.hid hyy
      have fz1 := fz (sOff v + (j + 1))
      have hj1 : j + 1 < L + 1 := by omega
      clear fz hy hq0l hd0 hd1 hmm hqq hyy hrel
      go_wp2
      (refine wp_region_hoist 16 (by kernel_rfl) (by kernel_rfl) ⟨fun _ _ _ h => (by first | exact (hQp _ _ _ h).elim | cases h.2.1 | (obtain ⟨_, h3, _⟩ := h.2; cases h3)), fun _ _ h => (by first | exact (hQo _ _ h).elim | cases h.1 | (obtain ⟨_, h3, _⟩ := h; cases h3))⟩ ?_; simp only [List.take_succ_cons, List.take_zero, List.drop_succ_cons, List.drop_zero]; (repeat (go_big_quiet_step (fail))); refine wpQuiet_nil ?_; rintro _ ⟨nq, rfl⟩)
      go_wp2
      exact ⟨⟨j, by omega, rfl, HREL.out.drewN.put hj1 hB HY.out⟩, by simp [intOf]⟩
set_option maxRecDepth 100000 in
theorem lshVU_gen (v x : Value) (os : List Value) (xs : List Nat) (X s B : Nat) (w : World) (ho : Own w B 116 v os) (hx : RW w x xs) (hX : wv xs = X) (hlen : os.length = xs.length) (hal : sBlk x = sBlk v → sOff x ≤ sOff v)
    (hl0 : 0 < xs.length) (hl : xs.length ≤ 1000000000) (hs0 : 0 < s) (hs : s < 64) :
    Calls Tryz.prog 173 #[v, x, .int .u64 s] w fun e w' => e = .returned (.int .u64 (wdg X (xs.length - 1) / 2 ^ (64 - s) : Nat)) ∧ VvP v xs.length B (X * 2 ^ s) w w' := by
  have hS := ho.isS
  have hSx := hx.isS
  have H := Lib.hid (lshVU_g_gen v x os xs X s B w ho hx hX hlen hal hl0 hl hs0 hs)
  clear ho hx hX hlen hal hl0 hl
  go_enter Tryz.func173, Tryz.ntmps173
  go_wp2_with fail
  refine H.out.mono ?_
  rintro _ w1 ⟨rfl, h1⟩
  go_wp2
  go_ret
  exact ⟨rfl, h1⟩
end Go.Proofs.YtllhnjpnkmjopaaGreatDoor
