/-
Texts of this proof, joined: DdA DdB DdC SkA MuA MuC InF InG InH InI. No condition.
-/
import Derived.Test.YtdepidpgbgfjlaaGreatDoorK03
import Derived.Test.YtdepidpgbgfjlaaGreatDoorK04
import Derived.Test.YtdepidpgbgfjlaaGreatDoorK06
import Derived.Test.YtdepidpgbgfjlaaGreatDoorK07
import Derived.Test.YtdepidpgbgfjlaaGreatDoorK10
import Derived.Test.YtdepidpgbgfjlaaGreatDoorK13
import Derived.Lib.AppendZeros
namespace Go.Proofs.YtdepidpgbgfjlaaGreatDoor
open Go.RowKit

theorem kd_le {D N T v r q V R : Nat} (hV : V = D * T + v) (hR : R = N * T + r) (hr : r < T) (hq : q * V ≤ R) : q * D ≤ N := by
  have h1 : q * D * T ≤ q * V := by rw [hV, Nat.mul_add, ← Nat.mul_assoc]; exact Nat.le_add_right _ _
  have h2 : q * D * T < (N + 1) * T := by rw [Nat.add_mul, Nat.one_mul]; omega
  have := Nat.lt_of_mul_lt_mul_right h2
  omega
theorem kd_ge {b D N T v r q V R : Nat} (hV : V = D * T + v) (hR : R = N * T + r) (hv : v < T) (hb : b * T ≤ V) (hVp : 0 < V) (h3 : q * D ≤ N) (hq : q ≤ b) : q * V < R + V := by
  have h1 : q * V = q * D * T + q * v := by rw [hV, Nat.mul_add, ← Nat.mul_assoc]
  have h2 : q * D * T ≤ N * T := Nat.mul_le_mul_right _ h3
  rcases Nat.eq_zero_or_pos q with h0 | h0
  · rw [h0, Nat.zero_mul]; omega
  · have h4 : q * v < q * T := (Nat.mul_lt_mul_left h0).2 hv
    have h5 : q * T ≤ b * T := Nat.mul_le_mul_right _ hq
    omega
theorem le_div_of {q V R : Nat} (hV : 0 < V) (h : q * V ≤ R) : q ≤ R / V := (Nat.le_div_iff_mul_le hV).2 h
theorem kd_near {q V R : Nat} (hV : 0 < V) (h : q * V < R + V) : q ≤ R / V + 1 := by
  have h1 : R < (R / V + 1) * V := by rw [Nat.add_mul, Nat.one_mul, Nat.mul_comm]; have := Nat.div_add_mod R V; have := Nat.mod_lt R hV; omega
  have h2 : q * V < (R / V + 2) * V := by rw [show R / V + 2 = R / V + 1 + 1 by omega, Nat.add_mul (R / V + 1), Nat.one_mul]; omega
  have := Nat.lt_of_mul_lt_mul_right h2
  omega
theorem kd_guess {b T v1 v2 v u2 u1 u0 r V R qh rh : Nat} (hV : V = (v1 * b + v2) * T + v) (hR : R = ((u2 * b + u1) * b + u0) * T + r) (hv : v < T) (hr : r < T) (hv1 : 0 < v1) (hb : 0 < b)
    (inv : qh * v1 + rh = u2 * b + u1) (up : (u2 * b + u1) * b + u0 < (qh + 1) * (v1 * b + v2)) (stop : qh * v2 ≤ rh * b + u0) (hq : qh ≤ b) : R / V ≤ qh ∧ qh ≤ R / V + 1 := by
  have hbT : b * T ≤ V := by
    have h1 : b ≤ v1 * b := Nat.le_mul_of_pos_left _ hv1
    have h2 : b * T ≤ (v1 * b + v2) * T := Nat.mul_le_mul_right _ (by omega)
    omega
  have hVp : 0 < V := by have := Nat.mul_pos hb (show 0 < T by omega); omega
  constructor
  · have h1 := kd_le (q := R / V) hV hR hr (Nat.div_mul_le_self R V)
    have h2 : R / V * (v1 * b + v2) < (qh + 1) * (v1 * b + v2) := Nat.lt_of_le_of_lt h1 up
    have := Nat.lt_of_mul_lt_mul_right h2
    omega
  · refine kd_near hVp (kd_ge hV hR hv hbT hVp ?_ hq)
    have h1 : qh * (v1 * b + v2) = (qh * v1) * b + qh * v2 := by rw [Nat.mul_add, Nat.mul_assoc]
    have h2 : (u2 * b + u1) * b = qh * v1 * b + rh * b := by rw [← inv, Nat.add_mul]
    omega
theorem kd_start {b v1 v2 u0 N2 qh rh : Nat} (inv : qh * v1 + rh = N2) (hrh : rh < v1) (hu0 : u0 < b) : N2 * b + u0 < (qh + 1) * (v1 * b + v2) := by
  have h1 : (qh + 1) * (v1 * b + v2) = ((qh + 1) * v1) * b + (qh + 1) * v2 := by rw [Nat.mul_add, Nat.mul_assoc]
  have h2 : N2 + 1 ≤ (qh + 1) * v1 := by rw [Nat.add_mul, Nat.one_mul]; omega
  have h3 : (N2 + 1) * b ≤ (qh + 1) * v1 * b := Nat.mul_le_mul_right _ h2
  rw [Nat.add_mul, Nat.one_mul] at h3
  omega
theorem kd_step {b v1 v2 u0 N2 qh rh : Nat} (inv : (qh + 1) * v1 + rh = N2) (go : rh * b + u0 < (qh + 1) * v2) : N2 * b + u0 < (qh + 1) * (v1 * b + v2) ∧ qh * v1 + (rh + v1) = N2 := by
  have h1 : (qh + 1) * (v1 * b + v2) = ((qh + 1) * v1) * b + (qh + 1) * v2 := by rw [Nat.mul_add, Nat.mul_assoc]
  have h2 : N2 * b = (qh + 1) * v1 * b + rh * b := by rw [← inv, Nat.add_mul]
  refine ⟨by omega, ?_⟩
  rw [Nat.add_mul, Nat.one_mul] at inv
  omega
theorem kd_max {b T v1 v2 v u1 u0 r V R : Nat} (hV : V = (v1 * b + v2) * T + v) (hR : R = ((v1 * b + u1) * b + u0) * T + r) (hv : v < T) (hv2 : v2 < b) (hb : b ≤ 2 * v1 + 2) (hVp : 0 < V) (hRV : R < b * V) :
    R / V ≤ b - 1 ∧ b - 1 ≤ R / V + 1 := by
  have h0 : R / V < b := (Nat.div_lt_iff_lt_mul hVp).2 hRV
  refine ⟨by omega, ?_⟩
  have h1 : V ≤ (v1 + 1) * (b * T) := by
    have e1 : (v1 + 1) * (b * T) = v1 * b * T + b * T := by rw [Nat.add_mul, Nat.one_mul, Nat.mul_assoc]
    have e2 : (v1 * b + v2) * T = v1 * b * T + v2 * T := Nat.add_mul _ _ _
    have e3 : (v2 + 1) * T ≤ b * T := Nat.mul_le_mul_right _ hv2
    rw [Nat.add_mul, Nat.one_mul] at e3
    omega
  have h2 : v1 * b * (b * T) ≤ R := by
    have e1 : v1 * b * (b * T) = v1 * b * b * T := (Nat.mul_assoc _ _ _).symm
    have e2 : v1 * b * b * T ≤ ((v1 * b + u1) * b + u0) * T := Nat.mul_le_mul_right _ (by rw [Nat.add_mul]; omega)
    omega
  have h3 : (b - 2) * (v1 + 1) ≤ v1 * b := by
    rcases Nat.lt_or_ge b 2 with hlt | hge
    · rw [show b - 2 = 0 by omega, Nat.zero_mul]; exact Nat.zero_le _
    · obtain ⟨c, rfl⟩ : ∃ c, b = c + 2 := ⟨b - 2, by omega⟩
      rw [show c + 2 - 2 = c by omega, Nat.mul_add, Nat.mul_one, Nat.mul_add, Nat.mul_comm c]
      omega
  have h4 : (b - 2) * V ≤ R := by
    refine Nat.le_trans (Nat.mul_le_mul_left _ h1) (Nat.le_trans ?_ h2)
    rw [← Nat.mul_assoc]
    exact Nat.mul_le_mul_right _ h3
  have := le_div_of hVp h4
  omega
theorem kd_sub0 {V R qh Z : Nat} (hVp : 0 < V) (h1 : R / V ≤ qh) (h : R = qh * V + Z) (_h2 : qh ≤ R / V + 1) : qh = R / V ∧ Z = R % V := by
  have h3 : qh ≤ R / V := le_div_of hVp (by omega)
  have h4 : qh = R / V := by omega
  refine ⟨h4, ?_⟩
  have := Nat.div_add_mod R V
  rw [h4, Nat.mul_comm] at h
  omega
theorem kd_sub1 {V R qh Z bn b Zl Zh L c : Nat} (hVp : 0 < V) (_h1 : R / V ≤ qh) (h2 : qh ≤ R / V + 1) (h : R + bn * b = qh * V + Z) (hZ : Z = Zl + bn * Zh) (hZl : Zl < bn) (hZh : Zh < b) (ha : Zl + V = L + bn * c) (hL : L < bn) (hV : V ≤ bn) :
    0 < qh ∧ qh - 1 = R / V ∧ L = R % V ∧ Zh + c = b := by
  have hlt : R < qh * V := by
    have : bn * (Zh + 1) ≤ bn * b := Nat.mul_le_mul_left _ hZh
    rw [Nat.mul_add, Nat.mul_one] at this
    omega
  have h3 : R / V < qh := (Nat.div_lt_iff_lt_mul hVp).2 hlt
  have h4 : qh = R / V + 1 := by omega
  have hm := Nat.mod_lt R hVp
  have hd := Nat.div_add_mod R V
  generalize hQ : R / V = Q at *
  generalize hM : R % V = M at *
  have h5 : qh * V = V * Q + V := by rw [h4, Nat.add_mul, Nat.one_mul, Nat.mul_comm]
  have h6 : M + bn * b = L + bn * (Zh + c) := by rw [Nat.mul_add]; omega
  have h7 : M < bn := Nat.lt_of_lt_of_le hm hV
  have h8 : L = M := by
    have e1 := congrArg (· % bn) h6
    simp only [Nat.add_mul_mod_self_left, Nat.mod_eq_of_lt h7, Nat.mod_eq_of_lt hL] at e1
    exact e1.symm
  refine ⟨by omega, by omega, h8, ?_⟩
  have h9 : bn * (Zh + c) = bn * b := by omega
  exact Nat.eq_of_mul_eq_mul_left (by omega) h9
theorem wdg_div (X j i : Nat) : wdg (X / 18446744073709551616 ^ j) i = wdg X (j + i) := by
  unfold wdg; rw [Nat.div_div_eq_div_mul, ← Nat.pow_add]
theorem dd_step {U V j : Nat} (hV : 0 < V) :
    U % (V * 18446744073709551616 ^ (j + 1)) / 18446744073709551616 ^ j < 18446744073709551616 * V ∧
    U % (V * 18446744073709551616 ^ (j + 1)) / 18446744073709551616 ^ j / V = wdg (U / V) j ∧
    U % (V * 18446744073709551616 ^ j) = U % (V * 18446744073709551616 ^ (j + 1)) % 18446744073709551616 ^ j + 18446744073709551616 ^ j * (U % (V * 18446744073709551616 ^ (j + 1)) / 18446744073709551616 ^ j % V) := by
  have hP : 0 < 18446744073709551616 ^ j := wpow_pos j
  have hM : 0 < V * 18446744073709551616 ^ (j + 1) := Nat.mul_pos hV (wpow_pos _)
  have e1 : V * 18446744073709551616 ^ (j + 1) = 18446744073709551616 ^ j * V * 18446744073709551616 := by
    rw [Nat.pow_succ, Nat.mul_comm V, Nat.mul_assoc, Nat.mul_assoc, Nat.mul_comm 18446744073709551616 V]
  refine ⟨?_, ?_, ?_⟩
  · refine Nat.div_lt_of_lt_mul ?_
    have := Nat.mod_lt U hM
    have e2 : V * 18446744073709551616 ^ (j + 1) = 18446744073709551616 ^ j * (18446744073709551616 * V) := by rw [e1, Nat.mul_assoc, Nat.mul_comm V]
    omega
  · rw [Nat.div_div_eq_div_mul, e1, Nat.mod_mul_right_div_self]
    unfold wdg
    rw [Nat.div_div_eq_div_mul, Nat.mul_comm V]
  · have e3 : U % (V * 18446744073709551616 ^ (j + 1)) % (18446744073709551616 ^ j * V) = U % (18446744073709551616 ^ j * V) := by
      rw [e1, Nat.mod_mod_of_dvd _ (Nat.dvd_mul_right _ _)]
    rw [Nat.mul_comm V (18446744073709551616 ^ j), ← e3, Nat.mod_mul]
theorem dd_start {U V m : Nat} (h : U < V * 18446744073709551616 ^ m) : U % (V * 18446744073709551616 ^ m) = U ∧ U % (V * 18446744073709551616 ^ (m + 1)) = U ∧ U / V < 18446744073709551616 ^ m ∧ wdg (U / V) m = 0 := by
  have h1 : V * 18446744073709551616 ^ m ≤ V * 18446744073709551616 ^ (m + 1) := Nat.mul_le_mul_left _ (Nat.pow_le_pow_right (by decide) (Nat.le_succ m))
  have h2 : U / V < 18446744073709551616 ^ m := Nat.div_lt_of_lt_mul h
  refine ⟨Nat.mod_eq_of_lt h, Nat.mod_eq_of_lt (by omega), h2, ?_⟩
  unfold wdg
  rw [Nat.div_eq_of_lt h2]
theorem wdsN_window (X L : Nat) {j n : Nat} (h : j + n ≤ L) : ((wdsN X L).take (j + n)).drop j = wdsN (X / 18446744073709551616 ^ j) n := by
  refine wdsN_of (by rw [List.length_drop, List.length_take, wdsN_length]; omega) fun i hi => ?_
  rw [List.getD_eq_getElem?_getD, List.getElem?_drop, List.getElem?_take, if_pos (by omega), ← List.getD_eq_getElem?_getD, wdsN_getD (by omega), wdg_div]
theorem wdg_join {A R j : Nat} (hA : A < 18446744073709551616 ^ j) (i : Nat) : wdg (A + 18446744073709551616 ^ j * R) i = if i < j then wdg A i else wdg R (i - j) := by
  split
  · rename_i h
    unfold wdg
    obtain ⟨k, rfl⟩ : ∃ k, j = i + (k + 1) := ⟨j - i - 1, by omega⟩
    rw [Nat.pow_add, Nat.mul_assoc, Nat.add_mul_div_left _ _ (wpow_pos i), Nat.pow_succ, Nat.mul_comm _ 18446744073709551616, Nat.mul_assoc, Nat.add_mul_mod_self_left]
  · rename_i h
    obtain ⟨k, rfl⟩ : ∃ k, i = j + k := ⟨i - j, by omega⟩
    rw [← wdg_div, Nat.add_mul_div_left _ _ (wpow_pos j), Nat.div_eq_of_lt hA, Nat.zero_add, show j + k - j = k by omega]
theorem wdg_lowmod (X j i : Nat) (h : i < j) : wdg (X % 18446744073709551616 ^ j) i = wdg X i := by
  unfold wdg
  obtain ⟨k, rfl⟩ : ∃ k, j = i + (k + 1) := ⟨j - i - 1, by omega⟩
  rw [Nat.pow_add, Nat.mod_mul_right_div_self, Nat.pow_succ, Nat.mod_mod_of_dvd _ (Nat.dvd_mul_left _ _)]
theorem wdg_small {X i k : Nat} (h : X < 18446744073709551616 ^ k) (hk : k ≤ i) : wdg X i = 0 := by
  unfold wdg
  rw [Nat.div_eq_of_lt (Nat.lt_of_lt_of_le h (Nat.pow_le_pow_right (by decide) hk))]
theorem wdsN_patch {X L j n R : Nat} (h : j + n ≤ L) (hX : X < 18446744073709551616 ^ (j + n)) (hR : R < 18446744073709551616 ^ n) :
    (wdsN X L).take j ++ (wdsN R n ++ (wdsN X L).drop (j + n)) = wdsN (X % 18446744073709551616 ^ j + 18446744073709551616 ^ j * R) L := by
  have l1 : ((wdsN X L).take j).length = j := by rw [List.length_take, wdsN_length]; omega
  refine wdsN_of (by simp [wdsN_length]; omega) fun i hi => ?_
  rw [wdg_join (Nat.mod_lt _ (wpow_pos j)), List.getD_eq_getElem?_getD]
  by_cases h1 : i < j
  · rw [if_pos h1, List.getElem?_append_left (by omega), List.getElem?_take, if_pos h1, ← List.getD_eq_getElem?_getD, wdsN_getD hi, wdg_lowmod _ _ _ h1]
  · rw [if_neg h1, List.getElem?_append_right (by omega), l1]
    by_cases h2 : i - j < n
    · rw [List.getElem?_append_left (by rw [wdsN_length]; exact h2), ← List.getD_eq_getElem?_getD, wdsN_getD h2]
    · rw [List.getElem?_append_right (by rw [wdsN_length]; omega), wdsN_length, List.getElem?_drop, ← List.getD_eq_getElem?_getD, show j + n + (i - j - n) = i by omega, wdsN_getD hi, wdg_small hX (by omega), wdg_small hR (by omega)]
theorem wtop2 {V k : Nat} (h : V < 18446744073709551616 ^ (k + 2)) : V = (wdg V (k + 1) * 18446744073709551616 + wdg V k) * 18446744073709551616 ^ k + V % 18446744073709551616 ^ k := by
  have h1 := wmod_succ V (k + 1)
  have h2 := wmod_succ V k
  rw [show k + 1 + 1 = k + 2 by omega, Nat.mod_eq_of_lt h] at h1
  have e1 : 18446744073709551616 ^ (k + 1) * wdg V (k + 1) = wdg V (k + 1) * 18446744073709551616 * 18446744073709551616 ^ k := by
    rw [Nat.mul_comm (18446744073709551616 ^ (k + 1)), Nat.pow_succ, Nat.mul_comm (18446744073709551616 ^ k), ← Nat.mul_assoc]
  rw [Nat.add_mul, ← e1, Nat.mul_comm (wdg V k)]
  rw [h2] at h1
  exact h1.trans (by rw [Nat.add_comm, Nat.add_comm (V % _), ← Nat.add_assoc])
theorem wtop3 {R k : Nat} (h : R < 18446744073709551616 ^ (k + 3)) : R = ((wdg R (k + 2) * 18446744073709551616 + wdg R (k + 1)) * 18446744073709551616 + wdg R k) * 18446744073709551616 ^ k + R % 18446744073709551616 ^ k := by
  have h1 := wmod_succ R (k + 2)
  rw [show k + 2 + 1 = k + 3 by omega, Nat.mod_eq_of_lt h] at h1
  have h2 := wtop2 (V := R % 18446744073709551616 ^ (k + 2)) (k := k) (Nat.mod_lt _ (wpow_pos _))
  rw [wdg_lowmod _ _ _ (by omega), wdg_lowmod _ _ _ (by omega), Nat.mod_mod_of_dvd _ (Nat.pow_dvd_pow _ (by omega : k ≤ k + 2))] at h2
  have e1 : 18446744073709551616 ^ (k + 2) * wdg R (k + 2) = wdg R (k + 2) * 18446744073709551616 * 18446744073709551616 * 18446744073709551616 ^ k := by
    rw [Nat.pow_succ, Nat.pow_succ]; grind
  have e2 : ((wdg R (k + 2) * 18446744073709551616 + wdg R (k + 1)) * 18446744073709551616 + wdg R k) * 18446744073709551616 ^ k =
      wdg R (k + 2) * 18446744073709551616 * 18446744073709551616 * 18446744073709551616 ^ k + (wdg R (k + 1) * 18446744073709551616 + wdg R k) * 18446744073709551616 ^ k := by
    rw [Nat.add_mul (wdg R (k + 2) * 18446744073709551616), Nat.add_assoc, Nat.add_mul]
  rw [e2, ← e1]
  rw [h2] at h1
  exact h1.trans (by rw [Nat.add_comm, ← Nat.add_assoc])
set_option maxRecDepth 100000 in
theorem mulWW_any (x y : Nat) (w : World) (hx : x < 18446744073709551616) (hy : y < 18446744073709551616) :
    Calls Tryz.prog 205 #[.int .u64 x, .int .u64 y] w fun e w' => e = .returned (.tuple #[.int .u64 ((x * y / 18446744073709551616 : Nat) : Int), .int .u64 ((x * y % 18446744073709551616 : Nat) : Int)]) ∧ w' = w := by
  have HM := Lib.hid (Tryz.bits_Mul x y hx hy w)
  obtain ⟨hi, hhi⟩ : ∃ hi, hi = x * y / 18446744073709551616 := ⟨_, rfl⟩
  obtain ⟨lo, hlo⟩ : ∃ lo, lo = x * y % 18446744073709551616 := ⟨_, rfl⟩
  rw [← hhi, ← hlo] at HM
  rw [← hhi, ← hlo]
  clear hhi hlo
  go_enter Tryz.func205, Tryz.ntmps205
  go_wp2_with fail
  refine HM.out.mono ?_
  rintro _ _ ⟨rfl, rfl⟩
  go_wp2
  go_ret2
  exact ⟨rfl, rfl⟩
set_option maxRecDepth 100000 in
theorem gt_any (x1 x2 y1 y2 : Nat) (b : Bool) (w : World) (hx : x2 < 18446744073709551616) (hy : y2 < 18446744073709551616) (hb : b = decide (y1 * 18446744073709551616 + y2 < x1 * 18446744073709551616 + x2)) :
    Calls Tryz.prog 266 #[.int .u64 x1, .int .u64 x2, .int .u64 y1, .int .u64 y2] w fun e w' => e = .returned (.bool b) ∧ w' = w := by
  rcases Nat.lt_trichotomy y1 x1 with h | h | h
  · have hbt : b = true := by rw [hb]; exact decide_eq_true (by omega)
    subst hbt
    have t1 : decide (y1 < x1) = true := decide_eq_true h
    clear hb hx hy h
    go_enter Tryz.func266, Tryz.ntmps266
    go_wp2
    go_ret
    exact ⟨rfl, rfl⟩
  · subst h
    have t1 : decide (y1 < y1) = false := decide_eq_false (by omega)
    by_cases h2 : y2 < x2
    · have hbt : b = true := by rw [hb]; exact decide_eq_true (by omega)
      subst hbt
      have t2 : decide (y2 < x2) = true := decide_eq_true h2
      clear hb hx hy h2
      go_enter Tryz.func266, Tryz.ntmps266
      go_wp2
      go_ret
      exact ⟨rfl, rfl⟩
    · have hbt : b = false := by rw [hb]; exact decide_eq_false (by omega)
      subst hbt
      have t2 : decide (y2 < x2) = false := decide_eq_false h2
      clear hb hx hy h2
      go_enter Tryz.func266, Tryz.ntmps266
      go_wp2
      go_ret
      exact ⟨rfl, rfl⟩
  · have hbt : b = false := by rw [hb]; exact decide_eq_false (by omega)
    subst hbt
    have t1 : decide (y1 < x1) = false := decide_eq_false (by omega)
    have t2 : ((x1 : Int) == (y1 : Int)) = false := by rw [beq_eq_false_iff_ne]; omega
    have t3 : (x1 == y1) = false := by rw [beq_eq_false_iff_ne]; omega
    clear hb hx hy h
    go_enter Tryz.func266, Tryz.ntmps266
    go_wp2
    go_ret
    exact ⟨rfl, rfl⟩
theorem run_append_more {P : Program} (w : World) (t tn ty e : TypeId) (i : TypeInfo) (z : Value) (kn : IntKind) (ht : P.underlying t = some (.slice e)) (htn : P.underlying tn = some (.int kn)) (hi : P.info? e = some i) (hz : i.zero = some z)
    (base : Option Addr) (c : Nat) (olds : List Value) (hold : (Builtin.firstCells i.size c (.slice base c c)).run P w.drew = .ok olds.toArray w.drew) (n : Nat) (h0 : 0 < n) (hs : i.size = 1)
    (h63 : ((c + n : Nat) : Int) ≤ 9223372036854775807) (h48 : n * i.bytes ≤ 281474976710656) (hfit : Builtin.nextslicecap (c + n) c * i.bytes ≤ 281474976710656) :
    (Builtin.append_ #[t, tn] ty #[.slice base c c, .int .i64 n]).run P w =
      .ok (.slice (some ⟨w.heap.size, 0, none⟩) (c + n) (grownCap w (c + n) c e)) (w.drew.alloc (.cells ((olds.toArray ++ Builtin.zeroCells z.cells n) ++ Builtin.zeroCells z.cells (grownCap w (c + n) c e - (c + n))) e)) := by
  have hn : n ≠ 0 := by omega
  have hw : IntKind.i64.wrap (n : Int) = n := by rw [IntKind.wrap_i64]; omega
  have h63' : ¬ (9223372036854775807 < ((c : Int) + (n : Int))) := by omega
  have h48' : ¬ (281474976710656 < Builtin.nextslicecap (c + n) c * i.bytes) := by omega
  have h48i : ¬ (281474976710656 < (n : Int) * (i.bytes : Int)) := by
    rw [← Int.natCast_mul]
    omega
  have hneg : ¬ ((n : Int) < 0) := by omega
  have hns : ¬ (n * i.size = 0) := Nat.mul_ne_zero hn (by omega)
  have hcn : ¬ (c + n ≤ c) := by omega
  have hold' := hold
  rw [hs] at hold'
  simp [Builtin.append_, run_underlying ht, run_underlying htn, sizeOf, typeInfo, zeroValue, hi, hz, asInt, asIntOf, hw, hn, hneg, hcn, h63', h48', h48i, Question.forced, hs, hold', newRow, grownCap]
theorem zeroCells_rep (z : Value) (n : Nat) : (Builtin.zeroCells #[z] n).toList = List.replicate n z := by
  apply List.ext_getElem
  · simp [Builtin.zeroCells]
  · intro j h1 h2
    simp [Builtin.zeroCells, Nat.mod_one]
theorem wpList_appendN_O {P : Program} {ops : Array Oper} {rest : List Oper} {o : Oper} {a : Act} {Q : Exit → Act → World → Prop} {w : World} (hgd : o.guard = none) (s x : Operand) (t tn : TypeId)
    (ho : o.op = .call { callee := .builtin .append, args := #[s, x], argTypes := #[t, tn] }) {e : TypeId} {bytes : Nat} {z : Value} (E : ElemT P t e bytes z) {kn : IntKind} (htn : P.underlying tn = some (.int kn)) (hby : bytes ≤ 8)
    (B : Nat) (v : Value) (xs : List Value) (hs : a.eval s = v) (hown : Own w B e v xs) (hfull : sCap v = xs.length) (n : Nat) (hx : a.eval x = .int .i64 n) (h0 : 0 < n) (hb : xs.length + n ≤ 1000000000)
    (h : ∀ v' w', Own w' w.heap.size e v' (xs ++ List.replicate n z) → Below w.heap.size w w' → sOff v' = 0 → sBlk v' = w.heap.size → 0 < sCap v' → wpList P ops Q rest (a.put o.dst v') w') : wpList P ops Q (o :: rest) a w := by
  obtain ⟨i, hi, hz, hsz, hbb, hzc⟩ := E.info
  have hl := hown.len
  have hcap := hown.isS.le
  have hxl : sLen v = sCap v := by omega
  have hvv : ∃ b, v = .slice b xs.length xs.length := by
    match v, hown.isS, hl, hfull with
    | .slice b n c, _, h1, h2 => exact ⟨b, by rw [show n = xs.length from h1, show c = xs.length from h2]⟩
  obtain ⟨b, hv⟩ := hvv
  have hold : (Builtin.firstCells i.size xs.length (.slice b xs.length xs.length)).run P w.drew = .ok xs.toArray w.drew := by
    rw [← hv]
    by_cases hc0 : sCap v = 0
    · obtain ⟨a', ha⟩ := hown.isS.out0 hc0
      have hx0 : xs = [] := List.eq_nil_of_length_eq_zero (by omega)
      rw [ha, hx0]
      cases a' <;> simp [Builtin.firstCells, loadCells, loadCellsFrom]
    · have hv2 := hown.isS.out (by omega)
      conv => lhs; rw [hv2]
      rw [hsz, hl]
      rw [show sCap v = xs.length from hfull]
      exact run_firstCells_some w.drew 1 xs.length _ _ _ xs (by simp) (fun j u hj => by rw [Addr.add_mk]; exact hown.cell hj)
  have hfit : Builtin.nextslicecap (xs.length + n) xs.length * i.bytes ≤ 281474976710656 := growslice_fits (by omega) (by rw [hbb]; have := Nat.mul_le_mul_left (xs.length + n) hby; omega)
  have hr := run_append_more (P := P) w t tn o.type e i z kn E.ht htn hi hz b xs.length xs hold n h0 hsz (by omega) (by rw [hbb]; have := Nat.mul_le_mul_left n hby; omega) hfit
  have hge := grownCap_ge w (xs.length + n) xs.length e
  have hcm := grownCap_le_maxLen w (xs.length + n) xs.length e (by unfold maxLen; omega)
  refine wpList_plain hgd fun K hK => ?_
  unfold Oper.wp execOp
  simp only [ho, resolve, invoke, builtin, Sem.run_bind, Sem.run_pure, Result.andThen_ok, List.map_toArray, List.map_cons, List.map_nil, hs, hx, hv, hr]
  refine hK _ _ (h _ _ ⟨IsS.mk hge, by simp, hcm, .inr ⟨Nat.le_refl _, _, heap_alloc_new w.drew _, ?_, ?_⟩⟩ ((Below.refl _ _).drew.alloc (Nat.le_refl _) _) rfl rfl (by rw [sCap_mk]; omega))
  · simp only [sOff_mk, sCap_mk, Array.size_append, List.size_toArray, size_zeroCells, hzc]; simp; omega
  · simp only [sOff_mk, Array.toList_append, List.drop_zero, hzc, zeroCells_rep]
    rw [List.take_left' (by simp)]
theorem intI : Tryz.prog.underlying 3 = some (.int .i64) := Tryz.underlying3
structure GrP (s r : Value) (n B : Nat) (L : Nat) (w w' : World) : Prop where
  own : ∃ ys : List Value, ys.length = L ∧ Own w' B 164 r ys
  room : L + n ≤ sCap r
  how : (w' = w ∧ r = s) ∨ (w.heap.size ≤ sBlk r ∧ sOff r = 0 ∧ Below w.heap.size w w')
set_option maxRecDepth 100000 in
set_option maxHeartbeats 800000 in
theorem growW_any (s : Value) (xs : List Value) (n B : Nat) (w : World) (hs : Own w B 164 s xs) (hn : n ≤ 100000000) (hl : xs.length ≤ 100000000) (hB : B ≤ w.heap.size) :
    Calls Tryz.prog 278 #[s, .int .i64 n] w fun e w' => ∃ r, e = .returned r ∧ GrP s r n B xs.length w w' := by
  have hS := hs.isS
  have hle := hS.le
  have hL := hs.len
  obtain ⟨L, hLL⟩ : ∃ L, L = xs.length := ⟨_, rfl⟩
  rw [← hLL] at hL ⊢
  obtain ⟨c, hcc⟩ : ∃ c, c = sCap s := ⟨_, rfl⟩
  have hcm := hs.cap
  unfold maxLen at hcm
  rw [← hcc] at hle hcm
  rw [← hLL] at hl
  by_cases hr : L + n ≤ c
  · have Q : Hid (GrP s s n B L w w) := Lib.hid ⟨⟨xs, hLL.symm, hs⟩, by omega, .inl ⟨rfl, rfl⟩⟩
    have t1 : decide ((n : Int) < 0) = false := decide_eq_false (by omega)
    have t2 : decide ((n : Int) - ((c : Int) - (L : Int)) > 0) = false := decide_eq_false (by omega)
    have t2' : decide (0 < (n : Int) - ((c : Int) - (L : Int))) = false := decide_eq_false (by omega)
    have hcap : sCap s = c := hcc.symm
    clear hs hcc hLL
    go_enter Tryz.func278, Tryz.ntmps278
    go_wp2
    go_ret
    exact ⟨_, rfl, Q.out⟩
  · obtain ⟨m, hm⟩ : ∃ m, L + n = c + m := ⟨L + n - c, by omega⟩
    have e1 : (n : Int) - ((c : Int) - (L : Int)) = (m : Int) := by omega
    have hmp : 0 < m := by omega
    have t1 : decide ((n : Int) < 0) = false := decide_eq_false (by omega)
    have t2 : decide ((m : Int) > 0) = true := decide_eq_true (by omega)
    have t2' : decide (0 < m) = true := decide_eq_true hmp
    obtain ⟨ys, hy, ho⟩ := hs.grow (n := c) (by omega)
    have hSo := ho.isS
    have hco : sCap (subS s 0 c) = ys.length := by rw [subS_cap hS, hy]; omega
    have hcap : sCap s = c := hcc.symm
    have HO := Lib.hid ho
    have HCO := Lib.hid hco
    have HY := Lib.hid hy
    have HM := Lib.hid hm
    have HB := Lib.hid hB
    have hmb : m ≤ 200000000 := by omega
    clear hs hcc hLL ho hco hy hm hr hB
    go_enter Tryz.func278, Tryz.ntmps278
    go_wp2_with (at_builtin; refine wpList_appendN_O rfl _ _ _ _ rfl elemW intI (by decide) B _ ys rfl HO.out HCO.out m rfl hmp ?c1 ?_)
    case c1 => rw [HY.out]; omega
    intro v' w1 ho1 hb1 hof hbl hcp
    have hS1 := ho1.isS
    have hl1 : sLen v' = c + m := by rw [ho1.len, List.length_append, List.length_replicate, HY.out]
    have hc1 := hS1.le
    have hsub := ho1.sub (l := 0) (n := L) (Nat.zero_le _) (by rw [List.length_append, List.length_replicate, HY.out]; omega)
    have Q : Hid (GrP s (subS v' 0 L) n B L w w1) := Lib.hid ⟨⟨_, by rw [List.length_drop, List.length_take, List.length_append, List.length_replicate, HY.out]; omega, hsub.mono HB.out⟩, by rw [subS_cap hS1]; have := HM.out; omega, .inr ⟨by rw [subS_blk hS1, hbl]; exact Nat.le_refl _, by rw [subS_off0 hS1]; exact hof, hb1⟩⟩
    have hSq := hsub.isS
    clear ho1 hb1 hof hbl hsub
    go_wp2
    go_ret
    exact ⟨_, rfl, Q.out⟩
set_option maxRecDepth 100000 in
set_option maxHeartbeats 800000 in
theorem growN_any (s : Value) (xs : List Value) (n B : Nat) (w : World) (hs : Own w B 164 s xs) (hn : n ≤ 100000000) (hl : xs.length ≤ 100000000) (hB : B ≤ w.heap.size) :
    Calls Tryz.prog 264 #[s, .int .i64 n] w fun e w' => ∃ r, e = .returned r ∧ GrP s r n B xs.length w w' := by
  have hS := hs.isS
  have hle := hS.le
  have hL := hs.len
  obtain ⟨L, hLL⟩ : ∃ L, L = xs.length := ⟨_, rfl⟩
  rw [← hLL] at hL ⊢
  obtain ⟨c, hcc⟩ : ∃ c, c = sCap s := ⟨_, rfl⟩
  have hcm := hs.cap
  unfold maxLen at hcm
  rw [← hcc] at hle hcm
  rw [← hLL] at hl
  by_cases hr : L + n ≤ c
  · have Q : Hid (GrP s s n B L w w) := Lib.hid ⟨⟨xs, hLL.symm, hs⟩, by omega, .inl ⟨rfl, rfl⟩⟩
    have t1 : decide ((n : Int) < 0) = false := decide_eq_false (by omega)
    have t2 : decide ((n : Int) - ((c : Int) - (L : Int)) > 0) = false := decide_eq_false (by omega)
    have t2' : decide (0 < (n : Int) - ((c : Int) - (L : Int))) = false := decide_eq_false (by omega)
    have hcap : sCap s = c := hcc.symm
    clear hs hcc hLL
    go_enter Tryz.func264, Tryz.ntmps264
    go_wp2
    go_ret
    exact ⟨_, rfl, Q.out⟩
  · obtain ⟨m, hm⟩ : ∃ m, L + n = c + m := ⟨L + n - c, by omega⟩
    have e1 : (n : Int) - ((c : Int) - (L : Int)) = (m : Int) := by omega
    have hmp : 0 < m := by omega
    have t1 : decide ((n : Int) < 0) = false := decide_eq_false (by omega)
    have t2 : decide ((m : Int) > 0) = true := decide_eq_true (by omega)
    have t2' : decide (0 < m) = true := decide_eq_true hmp
    obtain ⟨ys, hy, ho⟩ := hs.grow (n := c) (by omega)
    have hSo := ho.isS
    have hco : sCap (subS s 0 c) = ys.length := by rw [subS_cap hS, hy]; omega
    have hcap : sCap s = c := hcc.symm
    have HO := Lib.hid ho
    have HCO := Lib.hid hco
    have HY := Lib.hid hy
    have HM := Lib.hid hm
    have HB := Lib.hid hB
    have hmb : m ≤ 200000000 := by omega
    clear hs hcc hLL ho hco hy hm hr hB
    go_enter Tryz.func264, Tryz.ntmps264
    go_wp2_with (at_builtin; refine wpList_appendN_O rfl _ _ _ _ rfl elemT intI (by decide) B _ ys rfl HO.out HCO.out m rfl hmp ?c1 ?_)
    case c1 => rw [HY.out]; omega
    intro v' w1 ho1 hb1 hof hbl hcp
    have hS1 := ho1.isS
    have hl1 : sLen v' = c + m := by rw [ho1.len, List.length_append, List.length_replicate, HY.out]
    have hc1 := hS1.le
    have hsub := ho1.sub (l := 0) (n := L) (Nat.zero_le _) (by rw [List.length_append, List.length_replicate, HY.out]; omega)
    have Q : Hid (GrP s (subS v' 0 L) n B L w w1) := Lib.hid ⟨⟨_, by rw [List.length_drop, List.length_take, List.length_append, List.length_replicate, HY.out]; omega, hsub.mono HB.out⟩, by rw [subS_cap hS1]; have := HM.out; omega, .inr ⟨by rw [subS_blk hS1, hbl]; exact Nat.le_refl _, by rw [subS_off0 hS1]; exact hof, hb1⟩⟩
    have hSq := hsub.isS
    clear ho1 hb1 hof hbl hsub
    go_wp2
    go_ret
    exact ⟨_, rfl, Q.out⟩
set_option maxRecDepth 100000 in
theorem mulWWW_any (x y c q r : Nat) (w : World) (hx : x < 18446744073709551616) (hy : y < 18446744073709551616) (hc : c < 18446744073709551616) (h : x * y + c = r + 18446744073709551616 * q) (hr : r < 18446744073709551616) (hq : q < 18446744073709551616) :
    Calls Tryz.prog 280 #[.int .u64 x, .int .u64 y, .int .u64 c] w fun e w' => e = .returned (.tuple #[.int .u64 q, .int .u64 r]) ∧ w' = w := by
  have HM := Lib.hid (Tryz.bits_Mul x y hx hy w)
  obtain ⟨P, hP⟩ : ∃ P, P = x * y := ⟨_, rfl⟩
  rw [← hP] at HM h
  obtain ⟨hi, hhi⟩ : ∃ hi, hi = P / 18446744073709551616 := ⟨_, rfl⟩
  obtain ⟨lo, hlo⟩ : ∃ lo, lo = P % 18446744073709551616 := ⟨_, rfl⟩
  rw [← hhi, ← hlo] at HM
  obtain ⟨cc, hcc⟩ : ∃ cc, cc = q - hi := ⟨_, rfl⟩
  have H1 := Lib.hid (show lo + c = r + 18446744073709551616 * cc by omega)
  have hle : hi + cc = q := by omega
  have e0 : (hi : Int) + (cc : Int) = (q : Int) := by omega
  have e1 : IntKind.u64.wrap ((hi : Int) + (cc : Int)) = (q : Int) := by rw [e0, IntKind.wrap_u64]; omega
  have hlol : lo < 18446744073709551616 := by omega
  have hhil : hi < 18446744073709551616 := by omega
  clear hP hhi hlo hcc h hle
  go_enter Tryz.func280, Tryz.ntmps280
  go_wp2_with fail
  refine HM.out.mono ?_
  rintro _ _ ⟨rfl, rfl⟩
  go_wp2_with fail
  refine (bitsAdd0 lo c r cc _ H1.out hr).mono ?_
  rintro _ _ ⟨rfl, rfl⟩
  go_wp2
  go_ret2
  exact ⟨rfl, rfl⟩
theorem mul_word_lt {a y d q s : Nat} (ha : a < 18446744073709551616) (hy : y < 18446744073709551616) (hd : d < 18446744073709551616) (h : a * y + d = s + 18446744073709551616 * q) : q < 18446744073709551616 := by
  have h1 : a * y ≤ 18446744073709551615 * 18446744073709551615 := Nat.mul_le_mul (by omega) (by omega)
  omega
set_option maxRecDepth 100000 in
set_option maxHeartbeats 1600000 in
theorem mulAddVWW_g_any (v x : Value) (os : List Value) (xs : List Nat) (y r B : Nat) (w : World) (ho : Own w B 164 v os) (hx : RW w x xs) (hlx : xs.length = os.length)
    (hax : sBlk x = sBlk v → sOff v ≤ sOff x) (hy : y < 18446744073709551616) (hr : r < 18446744073709551616) (hl : os.length ≤ 1000000000) :
    Calls Tryz.prog 279 #[v, x, .int .u64 y, .int .u64 r] w fun e w' => ∃ c : Nat, e = .returned (.int .u64 c) ∧ (c < 18446744073709551616 ∧ wv xs * y + r = wv (wdsN (wv xs * y + r) os.length) + 18446744073709551616 ^ os.length * c) ∧ VvP v os.length B (wv xs * y + r) w w' := by
  have hS := ho.isS
  have hSx := hx.isS
  obtain ⟨L, hLw⟩ : ∃ L, L = os.length := ⟨_, rfl⟩
  have hL : sLen v = L := by rw [hLw]; exact ho.len
  have hLx : sLen x = L := by rw [hx.len, hlx, hLw]
  have R0 := Lib.hid (Vv.start ho hLw.symm)
  have HB0 : Hid (0 < L → 0 < sCap v ∧ B ≤ sBlk v) := Lib.hid (fun h => by
    have := hS.le
    have hc : 0 < sCap v := by omega
    exact ⟨hc, (ho.lt hc).1⟩)
  have HXL : Hid (xs.length = L) := Lib.hid (by omega)
  rw [← hLw] at hl ⊢
  have HX := Lib.hid hx
  have HAX := Lib.hid hax
  clear ho hLw hx hlx hax
  go_enter Tryz.func279, Tryz.ntmps279
  go_wp2
  go_loopw [8, 19] (fun c i wr => ∃ k d Z : Nat, k ≤ L ∧ i = .int .i64 k ∧ c = .int .u64 d ∧ (d < 18446744073709551616 ∧ wv (xs.take k) * y + r = Z + 18446744073709551616 ^ k * d) ∧ Vv v L B k Z w wr) (fun c i _ => L - (intOf i).toNat)
  case atStart => exact ⟨0, r, 0, Nat.zero_le _, rfl, rfl, ⟨hr, by simp [wv]⟩, R0.out⟩
  case round =>
    obtain ⟨k, d, Z, hk, rfl, rfl, ⟨hd, hZ⟩, hrel⟩ := hrel
    have HREL := Lib.hid hrel
    by_cases hkL : k < L
    · obtain ⟨hcap, hB⟩ := HB0.out (by omega)
      have cx := hrel.src HX.out HAX.out (Nat.le_refl k) (by rw [HXL.out]; exact hkL)
      obtain ⟨u, cv⟩ := hrel.own hkL
      have fz := hrel.frozen hcap (sOff v + k)
      have hxl := getD_ltW HX.out.lt k
      have e1 := wv_take_succ (ws := xs) (i := k) (by rw [HXL.out]; exact hkL)
      obtain ⟨a, ha⟩ : ∃ a, a = xs.getD k 0 := ⟨_, rfl⟩
      rw [← ha] at cx hxl e1
      obtain ⟨s, c, hsc, hs⟩ : ∃ s c, a * y + d = s + 18446744073709551616 * c ∧ s < 18446744073709551616 := ⟨(a * y + d) % 18446744073709551616, (a * y + d) / 18446744073709551616, by omega, by omega⟩
      have hc1 := mul_word_lt hxl hy hd hsc
      have HA : Hid (Calls Tryz.prog 280 #[.int .u64 a, .int .u64 y, .int .u64 d] wr fun e w' => e = .returned (.tuple #[.int .u64 c, .int .u64 s]) ∧ w' = wr) := Lib.hid (mulWWW_any a y d c s _ hxl hy hd hsc hs hc1)
      have HZ : Hid (wv (xs.take (k + 1)) * y + r = Z + 18446744073709551616 ^ k * s + 18446744073709551616 ^ (k + 1) * c) := Lib.hid (by
        rw [e1, Nat.pow_succ, Nat.mul_assoc]
        have h1 : 18446744073709551616 ^ k * (a * y + d) = 18446744073709551616 ^ k * s + 18446744073709551616 ^ k * (18446744073709551616 * c) := by rw [hsc, Nat.mul_add]
        rw [Nat.mul_add, ← Nat.mul_assoc] at h1
        rw [Nat.add_mul]
        omega)
      have PUT := Lib.hid (HREL.out.put hkL hB hs)
      clear hrel e1 ha hZ hsc
      go_wp2_with fail
      refine HA.out.mono ?_
      rintro _ _ ⟨rfl, rfl⟩
      go_wp2
      exact ⟨⟨k + 1, c, _, by omega, by go_num, rfl, ⟨hc1, HZ.out⟩, PUT.out⟩, by simp [intOf]; omega⟩
    · have hkk : k = L := by omega
      have HD : Hid ((d < 18446744073709551616 ∧ wv xs * y + r = wv (wdsN (wv xs * y + r) L) + 18446744073709551616 ^ L * d) ∧ VvP v L B (wv xs * y + r) w wr) := Lib.hid (by
        subst hkk
        rw [List.take_of_length_le (by rw [HXL.out]; exact Nat.le_refl _)] at hZ
        have hZl : Z < 18446744073709551616 ^ k := by
          obtain ⟨os', ds, g1, g2, g3, g4, g5, g6, g7, g8⟩ := hrel
          have := wv_lt g5
          rw [g4] at this; omega
        refine ⟨⟨hd, ?_⟩, hrel.done d hZ⟩
        rw [wdsN_wv, hZ, Nat.add_mul_mod_self_left, Nat.mod_eq_of_lt hZl])
      clear hrel hZ HREL
      go_wp2
      go_ret
      exact ⟨d, rfl, HD.out⟩
set_option maxRecDepth 100000 in
theorem mulAddVWW_any (v x : Value) (os : List Value) (xs : List Nat) (y r B : Nat) (w : World) (ho : Own w B 164 v os) (hx : RW w x xs) (hlx : xs.length = os.length)
    (hax : sBlk x = sBlk v → sOff v ≤ sOff x) (hy : y < 18446744073709551616) (hr : r < 18446744073709551616) (hl : os.length ≤ 1000000000) :
    Calls Tryz.prog 267 #[v, x, .int .u64 y, .int .u64 r] w fun e w' => ∃ c : Nat, e = .returned (.int .u64 c) ∧ (c < 18446744073709551616 ∧ wv xs * y + r = wv (wdsN (wv xs * y + r) os.length) + 18446744073709551616 ^ os.length * c) ∧ VvP v os.length B (wv xs * y + r) w w' := by
  have hS := ho.isS
  have hSx := hx.isS
  have H := Lib.hid (mulAddVWW_g_any v x os xs y r B w ho hx hlx hax hy hr hl)
  clear ho hx hlx hax hl
  go_enter Tryz.func267, Tryz.ntmps267
  go_wp2_with fail
  refine H.out.mono ?_
  rintro _ w1 ⟨c, rfl, h1, h2⟩
  have H1 := Lib.hid (And.intro h1 h2)
  clear h1 h2
  go_wp2
  go_ret
  exact ⟨c, rfl, H1.out⟩
set_option maxRecDepth 100000 in
set_option maxHeartbeats 3200000 in
theorem mulAddWW_any (z x : Value) (zs : List Value) (X y r B : Nat) (w : World) (hz : Own w B 164 z zs) (hx : RO w x (wds X)) (ax : Al z x) (h0 : 0 < X) (hy0 : 0 < y) (hy : y < 18446744073709551616) (hr : r < 18446744073709551616) (hl : nw X ≤ 100000000) (hB : B ≤ w.heap.size) :
    Calls Tryz.prog 248 #[z, x, .int .u64 y, .int .u64 r] w fun e w' => ∃ q, e = .returned q ∧ NatR z q (X * y + r) B w w' := by
  have hS := hz.isS
  have hSx := hx.rw.isS
  obtain ⟨m, hm⟩ : ∃ m, m = nw X := ⟨_, rfl⟩
  have hLx : sLen x = m := by rw [hx.rw.len, wds_length, hm]
  have hmp : 0 < m := by rw [hm]; exact nw_pos h0
  have hcx : m ≤ sCap x := by have := hSx.le; omega
  rw [← hm] at hl
  have t1 : ((m : Int) == 0) = false := by rw [beq_eq_false_iff_ne]; omega
  have t2 : ((y : Int) == 0) = false := by rw [beq_eq_false_iff_ne]; omega
  have e1 : (m : Int) + 1 = ((m + 1 : Nat) : Int) := by omega
  obtain ⟨m1, hm1⟩ : ∃ m1, m1 = m + 1 := ⟨_, rfl⟩
  rw [← hm1] at e1
  have HM := Lib.hid hm
  have HM1 := Lib.hid hm1
  have HZ := Lib.hid hz
  have HX := Lib.hid hx
  have HAX := Lib.hid ax
  have HB := Lib.hid hB
  have hm1b : m1 ≤ 1000000000 := by omega
  have hm1p : 0 < m1 := by omega
  have hmm1 : m < m1 := by omega
  obtain ⟨S, hSS⟩ : ∃ S, S = X * y + r := ⟨_, rfl⟩
  have HSS := Lib.hid hSS
  rw [← hSS]
  clear hz hx ax hB hm hm1 hSS h0
  go_enter Tryz.func248, Tryz.ntmps248
  go_wp2_with fail
  refine (make_any z zs m1 B w HZ.out hm1b HB.out).mono ?_
  rintro _ w1 ⟨q, rfl, hmk⟩
  obtain ⟨os, hos, hor⟩ := hmk.own
  have hSr := hor.isS
  have hLr : sLen q = m1 := by rw [hor.len, hos]
  have hcr : m1 ≤ sCap q := by have := hSr.le; omega
  have hcr0 : 0 < sCap q := by omega
  have hBr := (hor.lt hcr0).1
  have hX1 := HX.out.below hmk.below
  have aX := hmk.al hS hm1p HAX.out HX.out.rw (by rw [wds_length, ← HM.out]; omega)
  have hSr0 : IsS (subS q 0 m) := subS_isS hSr (Nat.zero_le _) (by omega)
  have hsub := hor.sub (l := 0) (n := m) (Nat.zero_le _) (by omega)
  have hsl : ((os.take m).drop 0).length = m := by simp; omega
  have HCALL : Hid (Calls Tryz.prog 267 #[subS q 0 m, x, .int .u64 y, .int .u64 r] w1 fun e w' => ∃ c : Nat, e = .returned (.int .u64 c) ∧ (c < 18446744073709551616 ∧ S = wv (wdsN S m) + 18446744073709551616 ^ m * c) ∧ VvP (subS q 0 m) m B S w1 w') := Lib.hid (by
    have := mulAddVWW_any (subS q 0 m) x ((os.take m).drop 0) (wds X) y r B w1 hsub hX1.rw (by rw [hsl, wds_length, HM.out]) (by rw [(sub0 hSr).1, (sub0 hSr).2]; intro h; rw [aX h]; exact Nat.le_refl _) hy hr (by rw [hsl]; omega)
    rw [hsl, wv_wds, ← HSS.out] at this
    refine this.mono ?_
    rintro _ w' ⟨c, rfl, h1, h2⟩
    exact ⟨c, rfl, h1, h2⟩)
  have HFIN : Hid (∀ c w2, c < 18446744073709551616 → S = wv (wdsN S m) + 18446744073709551616 ^ m * c → VvP (subS q 0 m) m B S w1 w2 →
      (w2.frozen? ⟨sBlk q, sOff q + m, none⟩ = false ∧ ∃ u, w2.cell? ⟨sBlk q, sOff q + m, none⟩ = some u) ∧
      Calls Tryz.prog 174 #[q] (w2.setCell ⟨sBlk q, sOff q + m, none⟩ (.int .u64 (c : Int))) fun e w' => e = .returned (subS q 0 (nw S)) ∧ w2.setCell ⟨sBlk q, sOff q + m, none⟩ (.int .u64 (c : Int)) = w' ∧ NatR z (subS q 0 (nw S)) S B w (w2.setCell ⟨sBlk q, sOff q + m, none⟩ (.int .u64 (c : Int)))) := Lib.hid (fun c w2 hc hcS hvp => by
    have hpt := VvP.patch (l := 0) (n := m) hor (Nat.zero_le _) (by omega) (by rw [Nat.sub_zero]; exact hvp)
    rw [List.take_zero, List.nil_append, Nat.sub_zero, Nat.add_zero] at hpt
    obtain ⟨g1, g2, g3⟩ := hpt
    have hmm : m1 = m + 1 := HM1.out
    have hll : (cellsW (wdsN S m) ++ os.drop m).length = m1 := by rw [List.length_append, cellsW_length, wdsN_length, List.length_drop]; omega
    have gs := g1.set (i := m) (by rw [hll]; exact hmm1) (.int .u64 (c : Int))
    have es : (cellsW (wdsN S m) ++ os.drop m).set m (.int .u64 (c : Int)) = cellsW (wdsN S m ++ [c]) := by
      obtain ⟨u, hu⟩ : ∃ u, os.drop m = [u] := List.length_eq_one_iff.1 (by rw [List.length_drop]; omega)
      rw [hu, List.set_append_right _ _ (by rw [cellsW_length, wdsN_length]; exact Nat.le_refl _), cellsW_length, wdsN_length, Nat.sub_self, ← cellsW_append]
      rfl
    rw [es] at gs
    have hlt : ∀ e ∈ wdsN S m ++ [c], e < 18446744073709551616 := by
      intro e he
      rcases List.mem_append.1 he with h | h
      · exact wdsN_lt e h
      · rw [List.mem_singleton] at h; omega
    have hnum : wv (wdsN S m ++ [c]) = S := by rw [wv_snoc, wdsN_length, ← hcS]
    have hN := norm_any q _ _ (gs.rw' hlt) (by simp [wdsN_length]; omega)
    have hT := gs.takeW hlt
    rw [hnum] at hN hT
    have hb3 : Below B w1 (w2.setCell ⟨sBlk q, sOff q + m, none⟩ (.int .u64 (c : Int))) := bset g2 hBr
    have hf3 : Only (sBlk q) w1 (w2.setCell ⟨sBlk q, sOff q + m, none⟩ (.int .u64 (c : Int))) := ((g3.mono (Nat.le_refl _) (Nat.le_succ _)).set (lo := sOff q) (hi := sOff q + m + 1) (i := sOff q + m) (by omega) (by omega) _).only
    refine ⟨⟨g1.frozen hcr0 _, _, g1.cell (List.getElem?_eq_getElem (by rw [hll]; exact hmm1))⟩, hN.mono (fun e w' h => ⟨h.1, h.2, hT, (hmk.below.mono HB.out).trans hb3, hmk.fr hS hm1p hb3.size hf3, fun hc => hmk.atS hS hSr hc⟩)⟩)
  clear hor hos hmk hX1 aX hsub hsl
  go_wp2_with fail
  refine HCALL.out.mono ?_
  rintro _ w2 ⟨c, rfl, ⟨hc, hcS⟩, hvp⟩
  obtain ⟨⟨fz, u, cu⟩, hq⟩ := HFIN.out c w2 hc hcS hvp
  have HQ := Lib.hid hq
  clear hcS hvp hq
  go_wp2_with fail
  refine HQ.out.mono ?_
  rintro _ _ ⟨rfl, rfl, hn⟩
  have Q := Lib.hid hn
  have hSq := hn.own.isS
  clear hn
  go_wp2
  go_ret
  exact ⟨_, rfl, Q.out⟩
def KarW (w : World) : Prop := w.cell? ⟨4, 0, none⟩ = some (.int .i64 40)
theorem KarW.below {w w' : World} (h : KarW w) (hb : Below w.heap.size w w') : KarW w' := by
  have hlt := World.block_lt_of_cell? w _ h
  unfold KarW
  rw [hb.cell (p := ⟨4, 0, none⟩) hlt]; exact h
theorem KarW.drewN {w : World} (h : KarW w) (n : Nat) : KarW (w.drewN n) := h
def WoU (ws : List Nat) (B k : Nat) (w : World) (v : Value) (wr : World) : Prop := Own wr B 35 v (cellsW (ws.take k)) ∧ Below B w wr
theorem WoU.step {ws : List Nat} {B k : Nat} {w w1 : World} {v1 : Value} (hk : k < ws.length) (h : Own w1 B 35 v1 (cellsW (ws.take k) ++ [.int .u64 ((ws.getD k 0 : Nat) : Int)])) (hb : Below B w w1) : WoU ws B (k + 1) w v1 w1 := by
  refine ⟨?_, hb⟩
  rw [cellsW_snoc] at h
  rw [List.take_succ_eq_append_getElem hk]
  simpa [List.getD_eq_getElem?_getD, List.getElem?_eq_getElem hk] using h
set_option maxRecDepth 100000 in
set_option maxHeartbeats 800000 in
theorem wordsOf_any (b o : Nat) (v : Value) (ws : List Nat) (w : World) (hc : w.cell? ⟨b, o + 1, none⟩ = some v) (hv : RW w v ws) (hl : ws.length ≤ 100000000) :
    Calls Tryz.prog 128 #[.pointer (some ⟨b, o, none⟩)] w fun e w' => ∃ r, e = .returned r ∧ Own w' w.heap.size 35 r (cellsW ws) ∧ Below w.heap.size w w' := by
  have hSv := hv.isS
  have hLv := hv.len
  obtain ⟨la, hla⟩ : ∃ la, la = ws.length := ⟨_, rfl⟩
  rw [← hla] at hLv hl
  have Hla := Lib.hid hla
  have Hv := Lib.hid hv
  clear hla hv
  go_enter Tryz.func128, Tryz.ntmps128
  go_wp2_with fail
  refine (intBits b o v w hc hSv).mono ?_
  rintro _ _ ⟨rfl, rfl⟩
  go_wp2
  go_loopw [3, 9] (fun v i wr => ∃ k : Nat, k ≤ la ∧ i = .int .i64 k ∧ WoU ws w.heap.size k w v wr) (fun _ i _ => la - (intOf i).toNat)
  case atStart => exact ⟨0, Nat.zero_le _, rfl, Own.nil _ _ _, Below.refl _ _⟩
  case round =>
    obtain ⟨i, hi, rfl, hO, hbl⟩ := hrel
    have hbz := hbl.size
    have hSo : IsS u3 := hO.isS
    have HO := Lib.hid hO
    clear hO
    by_cases hia : i < la
    · have ca := (Hv.out.below hbl).cell i (by rw [← Hla.out]; exact hia)
      obtain ⟨d, hd⟩ : ∃ d, d = ws.getD i 0 := ⟨_, rfl⟩
      rw [← hd] at ca
      have Hd := Lib.hid hd
      clear hd
      have hlk : (cellsW (ws.take i)).length = i := by rw [cellsW_length]; have := Hla.out; simp; omega
      have Hlk := Lib.hid hlk
      clear hlk
      go_wp2_with (at_builtin; refine wpList_append_O rfl _ _ _ _ rfl elemU w.heap.size _ _ rfl (HO.out.alloc _) _ rfl 1 [.int .u64 (d : Int)] (srcOne Tryz.underlying23 wr _ _) ?c3 ?c4 ?c5 ?_)
      case c3 => rw [Hlk.out]; unfold maxLen; omega
      case c4 => rw [Hlk.out]; omega
      case c5 => simp; omega
      rintro v1 w1 ho1 hb1 - - -
      have hs := WoU.step (by rw [← Hla.out]; exact hia) (by rw [← Hd.out]; exact ho1) ((hbl.alloc hbz _).trans hb1)
      have Hs := Lib.hid hs
      clear hs ho1
      go_wp2
      go_roundw
      case rel => exact ⟨i + 1, by omega, by go_num, Hs.out⟩
      case measure => simp [intOf]; omega
    · have hil : i = la := by omega
      subst hil
      have hfull : ws.take i = ws := List.take_of_length_le (by rw [Hla.out]; exact Nat.le_refl _)
      have ho := HO.out
      rw [hfull] at ho
      have Ho := Lib.hid ho
      clear hfull ho
      go_wp2
      go_ret
      exact ⟨_, rfl, Ho.out, hbl⟩
theorem sgn_lt (neg : Bool) (n : Nat) : decide (sgnI neg (nw n) < 0) = (neg && decide (0 < n)) := by
  rcases Nat.eq_zero_or_pos n with h | h
  · subst h; cases neg <;> rfl
  · have := nw_pos h
    unfold sgnI
    rw [if_neg (by omega)]
    cases neg
    · rfl
    · simp [h]
set_option maxRecDepth 100000 in
theorem told_any (b o : Nat) (neg : Bool) (v : Value) (n : Nat) (w : World) (h0 : w.cell? ⟨b, o, none⟩ = some (.bool neg)) (hc : w.cell? ⟨b, o + 1, none⟩ = some v) (hv : RW w v (wds n)) (hl : nw n ≤ 100000000) :
    Calls Tryz.prog 127 #[.pointer (some ⟨b, o, none⟩)] w fun e w' => ∃ r, e = .returned (.agg #[.bool (neg && decide (0 < n)), r]) ∧ Own w' w.heap.size 35 r (cellsW (wds n)) ∧ Below w.heap.size w w' := by
  have hSv := hv.isS
  have hLv := hv.len
  rw [wds_length] at hLv
  have hlt := World.block_lt_of_cell? w _ hc
  have Hv := Lib.hid hv
  clear hv
  have hab := (Below.refl w.heap.size w).alloc (Nat.le_refl _) (.cells #[.bool false, .slice none 0 0] 25)
  have hrow0 := box_row (Below.refl _ (w.alloc (.cells #[.bool false, .slice none 0 0] 25)))
  obtain ⟨W, hW⟩ : ∃ W, W = w.alloc (.cells #[.bool false, .slice none 0 0] 25) := ⟨_, rfl⟩
  rw [← hW] at hab hrow0
  have h0' := (hab.cell (p := ⟨b, o, none⟩) hlt).trans h0
  have hc' := (hab.cell (p := ⟨b, o + 1, none⟩) hlt).trans hc
  have HR := Lib.hid hrow0
  have hWs := hab.size
  clear hrow0
  have t1 := sgn_lt neg n
  obtain ⟨x, hx⟩ : ∃ x, x = (neg && decide (0 < n)) := ⟨_, rfl⟩
  obtain ⟨z, hz⟩ : ∃ z, z = sgnI neg (nw n) := ⟨_, rfl⟩
  rw [← hx]
  rw [← hx, ← hz] at t1
  have hzb : -1 ≤ z ∧ z ≤ 1 := by rw [hz]; unfold sgnI; split <;> (try split) <;> omega
  obtain ⟨hz1, hz2⟩ := hzb
  have HZ := Lib.hid hz
  clear hx hz
  go_enter Tryz.func127, Tryz.ntmps127
  go_upto_region 1 with fail
  rw [← hW]
  clear hW
  go_wp2_with fail
  refine (intSign b o neg v W h0' hc' hSv).mono ?_
  rintro _ _ ⟨rfl, rfl⟩
  rw [hLv]
  have Z := HZ.out
  rw [← Z]
  clear Z h0 hc h0' hLv
  go_wp2_with fail
  refine (wordsOf_any b o v (wds n) W hc' (Hv.out.below hab) (by rw [wds_length]; exact hl)).mono ?_
  rintro _ w2 ⟨r, rfl, hr, hb2⟩
  have hSr := hr.isS
  have hrow2 := keep_row hb2 HR.out
  have k0 := row_at (i := 0) hrow2 rfl
  have k1 := row_at (i := 1) hrow2 rfl
  obtain ⟨k00, k01⟩ := k0
  obtain ⟨k10, k11⟩ := k1
  have q2 := rowset (i := 1) r (rowset (i := 0) (.bool x) hrow2)
  have e0 := (row_at (i := 0) q2 rfl).1
  have e1 := (row_at (i := 1) q2 rfl).1
  have o1 := ((hr.away hrow2 (by decide) 0 (.bool x)).away (rowset (i := 0) (.bool x) hrow2) (by decide) 1 r).mono hWs
  have b1 := bset (i := 1) (u := r) (bset (i := 0) (u := .bool x) (hab.trans (hb2.mono hWs)) (Nat.le_refl _)) (Nat.le_refl _)
  have O1 := Lib.hid o1
  have B1 := Lib.hid b1
  clear hr hrow2 q2 o1 b1
  go_wp2
  refine bodyPost_ret (v := .agg #[.bool x, r]) ?_ rfl ⟨r, rfl, O1.out, B1.out⟩
  simp [results, Tryz.results127, go_sem, e0, e1]
def RatP (w : World) (B b : Nat) (neg : Bool) (n d : Nat) : Prop :=
  ∃ v1 v2, B ≤ b ∧ w.heap[b]? = some (.cells #[.bool neg, v1, .bool false, v2] 125 (0, 0)) ∧ Own w B 164 v1 (cellsW (wds n)) ∧ Own w B 164 v2 (cellsW (wds d))
theorem RatP.below {w w' : World} {B b : Nat} {neg : Bool} {n d : Nat} (h : RatP w B b neg n d) (hb : Below w.heap.size w w') : RatP w' B b neg n d := by
  obtain ⟨v1, v2, h1, h2, h3, h4⟩ := h
  exact ⟨v1, v2, h1, keep_row hb h2, h3.below hb, h4.below hb⟩
theorem RatP.drewN {w : World} {B b : Nat} {neg : Bool} {n d : Nat} (h : RatP w B b neg n d) (k : Nat) : RatP (w.drewN k) B b neg n d := by
  obtain ⟨v1, v2, h1, h2, h3, h4⟩ := h
  exact ⟨v1, v2, h1, h2, h3.drewN k, h4.drewN k⟩
theorem RatP.mono {w : World} {B B' b n d : Nat} {neg : Bool} (h : RatP w B b neg n d) (hB : B' ≤ B) : RatP w B' b neg n d := by
  obtain ⟨v1, v2, h1, h2, h3, h4⟩ := h
  exact ⟨v1, v2, Nat.le_trans hB h1, h2, h3.mono hB, h4.mono hB⟩
theorem wds_one : wds 1 = [1] := by decide
set_option maxRecDepth 100000 in
theorem ratNum (b : Nat) (w : World) :
    Calls Tryz.prog 107 #[.pointer (some ⟨b, 0, none⟩)] w fun e w' => e = .returned (.pointer (some ⟨b, 0, none⟩)) ∧ w = w' := by
  go_enter Tryz.func107, Tryz.ntmps107
  go_wp2
  go_ret
  exact ⟨rfl, rfl⟩
set_option maxRecDepth 100000 in
theorem ratDenom (b : Nat) (v : Value) (w : World) (hc : w.cell? ⟨b, 3, none⟩ = some v) (hS : IsS v) (hl : 0 < sLen v) :
    Calls Tryz.prog 108 #[.pointer (some ⟨b, 0, none⟩)] w fun e w' => e = .returned (.pointer (some ⟨b, 2, none⟩)) ∧ w = w' := by
  obtain ⟨l, hl'⟩ : ∃ l, sLen v = l := ⟨_, rfl⟩
  rw [hl'] at hl
  have t1 : ((l : Int) == 0) = false := by rw [beq_eq_false_iff_ne]; omega
  go_enter Tryz.func108, Tryz.ntmps108
  go_wp2
  go_ret
  exact ⟨rfl, rfl⟩
theorem IntP.lt {w : World} {B b n : Nat} {neg : Bool} (h : IntP w B b neg n) : b < w.heap.size := by
  obtain ⟨v, _, h2, _⟩ := h
  exact (heap_alloc_lt (o := .cells #[] 0) h2).2
theorem RW.belowB {w w' : World} {v : Value} {ds : List Nat} {B : Nat} (h : RW w v ds) (hb : Below B w w') (hlt : 0 < ds.length → sBlk v < B) : RW w' v ds := ⟨h.ri.belowB hb (by rw [ints_length]; exact hlt), h.lt⟩
set_option maxRecDepth 100000 in
set_option maxHeartbeats 800000 in
theorem frac_any (b B : Nat) (neg : Bool) (n d : Nat) (w : World) (h : RatP w B b neg n d) (hd : 0 < d) (hl1 : nw n ≤ 100000000) (hl2 : nw d ≤ 100000000) :
    Calls Tryz.prog 79 #[.pointer (some ⟨b, 0, none⟩)] w fun e w' => ∃ r1 r2, e = .returned (.agg #[.bool (neg && decide (0 < n)), r1, r2]) ∧ RW w' r1 (wds n) ∧ RW w' r2 (wds d) ∧ Below w.heap.size w w' := by
  have hab := (Below.refl w.heap.size w).alloc (Nat.le_refl _) (.cells #[.bool false, .slice none 0 0, .slice none 0 0] 27)
  have hrow0 := box_row (Below.refl _ (w.alloc (.cells #[.bool false, .slice none 0 0, .slice none 0 0] 27)))
  obtain ⟨W, hW⟩ : ∃ W, W = w.alloc (.cells #[.bool false, .slice none 0 0, .slice none 0 0] 27) := ⟨_, rfl⟩
  rw [← hW] at hab hrow0
  obtain ⟨v1, v2, hB, hr, ho1, ho2⟩ := h
  have hr' := keep_row hab hr
  have k0 := (row_at (i := 0) hr' rfl).1
  have k1 := (row_at (i := 1) hr' rfl).1
  have R1 := Lib.hid ((ho1.rw' (wds_all n)).below hab)
  have R2 := Lib.hid ((ho2.rw' (wds_all d)).below hab)
  have hS1 := ho1.isS
  have hS2 := ho2.isS
  have hL2 : 0 < sLen v2 := by rw [ho2.len, cellsW_length, wds_length]; exact nw_pos hd
  have HR := Lib.hid hr'
  have H0 := Lib.hid hrow0
  have hWs := hab.size
  obtain ⟨x, hx⟩ : ∃ x, x = (neg && decide (0 < n)) := ⟨_, rfl⟩
  rw [← hx]
  have HX := Lib.hid hx
  clear hr hr' hrow0 ho1 ho2 hx
  go_enter Tryz.func79, Tryz.ntmps79
  go_upto_region 1 with fail
  rw [← hW]
  clear hW
  go_wp2_with fail
  refine (ratNum b W).mono ?_
  rintro _ _ ⟨rfl, rfl⟩
  go_wp2_with fail
  refine (told_any b 0 neg v1 n W k0 k1 R1.out hl1).mono ?_
  rintro _ w1 ⟨r1, rfl, hq1, hb1⟩
  rw [← HX.out]
  have hSr1 := hq1.isS
  have k3 := (row_at (i := 3) (keep_row hb1 HR.out) rfl).1
  have HB1 := Lib.hid hb1
  have HQ1 := Lib.hid hq1
  clear hb1 hq1 k0 k1
  go_wp2_with fail
  refine (ratDenom b v2 w1 k3 hS2 hL2).mono ?_
  rintro _ _ ⟨rfl, rfl⟩
  go_wp2_with fail
  refine (wordsOf_any b 2 v2 (wds d) w1 k3 (R2.out.below HB1.out) (by rw [wds_length]; exact hl2)).mono ?_
  rintro _ w2 ⟨r2, rfl, hq2, hb2⟩
  have hSr2 := hq2.isS
  have hb12 := bthen HB1.out hb2
  have hrow2 := keep_row hb12 H0.out
  have k0 := row_at (i := 0) hrow2 rfl
  have k1 := row_at (i := 1) hrow2 rfl
  have k2 := row_at (i := 2) hrow2 rfl
  obtain ⟨k00, k01⟩ := k0
  obtain ⟨k10, k11⟩ := k1
  obtain ⟨k20, k21⟩ := k2
  have p1 := rowset (i := 0) (.bool x) hrow2
  have p2 := rowset (i := 1) r1 p1
  have p3 := rowset (i := 2) r2 p2
  have e0 := (row_at (i := 0) p3 rfl).1
  have e1 := (row_at (i := 1) p3 rfl).1
  have e2 := (row_at (i := 2) p3 rfl).1
  have a1 := (((HQ1.out.below hb2).away hrow2 (by decide) 0 (.bool x)).away p1 (by decide) 1 r1).away p2 (by decide) 2 r2
  have a2 := ((hq2.away hrow2 (by decide) 0 (.bool x)).away p1 (by decide) 1 r1).away p2 (by decide) 2 r2
  have b1 := bset (i := 2) (u := r2) (bset (i := 1) (u := r1) (bset (i := 0) (u := .bool x) (hab.trans (hb12.mono hWs)) (Nat.le_refl _)) (Nat.le_refl _)) (Nat.le_refl _)
  have A1 := Lib.hid (a1.rw' (wds_all n))
  have A2 := Lib.hid (a2.rw' (wds_all d))
  have B1 := Lib.hid b1
  clear hq2 hb2 hb12 hrow2 p1 p2 p3 a1 a2 b1 k3
  go_wp2
  refine bodyPost_ret (v := .agg #[.bool x, r1, r2]) ?_ rfl ⟨r1, r2, rfl, A1.out, A2.out, B1.out⟩
  simp [results, Tryz.results79, go_sem, e0, e1, e2]
end Go.Proofs.YtdepidpgbgfjlaaGreatDoor
