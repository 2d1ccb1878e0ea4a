/-
Texts of this proof, joined: DlA. No condition.
-/
import Derived.Test.YtllhnjpnkmjopaaGreatDoorK04
import Derived.Test.YtllhnjpnkmjopaaGreatDoorK08
import Derived.Test.YtllhnjpnkmjopaaGreatDoorK24
import Derived.Test.YtllhnjpnkmjopaaGreatDoorK25
namespace Go.Proofs.YtllhnjpnkmjopaaGreatDoor
open Go.RowKit

theorem eqlW (w : World) {b o c q : Nat} {cb cc : Array Value} {tb tc : TypeId} (hne : b ≠ c) (hb : w.heap[b]? = some (.cells cb tb (0, 0))) (hc : w.heap[c]? = some (.cells cc tc (0, 0))) :
    (binOp .eql 202 (.pointer (some ⟨b, o, none⟩)) (.pointer (some ⟨c, q, none⟩))).run Tryz.prog w = .ok (.bool false) w := by
  obtain ⟨j, hj, hz⟩ := info_size sizeWord
  exact run_eql_ptr_other w Tryz.underlying202 hj (by omega) (by simp) hb hc
set_option maxRecDepth 100000 in
set_option maxHeartbeats 800000 in
theorem alias_ne (x y : Value) (xs ys : List Value) (B : Nat) (w : World) (hx : Own w B 116 x xs) (hy : Own w B 116 y ys) (hne : 0 < sCap x → 0 < sCap y → sBlk x ≠ sBlk y) :
    Calls Tryz.prog 167 #[x, y] w fun e w' => e = .returned (.bool false) ∧ ∃ m, w' = w.drewN m := by
  have hSx := hx.isS
  have hSy := hy.isS
  obtain ⟨cx, hcx⟩ : ∃ c, c = sCap x := ⟨_, rfl⟩
  obtain ⟨cy, hcy⟩ : ∃ c, c = sCap y := ⟨_, rfl⟩
  have ex : sCap x = cx := hcx.symm
  have ey : sCap y = cy := hcy.symm
  have hmx := hx.cap
  have hmy := hy.cap
  unfold maxLen at hmx hmy
  rw [ex] at hmx
  rw [ey] at hmy
  by_cases h0 : cx = 0
  · have t1 : decide ((cx : Int) > 0) = false := decide_eq_false (by omega)
    have t1' : decide (0 < cx) = false := decide_eq_false (by omega)
    clear hx hy hne hcx hcy h0
    go_enter Tryz.func167, Tryz.ntmps167
    go_wp2_with fail
    go_quiet (fail)
    go_wp2
    go_ret
    exact ⟨rfl, _, rfl⟩
  by_cases h1 : cy = 0
  · have t1' : decide (0 < cx) = true := decide_eq_true (by omega)
    have t2' : decide (0 < cy) = false := decide_eq_false (by omega)
    clear hx hy hne hcx hcy h0 h1
    go_enter Tryz.func167, Tryz.ntmps167
    go_wp2_with fail
    go_quiet (fail)
    go_wp2
    go_ret
    exact ⟨rfl, _, rfl⟩
  have t1' : decide (0 < cx) = true := decide_eq_true (by omega)
  have t2' : decide (0 < cy) = true := decide_eq_true (by omega)
  obtain ⟨rx, hrx⟩ := hx.rowOf (by omega)
  obtain ⟨ry, hry⟩ := hy.rowOf (by omega)
  have hS1 : IsS (subS x 0 cx) := subS_isS hSx (Nat.zero_le _) (by omega)
  have hS2 : IsS (subS y 0 cy) := subS_isS hSy (Nat.zero_le _) (by omega)
  have hl1 : sLen (subS x 0 cx) = cx := by rw [subS_len hSx]; omega
  have hl2 : sLen (subS y 0 cy) = cy := by rw [subS_len hSy]; omega
  have hq := fun (m i k : Nat) => eqlW (w.drewN m) (b := sBlk (subS x 0 cx)) (o := i) (c := sBlk (subS y 0 cy)) (q := k) (by rw [subS_blk hSx, subS_blk hSy]; exact hne (by omega) (by omega)) (by rw [subS_blk hSx]; exact hrx) (by rw [subS_blk hSy]; exact hry)
  obtain ⟨kx, hkx⟩ : ∃ k, cx = k + 1 := ⟨cx - 1, by omega⟩
  obtain ⟨ky, hky⟩ : ∃ k, cy = k + 1 := ⟨cy - 1, by omega⟩
  have e1 : (cx : Int) - 1 = (kx : Int) := by omega
  have e2 : (cy : Int) - 1 = (ky : Int) := by omega
  have w1 : IntKind.i64.wrap ((cx : Int) - 1) = (kx : Int) := by rw [IntKind.wrap_i64]; omega
  have w2 : IntKind.i64.wrap ((cy : Int) - 1) = (ky : Int) := by rw [IntKind.wrap_i64]; omega
  have k1 : kx < cx := by omega
  have k2 : ky < cy := by omega
  clear hx hy hne hcx hcy h0 h1 hrx hry hkx hky
  go_enter Tryz.func167, Tryz.ntmps167
  go_wp2_with fail
  go_quiet (fail)
  go_wp2
  go_ret
  exact ⟨rfl, _, rfl⟩
theorem dl_shift {D n s : Nat} (hD : 0 < D) (hn : n = nw D) (hs : s = 64 - bl (wdg D (n - 1))) : s < 64 ∧ D * 2 ^ s < 18446744073709551616 ^ n ∧ 9223372036854775808 ≤ wdg (D * 2 ^ s) (n - 1) := by
  have h1 := bl_words hD
  rw [← hn] at h1
  have h0 : 0 < wdg D (n - 1) := Nat.pos_of_ne_zero (by rw [hn]; exact wdg_last hD)
  have h2 := bl_pos h0
  have h3 := bl_le64 (wdg_lt D (n - 1))
  have hn0 : 0 < n := by rw [hn]; exact nw_pos hD
  have e1 : bl D + s = 64 * n := by omega
  have h4 : D * 2 ^ s < 18446744073709551616 ^ n := by
    rw [w_two, ← e1, Nat.pow_add]
    exact Nat.mul_lt_mul_of_pos_right (lt_bl D) (Nat.two_pow_pos s)
  refine ⟨by omega, h4, ?_⟩
  have h5 : D * 2 ^ s / 18446744073709551616 ^ (n - 1) = wdg (D * 2 ^ s) (n - 1) := wtop (by rw [show n - 1 + 1 = n by omega]; exact h4)
  rw [← h5, Nat.le_div_iff_mul_le (wpow_pos _), w_two, show (9223372036854775808 : Nat) = 2 ^ 63 by decide, ← Nat.pow_add, show 63 + 64 * (n - 1) = (bl D - 1) + s by omega, Nat.pow_add]
  exact Nat.mul_le_mul_right _ (bl_ge hD)
theorem dl_top {N lu s : Nat} (hN : N < 18446744073709551616 ^ lu) (hs : s < 64) : N * 2 ^ s < 18446744073709551616 ^ (lu + 1) ∧ wdg (N * 2 ^ s) lu < 9223372036854775808 := by
  have h1 : 2 ^ s ≤ 2 ^ 63 := Nat.pow_le_pow_right (by decide) (by omega)
  have h2 : N * 2 ^ s < 18446744073709551616 ^ lu * 9223372036854775808 := Nat.mul_lt_mul_of_lt_of_le hN h1 (by decide)
  have h3 : N * 2 ^ s < 18446744073709551616 ^ (lu + 1) := by
    rw [Nat.pow_succ]
    exact Nat.lt_of_lt_of_le h2 (Nat.mul_le_mul_left _ (by decide))
  refine ⟨h3, ?_⟩
  rw [← wtop h3]
  exact Nat.div_lt_of_lt_mul h2
theorem dl_div (N D s : Nat) : N * 2 ^ s / (D * 2 ^ s) = N / D ∧ N * 2 ^ s % (D * 2 ^ s) / 2 ^ s = N % D := by
  refine ⟨Nat.mul_div_mul_right _ _ (Nat.two_pow_pos s), ?_⟩
  rw [Nat.mul_mod_mul_right, Nat.mul_div_cancel _ (Nat.two_pow_pos s)]
end Go.Proofs.YtllhnjpnkmjopaaGreatDoor
