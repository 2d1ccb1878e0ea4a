/-
Texts of this proof, joined: MuA MuB MuC DdA DdB DdC. No condition.
-/
import Derived.Test.YtbghmceglemppaaGreatDoorK03
import Derived.Test.YtbghmceglemppaaGreatDoorK05
import Derived.Test.YtbghmceglemppaaGreatDoorK08
import Derived.Test.YtbghmceglemppaaGreatDoorK10
import Derived.Test.YtbghmceglemppaaGreatDoorK13
/-
Products of words: mulAddWWW, mulAddVWW, addMulVVWW. No condition.
-/
namespace Go.Proofs.YtbghmceglemppaaGreatDoor
open Go.RowKit

set_option maxRecDepth 100000 in
theorem mulWWW_any (x y c q r : Nat) (w : World) (hx : x < 18446744073709551616) (hy : y < 18446744073709551616) (hc : c < 18446744073709551616) (h : x * y + c = r + 18446744073709551616 * q) (hr : r < 18446744073709551616) (hq : q < 18446744073709551616) :
    Calls Tryz.prog 278 #[.int .u64 x, .int .u64 y, .int .u64 c] w fun e w' => e = .returned (.tuple #[.int .u64 q, .int .u64 r]) ∧ w' = w := by
  have HM := Lib.hid (Tryz.bits_Mul x y hx hy w)
  obtain ⟨P, hP⟩ : ∃ P, P = x * y := ⟨_, rfl⟩
  rw [← hP] at HM h
  obtain ⟨hi, hhi⟩ : ∃ hi, hi = P / 18446744073709551616 := ⟨_, rfl⟩
  obtain ⟨lo, hlo⟩ : ∃ lo, lo = P % 18446744073709551616 := ⟨_, rfl⟩
  rw [← hhi, ← hlo] at HM
  obtain ⟨cc, hcc⟩ : ∃ cc, cc = q - hi := ⟨_, rfl⟩
  have H1 := Lib.hid (show lo + c = r + 18446744073709551616 * cc by omega)
  have hle : hi + cc = q := by omega
  have e0 : (hi : Int) + (cc : Int) = (q : Int) := by omega
  have e1 : IntKind.u64.wrap ((hi : Int) + (cc : Int)) = (q : Int) := by rw [e0, IntKind.wrap_u64]; omega
  have hlol : lo < 18446744073709551616 := by omega
  have hhil : hi < 18446744073709551616 := by omega
  clear hP hhi hlo hcc h hle
  go_enter Tryz.func278, Tryz.ntmps278
  go_wp2_with fail
  refine HM.out.mono ?_
  rintro _ _ ⟨rfl, rfl⟩
  go_wp2_with fail
  refine (bitsAdd0 lo c r cc _ H1.out hr).mono ?_
  rintro _ _ ⟨rfl, rfl⟩
  go_wp2
  go_ret2
  exact ⟨rfl, rfl⟩
theorem mul_word_lt {a y d q s : Nat} (ha : a < 18446744073709551616) (hy : y < 18446744073709551616) (hd : d < 18446744073709551616) (h : a * y + d = s + 18446744073709551616 * q) : q < 18446744073709551616 := by
  have h1 : a * y ≤ 18446744073709551615 * 18446744073709551615 := Nat.mul_le_mul (by omega) (by omega)
  omega
set_option maxRecDepth 100000 in
set_option maxHeartbeats 1600000 in
theorem mulAddVWW_g_any (v x : Value) (os : List Value) (xs : List Nat) (y r B : Nat) (w : World) (ho : Own w B 181 v os) (hx : RW w x xs) (hlx : xs.length = os.length)
    (hax : sBlk x = sBlk v → sOff v ≤ sOff x) (hy : y < 18446744073709551616) (hr : r < 18446744073709551616) (hl : os.length ≤ 1000000000) :
    Calls Tryz.prog 276 #[v, x, .int .u64 y, .int .u64 r] w fun e w' => ∃ c : Nat, e = .returned (.int .u64 c) ∧ (c < 18446744073709551616 ∧ wv xs * y + r = wv (wdsN (wv xs * y + r) os.length) + 18446744073709551616 ^ os.length * c) ∧ VvP v os.length B (wv xs * y + r) w w' := by
  have hS := ho.isS
  have hSx := hx.isS
  obtain ⟨L, hLw⟩ : ∃ L, L = os.length := ⟨_, rfl⟩
  have hL : sLen v = L := by rw [hLw]; exact ho.len
  have hLx : sLen x = L := by rw [hx.len, hlx, hLw]
  have R0 := Lib.hid (Vv.start ho hLw.symm)
  have HB0 : Hid (0 < L → 0 < sCap v ∧ B ≤ sBlk v) := Lib.hid (fun h => by
    have := hS.le
    have hc : 0 < sCap v := by omega
    exact ⟨hc, (ho.lt hc).1⟩)
  have HXL : Hid (xs.length = L) := Lib.hid (by omega)
  rw [← hLw] at hl ⊢
  have HX := Lib.hid hx
  have HAX := Lib.hid hax
  clear ho hLw hx hlx hax
  go_enter Tryz.func276, Tryz.ntmps276
  go_wp2
  go_loopw [8, 19] (fun c i wr => ∃ k d Z : Nat, k ≤ L ∧ i = .int .i64 k ∧ c = .int .u64 d ∧ (d < 18446744073709551616 ∧ wv (xs.take k) * y + r = Z + 18446744073709551616 ^ k * d) ∧ Vv v L B k Z w wr) (fun c i _ => L - (intOf i).toNat)
  case atStart => exact ⟨0, r, 0, Nat.zero_le _, rfl, rfl, ⟨hr, by simp [wv]⟩, R0.out⟩
  case round =>
    obtain ⟨k, d, Z, hk, rfl, rfl, ⟨hd, hZ⟩, hrel⟩ := hrel
    have HREL := Lib.hid hrel
    by_cases hkL : k < L
    · obtain ⟨hcap, hB⟩ := HB0.out (by omega)
      have cx := hrel.src HX.out HAX.out (Nat.le_refl k) (by rw [HXL.out]; exact hkL)
      obtain ⟨u, cv⟩ := hrel.own hkL
      have fz := hrel.frozen hcap (sOff v + k)
      have hxl := getD_ltW HX.out.lt k
      have e1 := wv_take_succ (ws := xs) (i := k) (by rw [HXL.out]; exact hkL)
      obtain ⟨a, ha⟩ : ∃ a, a = xs.getD k 0 := ⟨_, rfl⟩
      rw [← ha] at cx hxl e1
      obtain ⟨s, c, hsc, hs⟩ : ∃ s c, a * y + d = s + 18446744073709551616 * c ∧ s < 18446744073709551616 := ⟨(a * y + d) % 18446744073709551616, (a * y + d) / 18446744073709551616, by omega, by omega⟩
      have hc1 := mul_word_lt hxl hy hd hsc
      have HA : Hid (Calls Tryz.prog 278 #[.int .u64 a, .int .u64 y, .int .u64 d] wr fun e w' => e = .returned (.tuple #[.int .u64 c, .int .u64 s]) ∧ w' = wr) := Lib.hid (mulWWW_any a y d c s _ hxl hy hd hsc hs hc1)
      have HZ : Hid (wv (xs.take (k + 1)) * y + r = Z + 18446744073709551616 ^ k * s + 18446744073709551616 ^ (k + 1) * c) := Lib.hid (by
        rw [e1, Nat.pow_succ, Nat.mul_assoc]
        have h1 : 18446744073709551616 ^ k * (a * y + d) = 18446744073709551616 ^ k * s + 18446744073709551616 ^ k * (18446744073709551616 * c) := by rw [hsc, Nat.mul_add]
        rw [Nat.mul_add, ← Nat.mul_assoc] at h1
        rw [Nat.add_mul]
        omega)
      have PUT := Lib.hid (HREL.out.put hkL hB hs)
      clear hrel e1 ha hZ hsc
      go_wp2_with fail
      refine HA.out.mono ?_
      rintro _ _ ⟨rfl, rfl⟩
      go_wp2
      exact ⟨⟨k + 1, c, _, by omega, by go_num, rfl, ⟨hc1, HZ.out⟩, PUT.out⟩, by simp [intOf]; omega⟩
    · have hkk : k = L := by omega
      have HD : Hid ((d < 18446744073709551616 ∧ wv xs * y + r = wv (wdsN (wv xs * y + r) L) + 18446744073709551616 ^ L * d) ∧ VvP v L B (wv xs * y + r) w wr) := Lib.hid (by
        subst hkk
        rw [List.take_of_length_le (by rw [HXL.out]; exact Nat.le_refl _)] at hZ
        have hZl : Z < 18446744073709551616 ^ k := by
          obtain ⟨os', ds, g1, g2, g3, g4, g5, g6, g7, g8⟩ := hrel
          have := wv_lt g5
          rw [g4] at this; omega
        refine ⟨⟨hd, ?_⟩, hrel.done d hZ⟩
        rw [wdsN_wv, hZ, Nat.add_mul_mod_self_left, Nat.mod_eq_of_lt hZl])
      clear hrel hZ HREL
      go_wp2
      go_ret
      exact ⟨d, rfl, HD.out⟩
set_option maxRecDepth 100000 in
theorem mulAddVWW_any (v x : Value) (os : List Value) (xs : List Nat) (y r B : Nat) (w : World) (ho : Own w B 181 v os) (hx : RW w x xs) (hlx : xs.length = os.length)
    (hax : sBlk x = sBlk v → sOff v ≤ sOff x) (hy : y < 18446744073709551616) (hr : r < 18446744073709551616) (hl : os.length ≤ 1000000000) :
    Calls Tryz.prog 257 #[v, x, .int .u64 y, .int .u64 r] w fun e w' => ∃ c : Nat, e = .returned (.int .u64 c) ∧ (c < 18446744073709551616 ∧ wv xs * y + r = wv (wdsN (wv xs * y + r) os.length) + 18446744073709551616 ^ os.length * c) ∧ VvP v os.length B (wv xs * y + r) w w' := by
  have hS := ho.isS
  have hSx := hx.isS
  have H := Lib.hid (mulAddVWW_g_any v x os xs y r B w ho hx hlx hax hy hr hl)
  clear ho hx hlx hax hl
  go_enter Tryz.func257, Tryz.ntmps257
  go_wp2_with fail
  refine H.out.mono ?_
  rintro _ w1 ⟨c, rfl, h1, h2⟩
  have H1 := Lib.hid (And.intro h1 h2)
  clear h1 h2
  go_wp2
  go_ret
  exact ⟨c, rfl, H1.out⟩
set_option maxRecDepth 100000 in
set_option maxHeartbeats 1600000 in
theorem addMulVVWW_g_any (v x y : Value) (os : List Value) (xs ys : List Nat) (m a0 B : Nat) (w : World) (ho : Own w B 181 v os) (hx : RW w x xs) (hy : RW w y ys) (hlx : xs.length = os.length) (hly : ys.length = os.length)
    (hax : sBlk x = sBlk v → sOff v ≤ sOff x) (hay : sBlk y = sBlk v → sOff v ≤ sOff y) (hm : m < 18446744073709551616) (ha0 : a0 < 18446744073709551616) (hl : os.length ≤ 1000000000) :
    Calls Tryz.prog 264 #[v, x, y, .int .u64 m, .int .u64 a0] w fun e w' => ∃ c : Nat, e = .returned (.int .u64 c) ∧ (c < 18446744073709551616 ∧ wv xs + wv ys * m + a0 = wv (wdsN (wv xs + wv ys * m + a0) os.length) + 18446744073709551616 ^ os.length * c) ∧ VvP v os.length B (wv xs + wv ys * m + a0) w w' := by
  have hS := ho.isS
  have hSx := hx.isS
  have hSy := hy.isS
  obtain ⟨L, hLw⟩ : ∃ L, L = os.length := ⟨_, rfl⟩
  have hL : sLen v = L := by rw [hLw]; exact ho.len
  have hLx : sLen x = L := by rw [hx.len, hlx, hLw]
  have hLy : sLen y = L := by rw [hy.len, hly, hLw]
  have R0 := Lib.hid (Vv.start ho hLw.symm)
  have HB0 : Hid (0 < L → 0 < sCap v ∧ B ≤ sBlk v) := Lib.hid (fun h => by
    have := hS.le
    have hc : 0 < sCap v := by omega
    exact ⟨hc, (ho.lt hc).1⟩)
  have HXL : Hid (xs.length = L) := Lib.hid (by omega)
  have HYL : Hid (ys.length = L) := Lib.hid (by omega)
  rw [← hLw] at hl ⊢
  have HX := Lib.hid hx
  have HY := Lib.hid hy
  have HAX := Lib.hid hax
  have HAY := Lib.hid hay
  clear ho hLw hx hy hlx hly hax hay
  go_enter Tryz.func264, Tryz.ntmps264
  go_wp2
  go_loopw [10, 32] (fun c i wr => ∃ k d Z : Nat, k ≤ L ∧ i = .int .i64 k ∧ c = .int .u64 d ∧ (d < 18446744073709551616 ∧ wv (xs.take k) + wv (ys.take k) * m + a0 = Z + 18446744073709551616 ^ k * d) ∧ Vv v L B k Z w wr) (fun c i _ => L - (intOf i).toNat)
  case atStart => exact ⟨0, a0, 0, Nat.zero_le _, rfl, rfl, ⟨ha0, by simp [wv]⟩, R0.out⟩
  case round =>
    obtain ⟨k, d, Z, hk, rfl, rfl, ⟨hd, hZ⟩, hrel⟩ := hrel
    have HREL := Lib.hid hrel
    by_cases hkL : k < L
    · obtain ⟨hcap, hB⟩ := HB0.out (by omega)
      have cx := hrel.src HX.out HAX.out (Nat.le_refl k) (by rw [HXL.out]; exact hkL)
      have cy := hrel.src HY.out HAY.out (Nat.le_refl k) (by rw [HYL.out]; exact hkL)
      obtain ⟨u, cv⟩ := hrel.own hkL
      have fz := hrel.frozen hcap (sOff v + k)
      have hxl := getD_ltW HX.out.lt k
      have hyl := getD_ltW HY.out.lt k
      have e1 := wv_take_succ (ws := xs) (i := k) (by rw [HXL.out]; exact hkL)
      have e2 := wv_take_succ (ws := ys) (i := k) (by rw [HYL.out]; exact hkL)
      obtain ⟨a, ha⟩ : ∃ a, a = xs.getD k 0 := ⟨_, rfl⟩
      obtain ⟨b, hb⟩ : ∃ b, b = ys.getD k 0 := ⟨_, rfl⟩
      rw [← ha] at cx hxl e1
      rw [← hb] at cy hyl e2
      have hbm : b * m ≤ 18446744073709551615 * 18446744073709551615 := Nat.mul_le_mul (by omega) (by omega)
      obtain ⟨s, z1, hsc, hs⟩ : ∃ s z1, b * m + a = s + 18446744073709551616 * z1 ∧ s < 18446744073709551616 := ⟨(b * m + a) % 18446744073709551616, (b * m + a) / 18446744073709551616, by omega, by omega⟩
      have hz1 : z1 < 18446744073709551616 := by omega
      obtain ⟨l, cc, hlc, hll⟩ : ∃ l cc, s + d = l + 18446744073709551616 * cc ∧ l < 18446744073709551616 := ⟨(s + d) % 18446744073709551616, (s + d) / 18446744073709551616, by omega, by omega⟩
      obtain ⟨c, hc⟩ : ∃ c, c = cc + z1 := ⟨_, rfl⟩
      have hc1 : c < 18446744073709551616 := by omega
      have hcc1 : cc < 18446744073709551616 := by omega
      have e3 : (cc : Int) + (z1 : Int) = (c : Int) := by omega
      have e4 : IntKind.u64.wrap ((cc : Int) + (z1 : Int)) = (c : Int) := by rw [e3, IntKind.wrap_u64]; omega
      have HA : Hid (∀ n, Calls Tryz.prog 278 #[.int .u64 b, .int .u64 m, .int .u64 a] (wr.drewN n) fun e w' => e = .returned (.tuple #[.int .u64 z1, .int .u64 s]) ∧ w' = wr.drewN n) := Lib.hid (fun n => mulWWW_any b m a z1 s _ hyl hm hxl hsc hs hz1)
      have HB : Hid (∀ W, Calls Tryz.prog 241 #[.int .u64 s, .int .u64 d, .int .u64 0] W fun e w' => e = .returned (.tuple #[.int .u64 l, .int .u64 cc]) ∧ W = w') := Lib.hid (fun W => bitsAdd0 s d l cc W hlc hll)
      have HZ : Hid (wv (xs.take (k + 1)) + wv (ys.take (k + 1)) * m + a0 = Z + 18446744073709551616 ^ k * l + 18446744073709551616 ^ (k + 1) * c) := Lib.hid (by
        rw [e1, e2, Nat.pow_succ, Nat.mul_assoc]
        have h0 : b * m + a + d = l + 18446744073709551616 * c := by omega
        have h1 : 18446744073709551616 ^ k * (b * m + a + d) = 18446744073709551616 ^ k * l + 18446744073709551616 ^ k * (18446744073709551616 * c) := by rw [h0, Nat.mul_add]
        rw [Nat.mul_add, Nat.mul_add, ← Nat.mul_assoc] at h1
        rw [Nat.add_mul]
        omega)
      have PUT := Lib.hid (fun n => (HREL.out.drewN (k := n)).put hkL hB hll)
      clear hrel e1 e2 ha hb hZ hsc hbm hlc hc
      go_wp2_with fail
      go_quiet ((go_at_call 278; exact Calls.quiet_of_same (HA.out _)))
      go_wp2_with fail
      refine (HB.out _).mono ?_
      rintro _ _ ⟨rfl, rfl⟩
      go_wp2
      exact ⟨⟨k + 1, c, _, by omega, by go_num, rfl, ⟨hc1, HZ.out⟩, PUT.out nq⟩, by simp [intOf]; omega⟩
    · have hkk : k = L := by omega
      have HD : Hid ((d < 18446744073709551616 ∧ wv xs + wv ys * m + a0 = wv (wdsN (wv xs + wv ys * m + a0) L) + 18446744073709551616 ^ L * d) ∧ VvP v L B (wv xs + wv ys * m + a0) w wr) := Lib.hid (by
        subst hkk
        rw [List.take_of_length_le (by rw [HXL.out]; exact Nat.le_refl _), List.take_of_length_le (by rw [HYL.out]; exact Nat.le_refl _)] at hZ
        have hZl : Z < 18446744073709551616 ^ k := by
          obtain ⟨os', ds, g1, g2, g3, g4, g5, g6, g7, g8⟩ := hrel
          have := wv_lt g5
          rw [g4] at this; omega
        refine ⟨⟨hd, ?_⟩, hrel.done d hZ⟩
        rw [wdsN_wv, hZ, Nat.add_mul_mod_self_left, Nat.mod_eq_of_lt hZl])
      clear hrel hZ HREL
      go_wp2
      go_ret
      exact ⟨d, rfl, HD.out⟩
set_option maxRecDepth 100000 in
theorem addMulVVWW_any (v x y : Value) (os : List Value) (xs ys : List Nat) (m a0 B : Nat) (w : World) (ho : Own w B 181 v os) (hx : RW w x xs) (hy : RW w y ys) (hlx : xs.length = os.length) (hly : ys.length = os.length)
    (hax : sBlk x = sBlk v → sOff v ≤ sOff x) (hay : sBlk y = sBlk v → sOff v ≤ sOff y) (hm : m < 18446744073709551616) (ha0 : a0 < 18446744073709551616) (hl : os.length ≤ 1000000000) :
    Calls Tryz.prog 237 #[v, x, y, .int .u64 m, .int .u64 a0] w fun e w' => ∃ c : Nat, e = .returned (.int .u64 c) ∧ (c < 18446744073709551616 ∧ wv xs + wv ys * m + a0 = wv (wdsN (wv xs + wv ys * m + a0) os.length) + 18446744073709551616 ^ os.length * c) ∧ VvP v os.length B (wv xs + wv ys * m + a0) w w' := by
  have hS := ho.isS
  have hSx := hx.isS
  have hSy := hy.isS
  have H := Lib.hid (addMulVVWW_g_any v x y os xs ys m a0 B w ho hx hy hlx hly hax hay hm ha0 hl)
  clear ho hx hy hlx hly hax hay hl
  go_enter Tryz.func237, Tryz.ntmps237
  go_wp2_with fail
  refine H.out.mono ?_
  rintro _ w1 ⟨c, rfl, h1, h2⟩
  have H1 := Lib.hid (And.intro h1 h2)
  clear h1 h2
  go_wp2
  go_ret
  exact ⟨c, rfl, H1.out⟩
end Go.Proofs.YtbghmceglemppaaGreatDoor

/-
Products of words: basicMul. No condition.
-/
namespace Go.Proofs.YtbghmceglemppaaGreatDoor
open Go.RowKit

theorem wdsN_sub {Z L k m : Nat} (h : k + m ≤ L) : ((wdsN Z L).take (k + m)).drop k = wdsN (Z / 18446744073709551616 ^ k) m := by
  refine wdsN_of ?_ fun j hj => ?_
  · rw [List.length_drop, List.length_take, wdsN_length]; omega
  · rw [List.getD_eq_getElem?_getD, List.getElem?_drop, List.getElem?_take, if_pos (by omega), ← List.getD_eq_getElem?_getD, wdsN_getD (by omega)]
    unfold wdg
    rw [Nat.div_div_eq_div_mul, ← Nat.pow_add]
theorem wdsN_take {Z L k : Nat} (h : k ≤ L) : (wdsN Z L).take k = wdsN Z k := by
  have := wdsN_sub (Z := Z) (L := L) (k := 0) (m := k) (by omega)
  rw [Nat.zero_add, List.drop_zero, Nat.pow_zero, Nat.div_one] at this
  exact this
theorem bm_words {Z V m k n S c : Nat} (hk : k < n) (hZ : Z < 18446744073709551616 ^ (m + k)) (hS : S = Z / 18446744073709551616 ^ k + V) (hc : S = wv (wdsN S m) + 18446744073709551616 ^ m * c) (hcl : c < 18446744073709551616) :
    ((wdsN Z (m + n)).take k ++ (wdsN S m ++ (wdsN Z (m + n)).drop (k + m))).set (m + k) c = wdsN (Z + 18446744073709551616 ^ k * V) (m + n) := by
  have hlt : ((wdsN Z (m + n)).take k).length = k := by rw [List.length_take, wdsN_length]; omega
  have hll : ((wdsN Z (m + n)).take k ++ (wdsN S m ++ (wdsN Z (m + n)).drop (k + m))).length = m + n := by
    rw [List.length_append, hlt, List.length_append, wdsN_length, List.length_drop, wdsN_length]; omega
  refine wdsN_eq (by rw [List.length_set, hll]) ?_ ⟨0, ?_⟩
  · refine set_lt ?_ hcl
    intro d hd
    rcases List.mem_append.1 hd with h | h
    · exact wdsN_lt d (List.mem_of_mem_take h)
    · rcases List.mem_append.1 h with h | h
      · exact wdsN_lt d h
      · exact wdsN_lt d (List.mem_of_mem_drop h)
  · have hw := wset (ws := (wdsN Z (m + n)).take k ++ (wdsN S m ++ (wdsN Z (m + n)).drop (k + m))) (i := m + k) (by rw [hll]; omega) c
    have hg : ((wdsN Z (m + n)).take k ++ (wdsN S m ++ (wdsN Z (m + n)).drop (k + m))).getD (m + k) 0 = 0 := by
      rw [List.getD_eq_getElem?_getD, List.getElem?_append_right (by omega), hlt, List.getElem?_append_right (by rw [wdsN_length]; omega), wdsN_length, List.getElem?_drop, ← List.getD_eq_getElem?_getD, wdsN_getD (by omega)]
      unfold wdg
      rw [show k + m + (m + k - k - m) = m + k by omega, Nat.div_eq_of_lt hZ]
    have hD : wv ((wdsN Z (m + n)).drop (k + m)) = 0 := by
      have h1 := wv_split (wdsN Z (m + n)) (k + m) (by rw [wdsN_length]; omega)
      rw [wdsN_take (by omega), wdsN_wv, wdsN_wv, Nat.mod_eq_of_lt (Nat.lt_of_lt_of_le hZ (Nat.pow_le_pow_right (by decide) (by omega))), Nat.add_comm k m, Nat.mod_eq_of_lt hZ] at h1
      have h2 : 18446744073709551616 ^ (m + k) * wv ((wdsN Z (m + n)).drop (m + k)) = 0 := by omega
      rcases Nat.mul_eq_zero.1 h2 with h3 | h3
      · exact absurd h3 (Nat.ne_of_gt (wpow_pos _))
      · rw [Nat.add_comm k m]; exact h3
    obtain ⟨W, hW⟩ : ∃ W, W = wv (((wdsN Z (m + n)).take k ++ (wdsN S m ++ (wdsN Z (m + n)).drop (k + m))).set (m + k) c) := ⟨_, rfl⟩
    rw [← hW] at hw ⊢
    rw [hg, wv_append, hlt, wv_append, wdsN_length, hD, wdsN_take (by omega), wdsN_wv] at hw
    have e1 : 18446744073709551616 ^ (m + k) * c = 18446744073709551616 ^ k * (18446744073709551616 ^ m * c) := by rw [Nat.pow_add, Nat.mul_comm (18446744073709551616 ^ m), Nat.mul_assoc]
    have e2 : 18446744073709551616 ^ k * S = 18446744073709551616 ^ k * wv (wdsN S m) + 18446744073709551616 ^ k * (18446744073709551616 ^ m * c) := by rw [← Nat.mul_add, ← hc]
    have e3 : 18446744073709551616 ^ k * S = 18446744073709551616 ^ k * (Z / 18446744073709551616 ^ k) + 18446744073709551616 ^ k * V := by rw [hS, Nat.mul_add]
    have e4 := Nat.div_add_mod Z (18446744073709551616 ^ k)
    rw [Nat.mul_zero, Nat.mul_zero, Nat.add_zero, Nat.add_zero] at hw
    rw [Nat.mul_zero, Nat.add_zero, hw, e1]
    omega
/-- Behind k words of the second factor. -/
def BmRel (z : Value) (xs ys : List Nat) (N B k : Nat) (w wr : World) : Prop :=
  Own wr B 181 z (cellsW (wdsN (wv xs * wv (ys.take k)) N)) ∧ Below B w wr ∧ FrB (sBlk z) (sOff z) (sOff z + N) w wr
set_option maxRecDepth 100000 in
set_option maxHeartbeats 6400000 in
theorem basicMul_any (z x y : Value) (os : List Value) (xs ys : List Nat) (B : Nat) (w : World) (hz : Own w B 181 z os) (hx : RW w x xs) (hy : RW w y ys) (hos : os.length = xs.length + ys.length) (hnx : sBlk x ≠ sBlk z) (hny : sBlk y ≠ sBlk z) (h0 : 0 < xs.length) (hl : os.length ≤ 1000000000) :
    Calls Tryz.prog 198 #[z, x, y] w fun e w' => e = .returned (.tuple #[]) ∧ Own w' B 181 z (cellsW (wdsN (wv xs * wv ys) os.length)) ∧ Below B w w' ∧ FrB (sBlk z) (sOff z) (sOff z + os.length) w w' := by
  have hS := hz.isS
  have hSx := hx.isS
  have hSy := hy.isS
  obtain ⟨m, hm⟩ : ∃ m, m = xs.length := ⟨_, rfl⟩
  obtain ⟨n, hn⟩ : ∃ n, n = ys.length := ⟨_, rfl⟩
  obtain ⟨N, hN⟩ : ∃ N, N = os.length := ⟨_, rfl⟩
  have hLz : sLen z = N := by rw [hz.len, hN]
  have hLx : sLen x = m := by rw [hx.len, hm]
  have hLy : sLen y = n := by rw [hy.len, hn]
  have hNm : N = m + n := by omega
  have hcz : N ≤ sCap z := by have := hS.le; omega
  have hcz0 : 0 < sCap z := by omega
  have hBz := (hz.lt hcz0).1
  have hS0 : IsS (subS z 0 N) := subS_isS hS (Nat.zero_le _) hcz
  have hsub := hz.sub (l := 0) (n := N) (Nat.zero_le _) (by omega)
  have hsl : ((os.take N).drop 0).length = N := by simp; omega
  have e1 : (m : Int) + (n : Int) = (N : Int) := by omega
  rw [← hN] at hl ⊢
  rw [← hm] at h0
  have HZ := Lib.hid hz
  have HX := Lib.hid hx
  have HY := Lib.hid hy
  have HNX := Lib.hid hnx
  have HNY := Lib.hid hny
  have HM := Lib.hid hm
  have HN := Lib.hid hn
  have HNN := Lib.hid hN
  have HNM := Lib.hid hNm
  have HSUB := Lib.hid hsub
  have HSL := Lib.hid hsl
  have hmb : m ≤ N := by omega
  clear hz hx hy hnx hny hm hn hN hos hNm hsub hsl
  go_enter Tryz.func198, Tryz.ntmps198
  go_wp2_with (refine wpList_clear_O (o := ⟨none, _, _, _, _, _⟩) rfl (.tmp 14) 109 rfl elemT rfl (subS z 0 N) rfl B _ HSUB.out ?_)
  intro w1 ho1 hb1 hf1
  have hmn : min N os.length = N := by rw [← HNN.out]; exact Nat.min_self _
  rw [hmn] at ho1 hf1
  rw [(sub0 hS).1, (sub0 hS).2] at hf1
  have hp1 := HZ.out.patch (l := 0) (n := N) (Nat.zero_le _) (by rw [← HNN.out]; exact Nat.le_refl _) (by simp) ho1 (by rw [Nat.add_zero]; exact hf1)
  rw [List.take_zero, List.nil_append, List.drop_of_length_le (by rw [← HNN.out]; exact Nat.le_refl _), List.append_nil, cellsW_zeros] at hp1
  have hz0 : List.replicate N 0 = wdsN 0 N := wdsN_of (by simp) (fun j hj => by
    rw [List.getD_eq_getElem?_getD, List.getElem?_replicate, if_pos hj]; simp [wdg])
  have R0 : Hid (BmRel z xs ys N B 0 w w1) := Lib.hid ⟨by rw [List.take_zero, show wv [] = 0 from rfl, Nat.mul_zero, ← hz0]; exact hp1, hb1, hf1⟩
  clear ho1 hb1 hf1 hp1 hz0 HSUB HSL
  go_wp2
  go_loopw [17] (fun i wr => ∃ k : Nat, k ≤ n ∧ i = .int .i64 k ∧ BmRel z xs ys N B k w wr) (fun i _ => n - (intOf i).toNat)
  case atStart => exact ⟨0, Nat.zero_le _, rfl, R0.out⟩
  case round =>
    obtain ⟨k, hk, rfl, hrel⟩ := hrel
    obtain ⟨wo, hwo⟩ : ∃ wo : World, wo = wr := ⟨_, rfl⟩
    subst hwo
    have HREL := Lib.hid hrel
    have HYo := Lib.hid (hrel.2.2.rw HY.out (fun h => absurd h HNY.out))
    have HXo := Lib.hid (hrel.2.2.rw HX.out (fun h => absurd h HNX.out))
    by_cases hkn : k < n
    · have cy := HYo.out.cell k (by rw [← HN.out]; exact hkn)
      have hyl := getD_ltW HY.out.lt k
      have e2 := wv_take_succ (ws := ys) (i := k) (by rw [← HN.out]; exact hkn)
      obtain ⟨d, hd⟩ : ∃ d, d = ys.getD k 0 := ⟨_, rfl⟩
      rw [← hd] at cy hyl e2
      by_cases hd0 : d = 0
      · have t1 : ((d : Int) == 0) = true := by rw [hd0]; rfl
        have HR : Hid (BmRel z xs ys N B (k + 1) w wo) := Lib.hid (by
          unfold BmRel; rw [e2, hd0, Nat.mul_zero, Nat.add_zero]; exact hrel)
        clear hrel e2 hd hd0 HREL
        go_wp2
        exact ⟨⟨k + 1, by omega, by go_num, HR.out⟩, by simp [intOf]; omega⟩
      · have t1 : ((d : Int) == 0) = false := by rw [beq_eq_false_iff_ne]; omega
        obtain ⟨Z, hZ⟩ : ∃ Z, Z = wv xs * wv (ys.take k) := ⟨_, rfl⟩
        have hZl : Z < 18446744073709551616 ^ (m + k) := by
          have h1 := wv_lt HX.out.lt
          have h2 := wv_lt (a := ys.take k) (fun d hd => HY.out.lt d (List.mem_of_mem_take hd))
          rw [List.length_take, show min k ys.length = k by have := HN.out; omega] at h2
          rw [← HM.out] at h1
          rw [hZ, Nat.pow_add]
          exact Nat.mul_lt_mul'' h1 h2
        obtain ⟨S, hSS⟩ : ∃ S, S = Z / 18446744073709551616 ^ k + wv xs * d := ⟨_, rfl⟩
        have hrel' := hrel
        obtain ⟨r1, r2, r3⟩ := hrel'
        rw [← hZ] at r1
        have hkm : k + m ≤ N := by have := HNM.out; omega
        have hSk : IsS (subS z k (k + m)) := subS_isS hS (Nat.le_add_right _ _) (by omega)
        have rs := r1.sub (l := k) (n := k + m) (Nat.le_add_right _ _) (by rw [cellsW_length, wdsN_length]; exact hkm)
        have es : ((cellsW (wdsN Z N)).take (k + m)).drop k = cellsW (wdsN (Z / 18446744073709551616 ^ k) m) := by
          rw [← wdsN_sub hkm]; simp [cellsW]
        rw [es] at rs
        have hq : Z / 18446744073709551616 ^ k < 18446744073709551616 ^ m := by
          refine Nat.div_lt_of_lt_mul ?_
          rw [← Nat.pow_add, Nat.add_comm]; exact hZl
        have HCALL : Hid (∀ j, Calls Tryz.prog 237 #[subS z k (k + m), subS z k (k + m), x, .int .u64 d, .int .u64 0] (wo.drewN j) fun e w' => ∃ c : Nat, e = .returned (.int .u64 c) ∧ (c < 18446744073709551616 ∧ S = wv (wdsN S m) + 18446744073709551616 ^ m * c) ∧ VvP (subS z k (k + m)) m B S wo w') := Lib.hid (fun j => by
          have := addMulVVWW_any (subS z k (k + m)) (subS z k (k + m)) x _ (wdsN (Z / 18446744073709551616 ^ k) m) xs d 0 B (wo.drewN j) (rs.drewN j) ((rs.rw' wdsN_lt).below (undrewN' (Below.refl _ _))) (HXo.out.below (undrewN' (Below.refl _ _)))
            (by rw [cellsW_length]) (by rw [cellsW_length, wdsN_length]; exact HM.out.symm) (fun _ => Nat.le_refl _) (by rw [subS_blk hS]; intro h; exact absurd h HNX.out) hyl (by decide) (by rw [cellsW_length, wdsN_length]; omega)
          rw [cellsW_length, wdsN_length, wv_wdsN_lt hq, Nat.add_zero, ← hSS] at this
          refine this.mono ?_
          rintro _ w' ⟨c, rfl, h1, h2, h3, h4⟩
          exact ⟨c, rfl, h1, h2, undrewN h3, h4.undrewN⟩)
        have HFIN : Hid (∀ c w2, c < 18446744073709551616 → S = wv (wdsN S m) + 18446744073709551616 ^ m * c → VvP (subS z k (k + m)) m B S wo w2 →
            (w2.frozen? ⟨sBlk z, sOff z + (m + k), none⟩ = false ∧ ∃ u, w2.cell? ⟨sBlk z, sOff z + (m + k), none⟩ = some u) ∧ BmRel z xs ys N B (k + 1) w (w2.setCell ⟨sBlk z, sOff z + (m + k), none⟩ (.int .u64 (c : Int)))) := Lib.hid (fun c w2 hc hcS hvp => by
          have hpt := VvP.patch (l := k) (n := k + m) r1 (Nat.le_add_right _ _) (by rw [cellsW_length, wdsN_length]; exact hkm) (by rw [Nat.add_sub_cancel_left]; exact hvp)
          rw [Nat.add_sub_cancel_left] at hpt
          obtain ⟨g1, g2, g3⟩ := hpt
          have ec : (cellsW (wdsN Z N)).take k ++ (cellsW (wdsN S m) ++ (cellsW (wdsN Z N)).drop (k + m)) = cellsW ((wdsN Z N).take k ++ (wdsN S m ++ (wdsN Z N).drop (k + m))) := by simp [cellsW]
          rw [ec] at g1
          have hll : ((wdsN Z N).take k ++ (wdsN S m ++ (wdsN Z N).drop (k + m))).length = N := by
            rw [List.length_append, List.length_take, wdsN_length, List.length_append, wdsN_length, List.length_drop, wdsN_length]; omega
          have hmk : m + k < N := by have := HNM.out; omega
          have gs := g1.set (i := m + k) (by rw [cellsW_length, hll]; exact hmk) (.int .u64 (c : Int))
          have hbw := bm_words (V := wv xs * d) hkn hZl hSS hcS hc
          rw [← HNM.out] at hbw
          rw [cellsW_set, hbw, show Z + 18446744073709551616 ^ k * (wv xs * d) = wv xs * wv (ys.take (k + 1)) by rw [e2, Nat.mul_add, hZ]; congr 1; rw [Nat.mul_left_comm]] at gs
          refine ⟨⟨g1.frozen hcz0 _, _, g1.cell (List.getElem?_eq_getElem (by rw [cellsW_length, hll]; exact hmk))⟩, gs, bset (r2.trans g2) hBz, ?_⟩
          refine r3.trans r2.size ?_
          refine (g3.mono (by omega) (by omega)).set (by omega) (by omega) _)
        have e3 : (k : Int) + (m : Int) = ((k + m : Nat) : Int) := by omega
        have e4 : (m : Int) + (k : Int) = ((m + k : Nat) : Int) := by omega
        obtain ⟨km, hkmE⟩ : ∃ km, km = k + m := ⟨_, rfl⟩
        obtain ⟨mk, hmkE⟩ : ∃ mk, mk = m + k := ⟨_, rfl⟩
        rw [← hkmE] at hSk HCALL HFIN e3 hkm
        rw [← hmkE] at HFIN e4
        have hmkN : mk < N := by have := HNM.out; omega
        have hkkm : k ≤ km := by omega
        have hkc : km ≤ sCap z := by omega
        have hkkm' : (k : Int) ≤ (km : Int) := by omega
        have hkc' : (km : Int) ≤ (sCap z : Int) := by omega
        have hk0 : (0 : Int) ≤ (k : Int) := by omega
        have hw1 : IntKind.i64.wrap (km : Int) = (km : Int) := by rw [IntKind.wrap_i64]; omega
        have hw2 : IntKind.i64.wrap (mk : Int) = (mk : Int) := by rw [IntKind.wrap_i64]; omega
        clear hrel e2 hd hd0 HREL hZ hZl hSS r1 r2 r3 rs es hq hkmE hmkE
        go_upto_region 5 with fail
        first
          | (go_region_held3 (fun _ => True)
              ((exact True.intro))
              (first
                | (go_at_call 237; refine (HCALL.out 1).mono ?_; rintro _ w2 ⟨c, rfl, ⟨hc, hcS⟩, hvp⟩; obtain ⟨⟨fz, u, cu⟩, hq⟩ := HFIN.out c w2 hc hcS hvp; have HQ := Lib.hid hq; clear hcS hvp hq)))
          | fail
        all_goals
          go_wp2
          exact ⟨⟨k + 1, by omega, by go_num, HQ.out⟩, by simp [intOf]; omega⟩
    · have hkk : k = n := by omega
      have HD : Hid (Own wo B 181 z (cellsW (wdsN (wv xs * wv ys) N)) ∧ Below B w wo ∧ FrB (sBlk z) (sOff z) (sOff z + N) w wo) := Lib.hid (by
        have h1 := hrel
        unfold BmRel at h1
        rw [hkk, List.take_of_length_le (by rw [HN.out]; exact Nat.le_refl _)] at h1
        exact h1)
      clear hrel HREL hkk
      go_wp2
      go_end0
      exact ⟨rfl, HD.out⟩
end Go.Proofs.YtbghmceglemppaaGreatDoor

/-
The package's numbers: mulAddWW, mul into a new slice. No condition.
-/
namespace Go.Proofs.YtbghmceglemppaaGreatDoor
open Go.RowKit

set_option maxRecDepth 100000 in
set_option maxHeartbeats 3200000 in
theorem mulAddWW_any (z x : Value) (zs : List Value) (X y r B : Nat) (w : World) (hz : Own w B 181 z zs) (hx : RO w x (wds X)) (ax : Al z x) (h0 : 0 < X) (hy0 : 0 < y) (hy : y < 18446744073709551616) (hr : r < 18446744073709551616) (hl : nw X ≤ 100000000) (hB : B ≤ w.heap.size) :
    Calls Tryz.prog 230 #[z, x, .int .u64 y, .int .u64 r] w fun e w' => ∃ q, e = .returned q ∧ NatR z q (X * y + r) B w w' := by
  have hS := hz.isS
  have hSx := hx.rw.isS
  obtain ⟨m, hm⟩ : ∃ m, m = nw X := ⟨_, rfl⟩
  have hLx : sLen x = m := by rw [hx.rw.len, wds_length, hm]
  have hmp : 0 < m := by rw [hm]; exact nw_pos h0
  have hcx : m ≤ sCap x := by have := hSx.le; omega
  rw [← hm] at hl
  have t1 : ((m : Int) == 0) = false := by rw [beq_eq_false_iff_ne]; omega
  have t2 : ((y : Int) == 0) = false := by rw [beq_eq_false_iff_ne]; omega
  have e1 : (m : Int) + 1 = ((m + 1 : Nat) : Int) := by omega
  obtain ⟨m1, hm1⟩ : ∃ m1, m1 = m + 1 := ⟨_, rfl⟩
  rw [← hm1] at e1
  have HM := Lib.hid hm
  have HM1 := Lib.hid hm1
  have HZ := Lib.hid hz
  have HX := Lib.hid hx
  have HAX := Lib.hid ax
  have HB := Lib.hid hB
  have hm1b : m1 ≤ 1000000000 := by omega
  have hm1p : 0 < m1 := by omega
  have hmm1 : m < m1 := by omega
  obtain ⟨S, hSS⟩ : ∃ S, S = X * y + r := ⟨_, rfl⟩
  have HSS := Lib.hid hSS
  rw [← hSS]
  clear hz hx ax hB hm hm1 hSS h0
  go_enter Tryz.func230, Tryz.ntmps230
  go_wp2_with fail
  refine (make_any z zs m1 B w HZ.out hm1b HB.out).mono ?_
  rintro _ w1 ⟨q, rfl, hmk⟩
  obtain ⟨os, hos, hor⟩ := hmk.own
  have hSr := hor.isS
  have hLr : sLen q = m1 := by rw [hor.len, hos]
  have hcr : m1 ≤ sCap q := by have := hSr.le; omega
  have hcr0 : 0 < sCap q := by omega
  have hBr := (hor.lt hcr0).1
  have hX1 := HX.out.below hmk.below
  have aX := hmk.al hS hm1p HAX.out HX.out.rw (by rw [wds_length, ← HM.out]; omega)
  have hSr0 : IsS (subS q 0 m) := subS_isS hSr (Nat.zero_le _) (by omega)
  have hsub := hor.sub (l := 0) (n := m) (Nat.zero_le _) (by omega)
  have hsl : ((os.take m).drop 0).length = m := by simp; omega
  have HCALL : Hid (Calls Tryz.prog 257 #[subS q 0 m, x, .int .u64 y, .int .u64 r] w1 fun e w' => ∃ c : Nat, e = .returned (.int .u64 c) ∧ (c < 18446744073709551616 ∧ S = wv (wdsN S m) + 18446744073709551616 ^ m * c) ∧ VvP (subS q 0 m) m B S w1 w') := Lib.hid (by
    have := mulAddVWW_any (subS q 0 m) x ((os.take m).drop 0) (wds X) y r B w1 hsub hX1.rw (by rw [hsl, wds_length, HM.out]) (by rw [(sub0 hSr).1, (sub0 hSr).2]; intro h; rw [aX h]; exact Nat.le_refl _) hy hr (by rw [hsl]; omega)
    rw [hsl, wv_wds, ← HSS.out] at this
    refine this.mono ?_
    rintro _ w' ⟨c, rfl, h1, h2⟩
    exact ⟨c, rfl, h1, h2⟩)
  have HFIN : Hid (∀ c w2, c < 18446744073709551616 → S = wv (wdsN S m) + 18446744073709551616 ^ m * c → VvP (subS q 0 m) m B S w1 w2 →
      (w2.frozen? ⟨sBlk q, sOff q + m, none⟩ = false ∧ ∃ u, w2.cell? ⟨sBlk q, sOff q + m, none⟩ = some u) ∧
      Calls Tryz.prog 187 #[q] (w2.setCell ⟨sBlk q, sOff q + m, none⟩ (.int .u64 (c : Int))) fun e w' => e = .returned (subS q 0 (nw S)) ∧ w2.setCell ⟨sBlk q, sOff q + m, none⟩ (.int .u64 (c : Int)) = w' ∧ NatR z (subS q 0 (nw S)) S B w (w2.setCell ⟨sBlk q, sOff q + m, none⟩ (.int .u64 (c : Int)))) := Lib.hid (fun c w2 hc hcS hvp => by
    have hpt := VvP.patch (l := 0) (n := m) hor (Nat.zero_le _) (by omega) (by rw [Nat.sub_zero]; exact hvp)
    rw [List.take_zero, List.nil_append, Nat.sub_zero, Nat.add_zero] at hpt
    obtain ⟨g1, g2, g3⟩ := hpt
    have hmm : m1 = m + 1 := HM1.out
    have hll : (cellsW (wdsN S m) ++ os.drop m).length = m1 := by rw [List.length_append, cellsW_length, wdsN_length, List.length_drop]; omega
    have gs := g1.set (i := m) (by rw [hll]; exact hmm1) (.int .u64 (c : Int))
    have es : (cellsW (wdsN S m) ++ os.drop m).set m (.int .u64 (c : Int)) = cellsW (wdsN S m ++ [c]) := by
      obtain ⟨u, hu⟩ : ∃ u, os.drop m = [u] := List.length_eq_one_iff.1 (by rw [List.length_drop]; omega)
      rw [hu, List.set_append_right _ _ (by rw [cellsW_length, wdsN_length]; exact Nat.le_refl _), cellsW_length, wdsN_length, Nat.sub_self, ← cellsW_append]
      rfl
    rw [es] at gs
    have hlt : ∀ e ∈ wdsN S m ++ [c], e < 18446744073709551616 := by
      intro e he
      rcases List.mem_append.1 he with h | h
      · exact wdsN_lt e h
      · rw [List.mem_singleton] at h; omega
    have hnum : wv (wdsN S m ++ [c]) = S := by rw [wv_snoc, wdsN_length, ← hcS]
    have hN := norm_any q _ _ (gs.rw' hlt) (by simp [wdsN_length]; omega)
    have hT := gs.takeW hlt
    rw [hnum] at hN hT
    have hb3 : Below B w1 (w2.setCell ⟨sBlk q, sOff q + m, none⟩ (.int .u64 (c : Int))) := bset g2 hBr
    have hf3 : Only (sBlk q) w1 (w2.setCell ⟨sBlk q, sOff q + m, none⟩ (.int .u64 (c : Int))) := ((g3.mono (Nat.le_refl _) (Nat.le_succ _)).set (lo := sOff q) (hi := sOff q + m + 1) (i := sOff q + m) (by omega) (by omega) _).only
    refine ⟨⟨g1.frozen hcr0 _, _, g1.cell (List.getElem?_eq_getElem (by rw [hll]; exact hmm1))⟩, hN.mono (fun e w' h => ⟨h.1, h.2, hT, (hmk.below.mono HB.out).trans hb3, hmk.fr hS hm1p hb3.size hf3, fun hc => hmk.atS hS hSr hc⟩)⟩)
  clear hor hos hmk hX1 aX hsub hsl
  go_wp2_with fail
  refine HCALL.out.mono ?_
  rintro _ w2 ⟨c, rfl, ⟨hc, hcS⟩, hvp⟩
  obtain ⟨⟨fz, u, cu⟩, hq⟩ := HFIN.out c w2 hc hcS hvp
  have HQ := Lib.hid hq
  clear hcS hvp hq
  go_wp2_with fail
  refine HQ.out.mono ?_
  rintro _ _ ⟨rfl, rfl, hn⟩
  have Q := Lib.hid hn
  have hSq := hn.own.isS
  clear hn
  go_wp2
  go_ret
  exact ⟨_, rfl, Q.out⟩
/-- The variable that says from where on mul parts its factors. -/
def KarW (w : World) : Prop := w.cell? ⟨3, 0, none⟩ = some (.int .i64 40)
theorem KarW.below {w w' : World} (h : KarW w) (hb : Below w.heap.size w w') : KarW w' := by
  have hlt := World.block_lt_of_cell? w _ h
  unfold KarW
  rw [hb.cell (p := ⟨3, 0, none⟩) hlt]; exact h
theorem KarW.drewN {w : World} (h : KarW w) (n : Nat) : KarW (w.drewN n) := h
set_option maxRecDepth 100000 in
set_option maxHeartbeats 3200000 in
theorem nmul_ge {pk : Option Addr} (x y : Value) (X Y : Nat) (w : World) (hx : RO w x (wds X)) (hy : RO w y (wds Y)) (hnm : nw Y ≤ nw X) (hk : nw Y < 40) (hl : nw X ≤ 100000000) (hK : KarW w) :
    Calls Tryz.prog 194 #[.slice none 0 0, .pointer pk, x, y] w fun e w' => ∃ r, e = .returned r ∧ Own w' w.heap.size 181 r (cellsW (wds (X * Y))) ∧ Below w.heap.size w w' := by
  have hSx := hx.rw.isS
  have hSy := hy.rw.isS
  have hSn := IsS.nil
  obtain ⟨m, hm⟩ : ∃ m, m = nw X := ⟨_, rfl⟩
  obtain ⟨n, hn⟩ : ∃ n, n = nw Y := ⟨_, rfl⟩
  have hLx : sLen x = m := by rw [hx.rw.len, wds_length, hm]
  have hLy : sLen y = n := by rw [hy.rw.len, wds_length, hn]
  rw [← hm] at hnm hl
  rw [← hn] at hnm hk
  have t1 : decide ((m : Int) < (n : Int)) = false := decide_eq_false (by omega)
  rcases Nat.eq_zero_or_pos n with hn0 | hn0
  · have hY0 : Y = 0 := nw_eq_zero.1 (by omega)
    have Q : Hid (Own w w.heap.size 181 (.slice none 0 0) (cellsW (wds (X * Y))) ∧ Below w.heap.size w w) := Lib.hid (by
      rw [hY0, Nat.mul_zero]; exact ⟨.nil _ _ _, Below.refl _ _⟩)
    subst hn0
    clear hx hy hm hn hY0 hK hnm
    by_cases hm0 : m = 0
    · subst hm0
      go_enter Tryz.func194, Tryz.ntmps194
      go_wp2
      go_ret
      exact ⟨_, rfl, Q.out⟩
    · have t2 : ((m : Int) == 0) = false := by rw [beq_eq_false_iff_ne]; omega
      have t3 : decide ((m : Int) < 0) = false := decide_eq_false (by omega)
      clear hm0
      go_enter Tryz.func194, Tryz.ntmps194
      go_wp2
      go_ret
      exact ⟨_, rfl, Q.out⟩
  have t2 : ((m : Int) == 0) = false := by rw [beq_eq_false_iff_ne]; omega
  have t3 : ((n : Int) == 0) = false := by rw [beq_eq_false_iff_ne]; omega
  have hX0 : 0 < X := by rcases Nat.eq_zero_or_pos X with h | h; (rw [h, nw_zero] at hm; omega); exact h
  have hY0 : 0 < Y := by rcases Nat.eq_zero_or_pos Y with h | h; (rw [h, nw_zero] at hn; omega); exact h
  by_cases hn1 : n = 1
  · have hYl : Y < 18446744073709551616 := by have := lt_nw Y; rw [← hn, hn1, Nat.pow_one] at this; exact this
    have cy := hy.rw.cell 0 (by rw [wds_length, ← hn, hn1]; decide)
    rw [wds_getD, wdg_zero_eq, Nat.mod_eq_of_lt hYl, Nat.add_zero] at cy
    have HC := Lib.hid (mulAddWW_any (.slice none 0 0) x [] X Y 0 w.heap.size w (.nil _ _ _) hx (Al.nil x) hX0 hY0 hYl (by decide) (by rw [← hm]; exact hl) (Nat.le_refl _))
    rw [Nat.add_zero] at HC
    subst hn1
    clear hx hy hm hn hK hX0 hY0 hnm
    have t1 : decide ((m : Int) < 1) = false := t1
    go_enter Tryz.func194, Tryz.ntmps194
    go_wp2_with fail
    refine HC.out.mono ?_
    rintro _ w1 ⟨q, rfl, h1, h2, -⟩
    have Q := Lib.hid (And.intro h1 h2)
    have hSq := h1.isS
    clear h1 h2
    go_wp2
    go_ret
    exact ⟨_, rfl, Q.out⟩
  · have t4 : ((n : Int) == 1) = false := by rw [beq_eq_false_iff_ne]; omega
    obtain ⟨N, hN⟩ : ∃ N, N = m + n := ⟨_, rfl⟩
    have e1 : (m : Int) + (n : Int) = (N : Int) := by omega
    have t5 : decide ((n : Int) < 40) = true := decide_eq_true (by omega)
    have t5' : decide (n < 40) = true := decide_eq_true (by omega)
    have kc : w.cell? ⟨3, 0, none⟩ = some (.int .i64 40) := hK
    have HX := Lib.hid hx
    have HY := Lib.hid hy
    have HM := Lib.hid hm
    have HN := Lib.hid hn
    have HNN := Lib.hid hN
    have HK := Lib.hid hK
    have HMP : Hid (0 < m) := Lib.hid (by omega)
    have HAX := Lib.hid (fun W => alias_nil x W hSx)
    have HAY := Lib.hid (fun W => alias_nil y W hSy)
    have hNb : N ≤ 1000000000 := by omega
    have hNp : 0 < N := by omega
    clear hx hy hm hn hK hn1 hN
    go_enter Tryz.func194, Tryz.ntmps194
    go_wp2_with fail
    refine (HAX.out _).mono ?_
    rintro _ _ ⟨rfl, n1, rfl⟩
    go_wp2_with fail
    refine (HAY.out _).mono ?_
    rintro _ _ ⟨rfl, n2, rfl⟩
    go_wp2_with fail
    refine (make_nil N _ hNb).mono ?_
    rintro _ w1 ⟨z, rfl, ho, hb, hcz⟩
    have hb1 : Below w.heap.size w w1 := undrewN (n := n1 + n2) hb
    have hSz := ho.isS
    have hLz : sLen z = N := by rw [ho.len]; simp
    have hX1 := HX.out.below hb1
    have hY1 := HY.out.below hb1
    have hK1 : KarW w1 := HK.out.below hb1
    have kc1 : w1.cell? ⟨3, 0, none⟩ = some (.int .i64 40) := hK1
    have hcz0 : 0 < sCap z := by have := hSz.le; omega
    have hzB : w.heap.size ≤ sBlk z := (ho.lt hcz0).1
    have hnx : sBlk x ≠ sBlk z := by
      have := HX.out.rw.ri.lt (by rw [ints_length, wds_length, ← HM.out]; exact HMP.out)
      omega
    have hny : sBlk y ≠ sBlk z := by
      have := HY.out.rw.ri.lt (by rw [ints_length, wds_length, ← HN.out]; exact hn0)
      omega
    have HB := Lib.hid (basicMul_any z x y _ (wds X) (wds Y) w.heap.size w1 ho hX1.rw hY1.rw (by rw [wds_length, wds_length, ← HM.out, ← HN.out, ← HNN.out]; simp) hnx hny (by rw [wds_length, ← HM.out]; exact HMP.out) (by simp; exact hNb))
    rw [List.length_replicate, wv_wds, wv_wds] at HB
    have HB1 := Lib.hid hb1
    have hXY : X * Y < 18446744073709551616 ^ N := by
      rw [HNN.out, Nat.pow_add, HM.out, HN.out]
      exact Nat.mul_lt_mul'' (lt_nw X) (lt_nw Y)
    have HXY := Lib.hid hXY
    clear ho hb hb1 hX1 hY1 hK1 hcz hnx hny hXY kc
    go_wp2_with fail
    refine HB.out.mono ?_
    rintro _ w2 ⟨rfl, ho2, hb2, -⟩
    have HNM := Lib.hid (norm_any z _ w2 (ho2.rw' wdsN_lt) (by rw [wdsN_length]; exact hNb))
    have hT := ho2.takeW wdsN_lt
    rw [wv_wdsN_lt HXY.out] at HNM hT
    have Q := Lib.hid (And.intro hT (HB1.out.trans hb2))
    have hSq := hT.isS
    clear ho2 hb2 hT
    go_wp2_with fail
    refine HNM.out.mono ?_
    rintro _ _ ⟨rfl, rfl⟩
    go_wp2
    go_ret
    exact ⟨_, rfl, Q.out⟩
set_option maxRecDepth 100000 in
theorem nmul_any {pk : Option Addr} (x y : Value) (X Y : Nat) (w : World) (hx : RO w x (wds X)) (hy : RO w y (wds Y)) (hk : nw X < 40 ∨ nw Y < 40) (hl : nw X ≤ 100000000) (hl2 : nw Y ≤ 100000000) (hK : KarW w) :
    Calls Tryz.prog 194 #[.slice none 0 0, .pointer pk, x, y] w fun e w' => ∃ r, e = .returned r ∧ Own w' w.heap.size 181 r (cellsW (wds (X * Y))) ∧ Below w.heap.size w w' := by
  by_cases h : nw Y ≤ nw X
  · exact nmul_ge x y X Y w hx hy h (by omega) hl hK
  · have HR := Lib.hid (nmul_ge (pk := pk) y x Y X w hy hx (by omega) (by omega) hl2 hK)
    have hSx := hx.rw.isS
    have hSy := hy.rw.isS
    have hLx : sLen x = nw X := by rw [hx.rw.len, wds_length]
    have hLy : sLen y = nw Y := by rw [hy.rw.len, wds_length]
    obtain ⟨m, hm⟩ : ∃ m, m = nw X := ⟨_, rfl⟩
    obtain ⟨n, hn⟩ : ∃ n, n = nw Y := ⟨_, rfl⟩
    rw [← hm] at hLx h
    rw [← hn] at hLy h
    rw [Nat.mul_comm] at HR
    have t1 : decide ((m : Int) < (n : Int)) = true := decide_eq_true (by omega)
    have t1' : decide (m < n) = true := decide_eq_true (by omega)
    clear hx hy hm hn h hK
    go_enter Tryz.func194, Tryz.ntmps194
    go_wp2_with fail
    refine HR.out.mono ?_
    rintro _ w1 ⟨r, rfl, h⟩
    have Q := Lib.hid h
    have hSq := h.1.isS
    clear h
    go_wp2
    go_ret
    exact ⟨_, rfl, Q.out⟩
end Go.Proofs.YtbghmceglemppaaGreatDoor

/-
Long division of words: the guess of a digit, plain arithmetic. No condition.
-/
namespace Go.Proofs.YtbghmceglemppaaGreatDoor
open Go.RowKit

theorem kd_le {D N T v r q V R : Nat} (hV : V = D * T + v) (hR : R = N * T + r) (hr : r < T) (hq : q * V ≤ R) : q * D ≤ N := by
  have h1 : q * D * T ≤ q * V := by rw [hV, Nat.mul_add, ← Nat.mul_assoc]; exact Nat.le_add_right _ _
  have h2 : q * D * T < (N + 1) * T := by rw [Nat.add_mul, Nat.one_mul]; omega
  have := Nat.lt_of_mul_lt_mul_right h2
  omega
theorem kd_ge {b D N T v r q V R : Nat} (hV : V = D * T + v) (hR : R = N * T + r) (hv : v < T) (hb : b * T ≤ V) (hVp : 0 < V) (h3 : q * D ≤ N) (hq : q ≤ b) : q * V < R + V := by
  have h1 : q * V = q * D * T + q * v := by rw [hV, Nat.mul_add, ← Nat.mul_assoc]
  have h2 : q * D * T ≤ N * T := Nat.mul_le_mul_right _ h3
  rcases Nat.eq_zero_or_pos q with h0 | h0
  · rw [h0, Nat.zero_mul]; omega
  · have h4 : q * v < q * T := (Nat.mul_lt_mul_left h0).2 hv
    have h5 : q * T ≤ b * T := Nat.mul_le_mul_right _ hq
    omega
theorem le_div_of {q V R : Nat} (hV : 0 < V) (h : q * V ≤ R) : q ≤ R / V := (Nat.le_div_iff_mul_le hV).2 h
theorem kd_near {q V R : Nat} (hV : 0 < V) (h : q * V < R + V) : q ≤ R / V + 1 := by
  have h1 : R < (R / V + 1) * V := by rw [Nat.add_mul, Nat.one_mul, Nat.mul_comm]; have := Nat.div_add_mod R V; have := Nat.mod_lt R hV; omega
  have h2 : q * V < (R / V + 2) * V := by rw [show R / V + 2 = R / V + 1 + 1 by omega, Nat.add_mul (R / V + 1), Nat.one_mul]; omega
  have := Nat.lt_of_mul_lt_mul_right h2
  omega
/-- The guess by three words by two. -/
theorem kd_guess {b T v1 v2 v u2 u1 u0 r V R qh rh : Nat} (hV : V = (v1 * b + v2) * T + v) (hR : R = ((u2 * b + u1) * b + u0) * T + r) (hv : v < T) (hr : r < T) (hv1 : 0 < v1) (hb : 0 < b)
    (inv : qh * v1 + rh = u2 * b + u1) (up : (u2 * b + u1) * b + u0 < (qh + 1) * (v1 * b + v2)) (stop : qh * v2 ≤ rh * b + u0) (hq : qh ≤ b) : R / V ≤ qh ∧ qh ≤ R / V + 1 := by
  have hbT : b * T ≤ V := by
    have h1 : b ≤ v1 * b := Nat.le_mul_of_pos_left _ hv1
    have h2 : b * T ≤ (v1 * b + v2) * T := Nat.mul_le_mul_right _ (by omega)
    omega
  have hVp : 0 < V := by have := Nat.mul_pos hb (show 0 < T by omega); omega
  constructor
  · have h1 := kd_le (q := R / V) hV hR hr (Nat.div_mul_le_self R V)
    have h2 : R / V * (v1 * b + v2) < (qh + 1) * (v1 * b + v2) := Nat.lt_of_le_of_lt h1 up
    have := Nat.lt_of_mul_lt_mul_right h2
    omega
  · refine kd_near hVp (kd_ge hV hR hv hbT hVp ?_ hq)
    have h1 : qh * (v1 * b + v2) = (qh * v1) * b + qh * v2 := by rw [Nat.mul_add, Nat.mul_assoc]
    have h2 : (u2 * b + u1) * b = qh * v1 * b + rh * b := by rw [← inv, Nat.add_mul]
    omega
theorem kd_start {b v1 v2 u0 N2 qh rh : Nat} (inv : qh * v1 + rh = N2) (hrh : rh < v1) (hu0 : u0 < b) : N2 * b + u0 < (qh + 1) * (v1 * b + v2) := by
  have h1 : (qh + 1) * (v1 * b + v2) = ((qh + 1) * v1) * b + (qh + 1) * v2 := by rw [Nat.mul_add, Nat.mul_assoc]
  have h2 : N2 + 1 ≤ (qh + 1) * v1 := by rw [Nat.add_mul, Nat.one_mul]; omega
  have h3 : (N2 + 1) * b ≤ (qh + 1) * v1 * b := Nat.mul_le_mul_right _ h2
  rw [Nat.add_mul, Nat.one_mul] at h3
  omega
theorem kd_step {b v1 v2 u0 N2 qh rh : Nat} (inv : (qh + 1) * v1 + rh = N2) (go : rh * b + u0 < (qh + 1) * v2) : N2 * b + u0 < (qh + 1) * (v1 * b + v2) ∧ qh * v1 + (rh + v1) = N2 := by
  have h1 : (qh + 1) * (v1 * b + v2) = ((qh + 1) * v1) * b + (qh + 1) * v2 := by rw [Nat.mul_add, Nat.mul_assoc]
  have h2 : N2 * b = (qh + 1) * v1 * b + rh * b := by rw [← inv, Nat.add_mul]
  refine ⟨by omega, ?_⟩
  rw [Nat.add_mul, Nat.one_mul] at inv
  omega
/-- The greatest digit where the top words are the same. -/
theorem kd_max {b T v1 v2 v u1 u0 r V R : Nat} (hV : V = (v1 * b + v2) * T + v) (hR : R = ((v1 * b + u1) * b + u0) * T + r) (hv : v < T) (hv2 : v2 < b) (hb : b ≤ 2 * v1 + 2) (hVp : 0 < V) (hRV : R < b * V) :
    R / V ≤ b - 1 ∧ b - 1 ≤ R / V + 1 := by
  have h0 : R / V < b := (Nat.div_lt_iff_lt_mul hVp).2 hRV
  refine ⟨by omega, ?_⟩
  have h1 : V ≤ (v1 + 1) * (b * T) := by
    have e1 : (v1 + 1) * (b * T) = v1 * b * T + b * T := by rw [Nat.add_mul, Nat.one_mul, Nat.mul_assoc]
    have e2 : (v1 * b + v2) * T = v1 * b * T + v2 * T := Nat.add_mul _ _ _
    have e3 : (v2 + 1) * T ≤ b * T := Nat.mul_le_mul_right _ hv2
    rw [Nat.add_mul, Nat.one_mul] at e3
    omega
  have h2 : v1 * b * (b * T) ≤ R := by
    have e1 : v1 * b * (b * T) = v1 * b * b * T := (Nat.mul_assoc _ _ _).symm
    have e2 : v1 * b * b * T ≤ ((v1 * b + u1) * b + u0) * T := Nat.mul_le_mul_right _ (by rw [Nat.add_mul]; omega)
    omega
  have h3 : (b - 2) * (v1 + 1) ≤ v1 * b := by
    rcases Nat.lt_or_ge b 2 with hlt | hge
    · rw [show b - 2 = 0 by omega, Nat.zero_mul]; exact Nat.zero_le _
    · obtain ⟨c, rfl⟩ : ∃ c, b = c + 2 := ⟨b - 2, by omega⟩
      rw [show c + 2 - 2 = c by omega, Nat.mul_add, Nat.mul_one, Nat.mul_add, Nat.mul_comm c]
      omega
  have h4 : (b - 2) * V ≤ R := by
    refine Nat.le_trans (Nat.mul_le_mul_left _ h1) (Nat.le_trans ?_ h2)
    rw [← Nat.mul_assoc]
    exact Nat.mul_le_mul_right _ h3
  have := le_div_of hVp h4
  omega
theorem kd_sub0 {V R qh Z : Nat} (hVp : 0 < V) (h1 : R / V ≤ qh) (h : R = qh * V + Z) (_h2 : qh ≤ R / V + 1) : qh = R / V ∧ Z = R % V := by
  have h3 : qh ≤ R / V := le_div_of hVp (by omega)
  have h4 : qh = R / V := by omega
  refine ⟨h4, ?_⟩
  have := Nat.div_add_mod R V
  rw [h4, Nat.mul_comm] at h
  omega
theorem kd_sub1 {V R qh Z bn b Zl Zh L c : Nat} (hVp : 0 < V) (_h1 : R / V ≤ qh) (h2 : qh ≤ R / V + 1) (h : R + bn * b = qh * V + Z) (hZ : Z = Zl + bn * Zh) (hZl : Zl < bn) (hZh : Zh < b) (ha : Zl + V = L + bn * c) (hL : L < bn) (hV : V ≤ bn) :
    0 < qh ∧ qh - 1 = R / V ∧ L = R % V ∧ Zh + c = b := by
  have hlt : R < qh * V := by
    have : bn * (Zh + 1) ≤ bn * b := Nat.mul_le_mul_left _ hZh
    rw [Nat.mul_add, Nat.mul_one] at this
    omega
  have h3 : R / V < qh := (Nat.div_lt_iff_lt_mul hVp).2 hlt
  have h4 : qh = R / V + 1 := by omega
  have hm := Nat.mod_lt R hVp
  have hd := Nat.div_add_mod R V
  generalize hQ : R / V = Q at *
  generalize hM : R % V = M at *
  have h5 : qh * V = V * Q + V := by rw [h4, Nat.add_mul, Nat.one_mul, Nat.mul_comm]
  have h6 : M + bn * b = L + bn * (Zh + c) := by rw [Nat.mul_add]; omega
  have h7 : M < bn := Nat.lt_of_lt_of_le hm hV
  have h8 : L = M := by
    have e1 := congrArg (· % bn) h6
    simp only [Nat.add_mul_mod_self_left, Nat.mod_eq_of_lt h7, Nat.mod_eq_of_lt hL] at e1
    exact e1.symm
  refine ⟨by omega, by omega, h8, ?_⟩
  have h9 : bn * (Zh + c) = bn * b := by omega
  exact Nat.eq_of_mul_eq_mul_left (by omega) h9
end Go.Proofs.YtbghmceglemppaaGreatDoor

/-
Long division of words: one digit after the other, plain arithmetic on the words of numbers. No condition.
-/
namespace Go.Proofs.YtbghmceglemppaaGreatDoor
open Go.RowKit

theorem wdg_div (X j i : Nat) : wdg (X / 18446744073709551616 ^ j) i = wdg X (j + i) := by
  unfold wdg; rw [Nat.div_div_eq_div_mul, ← Nat.pow_add]
/-- What is left behind the digits from j on: one digit more. -/
theorem dd_step {U V j : Nat} (hV : 0 < V) :
    U % (V * 18446744073709551616 ^ (j + 1)) / 18446744073709551616 ^ j < 18446744073709551616 * V ∧
    U % (V * 18446744073709551616 ^ (j + 1)) / 18446744073709551616 ^ j / V = wdg (U / V) j ∧
    U % (V * 18446744073709551616 ^ j) = U % (V * 18446744073709551616 ^ (j + 1)) % 18446744073709551616 ^ j + 18446744073709551616 ^ j * (U % (V * 18446744073709551616 ^ (j + 1)) / 18446744073709551616 ^ j % V) := by
  have hP : 0 < 18446744073709551616 ^ j := wpow_pos j
  have hM : 0 < V * 18446744073709551616 ^ (j + 1) := Nat.mul_pos hV (wpow_pos _)
  have e1 : V * 18446744073709551616 ^ (j + 1) = 18446744073709551616 ^ j * V * 18446744073709551616 := by
    rw [Nat.pow_succ, Nat.mul_comm V, Nat.mul_assoc, Nat.mul_assoc, Nat.mul_comm 18446744073709551616 V]
  refine ⟨?_, ?_, ?_⟩
  · refine Nat.div_lt_of_lt_mul ?_
    have := Nat.mod_lt U hM
    have e2 : V * 18446744073709551616 ^ (j + 1) = 18446744073709551616 ^ j * (18446744073709551616 * V) := by rw [e1, Nat.mul_assoc, Nat.mul_comm V]
    omega
  · rw [Nat.div_div_eq_div_mul, e1, Nat.mod_mul_right_div_self]
    unfold wdg
    rw [Nat.div_div_eq_div_mul, Nat.mul_comm V]
  · have e3 : U % (V * 18446744073709551616 ^ (j + 1)) % (18446744073709551616 ^ j * V) = U % (18446744073709551616 ^ j * V) := by
      rw [e1, Nat.mod_mod_of_dvd _ (Nat.dvd_mul_right _ _)]
    rw [Nat.mul_comm V (18446744073709551616 ^ j), ← e3, Nat.mod_mul]
theorem dd_start {U V m : Nat} (h : U < V * 18446744073709551616 ^ m) : U % (V * 18446744073709551616 ^ m) = U ∧ U % (V * 18446744073709551616 ^ (m + 1)) = U ∧ U / V < 18446744073709551616 ^ m ∧ wdg (U / V) m = 0 := by
  have h1 : V * 18446744073709551616 ^ m ≤ V * 18446744073709551616 ^ (m + 1) := Nat.mul_le_mul_left _ (Nat.pow_le_pow_right (by decide) (Nat.le_succ m))
  have h2 : U / V < 18446744073709551616 ^ m := Nat.div_lt_of_lt_mul h
  refine ⟨Nat.mod_eq_of_lt h, Nat.mod_eq_of_lt (by omega), h2, ?_⟩
  unfold wdg
  rw [Nat.div_eq_of_lt h2]
theorem wdsN_window (X L : Nat) {j n : Nat} (h : j + n ≤ L) : ((wdsN X L).take (j + n)).drop j = wdsN (X / 18446744073709551616 ^ j) n := by
  refine wdsN_of (by rw [List.length_drop, List.length_take, wdsN_length]; omega) fun i hi => ?_
  rw [List.getD_eq_getElem?_getD, List.getElem?_drop, List.getElem?_take, if_pos (by omega), ← List.getD_eq_getElem?_getD, wdsN_getD (by omega), wdg_div]
theorem wdg_join {A R j : Nat} (hA : A < 18446744073709551616 ^ j) (i : Nat) : wdg (A + 18446744073709551616 ^ j * R) i = if i < j then wdg A i else wdg R (i - j) := by
  split
  · rename_i h
    unfold wdg
    obtain ⟨k, rfl⟩ : ∃ k, j = i + (k + 1) := ⟨j - i - 1, by omega⟩
    rw [Nat.pow_add, Nat.mul_assoc, Nat.add_mul_div_left _ _ (wpow_pos i), Nat.pow_succ, Nat.mul_comm _ 18446744073709551616, Nat.mul_assoc, Nat.add_mul_mod_self_left]
  · rename_i h
    obtain ⟨k, rfl⟩ : ∃ k, i = j + k := ⟨i - j, by omega⟩
    rw [← wdg_div, Nat.add_mul_div_left _ _ (wpow_pos j), Nat.div_eq_of_lt hA, Nat.zero_add, show j + k - j = k by omega]
theorem wdg_lowmod (X j i : Nat) (h : i < j) : wdg (X % 18446744073709551616 ^ j) i = wdg X i := by
  unfold wdg
  obtain ⟨k, rfl⟩ : ∃ k, j = i + (k + 1) := ⟨j - i - 1, by omega⟩
  rw [Nat.pow_add, Nat.mod_mul_right_div_self, Nat.pow_succ, Nat.mod_mod_of_dvd _ (Nat.dvd_mul_left _ _)]
theorem wdg_small {X i k : Nat} (h : X < 18446744073709551616 ^ k) (hk : k ≤ i) : wdg X i = 0 := by
  unfold wdg
  rw [Nat.div_eq_of_lt (Nat.lt_of_lt_of_le h (Nat.pow_le_pow_right (by decide) hk))]
/-- The words behind a window that was written anew. -/
theorem wdsN_patch {X L j n R : Nat} (h : j + n ≤ L) (hX : X < 18446744073709551616 ^ (j + n)) (hR : R < 18446744073709551616 ^ n) :
    (wdsN X L).take j ++ (wdsN R n ++ (wdsN X L).drop (j + n)) = wdsN (X % 18446744073709551616 ^ j + 18446744073709551616 ^ j * R) L := by
  have l1 : ((wdsN X L).take j).length = j := by rw [List.length_take, wdsN_length]; omega
  refine wdsN_of (by simp [wdsN_length]; omega) fun i hi => ?_
  rw [wdg_join (Nat.mod_lt _ (wpow_pos j)), List.getD_eq_getElem?_getD]
  by_cases h1 : i < j
  · rw [if_pos h1, List.getElem?_append_left (by omega), List.getElem?_take, if_pos h1, ← List.getD_eq_getElem?_getD, wdsN_getD hi, wdg_lowmod _ _ _ h1]
  · rw [if_neg h1, List.getElem?_append_right (by omega), l1]
    by_cases h2 : i - j < n
    · rw [List.getElem?_append_left (by rw [wdsN_length]; exact h2), ← List.getD_eq_getElem?_getD, wdsN_getD h2]
    · rw [List.getElem?_append_right (by rw [wdsN_length]; omega), wdsN_length, List.getElem?_drop, ← List.getD_eq_getElem?_getD, show j + n + (i - j - n) = i by omega, wdsN_getD hi, wdg_small hX (by omega), wdg_small hR (by omega)]
theorem wtop2 {V k : Nat} (h : V < 18446744073709551616 ^ (k + 2)) : V = (wdg V (k + 1) * 18446744073709551616 + wdg V k) * 18446744073709551616 ^ k + V % 18446744073709551616 ^ k := by
  have h1 := wmod_succ V (k + 1)
  have h2 := wmod_succ V k
  rw [show k + 1 + 1 = k + 2 by omega, Nat.mod_eq_of_lt h] at h1
  have e1 : 18446744073709551616 ^ (k + 1) * wdg V (k + 1) = wdg V (k + 1) * 18446744073709551616 * 18446744073709551616 ^ k := by
    rw [Nat.mul_comm (18446744073709551616 ^ (k + 1)), Nat.pow_succ, Nat.mul_comm (18446744073709551616 ^ k), ← Nat.mul_assoc]
  rw [Nat.add_mul, ← e1, Nat.mul_comm (wdg V k)]
  rw [h2] at h1
  exact h1.trans (by rw [Nat.add_comm, Nat.add_comm (V % _), ← Nat.add_assoc])
theorem wtop3 {R k : Nat} (h : R < 18446744073709551616 ^ (k + 3)) : R = ((wdg R (k + 2) * 18446744073709551616 + wdg R (k + 1)) * 18446744073709551616 + wdg R k) * 18446744073709551616 ^ k + R % 18446744073709551616 ^ k := by
  have h1 := wmod_succ R (k + 2)
  rw [show k + 2 + 1 = k + 3 by omega, Nat.mod_eq_of_lt h] at h1
  have h2 := wtop2 (V := R % 18446744073709551616 ^ (k + 2)) (k := k) (Nat.mod_lt _ (wpow_pos _))
  rw [wdg_lowmod _ _ _ (by omega), wdg_lowmod _ _ _ (by omega), Nat.mod_mod_of_dvd _ (Nat.pow_dvd_pow _ (by omega : k ≤ k + 2))] at h2
  have e1 : 18446744073709551616 ^ (k + 2) * wdg R (k + 2) = wdg R (k + 2) * 18446744073709551616 * 18446744073709551616 * 18446744073709551616 ^ k := by
    rw [Nat.pow_succ, Nat.pow_succ]; grind
  have e2 : ((wdg R (k + 2) * 18446744073709551616 + wdg R (k + 1)) * 18446744073709551616 + wdg R k) * 18446744073709551616 ^ k =
      wdg R (k + 2) * 18446744073709551616 * 18446744073709551616 * 18446744073709551616 ^ k + (wdg R (k + 1) * 18446744073709551616 + wdg R k) * 18446744073709551616 ^ k := by
    rw [Nat.add_mul (wdg R (k + 2) * 18446744073709551616), Nat.add_assoc, Nat.add_mul]
  rw [e2, ← e1]
  rw [h2] at h1
  exact h1.trans (by rw [Nat.add_comm, ← Nat.add_assoc])
end Go.Proofs.YtbghmceglemppaaGreatDoor

/-
Long division of words: greaterThan, mulWW. No condition.
-/
namespace Go.Proofs.YtbghmceglemppaaGreatDoor
open Go.RowKit

set_option maxRecDepth 100000 in
theorem mulWW_any (x y : Nat) (w : World) (hx : x < 18446744073709551616) (hy : y < 18446744073709551616) :
    Calls Tryz.prog 197 #[.int .u64 x, .int .u64 y] w fun e w' => e = .returned (.tuple #[.int .u64 ((x * y / 18446744073709551616 : Nat) : Int), .int .u64 ((x * y % 18446744073709551616 : Nat) : Int)]) ∧ w' = w := by
  have HM := Lib.hid (Tryz.bits_Mul x y hx hy w)
  obtain ⟨hi, hhi⟩ : ∃ hi, hi = x * y / 18446744073709551616 := ⟨_, rfl⟩
  obtain ⟨lo, hlo⟩ : ∃ lo, lo = x * y % 18446744073709551616 := ⟨_, rfl⟩
  rw [← hhi, ← hlo] at HM
  rw [← hhi, ← hlo]
  clear hhi hlo
  go_enter Tryz.func197, Tryz.ntmps197
  go_wp2_with fail
  refine HM.out.mono ?_
  rintro _ _ ⟨rfl, rfl⟩
  go_wp2
  go_ret2
  exact ⟨rfl, rfl⟩
set_option maxRecDepth 100000 in
theorem gt_any (x1 x2 y1 y2 : Nat) (b : Bool) (w : World) (hx : x2 < 18446744073709551616) (hy : y2 < 18446744073709551616) (hb : b = decide (y1 * 18446744073709551616 + y2 < x1 * 18446744073709551616 + x2)) :
    Calls Tryz.prog 274 #[.int .u64 x1, .int .u64 x2, .int .u64 y1, .int .u64 y2] w fun e w' => e = .returned (.bool b) ∧ w' = w := by
  rcases Nat.lt_trichotomy y1 x1 with h | h | h
  · have hbt : b = true := by rw [hb]; exact decide_eq_true (by omega)
    subst hbt
    have t1 : decide (y1 < x1) = true := decide_eq_true h
    clear hb hx hy h
    go_enter Tryz.func274, Tryz.ntmps274
    go_wp2
    go_ret
    exact ⟨rfl, rfl⟩
  · subst h
    have t1 : decide (y1 < y1) = false := decide_eq_false (by omega)
    by_cases h2 : y2 < x2
    · have hbt : b = true := by rw [hb]; exact decide_eq_true (by omega)
      subst hbt
      have t2 : decide (y2 < x2) = true := decide_eq_true h2
      clear hb hx hy h2
      go_enter Tryz.func274, Tryz.ntmps274
      go_wp2
      go_ret
      exact ⟨rfl, rfl⟩
    · have hbt : b = false := by rw [hb]; exact decide_eq_false (by omega)
      subst hbt
      have t2 : decide (y2 < x2) = false := decide_eq_false h2
      clear hb hx hy h2
      go_enter Tryz.func274, Tryz.ntmps274
      go_wp2
      go_ret
      exact ⟨rfl, rfl⟩
  · have hbt : b = false := by rw [hb]; exact decide_eq_false (by omega)
    subst hbt
    have t1 : decide (y1 < x1) = false := decide_eq_false (by omega)
    have t2 : ((x1 : Int) == (y1 : Int)) = false := by rw [beq_eq_false_iff_ne]; omega
    have t3 : (x1 == y1) = false := by rw [beq_eq_false_iff_ne]; omega
    clear hb hx hy h
    go_enter Tryz.func274, Tryz.ntmps274
    go_wp2
    go_ret
    exact ⟨rfl, rfl⟩
end Go.Proofs.YtbghmceglemppaaGreatDoor
