/-
Texts of this proof, joined: VvB VvL. No condition.
-/
import Derived.Test.YtkhhoamcnocjlaaGreatDoorK07
/-
addVV and subVV, whatever of their operands lies where the result goes. No condition.
-/
namespace Go.Proofs.YtkhhoamcnocjlaaGreatDoor
open Go.RowKit

set_option maxRecDepth 100000 in
theorem bitsAddC (x y c s d : Nat) (w : World) (hc : c ≤ 1) (h : x + y + c = s + 18446744073709551616 * d) (hs : s < 18446744073709551616) :
    Calls Tryz.prog 173 #[.int .u64 x, .int .u64 y, .int .u64 c] w fun e w' => e = .returned (.tuple #[.int .u64 s, .int .u64 d]) ∧ w' = w := by
  have h1 : ((x : Int) + y + c) % 18446744073709551616 = s := by omega
  have h2 : ((x : Int) + y + c) / 18446744073709551616 = d := by omega
  have g1 : (0 : Int) ≤ x := by omega
  have g2 : (0 : Int) ≤ y := by omega
  have g3 : (0 : Int) ≤ c := by omega
  have g4 : (c : Int) ≤ 1 := by omega
  clear h hs
  go_enter Tryz.func173, Tryz.ntmps173
  go_wp2_with (simp only [add64 x y c g1 g2 g3 g4, h1, h2])
  go_ret2
  exact ⟨rfl, rfl⟩
/-- The rule of the carries, taken from the model's own list. -/
def subEntry : Array Value → Sem Value := (Extern.MathBitsCarry.rows[1]!).2
theorem run_sub64 {P : Program} (x y c d b : Nat) (hc : c ≤ 1) (hb : b ≤ 1) (h : x + 18446744073709551616 * b = d + y + c) (hx : x < 18446744073709551616) (hy : y < 18446744073709551616) (hd : d < 18446744073709551616) (w : World) :
    (subEntry #[.int .u64 x, .int .u64 y, .int .u64 c]).run P w = .ok (.tuple #[.int .u64 d, .int .u64 b]) w := by
  have key : (subEntry #[.int .u64 (x : Int), .int .u64 (y : Int), .int .u64 (c : Int)]).run P w = .ok (Extern.MathBitsCarry.pair ((x + Extern.MathBitsCarry.m64 - y - c) % Extern.MathBitsCarry.m64) (if x < y + c then 1 else 0)) w := by
    rcases (by omega : c = 0 ∨ c = 1) with rfl | rfl <;> rfl
  rw [key]
  have e1 : (x + Extern.MathBitsCarry.m64 - y - c) % Extern.MathBitsCarry.m64 = d := by
    have : Extern.MathBitsCarry.m64 = 18446744073709551616 := by decide
    rw [this]; omega
  have e2 : (if x < y + c then 1 else 0) = b := by split <;> omega
  rw [e1, e2]; rfl
theorem sub64 (x y c d b : Nat) (hc : c ≤ 1) (hb : b ≤ 1) (h : x + 18446744073709551616 * b = d + y + c) (hx : x < 18446744073709551616) (hy : y < 18446744073709551616) (hd : d < 18446744073709551616) (w : World) :
    (callFunc 196 #[.int .u64 x, .int .u64 y, .int .u64 c]).run Tryz.prog w = .ok (.value (.tuple #[.int .u64 d, .int .u64 b])) w := by
  rw [run_callFunc_extern Tryz.func196 (by kernel_rfl) (by kernel_rfl) (by kernel_rfl) (e := subEntry) (by kernel_rfl), run_sub64 x y c d b hc hb h hx hy hd]
  simp [Result.andThen]
set_option maxRecDepth 100000 in
theorem bitsSubC (x y c d b : Nat) (w : World) (hc : c ≤ 1) (hb : b ≤ 1) (h : x + 18446744073709551616 * b = d + y + c) (hx : x < 18446744073709551616) (hy : y < 18446744073709551616) (hd : d < 18446744073709551616) :
    Calls Tryz.prog 179 #[.int .u64 x, .int .u64 y, .int .u64 c] w fun e w' => e = .returned (.tuple #[.int .u64 d, .int .u64 b]) ∧ w' = w := by
  have H := sub64 x y c d b hc hb h hx hy hd
  clear h hx hy hd hc hb
  go_enter Tryz.func179, Tryz.ntmps179
  go_wp2_with (simp only [H])
  go_ret2
  exact ⟨rfl, rfl⟩
theorem wv_take_succ' {ws : List Nat} {i : Nat} (h : i < ws.length) : wv (ws.take (i + 1)) = wv (ws.take i) + 18446744073709551616 ^ i * ws.getD i 0 := wv_take_succ h
set_option maxRecDepth 100000 in
set_option maxHeartbeats 1600000 in
theorem addVV_g_any (v x y : Value) (os : List Value) (xs ys : List Nat) (B : Nat) (w : World) (ho : Own w B 147 v os) (hx : RW w x xs) (hy : RW w y ys) (hlx : xs.length = os.length) (hly : ys.length = os.length)
    (hax : sBlk x = sBlk v → sOff v ≤ sOff x) (hay : sBlk y = sBlk v → sOff v ≤ sOff y) (hl : os.length ≤ 1000000000) :
    Calls Tryz.prog 177 #[v, x, y] w fun e w' => ∃ c : Nat, e = .returned (.int .u64 c) ∧ (c ≤ 1 ∧ wv xs + wv ys = wv (wdsN (wv xs + wv ys) os.length) + 18446744073709551616 ^ os.length * c) ∧ VvP v os.length B (wv xs + wv ys) w w' := by
  have hS := ho.isS
  have hSx := hx.isS
  have hSy := hy.isS
  obtain ⟨L, hLw⟩ : ∃ L, L = os.length := ⟨_, rfl⟩
  have hL : sLen v = L := by rw [hLw]; exact ho.len
  have hLx : sLen x = L := by rw [hx.len, hlx, hLw]
  have hLy : sLen y = L := by rw [hy.len, hly, hLw]
  have R0 := Lib.hid (Vv.start ho hLw.symm)
  have HB0 : Hid (0 < L → 0 < sCap v ∧ B ≤ sBlk v) := Lib.hid (fun h => by
    have := hS.le
    have hc : 0 < sCap v := by omega
    exact ⟨hc, (ho.lt hc).1⟩)
  have HXL : Hid (xs.length = L) := Lib.hid (by omega)
  have HYL : Hid (ys.length = L) := Lib.hid (by omega)
  rw [← hLw] at hl ⊢
  have HX := Lib.hid hx
  have HY := Lib.hid hy
  have HAX := Lib.hid hax
  have HAY := Lib.hid hay
  clear ho hLw hx hy hlx hly hax hay
  go_enter Tryz.func177, Tryz.ntmps177
  go_wp2
  go_loopw [6, 25] (fun c i wr => ∃ k d Z : Nat, k ≤ L ∧ i = .int .i64 k ∧ c = .int .u64 d ∧ (d ≤ 1 ∧ wv (xs.take k) + wv (ys.take k) = Z + 18446744073709551616 ^ k * d) ∧ Vv v L B k Z w wr) (fun c i _ => L - (intOf i).toNat)
  case atStart => exact ⟨0, 0, 0, Nat.zero_le _, rfl, rfl, ⟨by omega, by simp [wv]⟩, R0.out⟩
  case round =>
    obtain ⟨k, d, Z, hk, rfl, rfl, ⟨hd, hZ⟩, hrel⟩ := hrel
    have HREL := Lib.hid hrel
    by_cases hkL : k < L
    · obtain ⟨hcap, hB⟩ := HB0.out (by omega)
      have cx := hrel.src HX.out HAX.out (Nat.le_refl k) (by rw [HXL.out]; exact hkL)
      have cy := hrel.src HY.out HAY.out (Nat.le_refl k) (by rw [HYL.out]; exact hkL)
      obtain ⟨u, cv⟩ := hrel.own hkL
      have fz := hrel.frozen hcap (sOff v + k)
      have hxl := getD_ltW HX.out.lt k
      have hyl := getD_ltW HY.out.lt k
      have e1 := wv_take_succ (ws := xs) (i := k) (by rw [HXL.out]; exact hkL)
      have e2 := wv_take_succ (ws := ys) (i := k) (by rw [HYL.out]; exact hkL)
      obtain ⟨a, ha⟩ : ∃ a, a = xs.getD k 0 := ⟨_, rfl⟩
      obtain ⟨b, hb⟩ : ∃ b, b = ys.getD k 0 := ⟨_, rfl⟩
      rw [← ha] at cx hxl e1
      rw [← hb] at cy hyl e2
      obtain ⟨s, c, hsc, hs, hc1⟩ : ∃ s c, a + b + d = s + 18446744073709551616 * c ∧ s < 18446744073709551616 ∧ c ≤ 1 := ⟨(a + b + d) % 18446744073709551616, (a + b + d) / 18446744073709551616, by omega, by omega, by omega⟩
      have HA : Hid (∀ n, Calls Tryz.prog 173 #[.int .u64 a, .int .u64 b, .int .u64 d] (wr.drewN n) fun e w' => e = .returned (.tuple #[.int .u64 s, .int .u64 c]) ∧ w' = wr.drewN n) := Lib.hid (fun n => bitsAddC a b d s c _ hd hsc hs)
      have HZ : Hid (wv (xs.take (k + 1)) + wv (ys.take (k + 1)) = Z + 18446744073709551616 ^ k * s + 18446744073709551616 ^ (k + 1) * c) := Lib.hid (by
        rw [e1, e2, Nat.pow_succ, Nat.mul_assoc]
        have h1 : 18446744073709551616 ^ k * (a + b + d) = 18446744073709551616 ^ k * s + 18446744073709551616 ^ k * (18446744073709551616 * c) := by rw [hsc, Nat.mul_add]
        rw [Nat.mul_add, Nat.mul_add] at h1
        omega)
      have PUT := Lib.hid (fun n => (HREL.out.drewN (k := n)).put hkL hB hs)
      clear hrel e1 e2 ha hb hZ hsc
      go_wp2_with fail
      go_quiet ((go_at_call 173; exact Calls.quiet_of_same (HA.out _)))
      go_wp2
      exact ⟨⟨k + 1, c, _, by omega, by go_num, rfl, ⟨hc1, HZ.out⟩, PUT.out nq⟩, by simp [intOf]; omega⟩
    · have hkk : k = L := by omega
      have HD : Hid ((d ≤ 1 ∧ wv xs + wv ys = wv (wdsN (wv xs + wv ys) L) + 18446744073709551616 ^ L * d) ∧ VvP v L B (wv xs + wv ys) w wr) := Lib.hid (by
        subst hkk
        rw [List.take_of_length_le (by rw [HXL.out]; exact Nat.le_refl _), List.take_of_length_le (by rw [HYL.out]; exact Nat.le_refl _)] at hZ
        have hZl : Z < 18446744073709551616 ^ k := by
          obtain ⟨os', ds, g1, g2, g3, g4, g5, g6, g7, g8⟩ := hrel
          have := wv_lt g5
          rw [g4] at this; omega
        refine ⟨⟨hd, ?_⟩, hrel.done d hZ⟩
        rw [wdsN_wv, hZ, Nat.add_mul_mod_self_left, Nat.mod_eq_of_lt hZl])
      clear hrel hZ HREL
      go_wp2
      go_ret
      exact ⟨d, rfl, HD.out⟩
set_option maxRecDepth 100000 in
theorem addVV_any (v x y : Value) (os : List Value) (xs ys : List Nat) (B : Nat) (w : World) (ho : Own w B 147 v os) (hx : RW w x xs) (hy : RW w y ys) (hlx : xs.length = os.length) (hly : ys.length = os.length)
    (hax : sBlk x = sBlk v → sOff v ≤ sOff x) (hay : sBlk y = sBlk v → sOff v ≤ sOff y) (hl : os.length ≤ 1000000000) :
    Calls Tryz.prog 149 #[v, x, y] w fun e w' => ∃ c : Nat, e = .returned (.int .u64 c) ∧ (c ≤ 1 ∧ wv xs + wv ys = wv (wdsN (wv xs + wv ys) os.length) + 18446744073709551616 ^ os.length * c) ∧ VvP v os.length B (wv xs + wv ys) w w' := by
  have hS := ho.isS
  have hSx := hx.isS
  have hSy := hy.isS
  have H := Lib.hid (addVV_g_any v x y os xs ys B w ho hx hy hlx hly hax hay hl)
  clear ho hx hy hlx hly hax hay hl
  go_enter Tryz.func149, Tryz.ntmps149
  go_wp2_with fail
  refine H.out.mono ?_
  rintro _ w1 ⟨c, rfl, h1, h2⟩
  have H1 := Lib.hid (And.intro h1 h2)
  clear h1 h2
  go_wp2
  go_ret
  exact ⟨c, rfl, H1.out⟩
/-- A difference with its borrow. -/
def sbN (X Y n c : Nat) : Nat := X + 18446744073709551616 ^ n * c - Y
set_option maxRecDepth 100000 in
set_option maxHeartbeats 1600000 in
theorem subVV_g_any (v x y : Value) (os : List Value) (xs ys : List Nat) (B : Nat) (w : World) (ho : Own w B 147 v os) (hx : RW w x xs) (hy : RW w y ys) (hlx : xs.length = os.length) (hly : ys.length = os.length)
    (hax : sBlk x = sBlk v → sOff v ≤ sOff x) (hay : sBlk y = sBlk v → sOff v ≤ sOff y) (hl : os.length ≤ 1000000000) :
    Calls Tryz.prog 178 #[v, x, y] w fun e w' => ∃ c : Nat, e = .returned (.int .u64 c) ∧ (∃ Z, c ≤ 1 ∧ Z < 18446744073709551616 ^ os.length ∧ wv xs + 18446744073709551616 ^ os.length * c = Z + wv ys ∧ VvP v os.length B Z w w') := by
  have hS := ho.isS
  have hSx := hx.isS
  have hSy := hy.isS
  obtain ⟨L, hLw⟩ : ∃ L, L = os.length := ⟨_, rfl⟩
  have hL : sLen v = L := by rw [hLw]; exact ho.len
  have hLx : sLen x = L := by rw [hx.len, hlx, hLw]
  have hLy : sLen y = L := by rw [hy.len, hly, hLw]
  have R0 := Lib.hid (Vv.start ho hLw.symm)
  have HB0 : Hid (0 < L → 0 < sCap v ∧ B ≤ sBlk v) := Lib.hid (fun h => by
    have := hS.le
    have hc : 0 < sCap v := by omega
    exact ⟨hc, (ho.lt hc).1⟩)
  have HXL : Hid (xs.length = L) := Lib.hid (by omega)
  have HYL : Hid (ys.length = L) := Lib.hid (by omega)
  rw [← hLw] at hl ⊢
  have HX := Lib.hid hx
  have HY := Lib.hid hy
  have HAX := Lib.hid hax
  have HAY := Lib.hid hay
  clear ho hLw hx hy hlx hly hax hay
  go_enter Tryz.func178, Tryz.ntmps178
  go_wp2
  go_loopw [6, 25] (fun c i wr => ∃ k d Z : Nat, k ≤ L ∧ i = .int .i64 k ∧ c = .int .u64 d ∧ (d ≤ 1 ∧ wv (xs.take k) + 18446744073709551616 ^ k * d = Z + wv (ys.take k)) ∧ Vv v L B k Z w wr) (fun c i _ => L - (intOf i).toNat)
  case atStart => exact ⟨0, 0, 0, Nat.zero_le _, rfl, rfl, ⟨by omega, by simp [wv]⟩, R0.out⟩
  case round =>
    obtain ⟨k, d, Z, hk, rfl, rfl, ⟨hd, hZ⟩, hrel⟩ := hrel
    have HREL := Lib.hid hrel
    by_cases hkL : k < L
    · obtain ⟨hcap, hB⟩ := HB0.out (by omega)
      have cx := hrel.src HX.out HAX.out (Nat.le_refl k) (by rw [HXL.out]; exact hkL)
      have cy := hrel.src HY.out HAY.out (Nat.le_refl k) (by rw [HYL.out]; exact hkL)
      obtain ⟨u, cv⟩ := hrel.own hkL
      have fz := hrel.frozen hcap (sOff v + k)
      have hxl := getD_ltW HX.out.lt k
      have hyl := getD_ltW HY.out.lt k
      have e1 := wv_take_succ (ws := xs) (i := k) (by rw [HXL.out]; exact hkL)
      have e2 := wv_take_succ (ws := ys) (i := k) (by rw [HYL.out]; exact hkL)
      obtain ⟨a, ha⟩ : ∃ a, a = xs.getD k 0 := ⟨_, rfl⟩
      obtain ⟨b, hb⟩ : ∃ b, b = ys.getD k 0 := ⟨_, rfl⟩
      rw [← ha] at cx hxl e1
      rw [← hb] at cy hyl e2
      obtain ⟨s, c, hsc, hs, hc1⟩ : ∃ s c, a + 18446744073709551616 * c = s + b + d ∧ s < 18446744073709551616 ∧ c ≤ 1 := by
        by_cases h : a < b + d
        · exact ⟨a + 18446744073709551616 - b - d, 1, by omega, by omega, by omega⟩
        · exact ⟨a - b - d, 0, by omega, by omega, by omega⟩
      have HA : Hid (∀ n, Calls Tryz.prog 179 #[.int .u64 a, .int .u64 b, .int .u64 d] (wr.drewN n) fun e w' => e = .returned (.tuple #[.int .u64 s, .int .u64 c]) ∧ w' = wr.drewN n) := Lib.hid (fun n => bitsSubC a b d s c _ hd hc1 hsc hxl hyl hs)
      have HZ : Hid (wv (xs.take (k + 1)) + 18446744073709551616 ^ (k + 1) * c = Z + 18446744073709551616 ^ k * s + wv (ys.take (k + 1))) := Lib.hid (by
        rw [e1, e2, Nat.pow_succ, Nat.mul_assoc]
        have h1 : 18446744073709551616 ^ k * (a + 18446744073709551616 * c) = 18446744073709551616 ^ k * (s + b + d) := by rw [hsc]
        rw [Nat.mul_add, Nat.mul_add, Nat.mul_add] at h1
        omega)
      have PUT := Lib.hid (fun n => (HREL.out.drewN (k := n)).put hkL hB hs)
      clear hrel e1 e2 ha hb hZ hsc
      go_wp2_with fail
      go_quiet ((go_at_call 179; exact Calls.quiet_of_same (HA.out _)))
      go_wp2
      exact ⟨⟨k + 1, c, _, by omega, by go_num, rfl, ⟨hc1, HZ.out⟩, PUT.out nq⟩, by simp [intOf]; omega⟩
    · have hkk : k = L := by omega
      have HD : Hid (∃ Z, d ≤ 1 ∧ Z < 18446744073709551616 ^ L ∧ wv xs + 18446744073709551616 ^ L * d = Z + wv ys ∧ VvP v L B Z w wr) := Lib.hid (by
        subst hkk
        rw [List.take_of_length_le (by rw [HXL.out]; exact Nat.le_refl _), List.take_of_length_le (by rw [HYL.out]; exact Nat.le_refl _)] at hZ
        have hZl : Z < 18446744073709551616 ^ k := by
          obtain ⟨os', ds, g1, g2, g3, g4, g5, g6, g7, g8⟩ := hrel
          have := wv_lt g5
          rw [g4] at this; omega
        exact ⟨Z, hd, hZl, hZ, hrel.done 0 (by omega)⟩)
      clear hrel hZ HREL
      go_wp2
      go_ret
      exact ⟨d, rfl, HD.out⟩
set_option maxRecDepth 100000 in
theorem subVV_any (v x y : Value) (os : List Value) (xs ys : List Nat) (B : Nat) (w : World) (ho : Own w B 147 v os) (hx : RW w x xs) (hy : RW w y ys) (hlx : xs.length = os.length) (hly : ys.length = os.length)
    (hax : sBlk x = sBlk v → sOff v ≤ sOff x) (hay : sBlk y = sBlk v → sOff v ≤ sOff y) (hl : os.length ≤ 1000000000) :
    Calls Tryz.prog 150 #[v, x, y] w fun e w' => ∃ c : Nat, e = .returned (.int .u64 c) ∧ (∃ Z, c ≤ 1 ∧ Z < 18446744073709551616 ^ os.length ∧ wv xs + 18446744073709551616 ^ os.length * c = Z + wv ys ∧ VvP v os.length B Z w w') := by
  have hS := ho.isS
  have hSx := hx.isS
  have hSy := hy.isS
  have H := Lib.hid (subVV_g_any v x y os xs ys B w ho hx hy hlx hly hax hay hl)
  clear ho hx hy hlx hly hax hay hl
  go_enter Tryz.func150, Tryz.ntmps150
  go_wp2_with fail
  refine H.out.mono ?_
  rintro _ w1 ⟨c, rfl, h1⟩
  have H1 := Lib.hid h1
  clear h1
  go_wp2
  go_ret
  exact ⟨c, rfl, H1.out⟩
end Go.Proofs.YtkhhoamcnocjlaaGreatDoor

/-
lshVU: a number's words are shifted to the left, in place or from elsewhere; lsh into a new slice. No condition.
-/
namespace Go.Proofs.YtkhhoamcnocjlaaGreatDoor
open Go.RowKit

/-- The words from place k on are Y's. -/
def Vd (v : Value) (n B k Y : Nat) (w wr : World) : Prop :=
  ∃ os : List Value, Own wr B 147 v os ∧ os.length = n ∧ (∀ j, k ≤ j → j < n → os[j]? = some (.int .u64 ((wdg Y j : Nat) : Int))) ∧ Below B w wr ∧ FrB (sBlk v) (sOff v + k) (sOff v + n) w wr
theorem Vd.start {v : Value} {B Y n : Nat} {os : List Value} {w : World} (h : Own w B 147 v os) (hn : os.length = n) : Vd v n B n Y w w :=
  ⟨os, h, hn, fun j h1 h2 => by omega, Below.refl _ _, FrB.refl _ _ _ _⟩
theorem Vd.put {v : Value} {n B k Y : Nat} {w wr : World} (h : Vd v n B (k + 1) Y w wr) (hk : k < n) (hc : B ≤ sBlk v) {y : Nat} (hy : y = wdg Y k) : Vd v n B k Y w (wr.setCell ⟨sBlk v, sOff v + k, none⟩ (.int .u64 (y : Int))) := by
  obtain ⟨os, h1, h2, h4, h5, h6⟩ := h
  have ho := h1.set (i := k) (by omega) (.int .u64 (y : Int))
  refine ⟨os.set k (.int .u64 (y : Int)), ho, by simpa using h2, fun j hj hjn => ?_, bset h5 hc, (h6.mono (by omega) (Nat.le_refl _)).set (Nat.le_refl _) (by omega) _⟩
  rw [List.getElem?_set]
  split
  · rename_i e; subst e; rw [if_pos (by omega), hy]
  · exact h4 j (by omega) hjn
theorem Vd.drewN {v : Value} {n B i Y k : Nat} {w wr : World} (h : Vd v n B i Y w wr) : Vd v n B i Y w (wr.drewN k) := by
  obtain ⟨os, h1, h2, h4, h5, h6⟩ := h
  exact ⟨os, h1.drewN _, h2, h4, undrewN' h5, h6.drewN⟩
theorem Vd.done {v : Value} {n B Y : Nat} {w wr : World} (h : Vd v n B 0 Y w wr) : VvP v n B Y w wr := by
  obtain ⟨os, h1, h2, h4, h5, h6⟩ := h
  have e : os = cellsW (wdsN Y n) := by
    apply List.ext_getElem?
    intro i
    by_cases hi : i < n
    · rw [h4 i (Nat.zero_le _) hi, cellsW, List.getElem?_map, wdsN, List.getElem?_map, List.getElem?_range hi]; rfl
    · rw [List.getElem?_eq_none (by omega), List.getElem?_eq_none (by rw [cellsW_length, wdsN_length]; omega)]
  rw [VvP, ← e]
  exact ⟨h1, h5, h6⟩
theorem Vd.src {v x : Value} {n B k Y : Nat} {xs : List Nat} {w wr : World} (h : Vd v n B k Y w wr) (hx : RW w x xs) (hal : sBlk x = sBlk v → sOff x ≤ sOff v) {j : Nat} (hij : j < k) (hj : j < xs.length) : wr.cell? ⟨sBlk x, sOff x + j, none⟩ = some (.int .u64 ((xs.getD j 0 : Nat) : Int)) := by
  obtain ⟨os, h1, h2, h4, h5, h6⟩ := h
  exact h6.cell (hx.cell j hj) (fun hb => by have := hal hb; omega)
theorem Vd.frozen {v : Value} {n B i Z : Nat} {w wr : World} (h : Vd v n B i Z w wr) (hc : 0 < sCap v) (k : Nat) : wr.frozen? ⟨sBlk v, k, none⟩ = false := by
  obtain ⟨os, h1, -⟩ := h
  exact h1.frozen hc k
theorem Vd.own {v : Value} {n B i Z : Nat} {w wr : World} (h : Vd v n B i Z w wr) {k : Nat} (hk : k < n) : ∃ u : Value, wr.cell? ⟨sBlk v, sOff v + k, none⟩ = some u := by
  obtain ⟨os, h1, h2, -⟩ := h
  exact ⟨_, h1.cell (List.getElem?_eq_getElem (by omega))⟩
set_option maxRecDepth 100000 in
set_option maxHeartbeats 1600000 in
theorem lshVU_g_gen (v x : Value) (os : List Value) (xs : List Nat) (X s B : Nat) (w : World) (ho : Own w B 147 v os) (hx : RW w x xs) (hX : wv xs = X) (hlen : os.length = xs.length) (hal : sBlk x = sBlk v → sOff x ≤ sOff v)
    (hl0 : 0 < xs.length) (hl : xs.length ≤ 1000000000) (hs0 : 0 < s) (hs : s < 64) :
    Calls Tryz.prog 172 #[v, x, .int .u64 s] w fun e w' => e = .returned (.int .u64 (wdg X (xs.length - 1) / 2 ^ (64 - s) : Nat)) ∧ VvP v xs.length B (X * 2 ^ s) w w' := by
  have hS := ho.isS
  have hSx := hx.isS
  have hL : sLen v = os.length := ho.len
  have hLx : sLen x = xs.length := hx.len
  have hcap : 0 < sCap v := by have := hS.le; omega
  have hB := (ho.lt hcap).1
  have hget : ∀ j, xs.getD j 0 = wdg X j := fun j => by rw [← hX, wv_dig hx.lt]
  obtain ⟨L, hLw⟩ : ∃ L, L + 1 = xs.length := ⟨xs.length - 1, by omega⟩
  have R0 := Lib.hid (Vd.start (Y := X * 2 ^ s) ho hlen)
  rw [← hLw] at R0
  have hc := hx.cell L (by omega)
  rw [hget] at hc
  have HXS : Hid (∀ j, j < L + 1 → j < xs.length) := Lib.hid (fun j hj => by omega)
  rw [← hLw] at hlen hLx hl ⊢
  rw [hlen] at hL
  rw [Nat.add_sub_cancel]
  have n1 := and63 hs
  have n2 := and63 (show 64 - s < 64 by omega)
  obtain ⟨r, hr⟩ : ∃ r, r = 64 - s := ⟨_, rfl⟩
  rw [← hr] at n2 ⊢
  have hr64 : r < 64 := by omega
  have e1 : (64 : Int) - (s : Int) = (r : Int) := by omega
  have hS2 : (2 : Int) ^ s = ((2 ^ s : Nat) : Int) := by simp
  have hR2 : (2 : Int) ^ r = ((2 ^ r : Nat) : Int) := by simp
  obtain ⟨t, ht⟩ : ∃ t, t = wdg X L := ⟨_, rfl⟩
  rw [← ht] at hc ⊢
  obtain ⟨S, hSS⟩ : ∃ S, S = 2 ^ s := ⟨_, rfl⟩
  rw [← hSS] at hS2
  have HS := Lib.hid hSS
  obtain ⟨R, hR⟩ : ∃ R, R = 2 ^ r := ⟨_, rfl⟩
  rw [← hR] at hR2 ⊢
  have hqt : (t : Int) / (R : Int) = ((t / R : Nat) : Int) := by simp
  have htl : t < 18446744073709551616 := by rw [ht]; exact wdg_lt _ _
  obtain ⟨q, hq⟩ : ∃ q, q = t / R := ⟨_, rfl⟩
  rw [← hq] at hqt ⊢
  have ts : ((s : Int) == 0) = false := by rw [beq_eq_false_iff_ne]; omega
  have HX := Lib.hid hx
  have HAL := Lib.hid hal
  have HG := Lib.hid hget
  have HR := Lib.hid hR
  have Hr := Lib.hid hr
  clear ho hLw hX hl0 hget ht hR hq hr hSS hx hlen hal
  go_enter Tryz.func172, Tryz.ntmps172
  go_wp2
  go_loopw [8] (fun i wr => ∃ k : Nat, k ≤ L ∧ i = .int .i64 k ∧ Vd v (L + 1) B (k + 1) (X * 2 ^ s) w wr) (fun i _ => (intOf i).toNat)
  case atStart => exact ⟨L, Nat.le_refl _, rfl, R0.out⟩
  case round =>
    obtain ⟨k, hk, rfl, hrel⟩ := hrel
    have HREL := Lib.hid hrel
    have hkL : k < L + 1 := by omega
    have fz := hrel.frozen hcap
    rcases Nat.eq_zero_or_pos k with hk0 | hk0
    · subst hk0
      have c0 := hrel.src HX.out HAL.out (j := 0) (by omega) (HXS.out 0 (by omega))
      obtain ⟨g, cv⟩ := hrel.own (k := 0) (by omega)
      rw [HG.out, Nat.add_zero] at c0
      rw [Nat.add_zero] at cv
      obtain ⟨d0, hd0⟩ : ∃ d, d = wdg X 0 := ⟨_, rfl⟩
      rw [← hd0] at c0
      have hm := wrapU d0 S
      obtain ⟨m, hmm⟩ : ∃ m, m = d0 * S % 18446744073709551616 := ⟨_, rfl⟩
      rw [← hmm] at hm
      have fz0 := fz (sOff v)
      have HM : m = wdg (X * 2 ^ s) 0 := by rw [wdg_shl_zero _ (by omega), hmm, hd0, HS.out]
      have PUT := (HREL.out.put (k := 0) hkL hB HM).done
      rw [Nat.add_zero] at PUT
      have PUT := Lib.hid PUT
      clear fz hd0 hmm HM hrel
      go_wp2
      go_ret
      exact ⟨rfl, PUT.out⟩
    · obtain ⟨j, rfl⟩ : ∃ j, k = j + 1 := ⟨k - 1, by omega⟩
      have c1 := hrel.src HX.out HAL.out (j := j + 1) (by omega) (HXS.out _ (by omega))
      have c0 := hrel.src HX.out HAL.out (j := j) (by omega) (HXS.out _ (by omega))
      obtain ⟨g, cv⟩ := hrel.own (k := j + 1) (by omega)
      rw [HG.out] at c1 c0
      obtain ⟨d1, hd1⟩ : ∃ d, d = wdg X (j + 1) := ⟨_, rfl⟩
      obtain ⟨d0, hd0⟩ : ∃ d, d = wdg X j := ⟨_, rfl⟩
      rw [← hd1] at c1
      rw [← hd0] at c0
      have hm := wrapU d1 S
      have hq0 : (d0 : Int) / (R : Int) = ((d0 / R : Nat) : Int) := by simp
      obtain ⟨m, hmm⟩ : ∃ m, m = d1 * S % 18446744073709551616 := ⟨_, rfl⟩
      obtain ⟨q0, hqq⟩ : ∃ q, q = d0 / R := ⟨_, rfl⟩
      rw [← hmm] at hm
      rw [← hqq] at hq0
      have hd0l : d0 < 18446744073709551616 := by rw [hd0]; exact wdg_lt _ _
      have hq0l : q0 < 2 ^ s := by
        rw [hqq, HR.out, Hr.out]
        refine Nat.div_lt_of_lt_mul ?_
        rw [word_split (by omega)]; exact hd0l
      have hor := bits_or_u64_nat m q0 (by rw [hmm]; exact Nat.mod_lt _ (by decide)) (by have := Nat.div_le_self d0 R; omega)
      have hy : m ||| q0 = wdg (X * 2 ^ s) (j + 1) := by
        rw [wdg_shl_succ _ _ hs, hmm, HS.out, shl_or hs hq0l, hqq, hd0, hd1, HR.out, Hr.out]
      rw [hy] at hor
      obtain ⟨y, hyy⟩ : ∃ y, y = wdg (X * 2 ^ s) (j + 1) := ⟨_, rfl⟩
      rw [← hyy] at hor
      have HY := Lib.hid hyy
      have fz1 := fz (sOff v + (j + 1))
      have hj1 : j + 1 < L + 1 := by omega
      clear fz hy hq0l hd0 hd1 hmm hqq hyy hrel
      go_wp2
      (refine wp_region_hoist 16 (by kernel_rfl) (by kernel_rfl) ⟨fun _ _ _ h => (by first | exact (hQp _ _ _ h).elim | cases h.2.1 | (obtain ⟨_, h3, _⟩ := h.2; cases h3)), fun _ _ h => (by first | exact (hQo _ _ h).elim | cases h.1 | (obtain ⟨_, h3, _⟩ := h; cases h3))⟩ ?_; simp only [List.take_succ_cons, List.take_zero, List.drop_succ_cons, List.drop_zero]; (repeat (go_big_quiet_step (fail))); refine wpQuiet_nil ?_; rintro _ ⟨nq, rfl⟩)
      go_wp2
      exact ⟨⟨j, by omega, rfl, HREL.out.drewN.put hj1 hB HY.out⟩, by simp [intOf]⟩
set_option maxRecDepth 100000 in
theorem lshVU_gen (v x : Value) (os : List Value) (xs : List Nat) (X s B : Nat) (w : World) (ho : Own w B 147 v os) (hx : RW w x xs) (hX : wv xs = X) (hlen : os.length = xs.length) (hal : sBlk x = sBlk v → sOff x ≤ sOff v)
    (hl0 : 0 < xs.length) (hl : xs.length ≤ 1000000000) (hs0 : 0 < s) (hs : s < 64) :
    Calls Tryz.prog 140 #[v, x, .int .u64 s] w fun e w' => e = .returned (.int .u64 (wdg X (xs.length - 1) / 2 ^ (64 - s) : Nat)) ∧ VvP v xs.length B (X * 2 ^ s) w w' := by
  have hS := ho.isS
  have hSx := hx.isS
  have H := Lib.hid (lshVU_g_gen v x os xs X s B w ho hx hX hlen hal hl0 hl hs0 hs)
  clear ho hx hX hlen hal hl0 hl
  go_enter Tryz.func140, Tryz.ntmps140
  go_wp2_with fail
  refine H.out.mono ?_
  rintro _ w1 ⟨rfl, h1⟩
  go_wp2
  go_ret
  exact ⟨rfl, h1⟩
end Go.Proofs.YtkhhoamcnocjlaaGreatDoor
