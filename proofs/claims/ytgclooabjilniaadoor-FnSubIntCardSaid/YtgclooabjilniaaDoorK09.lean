/-
Texts of this proof, joined: VvB RnE RnF. No condition.
-/
import Derived.Test.YtgclooabjilniaaDoorK08
import Derived.Deep.DeepCutAuto
import Derived.Deep.CutBlock
/-
addVV and subVV, whatever of their operands lies where the result goes. No condition.
-/
namespace Go.Proofs.YtgclooabjilniaaDoor
open Go.RowKit

set_option maxRecDepth 100000 in
theorem bitsAddC (x y c s d : Nat) (w : World) (hc : c ≤ 1) (h : x + y + c = s + 18446744073709551616 * d) (hs : s < 18446744073709551616) :
    Calls Tryd.prog 71 #[.int .u64 x, .int .u64 y, .int .u64 c] w fun e w' => e = .returned (.tuple #[.int .u64 s, .int .u64 d]) ∧ w' = w := by
  have h1 : ((x : Int) + y + c) % 18446744073709551616 = s := by omega
  have h2 : ((x : Int) + y + c) / 18446744073709551616 = d := by omega
  have g1 : (0 : Int) ≤ x := by omega
  have g2 : (0 : Int) ≤ y := by omega
  have g3 : (0 : Int) ≤ c := by omega
  have g4 : (c : Int) ≤ 1 := by omega
  clear h hs
  go_enter Tryd.func71, Tryd.ntmps71
  go_wp2_with (simp only [add64 x y c g1 g2 g3 g4, h1, h2])
  go_ret2
  exact ⟨rfl, rfl⟩
/-- The rule of the carries, taken from the model's own list. -/
def subEntry : Array Value → Sem Value := (Extern.MathBitsCarry.rows[1]!).2
theorem run_sub64 {P : Program} (x y c d b : Nat) (hc : c ≤ 1) (hb : b ≤ 1) (h : x + 18446744073709551616 * b = d + y + c) (hx : x < 18446744073709551616) (hy : y < 18446744073709551616) (hd : d < 18446744073709551616) (w : World) :
    (subEntry #[.int .u64 x, .int .u64 y, .int .u64 c]).run P w = .ok (.tuple #[.int .u64 d, .int .u64 b]) w := by
  have key : (subEntry #[.int .u64 (x : Int), .int .u64 (y : Int), .int .u64 (c : Int)]).run P w = .ok (Extern.MathBitsCarry.pair ((x + Extern.MathBitsCarry.m64 - y - c) % Extern.MathBitsCarry.m64) (if x < y + c then 1 else 0)) w := by
    rcases (by omega : c = 0 ∨ c = 1) with rfl | rfl <;> rfl
  rw [key]
  have e1 : (x + Extern.MathBitsCarry.m64 - y - c) % Extern.MathBitsCarry.m64 = d := by
    have : Extern.MathBitsCarry.m64 = 18446744073709551616 := by decide
    rw [this]; omega
  have e2 : (if x < y + c then 1 else 0) = b := by split <;> omega
  rw [e1, e2]; rfl
theorem sub64 (x y c d b : Nat) (hc : c ≤ 1) (hb : b ≤ 1) (h : x + 18446744073709551616 * b = d + y + c) (hx : x < 18446744073709551616) (hy : y < 18446744073709551616) (hd : d < 18446744073709551616) (w : World) :
    (callFunc 84 #[.int .u64 x, .int .u64 y, .int .u64 c]).run Tryd.prog w = .ok (.value (.tuple #[.int .u64 d, .int .u64 b])) w := by
  rw [run_callFunc_extern Tryd.func84 (by kernel_rfl) (by kernel_rfl) (by kernel_rfl) (e := subEntry) (by kernel_rfl), run_sub64 x y c d b hc hb h hx hy hd]
  simp [Result.andThen]
set_option maxRecDepth 100000 in
theorem bitsSubC (x y c d b : Nat) (w : World) (hc : c ≤ 1) (hb : b ≤ 1) (h : x + 18446744073709551616 * b = d + y + c) (hx : x < 18446744073709551616) (hy : y < 18446744073709551616) (hd : d < 18446744073709551616) :
    Calls Tryd.prog 77 #[.int .u64 x, .int .u64 y, .int .u64 c] w fun e w' => e = .returned (.tuple #[.int .u64 d, .int .u64 b]) ∧ w' = w := by
  have H := sub64 x y c d b hc hb h hx hy hd
  clear h hx hy hd hc hb
  go_enter Tryd.func77, Tryd.ntmps77
  go_wp2_with (simp only [H])
  go_ret2
  exact ⟨rfl, rfl⟩
theorem wv_take_succ' {ws : List Nat} {i : Nat} (h : i < ws.length) : wv (ws.take (i + 1)) = wv (ws.take i) + 18446744073709551616 ^ i * ws.getD i 0 := wv_take_succ h
set_option maxRecDepth 100000 in
set_option maxHeartbeats 1600000 in
theorem addVV_g_any (v x y : Value) (os : List Value) (xs ys : List Nat) (B : Nat) (w : World) (ho : Own w B 86 v os) (hx : RW w x xs) (hy : RW w y ys) (hlx : xs.length = os.length) (hly : ys.length = os.length)
    (hax : sBlk x = sBlk v → sOff v ≤ sOff x) (hay : sBlk y = sBlk v → sOff v ≤ sOff y) (hl : os.length ≤ 1000000000) :
    Calls Tryd.prog 74 #[v, x, y] w fun e w' => ∃ c : Nat, e = .returned (.int .u64 c) ∧ (c ≤ 1 ∧ wv xs + wv ys = wv (wdsN (wv xs + wv ys) os.length) + 18446744073709551616 ^ os.length * c) ∧ VvP v os.length B (wv xs + wv ys) w w' := by
  have hS := ho.isS
  have hSx := hx.isS
  have hSy := hy.isS
  obtain ⟨L, hLw⟩ : ∃ L, L = os.length := ⟨_, rfl⟩
  have hL : sLen v = L := by rw [hLw]; exact ho.len
  have hLx : sLen x = L := by rw [hx.len, hlx, hLw]
  have hLy : sLen y = L := by rw [hy.len, hly, hLw]
  have R0 := Lib.hid (Vv.start ho hLw.symm)
  have HB0 : Hid (0 < L → 0 < sCap v ∧ B ≤ sBlk v) := Lib.hid (fun h => by
    have := hS.le
    have hc : 0 < sCap v := by omega
    exact ⟨hc, (ho.lt hc).1⟩)
  have HXL : Hid (xs.length = L) := Lib.hid (by omega)
  have HYL : Hid (ys.length = L) := Lib.hid (by omega)
  rw [← hLw] at hl ⊢
  have HX := Lib.hid hx
  have HY := Lib.hid hy
  have HAX := Lib.hid hax
  have HAY := Lib.hid hay
  clear ho hLw hx hy hlx hly hax hay
  go_enter Tryd.func74, Tryd.ntmps74
  go_wp2
  go_loopw [6, 25] (fun c i wr => ∃ k d Z : Nat, k ≤ L ∧ i = .int .i64 k ∧ c = .int .u64 d ∧ (d ≤ 1 ∧ wv (xs.take k) + wv (ys.take k) = Z + 18446744073709551616 ^ k * d) ∧ Vv v L B k Z w wr) (fun c i _ => L - (intOf i).toNat)
  case atStart => exact ⟨0, 0, 0, Nat.zero_le _, rfl, rfl, ⟨by omega, by simp [wv]⟩, R0.out⟩
  case round =>
    obtain ⟨k, d, Z, hk, rfl, rfl, ⟨hd, hZ⟩, hrel⟩ := hrel
    have HREL := Lib.hid hrel
    by_cases hkL : k < L
    · obtain ⟨hcap, hB⟩ := HB0.out (by omega)
      have cx := hrel.src HX.out HAX.out (Nat.le_refl k) (by rw [HXL.out]; exact hkL)
      have cy := hrel.src HY.out HAY.out (Nat.le_refl k) (by rw [HYL.out]; exact hkL)
      obtain ⟨u, cv⟩ := hrel.own hkL
      have fz := hrel.frozen hcap (sOff v + k)
      have hxl := getD_ltW HX.out.lt k
      have hyl := getD_ltW HY.out.lt k
      have e1 := wv_take_succ (ws := xs) (i := k) (by rw [HXL.out]; exact hkL)
      have e2 := wv_take_succ (ws := ys) (i := k) (by rw [HYL.out]; exact hkL)
      obtain ⟨a, ha⟩ : ∃ a, a = xs.getD k 0 := ⟨_, rfl⟩
      obtain ⟨b, hb⟩ : ∃ b, b = ys.getD k 0 := ⟨_, rfl⟩
      rw [← ha] at cx hxl e1
      rw [← hb] at cy hyl e2
      obtain ⟨s, c, hsc, hs, hc1⟩ : ∃ s c, a + b + d = s + 18446744073709551616 * c ∧ s < 18446744073709551616 ∧ c ≤ 1 := ⟨(a + b + d) % 18446744073709551616, (a + b + d) / 18446744073709551616, by omega, by omega, by omega⟩
      have HA : Hid (∀ n, Calls Tryd.prog 71 #[.int .u64 a, .int .u64 b, .int .u64 d] (wr.drewN n) fun e w' => e = .returned (.tuple #[.int .u64 s, .int .u64 c]) ∧ w' = wr.drewN n) := Lib.hid (fun n => bitsAddC a b d s c _ hd hsc hs)
      have HZ : Hid (wv (xs.take (k + 1)) + wv (ys.take (k + 1)) = Z + 18446744073709551616 ^ k * s + 18446744073709551616 ^ (k + 1) * c) := Lib.hid (by
        rw [e1, e2, Nat.pow_succ, Nat.mul_assoc]
        have h1 : 18446744073709551616 ^ k * (a + b + d) = 18446744073709551616 ^ k * s + 18446744073709551616 ^ k * (18446744073709551616 * c) := by rw [hsc, Nat.mul_add]
        rw [Nat.mul_add, Nat.mul_add] at h1
        omega)
      have PUT := Lib.hid (fun n => (HREL.out.drewN (k := n)).put hkL hB hs)
      clear hrel e1 e2 ha hb hZ hsc
      go_wp2_with fail
      go_quiet ((go_at_call 71; exact Calls.quiet_of_same (HA.out _)))
      go_wp2
      exact ⟨⟨k + 1, c, _, by omega, by go_num, rfl, ⟨hc1, HZ.out⟩, PUT.out nq⟩, by simp [intOf]; omega⟩
    · have hkk : k = L := by omega
      have HD : Hid ((d ≤ 1 ∧ wv xs + wv ys = wv (wdsN (wv xs + wv ys) L) + 18446744073709551616 ^ L * d) ∧ VvP v L B (wv xs + wv ys) w wr) := Lib.hid (by
        subst hkk
        rw [List.take_of_length_le (by rw [HXL.out]; exact Nat.le_refl _), List.take_of_length_le (by rw [HYL.out]; exact Nat.le_refl _)] at hZ
        have hZl : Z < 18446744073709551616 ^ k := by
          obtain ⟨os', ds, g1, g2, g3, g4, g5, g6, g7, g8⟩ := hrel
          have := wv_lt g5
          rw [g4] at this; omega
        refine ⟨⟨hd, ?_⟩, hrel.done d hZ⟩
        rw [wdsN_wv, hZ, Nat.add_mul_mod_self_left, Nat.mod_eq_of_lt hZl])
      clear hrel hZ HREL
      go_wp2
      go_ret
      exact ⟨d, rfl, HD.out⟩
set_option maxRecDepth 100000 in
theorem addVV_any (v x y : Value) (os : List Value) (xs ys : List Nat) (B : Nat) (w : World) (ho : Own w B 86 v os) (hx : RW w x xs) (hy : RW w y ys) (hlx : xs.length = os.length) (hly : ys.length = os.length)
    (hax : sBlk x = sBlk v → sOff v ≤ sOff x) (hay : sBlk y = sBlk v → sOff v ≤ sOff y) (hl : os.length ≤ 1000000000) :
    Calls Tryd.prog 64 #[v, x, y] w fun e w' => ∃ c : Nat, e = .returned (.int .u64 c) ∧ (c ≤ 1 ∧ wv xs + wv ys = wv (wdsN (wv xs + wv ys) os.length) + 18446744073709551616 ^ os.length * c) ∧ VvP v os.length B (wv xs + wv ys) w w' := by
  have hS := ho.isS
  have hSx := hx.isS
  have hSy := hy.isS
  have H := Lib.hid (addVV_g_any v x y os xs ys B w ho hx hy hlx hly hax hay hl)
  clear ho hx hy hlx hly hax hay hl
  go_enter Tryd.func64, Tryd.ntmps64
  go_wp2_with fail
  refine H.out.mono ?_
  rintro _ w1 ⟨c, rfl, h1, h2⟩
  have H1 := Lib.hid (And.intro h1 h2)
  clear h1 h2
  go_wp2
  go_ret
  exact ⟨c, rfl, H1.out⟩
/-- A difference with its borrow. -/
def sbN (X Y n c : Nat) : Nat := X + 18446744073709551616 ^ n * c - Y
set_option maxRecDepth 100000 in
set_option maxHeartbeats 1600000 in
theorem subVV_g_any (v x y : Value) (os : List Value) (xs ys : List Nat) (B : Nat) (w : World) (ho : Own w B 86 v os) (hx : RW w x xs) (hy : RW w y ys) (hlx : xs.length = os.length) (hly : ys.length = os.length)
    (hax : sBlk x = sBlk v → sOff v ≤ sOff x) (hay : sBlk y = sBlk v → sOff v ≤ sOff y) (hl : os.length ≤ 1000000000) :
    Calls Tryd.prog 76 #[v, x, y] w fun e w' => ∃ c : Nat, e = .returned (.int .u64 c) ∧ (∃ Z, c ≤ 1 ∧ Z < 18446744073709551616 ^ os.length ∧ wv xs + 18446744073709551616 ^ os.length * c = Z + wv ys ∧ VvP v os.length B Z w w') := by
  have hS := ho.isS
  have hSx := hx.isS
  have hSy := hy.isS
  obtain ⟨L, hLw⟩ : ∃ L, L = os.length := ⟨_, rfl⟩
  have hL : sLen v = L := by rw [hLw]; exact ho.len
  have hLx : sLen x = L := by rw [hx.len, hlx, hLw]
  have hLy : sLen y = L := by rw [hy.len, hly, hLw]
  have R0 := Lib.hid (Vv.start ho hLw.symm)
  have HB0 : Hid (0 < L → 0 < sCap v ∧ B ≤ sBlk v) := Lib.hid (fun h => by
    have := hS.le
    have hc : 0 < sCap v := by omega
    exact ⟨hc, (ho.lt hc).1⟩)
  have HXL : Hid (xs.length = L) := Lib.hid (by omega)
  have HYL : Hid (ys.length = L) := Lib.hid (by omega)
  rw [← hLw] at hl ⊢
  have HX := Lib.hid hx
  have HY := Lib.hid hy
  have HAX := Lib.hid hax
  have HAY := Lib.hid hay
  clear ho hLw hx hy hlx hly hax hay
  go_enter Tryd.func76, Tryd.ntmps76
  go_wp2
  go_loopw [6, 25] (fun c i wr => ∃ k d Z : Nat, k ≤ L ∧ i = .int .i64 k ∧ c = .int .u64 d ∧ (d ≤ 1 ∧ wv (xs.take k) + 18446744073709551616 ^ k * d = Z + wv (ys.take k)) ∧ Vv v L B k Z w wr) (fun c i _ => L - (intOf i).toNat)
  case atStart => exact ⟨0, 0, 0, Nat.zero_le _, rfl, rfl, ⟨by omega, by simp [wv]⟩, R0.out⟩
  case round =>
    obtain ⟨k, d, Z, hk, rfl, rfl, ⟨hd, hZ⟩, hrel⟩ := hrel
    have HREL := Lib.hid hrel
    by_cases hkL : k < L
    · obtain ⟨hcap, hB⟩ := HB0.out (by omega)
      have cx := hrel.src HX.out HAX.out (Nat.le_refl k) (by rw [HXL.out]; exact hkL)
      have cy := hrel.src HY.out HAY.out (Nat.le_refl k) (by rw [HYL.out]; exact hkL)
      obtain ⟨u, cv⟩ := hrel.own hkL
      have fz := hrel.frozen hcap (sOff v + k)
      have hxl := getD_ltW HX.out.lt k
      have hyl := getD_ltW HY.out.lt k
      have e1 := wv_take_succ (ws := xs) (i := k) (by rw [HXL.out]; exact hkL)
      have e2 := wv_take_succ (ws := ys) (i := k) (by rw [HYL.out]; exact hkL)
      obtain ⟨a, ha⟩ : ∃ a, a = xs.getD k 0 := ⟨_, rfl⟩
      obtain ⟨b, hb⟩ : ∃ b, b = ys.getD k 0 := ⟨_, rfl⟩
      rw [← ha] at cx hxl e1
      rw [← hb] at cy hyl e2
      obtain ⟨s, c, hsc, hs, hc1⟩ : ∃ s c, a + 18446744073709551616 * c = s + b + d ∧ s < 18446744073709551616 ∧ c ≤ 1 := by
        by_cases h : a < b + d
        · exact ⟨a + 18446744073709551616 - b - d, 1, by omega, by omega, by omega⟩
        · exact ⟨a - b - d, 0, by omega, by omega, by omega⟩
      have HA : Hid (∀ n, Calls Tryd.prog 77 #[.int .u64 a, .int .u64 b, .int .u64 d] (wr.drewN n) fun e w' => e = .returned (.tuple #[.int .u64 s, .int .u64 c]) ∧ w' = wr.drewN n) := Lib.hid (fun n => bitsSubC a b d s c _ hd hc1 hsc hxl hyl hs)
      have HZ : Hid (wv (xs.take (k + 1)) + 18446744073709551616 ^ (k + 1) * c = Z + 18446744073709551616 ^ k * s + wv (ys.take (k + 1))) := Lib.hid (by
        rw [e1, e2, Nat.pow_succ, Nat.mul_assoc]
        have h1 : 18446744073709551616 ^ k * (a + 18446744073709551616 * c) = 18446744073709551616 ^ k * (s + b + d) := by rw [hsc]
        rw [Nat.mul_add, Nat.mul_add, Nat.mul_add] at h1
        omega)
      have PUT := Lib.hid (fun n => (HREL.out.drewN (k := n)).put hkL hB hs)
      clear hrel e1 e2 ha hb hZ hsc
      go_wp2_with fail
      go_quiet ((go_at_call 77; exact Calls.quiet_of_same (HA.out _)))
      go_wp2
      exact ⟨⟨k + 1, c, _, by omega, by go_num, rfl, ⟨hc1, HZ.out⟩, PUT.out nq⟩, by simp [intOf]; omega⟩
    · have hkk : k = L := by omega
      have HD : Hid (∃ Z, d ≤ 1 ∧ Z < 18446744073709551616 ^ L ∧ wv xs + 18446744073709551616 ^ L * d = Z + wv ys ∧ VvP v L B Z w wr) := Lib.hid (by
        subst hkk
        rw [List.take_of_length_le (by rw [HXL.out]; exact Nat.le_refl _), List.take_of_length_le (by rw [HYL.out]; exact Nat.le_refl _)] at hZ
        have hZl : Z < 18446744073709551616 ^ k := by
          obtain ⟨os', ds, g1, g2, g3, g4, g5, g6, g7, g8⟩ := hrel
          have := wv_lt g5
          rw [g4] at this; omega
        exact ⟨Z, hd, hZl, hZ, hrel.done 0 (by omega)⟩)
      clear hrel hZ HREL
      go_wp2
      go_ret
      exact ⟨d, rfl, HD.out⟩
set_option maxRecDepth 100000 in
theorem subVV_any (v x y : Value) (os : List Value) (xs ys : List Nat) (B : Nat) (w : World) (ho : Own w B 86 v os) (hx : RW w x xs) (hy : RW w y ys) (hlx : xs.length = os.length) (hly : ys.length = os.length)
    (hax : sBlk x = sBlk v → sOff v ≤ sOff x) (hay : sBlk y = sBlk v → sOff v ≤ sOff y) (hl : os.length ≤ 1000000000) :
    Calls Tryd.prog 66 #[v, x, y] w fun e w' => ∃ c : Nat, e = .returned (.int .u64 c) ∧ (∃ Z, c ≤ 1 ∧ Z < 18446744073709551616 ^ os.length ∧ wv xs + 18446744073709551616 ^ os.length * c = Z + wv ys ∧ VvP v os.length B Z w w') := by
  have hS := ho.isS
  have hSx := hx.isS
  have hSy := hy.isS
  have H := Lib.hid (subVV_g_any v x y os xs ys B w ho hx hy hlx hly hax hay hl)
  clear ho hx hy hlx hly hax hay hl
  go_enter Tryd.func66, Tryd.ntmps66
  go_wp2_with fail
  refine H.out.mono ?_
  rintro _ w1 ⟨c, rfl, h1⟩
  have H1 := Lib.hid h1
  clear h1
  go_wp2
  go_ret
  exact ⟨c, rfl, H1.out⟩
end Go.Proofs.YtgclooabjilniaaDoor

/-
Floats: round, any mode. No condition.
-/
namespace Go.Proofs.YtgclooabjilniaaDoor
open Go.RowKit

theorem wpList_copy_F {P : Program} {w : World} {ops : Array Oper} {rest : List Oper} {o : Oper} {a : Act} {Q : Exit → Act → World → Prop} (hgd : o.guard = none) (d s : Operand) (dT sT : TypeId)
    (ho : o.op = .call { callee := .builtin .copy, args := #[d, s], argTypes := #[dT, sT] }) (elem : TypeId) (hu : P.underlying dT = some (.slice elem)) (hsz : (P.info? elem).map (·.size) = some 1)
    (v vx : Value) (hd : a.eval d = v) (hs : a.eval s = vx) (B : Nat) (xs : List Value) (hown : Own w B elem v xs) (cs : List Value) (h0 : 0 < cs.length) (hlen : cs.length ≤ xs.length) (hsx : IsS vx) (hlx : sLen vx = cs.length)
    (hsrc : ∀ j u, cs[j]? = some u → w.cell? ⟨sBlk vx, sOff vx + j, none⟩ = some u) (h1 : ∀ v ∈ cs, v.oneCell' = true)
    (h : ∀ w', Own w' B elem v (cs ++ xs.drop cs.length) → Below B w w' → Only (sBlk v) w w' → wpList P ops Q rest (a.put o.dst (goInt cs.length)) w') : wpList P ops Q (o :: rest) a w := by
  have hL := hown.len
  have hC := hown.isS.le
  have hCx := hsx.le
  rcases hown.row with hr | ⟨hb, cur, hg, hcs, ht⟩
  · omega
  · have hv := hown.isS.out (by omega)
    have hvx := hsx.out (by omega)
    refine wpList_copy_own hgd d s dT sT ho elem hu hsz (sBlk v) (sOff v) (sLen v) (sCap v) ⟨sBlk vx, sOff vx, none⟩ (sLen vx) (sCap vx) (hd.trans hv) (hs.trans hvx) cur elem hg cs (by rw [hlx, hL]; exact (Nat.min_eq_left hlen).symm) (fun j u hj => by rw [add_none]; exact hsrc j u hj) (by omega) h1 ?_
    refine h _ ⟨hown.isS, by simp; omega, hown.cap, .inr ⟨hb, _, setRow_heap w _ _ _ _ _ hg, ?_, ?_⟩⟩ (below_setRow (Below.refl _ _) hb _) (fun k hk hne => setRow_other w _ k _ hne)
    · simp; omega
    · have hlt : (cur.toList.take (sOff v)).length = sOff v := by simp; omega
      rw [List.toList_toArray, List.drop_left' hlt]
      have e1 : (cs ++ xs.drop cs.length).length = cs.length + (xs.length - cs.length) := by simp
      have e2 : xs.drop cs.length = (cur.toList.drop (sOff v + cs.length)).take (xs.length - cs.length) := by
        conv => lhs; rw [← ht, List.drop_take, List.drop_drop]
      rw [e1, e2, List.take_append, List.take_of_length_le (show cs.length ≤ cs.length + (xs.length - cs.length) by omega)]
      congr 2; omega
theorem cellsW_drop (ws : List Nat) (k : Nat) : (cellsW ws).drop k = cellsW (ws.drop k) := by unfold cellsW; rw [List.map_drop]
theorem cellsW_take (ws : List Nat) (k : Nat) : (cellsW ws).take k = cellsW (ws.take k) := by unfold cellsW; rw [List.map_take]
theorem Own.dropW {w : World} {B e L k : Nat} {v : Value} {ws : List Nat} (h : Own w B e v (cellsW ws)) (hL : L = ws.length) (hk : k ≤ L) : Own w B e (subS v k L) (cellsW (ws.drop k)) := by
  have := h.sub (l := k) (n := L) hk (by rw [cellsW_length]; omega)
  rw [List.take_of_length_le (by rw [cellsW_length]; omega), cellsW_drop] at this
  exact this
set_option maxRecDepth 100000 in
theorem makeAcc_any (x : Bool) (w : World) : Calls Tryd.prog 34 #[.bool x] w fun e w' => e = .returned (.int .i8 (if x then 1 else -1)) ∧ w = w' := by
  cases x <;> go_enter Tryd.func34, Tryd.ntmps34 <;> go_wp2 <;> go_ret <;> exact ⟨rfl, rfl⟩
end Go.Proofs.YtgclooabjilniaaDoor

/-
Floats: round, any mode. No condition.
-/
namespace Go.Proofs.YtgclooabjilniaaDoor
open Go.RowKit

/-- What round gives: a value of N times 2 to X, rounded. -/
def RndP (B b p m : Nat) (neg : Bool) (s N : Nat) (X : Int) (w w' : World) : Prop :=
  ∃ v ws e, FltR w' b p m (rA p m neg s N) 1 neg v e ∧ Own w' B 86 v (cellsW ws) ∧ Good ws p ∧ deq (wv ws) (e - 64 * (ws.length : Int)) (rQ p m neg s N) (X + rk p N) ∧ Below B w w'
/-- The same ahead of the last step: the last bits are not struck yet. -/
def RndM (B b p m : Nat) (neg : Bool) (s N n t : Nat) (X : Int) (w w' : World) : Prop :=
  ∃ v ws e, FltR w' b p m (rA p m neg s N) 1 neg v e ∧ Own w' B 86 v (cellsW ws) ∧ ws.length = n ∧ (∀ d ∈ ws, d < 18446744073709551616) ∧ 2 ^ (64 * n - 1) ≤ wv ws ∧ deq (wv ws / 2 ^ t * 2 ^ t) (e - 64 * (n : Int)) (rQ p m neg s N) (X + rk p N) ∧ Below B w w'
theorem rnd_setup {ws : List Nat} {p : Nat} (hd : ∀ d ∈ ws, d < 18446744073709551616) (hp0 : 0 < p) (hpL : p < 64 * ws.length) (htop : 2 ^ (64 * ws.length - 1) ≤ wv ws) {r n t : Nat} (hr : r = 64 * ws.length - p - 1) (hn : n = (p + 63) / 64) (ht : t = 64 * n - p) :
    bl (wv ws) = 64 * ws.length ∧ rk p (wv ws) = r + 1 ∧ n ≤ ws.length ∧ 0 < n ∧ t < 64 ∧ t + p = 64 * n ∧ (∀ d ∈ ws.drop (ws.length - n), d < 18446744073709551616) ∧ (ws.drop (ws.length - n)).length = n ∧
      wv (ws.drop (ws.length - n)) / 2 ^ t = wv ws / 2 ^ rk p (wv ws) ∧ wv (ws.drop (ws.length - n)) < 2 ^ (64 * n) ∧ 2 ^ (64 * n - 1) ≤ wv (ws.drop (ws.length - n)) := by
  have h4 := wv_lt hd
  rw [w_two] at h4
  have hb := bl_of (k := 64 * ws.length - 1) htop (by rw [show 64 * ws.length - 1 + 1 = 64 * ws.length by omega]; exact h4)
  have hnl : n ≤ ws.length := by omega
  have hk : rk p (wv ws) = r + 1 := by unfold rk; omega
  have hdd : ∀ d ∈ ws.drop (ws.length - n), d < 18446744073709551616 := fun d h => hd d (List.mem_of_mem_drop h)
  have hlen : (ws.drop (ws.length - n)).length = n := by rw [List.length_drop]; omega
  have hlt := wv_lt hdd
  rw [hlen, w_two] at hlt
  have hv := wv_drop hd (show ws.length - n ≤ ws.length by omega)
  refine ⟨by omega, hk, hnl, by omega, by omega, by omega, hdd, hlen, ?_, hlt, ?_⟩
  · rw [hv, w_two, Nat.div_div_eq_div_mul, ← Nat.pow_add, hk]; congr 2; omega
  · rw [hv, w_two, Nat.le_div_iff_mul_le (Nat.two_pow_pos _), ← Nat.pow_add]
    exact Nat.le_trans (Nat.pow_le_pow_right (by decide) (by omega)) htop
/-- Nothing is carried out. -/
theorem fin_a {N3 Q n t p L r : Nat} {e : Int} (h : N3 / 2 ^ t = Q) (ht : t + p = 64 * n) (hr : r + 1 + p = 64 * L) : deq (N3 / 2 ^ t * 2 ^ t) (e - 64 * (n : Int)) Q (e - 64 * (L : Int) + ((r + 1 : Nat) : Int)) := by
  rw [h]
  refine ⟨0, t, by simp, ?_⟩
  push_cast; omega
/-- One is carried out. -/
theorem fin_b {x n t p L r : Nat} {e : Int} (hx : x < 2 ^ t) (hn : 0 < n) (hp : 0 < p) (ht : t + p = 64 * n) (hr : r + 1 + p = 64 * L) : deq ((2 ^ (64 * n - 1) + x) / 2 ^ t * 2 ^ t) (e + 1 - 64 * (n : Int)) (2 ^ p) (e - 64 * (L : Int) + ((r + 1 : Nat) : Int)) := by
  have e1 : (2 ^ (64 * n - 1) + x) / 2 ^ t = 2 ^ (p - 1) := by
    rw [show 64 * n - 1 = t + (p - 1) by omega, Nat.pow_add, Nat.mul_add_div (Nat.two_pow_pos t), Nat.div_eq_of_lt hx]; rfl
  rw [e1, ← Nat.pow_add]
  refine ⟨1, t, ?_, ?_⟩
  · rw [← Nat.pow_add, ← Nat.pow_add]; congr 1; omega
  · push_cast; omega
/-- The tests of the sticky bit. -/
theorem and1 {x : Nat} (h : x ≤ 1) : bits .and .u64 (x : Int) 1 = (x : Int) := by
  rcases (by omega : x = 0 ∨ x = 1) with rfl | rfl <;> decide +kernel
theorem or01 {x y : Nat} (hx : x ≤ 1) (hy : y ≤ 1) : (bits .or .u64 (x : Int) (y : Int) != 0) = !(decide (x = 0) && decide (y = 0)) := by
  rcases (by omega : x = 0 ∨ x = 1) with rfl | rfl <;> rcases (by omega : y = 0 ∨ y = 1) with rfl | rfl <;> decide +kernel
/-- A part of a function's code: 1, 2 a sequence's parts, 3, 4 a condition's, 5 a block's body. -/
def nav : List Nat → Code → Code
  | [], c => c
  | 1 :: ks, .seq a _ => nav ks a
  | 2 :: ks, .seq _ b => nav ks b
  | 3 :: ks, .cond _ t _ => nav ks t
  | 4 :: ks, .cond _ _ e => nav ks e
  | 5 :: ks, .block _ b => nav ks b
  | _, c => c
def fbody (f : Func) : Code := f.body.getD .skip
end Go.Proofs.YtgclooabjilniaaDoor
