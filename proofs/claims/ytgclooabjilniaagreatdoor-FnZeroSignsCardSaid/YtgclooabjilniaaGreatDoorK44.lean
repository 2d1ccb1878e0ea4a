/-
Texts of this proof, joined: IzJ. No condition.
-/
import Derived.Test.YtgclooabjilniaaGreatDoorK35
import Derived.Test.YtgclooabjilniaaGreatDoorK37
/-
The statement on the signs of zeros. No condition.
-/
namespace Go.Proofs.YtgclooabjilniaaGreatDoor
open Go.RowKit

theorem smV_self (a : Bool) (M : Nat) (E : Int) : smV a M E (!a) M E = 0 := by
  unfold smV; cases a <;> simp [sI] <;> omega
theorem prV_zero {f1 f2 M N : Nat} {n : Bool} (_h1 : f1 ≤ 1) (_h2 : f2 ≤ 1) (h : f1 = 0 ∨ f2 = 0) : (0 : Int) = sI n (dyM f1 M * dyM f2 N) := by
  rcases h with h | h
  · rw [show dyM f1 M = 0 from if_neg (by omega), Nat.zero_mul, sI_zero]
  · rw [show dyM f2 N = 0 from if_neg (by omega), Nat.mul_zero, sI_zero]
set_option maxRecDepth 100000 in
set_option maxHeartbeats 6400000 in
theorem lawZeroSigns0 (a0 : Int) (a1 : Int) (a2 : Int) (p1 : Nat) (m1 f1 : Int) (n1 : Bool) (v1 : Value) (e1 : Int) (xs1 : List Nat) (p2 : Nat) (m2 f2 : Int) (n2 : Bool) (v2 : Value) (e2 : Int) (xs2 : List Nat) (w : World) (hop : a0 % 3 = 0) (hT : TabW w) (l0 : 0 ≤ a0) (h0 : a0 ≤ 255) (l1 : 0 ≤ a1) (h1 : a1 ≤ 65535) (l2 : 0 ≤ a2) (h2 : a2 ≤ 255) (hv1 : RW w v1 xs1) (_hg1 : p1 ≤ 18446744073709551615 ∧ (-9223372036854775808 ≤ m1 ∧ m1 ≤ 9223372036854775807) ∧ (-9223372036854775808 ≤ f1 ∧ f1 ≤ 9223372036854775807) ∧ (-9223372036854775808 ≤ e1 ∧ e1 ≤ 9223372036854775807)) (hv2 : RW w v2 xs2) (_hg2 : p2 ≤ 18446744073709551615 ∧ (-9223372036854775808 ≤ m2 ∧ m2 ≤ 9223372036854775807) ∧ (-9223372036854775808 ≤ f2 ∧ f2 ≤ 9223372036854775807) ∧ (-9223372036854775808 ≤ e2 ∧ e2 ≤ 9223372036854775807)) :
    Calls Tryz.prog 11 #[.int .u8 a0, .int .u16 a1, .int .u8 a2, .agg #[.int .u64 p1, .int .i64 m1, .int .i64 f1, .bool n1, v1, .int .i64 e1], .agg #[.int .u64 p2, .int .i64 m2, .int .i64 f2, .bool n2, v2, .int .i64 e2]] w fun e' w' => e' = .returned (.bool true) ∧ Below w.heap.size w w' := by
  obtain ⟨b0, rfl⟩ := Int.eq_ofNat_of_zero_le l0
  have ib0 : b0 ≤ 255 := by omega
  obtain ⟨b1, rfl⟩ := Int.eq_ofNat_of_zero_le l1
  have ib1 : b1 ≤ 65535 := by omega
  obtain ⟨b2, rfl⟩ := Int.eq_ofNat_of_zero_le l2
  have ib2 : b2 ≤ 255 := by omega
  have hS1 := hv1.isS
  have HV0 := Lib.hid hv1
  have HT0 := Lib.hid hT
  clear _hg1
  have hS2 := hv2.isS
  clear _hg2
  have hab1 := (Below.refl w.heap.size w).alloc (Nat.le_refl _) (.cells #[.int .u64 p1, .int .i64 m1, .int .i64 f1, .bool n1, v1, .int .i64 e1] 39)
  have hab2 := hab1.alloc hab1.size (.cells #[.int .u64 p2, .int .i64 m2, .int .i64 f2, .bool n2, v2, .int .i64 e2] 39)
  obtain ⟨X, hX⟩ : ∃ X, X = ((w.alloc (.cells #[.int .u64 p1, .int .i64 m1, .int .i64 f1, .bool n1, v1, .int .i64 e1] 39)).alloc (.cells #[.int .u64 p2, .int .i64 m2, .int .i64 f2, .bool n2, v2, .int .i64 e2] 39)) := ⟨_, rfl⟩
  have hr1 : X.heap[w.heap.size]? = some (.cells #[.int .u64 p1, .int .i64 m1, .int .i64 f1, .bool n1, v1, .int .i64 e1] 39 (0, 0)) := by
    rw [hX]; exact row_chain21
  have hr2 : X.heap[w.heap.size + 1]? = some (.cells #[.int .u64 p2, .int .i64 m2, .int .i64 f2, .bool n2, v2, .int .i64 e2] 39 (0, 0)) := by
    rw [hX]; exact row_chain22
  rw [← hX] at hab2
  obtain ⟨-, ⟨⟨c10, c11, c12, c13, c14, c15⟩, ⟨c20, c21, c22, c23, c24, c25⟩⟩⟩ := ksR2 hr1 hr2 (Below.refl _ _)
  have HR1 := Lib.hid hr1
  have V1 := Lib.hid (hv1.below hab2)
  have HR2 := Lib.hid hr2
  have V2 := Lib.hid (hv2.below hab2)
  have hXs := hab2.size
  have HW := Lib.hid hab2
  have T0 := Lib.hid (hT.below hab2)
  clear hT
  clear hr1 hv1 hr2 hv2
  clear hab2 hab1
  go_enter Tryz.func11, Tryz.ntmps11
  go_upto_region 1 with fail
  rw [← hX]
  clear hX
  go_wp2_with fail
  refine (zzFits1_any p1 m1 f1 e1 n1 v1 xs1 X V1.out).mono ?_
  rintro _ w1 ⟨rfl, hb1⟩
  obtain ⟨fits, hfits⟩ : ∃ f, f = decide (xs1.length ≤ 2147483647) := ⟨_, rfl⟩
  rw [← hfits]
  clear c10 c11 c12 c13 c14 c15 c20 c21 c22 c23 c24 c25 hfits
  obtain ⟨-, ⟨⟨c10, c11, c12, c13, c14, c15⟩, ⟨c20, c21, c22, c23, c24, c25⟩⟩⟩ := ksR2 HR1.out HR2.out hb1
  have HB := Lib.hid hb1
  clear hb1
  cases fits with
  | false =>
    go_wp2
    go_ret
    exact ⟨rfl, HW.out.trans (HB.out.mono hXs)⟩
  | true =>
  go_wp2_with fail
  refine (zzFits1_any p2 m2 f2 e2 n2 v2 xs2 w1 (V2.out.below HB.out)).mono ?_
  rintro _ w2 ⟨rfl, hb1⟩
  have hb1 := bthen HB.out hb1
  obtain ⟨fits, hfits⟩ : ∃ f, f = decide (xs2.length ≤ 2147483647) := ⟨_, rfl⟩
  rw [← hfits]
  clear c10 c11 c12 c13 c14 c15 c20 c21 c22 c23 c24 c25 HB hfits
  obtain ⟨-, ⟨⟨c10, c11, c12, c13, c14, c15⟩, ⟨c20, c21, c22, c23, c24, c25⟩⟩⟩ := ksR2 HR1.out HR2.out hb1
  have HB := Lib.hid hb1
  clear hb1
  cases fits with
  | false =>
    go_wp2
    go_ret
    exact ⟨rfl, HW.out.trans (HB.out.mono hXs)⟩
  | true =>
  go_wp2_with fail
  refine (number_any p1 m1 f1 e1 n1 v1 xs1 w2 (V1.out.below HB.out)).mono ?_
  rintro _ w3 ⟨ok, rfl, hok, hb1⟩
  have hb1 := bthen HB.out hb1
  have HO1 := Lib.hid hok
  clear c10 c11 c12 c13 c14 c15 c20 c21 c22 c23 c24 c25 HB hok
  obtain ⟨-, ⟨⟨c10, c11, c12, c13, c14, c15⟩, ⟨c20, c21, c22, c23, c24, c25⟩⟩⟩ := ksR2 HR1.out HR2.out hb1
  have HB := Lib.hid hb1
  clear hb1
  cases ok with
  | false =>
    go_wp2
    go_ret
    exact ⟨rfl, HW.out.trans (HB.out.mono hXs)⟩
  | true =>
  obtain ⟨hn, P1, M1, F1, hp, rfl, rfl, hR⟩ := HO1.out rfl
  have hpp : P1 = p1 := by omega
  subst hpp
  have R1 := Lib.hid hR
  have N1 : Hid (F1 ≠ 2) := Lib.hid (fun h => hn (by rw [h]; rfl))
  clear HO1 hp hR hn
  go_wp2_with fail
  refine (number_any p2 m2 f2 e2 n2 v2 xs2 w3 (V2.out.below HB.out)).mono ?_
  rintro _ w4 ⟨ok, rfl, hok, hb1⟩
  have hb1 := bthen HB.out hb1
  have HO2 := Lib.hid hok
  clear c10 c11 c12 c13 c14 c15 c20 c21 c22 c23 c24 c25 HB hok
  obtain ⟨-, ⟨⟨c10, c11, c12, c13, c14, c15⟩, ⟨c20, c21, c22, c23, c24, c25⟩⟩⟩ := ksR2 HR1.out HR2.out hb1
  have HB := Lib.hid hb1
  clear hb1
  cases ok with
  | false =>
    go_wp2
    go_ret
    exact ⟨rfl, HW.out.trans (HB.out.mono hXs)⟩
  | true =>
  obtain ⟨hn, P2, M2, F2, hp, rfl, rfl, hR⟩ := HO2.out rfl
  have hpp : P2 = p2 := by omega
  subst hpp
  have R2 := Lib.hid hR
  have N2 : Hid (F2 ≠ 2) := Lib.hid (fun h => hn (by rw [h]; rfl))
  clear HO2 hp hR hn
  have hWW := HW.out.trans (HB.out.mono hXs)
  have hV1 := V1.out.below HB.out
  have hr1 := keep_row HB.out HR1.out
  have hV2 := V2.out.below HB.out
  have hr2 := keep_row HB.out HR2.out
  have hT0 := T0.out.below HB.out
  clear T0
  have T0 := Lib.hid hT0
  clear hT0
  clear HW HB hXs V1 HR1 V2 HR2
  have HW := Lib.hid hWW
  have V1 := Lib.hid hV1
  have HR1 := Lib.hid hr1
  have V2 := Lib.hid hV2
  have HR2 := Lib.hid hr2
  have hWs := HW.out.size
  clear hWW hV1 hr1 hV2 hr2
  have q0 : (b0 : Int) % 3 = 0 := hop
  have q1 : (b1 : Int) % 300 = ((b1 % 300 : Nat) : Int) := by omega
  have q2 : (1 : Int) + ((b1 % 300 : Nat) : Int) = ((1 + b1 % 300 : Nat) : Int) := by omega
  have q3 : (b2 : Int) % 6 = ((b2 % 6 : Nat) : Int) := by omega
  have hZ0 : 0 < 1 + b1 % 300 := by omega
  have hZ1 : 1 + b1 % 300 ≤ 300 := by omega
  have hrb : b1 % 300 ≤ 299 := by omega
  have hkb : b2 % 6 ≤ 5 := by omega
  obtain ⟨Z, hZ⟩ : ∃ Z, Z = 1 + b1 % 300 := ⟨_, rfl⟩
  rw [← hZ] at q2 hZ0 hZ1
  obtain ⟨r, hr⟩ : ∃ r, r = b1 % 300 := ⟨_, rfl⟩
  rw [← hr] at q1 q2 hrb
  obtain ⟨k, hk⟩ : ∃ k, k = b2 % 6 := ⟨_, rfl⟩
  rw [← hk] at q3 hkb
  have HZ0 := Lib.hid hZ0
  clear hZ hr hk hop
  have hf1 : F1 ≤ 1 := by have := R1.out.form'; have := N1.out; omega
  have hf2 : F2 ≤ 1 := by have := R2.out.form'; have := N2.out; omega
  go_upto_region 7 with fail
  have hR2 := HR2.out
  obtain ⟨-, g0, g1, g2, g3, g4, g5⟩ := row6 hR2
  go_upto_region 8 with fail
  obtain ⟨W', hW'⟩ : ∃ W', W' = ((((((w4.setCell ⟨w.heap.size + 1, 0, none⟩ (.int .u64 (P1 : Int))).setCell ⟨w.heap.size + 1, 1, none⟩ (.int .i64 (M1 : Int))).setCell ⟨w.heap.size + 1, 2, none⟩ (.int .i64 (F1 : Int))).setCell ⟨w.heap.size + 1, 3, none⟩ (.bool n1)).setCell ⟨w.heap.size + 1, 4, none⟩ (v1)).setCell ⟨w.heap.size + 1, 5, none⟩ (.int .i64 e1)) := ⟨_, rfl⟩
  rw [← hW']
  have hr2 : W'.heap[w.heap.size + 1]? = some (.cells #[.int .u64 (P1 : Int), .int .i64 (M1 : Int), .int .i64 (F1 : Int), .bool n1, v1, .int .i64 e1] 39 (0, 0)) := by rw [hW']; exact row6_set HR2.out
  have hr1 : W'.heap[w.heap.size]? = some (.cells #[.int .u64 (P1 : Int), .int .i64 (M1 : Int), .int .i64 (F1 : Int), .bool n1, v1, .int .i64 e1] 39 (0, 0)) := by rw [hW']; exact (heap6_other (by omega)).trans HR1.out
  have hB' : Below w.heap.size w W' := by rw [hW']; exact bset6 HW.out (by omega)
  clear HW HR1 HR2 hWs g0 g1 g2 g3 g4 g5 hR2 c10 c11 c12 c13 c14 c15 c20 c21 c22 c23 c24 c25 hW'
  have HW := Lib.hid hB'
  have HR1 := Lib.hid hr1
  have HR2 := Lib.hid hr2
  have hWs := hB'.size
  have HVN := Lib.hid (HV0.out.below hB')
  have HTN := Lib.hid (HT0.out.below hB')
  obtain ⟨-, ⟨⟨c10, c11, c12, c13, c14, c15⟩, ⟨c20, c21, c22, c23, c24, c25⟩⟩⟩ := ksR2 hr1 hr2 (Below.refl _ _)
  clear hr1 hr2 hB'
  have hPO : pOf Z (max P1 P1) = Z := pOf_pos HZ0.out
  have HC := Lib.hid (impSub 300 1000 Z k P1 M1 F1 P1 M1 F1 n1 n1 v1 v1 e1 e1 xs1 xs1 W' HVN.out HVN.out R1.out R1.out hf1 hf1 (by decide) (by decide) (by omega) hkb (by omega) HTN.out)
  rw [hPO, smV_self] at HC
  clear hPO
  by_cases hF : F1 = 0
  · have t0 : ((F1 : Int) == 0) = true := by rw [hF]; rfl
    clear hF hf1 hf2
    go_wp2_with fail
    refine HC.out.mono ?_
    rintro _ wN ⟨z, A, rfl, hz, hb1⟩
    obtain ⟨f, sg, vz, Ez, rfl, hSz⟩ := hz.form
    obtain ⟨Y, hY⟩ : ∃ Y, Y = wN.alloc (.cells #[.int .u64 (Z : Int), .int .i64 (k : Int), .int .i64 (f : Int), .bool sg, vz, .int .i64 Ez] 39) := ⟨_, rfl⟩
    have hbY : Below wN.heap.size wN Y := by rw [hY]; exact fbone _
    have hbX := bthen hb1 hbY
    have hr1 := keep_row hbX HR1.out
    have HWY := Lib.hid (HW.out.trans (hbX.mono hWs))
    clear c10 c11 c12 c13 c14 c15 c20 c21 c22 c23 c24 c25
    obtain ⟨-, x10, x11, x12, x13, x14, x15⟩ := ks12 hr1 (Below.refl _ _)
    clear hb1 hbY hbX hz hr1 HC
    go_upto_region 9 with fail
    rw [← hY]
    clear hY
    go_wp2
    go_ret
    exact ⟨rfl, HWY.out⟩
  · have t0 : ((F1 : Int) == 0) = false := by rw [beq_eq_false_iff_ne]; omega
    have HF1 : Hid (F1 = 1) := Lib.hid (by omega)
    obtain ⟨sg, hsg⟩ : ∃ sg, sg = decide (k = 4) := ⟨_, rfl⟩
    have t4 : ((k : Int) == 4) = sg := by
      rw [hsg]
      by_cases h : k = 4
      · rw [h]; rfl
      · rw [decide_eq_false h, beq_eq_false_iff_ne]; omega
    have Hsg := Lib.hid hsg
    clear hF hf1 hf2 hsg
    go_wp2_with fail
    refine HC.out.mono ?_
    rintro _ wN ⟨z, A, rfl, hz, hb1⟩
    obtain ⟨hA, hz⟩ := hz
    rw [if_pos rfl, if_pos HF1.out, ← Hsg.out] at hz
    have hAb : -1 ≤ A ∧ A ≤ 1 := by rw [hA]; exact rA_bd _ _ _ _ _
    have hz : RealV wN z Z k 0 sg _ _ := hz
    clear hA HC
    obtain ⟨vz, rfl, hRz⟩ := hz.canon
    obtain ⟨Ez, hEz⟩ : ∃ Ez, Ez = zEx 0 _ _ := ⟨_, rfl⟩
    rw [← hEz]
    have hSz := hRz.isS
    clear hEz
    obtain ⟨Y, hY⟩ : ∃ Y, Y = wN.alloc (.cells #[.int .u64 (Z : Int), .int .i64 (k : Int), .int .i64 0, .bool sg, vz, .int .i64 Ez] 39) := ⟨_, rfl⟩
    have hbY : Below wN.heap.size wN Y := by rw [hY]; exact fbone _
    have hrz : Y.heap[wN.heap.size]? = some (.cells #[.int .u64 (Z : Int), .int .i64 (k : Int), .int .i64 0, .bool sg, vz, .int .i64 Ez] 39 (0, 0)) := by rw [hY]; exact row_chain11
    have hbX := bthen hb1 hbY
    have hr1 := keep_row hbX HR1.out
    have hr2 := keep_row hbX HR2.out
    have HWY := Lib.hid (HW.out.trans (hbX.mono hWs))
    clear c10 c11 c12 c13 c14 c15 c20 c21 c22 c23 c24 c25
    obtain ⟨-, ⟨x10, x11, x12, x13, x14, x15⟩, ⟨x20, x21, x22, x23, x24, x25⟩, ⟨x30, x31, x32, x33, x34, x35⟩⟩ := ksR3 hr1 hr2 hrz (Below.refl _ _)
    clear hb1 hbY hrz hbX hz hRz hr1 hr2
    go_upto_region 9 with fail
    rw [← hY]
    clear hY
    go_wp2
    go_ret
    exact ⟨rfl, HWY.out⟩
set_option maxRecDepth 100000 in
set_option maxHeartbeats 6400000 in
theorem lawZeroSigns1 (a0 : Int) (a1 : Int) (a2 : Int) (p1 : Nat) (m1 f1 : Int) (n1 : Bool) (v1 : Value) (e1 : Int) (xs1 : List Nat) (p2 : Nat) (m2 f2 : Int) (n2 : Bool) (v2 : Value) (e2 : Int) (xs2 : List Nat) (w : World) (hop : a0 % 3 = 1) (hT : TabW w) (hK : KarW w) (l0 : 0 ≤ a0) (h0 : a0 ≤ 255) (l1 : 0 ≤ a1) (h1 : a1 ≤ 65535) (l2 : 0 ≤ a2) (h2 : a2 ≤ 255) (hv1 : RW w v1 xs1) (_hg1 : p1 ≤ 18446744073709551615 ∧ (-9223372036854775808 ≤ m1 ∧ m1 ≤ 9223372036854775807) ∧ (-9223372036854775808 ≤ f1 ∧ f1 ≤ 9223372036854775807) ∧ (-9223372036854775808 ≤ e1 ∧ e1 ≤ 9223372036854775807)) (hv2 : RW w v2 xs2) (_hg2 : p2 ≤ 18446744073709551615 ∧ (-9223372036854775808 ≤ m2 ∧ m2 ≤ 9223372036854775807) ∧ (-9223372036854775808 ≤ f2 ∧ f2 ≤ 9223372036854775807) ∧ (-9223372036854775808 ≤ e2 ∧ e2 ≤ 9223372036854775807)) :
    Calls Tryz.prog 11 #[.int .u8 a0, .int .u16 a1, .int .u8 a2, .agg #[.int .u64 p1, .int .i64 m1, .int .i64 f1, .bool n1, v1, .int .i64 e1], .agg #[.int .u64 p2, .int .i64 m2, .int .i64 f2, .bool n2, v2, .int .i64 e2]] w fun e' w' => e' = .returned (.bool true) ∧ Below w.heap.size w w' := by
  obtain ⟨b0, rfl⟩ := Int.eq_ofNat_of_zero_le l0
  have ib0 : b0 ≤ 255 := by omega
  obtain ⟨b1, rfl⟩ := Int.eq_ofNat_of_zero_le l1
  have ib1 : b1 ≤ 65535 := by omega
  obtain ⟨b2, rfl⟩ := Int.eq_ofNat_of_zero_le l2
  have ib2 : b2 ≤ 255 := by omega
  have hS1 := hv1.isS
  have K0 := Lib.hid hK
  clear hK
  clear _hg1
  have hS2 := hv2.isS
  clear _hg2
  have hab1 := (Below.refl w.heap.size w).alloc (Nat.le_refl _) (.cells #[.int .u64 p1, .int .i64 m1, .int .i64 f1, .bool n1, v1, .int .i64 e1] 39)
  have hab2 := hab1.alloc hab1.size (.cells #[.int .u64 p2, .int .i64 m2, .int .i64 f2, .bool n2, v2, .int .i64 e2] 39)
  obtain ⟨X, hX⟩ : ∃ X, X = ((w.alloc (.cells #[.int .u64 p1, .int .i64 m1, .int .i64 f1, .bool n1, v1, .int .i64 e1] 39)).alloc (.cells #[.int .u64 p2, .int .i64 m2, .int .i64 f2, .bool n2, v2, .int .i64 e2] 39)) := ⟨_, rfl⟩
  have hr1 : X.heap[w.heap.size]? = some (.cells #[.int .u64 p1, .int .i64 m1, .int .i64 f1, .bool n1, v1, .int .i64 e1] 39 (0, 0)) := by
    rw [hX]; exact row_chain21
  have hr2 : X.heap[w.heap.size + 1]? = some (.cells #[.int .u64 p2, .int .i64 m2, .int .i64 f2, .bool n2, v2, .int .i64 e2] 39 (0, 0)) := by
    rw [hX]; exact row_chain22
  rw [← hX] at hab2
  obtain ⟨-, ⟨⟨c10, c11, c12, c13, c14, c15⟩, ⟨c20, c21, c22, c23, c24, c25⟩⟩⟩ := ksR2 hr1 hr2 (Below.refl _ _)
  have HR1 := Lib.hid hr1
  have V1 := Lib.hid (hv1.below hab2)
  have HR2 := Lib.hid hr2
  have V2 := Lib.hid (hv2.below hab2)
  have hXs := hab2.size
  have HW := Lib.hid hab2
  have T0 := Lib.hid (hT.below hab2)
  clear hT
  clear hr1 hv1 hr2 hv2
  clear hab2 hab1
  go_enter Tryz.func11, Tryz.ntmps11
  go_upto_region 1 with fail
  rw [← hX]
  clear hX
  go_wp2_with fail
  refine (zzFits1_any p1 m1 f1 e1 n1 v1 xs1 X V1.out).mono ?_
  rintro _ w1 ⟨rfl, hb1⟩
  obtain ⟨fits, hfits⟩ : ∃ f, f = decide (xs1.length ≤ 2147483647) := ⟨_, rfl⟩
  rw [← hfits]
  clear c10 c11 c12 c13 c14 c15 c20 c21 c22 c23 c24 c25 hfits
  obtain ⟨-, ⟨⟨c10, c11, c12, c13, c14, c15⟩, ⟨c20, c21, c22, c23, c24, c25⟩⟩⟩ := ksR2 HR1.out HR2.out hb1
  have HB := Lib.hid hb1
  clear hb1
  cases fits with
  | false =>
    go_wp2
    go_ret
    exact ⟨rfl, HW.out.trans (HB.out.mono hXs)⟩
  | true =>
  go_wp2_with fail
  refine (zzFits1_any p2 m2 f2 e2 n2 v2 xs2 w1 (V2.out.below HB.out)).mono ?_
  rintro _ w2 ⟨rfl, hb1⟩
  have hb1 := bthen HB.out hb1
  obtain ⟨fits, hfits⟩ : ∃ f, f = decide (xs2.length ≤ 2147483647) := ⟨_, rfl⟩
  rw [← hfits]
  clear c10 c11 c12 c13 c14 c15 c20 c21 c22 c23 c24 c25 HB hfits
  obtain ⟨-, ⟨⟨c10, c11, c12, c13, c14, c15⟩, ⟨c20, c21, c22, c23, c24, c25⟩⟩⟩ := ksR2 HR1.out HR2.out hb1
  have HB := Lib.hid hb1
  clear hb1
  cases fits with
  | false =>
    go_wp2
    go_ret
    exact ⟨rfl, HW.out.trans (HB.out.mono hXs)⟩
  | true =>
  go_wp2_with fail
  refine (number_any p1 m1 f1 e1 n1 v1 xs1 w2 (V1.out.below HB.out)).mono ?_
  rintro _ w3 ⟨ok, rfl, hok, hb1⟩
  have hb1 := bthen HB.out hb1
  have HO1 := Lib.hid hok
  clear c10 c11 c12 c13 c14 c15 c20 c21 c22 c23 c24 c25 HB hok
  obtain ⟨-, ⟨⟨c10, c11, c12, c13, c14, c15⟩, ⟨c20, c21, c22, c23, c24, c25⟩⟩⟩ := ksR2 HR1.out HR2.out hb1
  have HB := Lib.hid hb1
  clear hb1
  cases ok with
  | false =>
    go_wp2
    go_ret
    exact ⟨rfl, HW.out.trans (HB.out.mono hXs)⟩
  | true =>
  obtain ⟨hn, P1, M1, F1, hp, rfl, rfl, hR⟩ := HO1.out rfl
  have hpp : P1 = p1 := by omega
  subst hpp
  have R1 := Lib.hid hR
  have N1 : Hid (F1 ≠ 2) := Lib.hid (fun h => hn (by rw [h]; rfl))
  clear HO1 hp hR hn
  go_wp2_with fail
  refine (number_any p2 m2 f2 e2 n2 v2 xs2 w3 (V2.out.below HB.out)).mono ?_
  rintro _ w4 ⟨ok, rfl, hok, hb1⟩
  have hb1 := bthen HB.out hb1
  have HO2 := Lib.hid hok
  clear c10 c11 c12 c13 c14 c15 c20 c21 c22 c23 c24 c25 HB hok
  obtain ⟨-, ⟨⟨c10, c11, c12, c13, c14, c15⟩, ⟨c20, c21, c22, c23, c24, c25⟩⟩⟩ := ksR2 HR1.out HR2.out hb1
  have HB := Lib.hid hb1
  clear hb1
  cases ok with
  | false =>
    go_wp2
    go_ret
    exact ⟨rfl, HW.out.trans (HB.out.mono hXs)⟩
  | true =>
  obtain ⟨hn, P2, M2, F2, hp, rfl, rfl, hR⟩ := HO2.out rfl
  have hpp : P2 = p2 := by omega
  subst hpp
  have R2 := Lib.hid hR
  have N2 : Hid (F2 ≠ 2) := Lib.hid (fun h => hn (by rw [h]; rfl))
  clear HO2 hp hR hn
  have hWW := HW.out.trans (HB.out.mono hXs)
  have hV1 := V1.out.below HB.out
  have hr1 := keep_row HB.out HR1.out
  have hV2 := V2.out.below HB.out
  have hr2 := keep_row HB.out HR2.out
  have hT0 := T0.out.below HB.out
  clear T0
  have T0 := Lib.hid hT0
  clear hT0
  clear HW HB hXs V1 HR1 V2 HR2
  have HW := Lib.hid hWW
  have V1 := Lib.hid hV1
  have HR1 := Lib.hid hr1
  have V2 := Lib.hid hV2
  have HR2 := Lib.hid hr2
  have hWs := HW.out.size
  clear hWW hV1 hr1 hV2 hr2
  have q0 : (b0 : Int) % 3 = 1 := hop
  have q1 : (b1 : Int) % 300 = ((b1 % 300 : Nat) : Int) := by omega
  have q2 : (1 : Int) + ((b1 % 300 : Nat) : Int) = ((1 + b1 % 300 : Nat) : Int) := by omega
  have q3 : (b2 : Int) % 6 = ((b2 % 6 : Nat) : Int) := by omega
  have hZ0 : 0 < 1 + b1 % 300 := by omega
  have hZ1 : 1 + b1 % 300 ≤ 300 := by omega
  have hrb : b1 % 300 ≤ 299 := by omega
  have hkb : b2 % 6 ≤ 5 := by omega
  obtain ⟨Z, hZ⟩ : ∃ Z, Z = 1 + b1 % 300 := ⟨_, rfl⟩
  rw [← hZ] at q2 hZ0 hZ1
  obtain ⟨r, hr⟩ : ∃ r, r = b1 % 300 := ⟨_, rfl⟩
  rw [← hr] at q1 q2 hrb
  obtain ⟨k, hk⟩ : ∃ k, k = b2 % 6 := ⟨_, rfl⟩
  rw [← hk] at q3 hkb
  have HZ0 := Lib.hid hZ0
  clear hZ hr hk hop
  have hf1 : F1 ≤ 1 := by have := R1.out.form'; have := N1.out; omega
  have hf2 : F2 ≤ 1 := by have := R2.out.form'; have := N2.out; omega
  by_cases hz : F1 = 0 ∨ F2 = 0
  · have HC := Lib.hid (didMul_any Z k P1 M1 F1 P2 M2 F2 n1 n2 v1 v2 e1 e2 0 _ xs1 xs2 w4 V1.out V2.out R1.out R2.out hf1 hf2 HZ0.out hZ1 hkb T0.out (K0.out.below HW.out) (prV_zero hf1 hf2 hz) rfl)
    rw [if_pos rfl] at HC
    have ne : ((F1 : Int) != 0 && (F2 : Int) != 0) = false := by
      rcases hz with h | h
      · rw [h]; rfl
      · rw [h]; simp
    obtain ⟨sg, hsg⟩ : ∃ sg, sg = (!(n1 == n2)) := ⟨_, rfl⟩
    have HC : Hid (Calls Tryz.prog 33 #[.int .i64 2, .int .u64 Z, .int .i64 k, .agg #[.int .u64 P1, .int .i64 M1, .int .i64 F1, .bool n1, v1, .int .i64 e1], .agg #[.int .u64 P2, .int .i64 M2, .int .i64 F2, .bool n2, v2, .int .i64 e2]] w4 fun e' w' => ∃ z, e' = .returned (.tuple #[z, .int .i64 (rA Z k (vN 0) 0 (0 : Int).natAbs)]) ∧ RealV w' z Z k 0 (!(n1 == n2)) (rQ Z k (vN 0) 0 (0 : Int).natAbs) (dyE F1 e1 + dyE F2 e2 + rk Z (0 : Int).natAbs) ∧ Below w4.heap.size w4 w') := HC
    obtain ⟨A, hA⟩ : ∃ A, A = rA Z k (vN 0) 0 (0 : Int).natAbs := ⟨_, rfl⟩
    rw [← hA, ← hsg] at HC
    obtain rfl := hsg
    clear hA
    by_cases h1 : F1 = 0
    · have t1 : ((F1 : Int) == 0) = true := by rw [h1]; rfl
      have t1' : ((F1 : Int) != 0) = false := by rw [h1]; rfl
      clear h1 hz ne hf1 hf2
      go_wp2_with fail
      refine HC.out.mono ?_
      rintro _ wN ⟨z, rfl, hz, hb1⟩
      obtain ⟨vz, rfl, hRz⟩ := hz.canon
      obtain ⟨Ez, hEz⟩ : ∃ Ez, Ez = zEx 0 _ _ := ⟨_, rfl⟩
      rw [← hEz]
      have hSz := hRz.isS
      clear hEz
      obtain ⟨Y, hY⟩ : ∃ Y, Y = wN.alloc (.cells #[.int .u64 (Z : Int), .int .i64 (k : Int), .int .i64 0, .bool (!(n1 == n2)), vz, .int .i64 Ez] 39) := ⟨_, rfl⟩
      have hbY : Below wN.heap.size wN Y := by rw [hY]; exact fbone _
      have hrz : Y.heap[wN.heap.size]? = some (.cells #[.int .u64 (Z : Int), .int .i64 (k : Int), .int .i64 0, .bool (!(n1 == n2)), vz, .int .i64 Ez] 39 (0, 0)) := by rw [hY]; exact row_chain11
      have hbX := bthen hb1 hbY
      have hr1 := keep_row hbX HR1.out
      have hr2 := keep_row hbX HR2.out
      have HWY := Lib.hid (HW.out.trans (hbX.mono hWs))
      clear c10 c11 c12 c13 c14 c15 c20 c21 c22 c23 c24 c25
      obtain ⟨-, ⟨x10, x11, x12, x13, x14, x15⟩, ⟨x20, x21, x22, x23, x24, x25⟩, ⟨x30, x31, x32, x33, x34, x35⟩⟩ := ksR3 hr1 hr2 hrz (Below.refl _ _)
      clear hb1 hbY hrz hbX hz hRz hr1 hr2
      go_upto_region 13 with fail
      rw [← hY]
      clear hY
      go_wp2
      go_ret
      exact ⟨rfl, HWY.out⟩
    · have t1 : ((F1 : Int) == 0) = false := by rw [beq_eq_false_iff_ne]; omega
      have t1' : ((F1 : Int) != 0) = true := by rw [bne_iff_ne]; omega
      have h2 : F2 = 0 := by omega
      have t2 : ((F2 : Int) == 0) = true := by rw [h2]; rfl
      have t2' : ((F2 : Int) != 0) = false := by rw [h2]; rfl
      clear h1 h2 hz ne hf1 hf2
      go_wp2_with fail
      refine HC.out.mono ?_
      rintro _ wN ⟨z, rfl, hz, hb1⟩
      obtain ⟨vz, rfl, hRz⟩ := hz.canon
      obtain ⟨Ez, hEz⟩ : ∃ Ez, Ez = zEx 0 _ _ := ⟨_, rfl⟩
      rw [← hEz]
      have hSz := hRz.isS
      clear hEz
      obtain ⟨Y, hY⟩ : ∃ Y, Y = wN.alloc (.cells #[.int .u64 (Z : Int), .int .i64 (k : Int), .int .i64 0, .bool (!(n1 == n2)), vz, .int .i64 Ez] 39) := ⟨_, rfl⟩
      have hbY : Below wN.heap.size wN Y := by rw [hY]; exact fbone _
      have hrz : Y.heap[wN.heap.size]? = some (.cells #[.int .u64 (Z : Int), .int .i64 (k : Int), .int .i64 0, .bool (!(n1 == n2)), vz, .int .i64 Ez] 39 (0, 0)) := by rw [hY]; exact row_chain11
      have hbX := bthen hb1 hbY
      have hr1 := keep_row hbX HR1.out
      have hr2 := keep_row hbX HR2.out
      have HWY := Lib.hid (HW.out.trans (hbX.mono hWs))
      clear c10 c11 c12 c13 c14 c15 c20 c21 c22 c23 c24 c25
      obtain ⟨-, ⟨x10, x11, x12, x13, x14, x15⟩, ⟨x20, x21, x22, x23, x24, x25⟩, ⟨x30, x31, x32, x33, x34, x35⟩⟩ := ksR3 hr1 hr2 hrz (Below.refl _ _)
      clear hb1 hbY hrz hbX hz hRz hr1 hr2
      go_upto_region 13 with fail
      rw [← hY]
      clear hY
      go_wp2
      go_ret
      exact ⟨rfl, HWY.out⟩
  · have t1 : ((F1 : Int) == 0) = false := by rw [beq_eq_false_iff_ne]; omega
    have t1' : ((F1 : Int) != 0) = true := by rw [bne_iff_ne]; omega
    have t2 : ((F2 : Int) == 0) = false := by rw [beq_eq_false_iff_ne]; omega
    have t2' : ((F2 : Int) != 0) = true := by rw [bne_iff_ne]; omega
    clear hz hf1 hf2
    go_wp2
    go_ret
    exact ⟨rfl, HW.out⟩
set_option maxRecDepth 100000 in
set_option maxHeartbeats 6400000 in
theorem lawZeroSigns2 (a0 : Int) (a1 : Int) (a2 : Int) (p1 : Nat) (m1 f1 : Int) (n1 : Bool) (v1 : Value) (e1 : Int) (xs1 : List Nat) (p2 : Nat) (m2 f2 : Int) (n2 : Bool) (v2 : Value) (e2 : Int) (xs2 : List Nat) (w : World) (hop : a0 % 3 = 2) (hT : TabW w) (l0 : 0 ≤ a0) (h0 : a0 ≤ 255) (l1 : 0 ≤ a1) (h1 : a1 ≤ 65535) (l2 : 0 ≤ a2) (h2 : a2 ≤ 255) (hv1 : RW w v1 xs1) (_hg1 : p1 ≤ 18446744073709551615 ∧ (-9223372036854775808 ≤ m1 ∧ m1 ≤ 9223372036854775807) ∧ (-9223372036854775808 ≤ f1 ∧ f1 ≤ 9223372036854775807) ∧ (-9223372036854775808 ≤ e1 ∧ e1 ≤ 9223372036854775807)) (hv2 : RW w v2 xs2) (_hg2 : p2 ≤ 18446744073709551615 ∧ (-9223372036854775808 ≤ m2 ∧ m2 ≤ 9223372036854775807) ∧ (-9223372036854775808 ≤ f2 ∧ f2 ≤ 9223372036854775807) ∧ (-9223372036854775808 ≤ e2 ∧ e2 ≤ 9223372036854775807)) :
    Calls Tryz.prog 11 #[.int .u8 a0, .int .u16 a1, .int .u8 a2, .agg #[.int .u64 p1, .int .i64 m1, .int .i64 f1, .bool n1, v1, .int .i64 e1], .agg #[.int .u64 p2, .int .i64 m2, .int .i64 f2, .bool n2, v2, .int .i64 e2]] w fun e' w' => e' = .returned (.bool true) ∧ Below w.heap.size w w' := by
  obtain ⟨b0, rfl⟩ := Int.eq_ofNat_of_zero_le l0
  have ib0 : b0 ≤ 255 := by omega
  obtain ⟨b1, rfl⟩ := Int.eq_ofNat_of_zero_le l1
  have ib1 : b1 ≤ 65535 := by omega
  obtain ⟨b2, rfl⟩ := Int.eq_ofNat_of_zero_le l2
  have ib2 : b2 ≤ 255 := by omega
  have hS1 := hv1.isS
  clear _hg1
  have hS2 := hv2.isS
  clear _hg2
  have hab1 := (Below.refl w.heap.size w).alloc (Nat.le_refl _) (.cells #[.int .u64 p1, .int .i64 m1, .int .i64 f1, .bool n1, v1, .int .i64 e1] 39)
  have hab2 := hab1.alloc hab1.size (.cells #[.int .u64 p2, .int .i64 m2, .int .i64 f2, .bool n2, v2, .int .i64 e2] 39)
  obtain ⟨X, hX⟩ : ∃ X, X = ((w.alloc (.cells #[.int .u64 p1, .int .i64 m1, .int .i64 f1, .bool n1, v1, .int .i64 e1] 39)).alloc (.cells #[.int .u64 p2, .int .i64 m2, .int .i64 f2, .bool n2, v2, .int .i64 e2] 39)) := ⟨_, rfl⟩
  have hr1 : X.heap[w.heap.size]? = some (.cells #[.int .u64 p1, .int .i64 m1, .int .i64 f1, .bool n1, v1, .int .i64 e1] 39 (0, 0)) := by
    rw [hX]; exact row_chain21
  have hr2 : X.heap[w.heap.size + 1]? = some (.cells #[.int .u64 p2, .int .i64 m2, .int .i64 f2, .bool n2, v2, .int .i64 e2] 39 (0, 0)) := by
    rw [hX]; exact row_chain22
  rw [← hX] at hab2
  obtain ⟨-, ⟨⟨c10, c11, c12, c13, c14, c15⟩, ⟨c20, c21, c22, c23, c24, c25⟩⟩⟩ := ksR2 hr1 hr2 (Below.refl _ _)
  have HR1 := Lib.hid hr1
  have V1 := Lib.hid (hv1.below hab2)
  have HR2 := Lib.hid hr2
  have V2 := Lib.hid (hv2.below hab2)
  have hXs := hab2.size
  have HW := Lib.hid hab2
  have T0 := Lib.hid (hT.below hab2)
  clear hT
  clear hr1 hv1 hr2 hv2
  clear hab2 hab1
  go_enter Tryz.func11, Tryz.ntmps11
  go_upto_region 1 with fail
  rw [← hX]
  clear hX
  go_wp2_with fail
  refine (zzFits1_any p1 m1 f1 e1 n1 v1 xs1 X V1.out).mono ?_
  rintro _ w1 ⟨rfl, hb1⟩
  obtain ⟨fits, hfits⟩ : ∃ f, f = decide (xs1.length ≤ 2147483647) := ⟨_, rfl⟩
  rw [← hfits]
  clear c10 c11 c12 c13 c14 c15 c20 c21 c22 c23 c24 c25 hfits
  obtain ⟨-, ⟨⟨c10, c11, c12, c13, c14, c15⟩, ⟨c20, c21, c22, c23, c24, c25⟩⟩⟩ := ksR2 HR1.out HR2.out hb1
  have HB := Lib.hid hb1
  clear hb1
  cases fits with
  | false =>
    go_wp2
    go_ret
    exact ⟨rfl, HW.out.trans (HB.out.mono hXs)⟩
  | true =>
  go_wp2_with fail
  refine (zzFits1_any p2 m2 f2 e2 n2 v2 xs2 w1 (V2.out.below HB.out)).mono ?_
  rintro _ w2 ⟨rfl, hb1⟩
  have hb1 := bthen HB.out hb1
  obtain ⟨fits, hfits⟩ : ∃ f, f = decide (xs2.length ≤ 2147483647) := ⟨_, rfl⟩
  rw [← hfits]
  clear c10 c11 c12 c13 c14 c15 c20 c21 c22 c23 c24 c25 HB hfits
  obtain ⟨-, ⟨⟨c10, c11, c12, c13, c14, c15⟩, ⟨c20, c21, c22, c23, c24, c25⟩⟩⟩ := ksR2 HR1.out HR2.out hb1
  have HB := Lib.hid hb1
  clear hb1
  cases fits with
  | false =>
    go_wp2
    go_ret
    exact ⟨rfl, HW.out.trans (HB.out.mono hXs)⟩
  | true =>
  go_wp2_with fail
  refine (number_any p1 m1 f1 e1 n1 v1 xs1 w2 (V1.out.below HB.out)).mono ?_
  rintro _ w3 ⟨ok, rfl, hok, hb1⟩
  have hb1 := bthen HB.out hb1
  have HO1 := Lib.hid hok
  clear c10 c11 c12 c13 c14 c15 c20 c21 c22 c23 c24 c25 HB hok
  obtain ⟨-, ⟨⟨c10, c11, c12, c13, c14, c15⟩, ⟨c20, c21, c22, c23, c24, c25⟩⟩⟩ := ksR2 HR1.out HR2.out hb1
  have HB := Lib.hid hb1
  clear hb1
  cases ok with
  | false =>
    go_wp2
    go_ret
    exact ⟨rfl, HW.out.trans (HB.out.mono hXs)⟩
  | true =>
  obtain ⟨hn, P1, M1, F1, hp, rfl, rfl, hR⟩ := HO1.out rfl
  have hpp : P1 = p1 := by omega
  subst hpp
  have R1 := Lib.hid hR
  have N1 : Hid (F1 ≠ 2) := Lib.hid (fun h => hn (by rw [h]; rfl))
  clear HO1 hp hR hn
  go_wp2_with fail
  refine (number_any p2 m2 f2 e2 n2 v2 xs2 w3 (V2.out.below HB.out)).mono ?_
  rintro _ w4 ⟨ok, rfl, hok, hb1⟩
  have hb1 := bthen HB.out hb1
  have HO2 := Lib.hid hok
  clear c10 c11 c12 c13 c14 c15 c20 c21 c22 c23 c24 c25 HB hok
  obtain ⟨-, ⟨⟨c10, c11, c12, c13, c14, c15⟩, ⟨c20, c21, c22, c23, c24, c25⟩⟩⟩ := ksR2 HR1.out HR2.out hb1
  have HB := Lib.hid hb1
  clear hb1
  cases ok with
  | false =>
    go_wp2
    go_ret
    exact ⟨rfl, HW.out.trans (HB.out.mono hXs)⟩
  | true =>
  obtain ⟨hn, P2, M2, F2, hp, rfl, rfl, hR⟩ := HO2.out rfl
  have hpp : P2 = p2 := by omega
  subst hpp
  have R2 := Lib.hid hR
  have N2 : Hid (F2 ≠ 2) := Lib.hid (fun h => hn (by rw [h]; rfl))
  clear HO2 hp hR hn
  have hWW := HW.out.trans (HB.out.mono hXs)
  have hV1 := V1.out.below HB.out
  have hr1 := keep_row HB.out HR1.out
  have hV2 := V2.out.below HB.out
  have hr2 := keep_row HB.out HR2.out
  have hT0 := T0.out.below HB.out
  clear T0
  have T0 := Lib.hid hT0
  clear hT0
  clear HW HB hXs V1 HR1 V2 HR2
  have HW := Lib.hid hWW
  have V1 := Lib.hid hV1
  have HR1 := Lib.hid hr1
  have V2 := Lib.hid hV2
  have HR2 := Lib.hid hr2
  have hWs := HW.out.size
  clear hWW hV1 hr1 hV2 hr2
  have q0 : (b0 : Int) % 3 = 2 := hop
  have q1 : (b1 : Int) % 300 = ((b1 % 300 : Nat) : Int) := by omega
  have q2 : (1 : Int) + ((b1 % 300 : Nat) : Int) = ((1 + b1 % 300 : Nat) : Int) := by omega
  have q3 : (b2 : Int) % 6 = ((b2 % 6 : Nat) : Int) := by omega
  have hZ0 : 0 < 1 + b1 % 300 := by omega
  have hZ1 : 1 + b1 % 300 ≤ 300 := by omega
  have hrb : b1 % 300 ≤ 299 := by omega
  have hkb : b2 % 6 ≤ 5 := by omega
  obtain ⟨Z, hZ⟩ : ∃ Z, Z = 1 + b1 % 300 := ⟨_, rfl⟩
  rw [← hZ] at q2 hZ0 hZ1
  obtain ⟨r, hr⟩ : ∃ r, r = b1 % 300 := ⟨_, rfl⟩
  rw [← hr] at q1 q2 hrb
  obtain ⟨k, hk⟩ : ∃ k, k = b2 % 6 := ⟨_, rfl⟩
  rw [← hk] at q3 hkb
  have HZ0 := Lib.hid hZ0
  clear hZ hr hk hop
  have hf1 : F1 ≤ 1 := by have := R1.out.form'; have := N1.out; omega
  have hf2 : F2 ≤ 1 := by have := R2.out.form'; have := N2.out; omega
  by_cases h1 : F1 = 0
  · have t1 : ((F1 : Int) == 0) = true := by rw [h1]; rfl
    have t1' : ((F1 : Int) != 0) = false := by rw [h1]; rfl
    by_cases h2 : F2 = 0
    · have t2 : ((F2 : Int) == 0) = true := by rw [h2]; rfl
      have t2' : ((F2 : Int) != 0) = false := by rw [h2]; rfl
      clear h1 h2 hf1 hf2
      go_wp2
      go_ret
      exact ⟨rfl, HW.out⟩
    · have t2 : ((F2 : Int) == 0) = false := by rw [beq_eq_false_iff_ne]; omega
      have t2' : ((F2 : Int) != 0) = true := by rw [bne_iff_ne]; omega
      have HC := Lib.hid (didSpQuo Z k P1 M1 F1 P2 M2 F2 0 n1 n2 (!(n1 == n2)) v1 v2 e1 e2 xs1 xs2 w4 V1.out V2.out R1.out R2.out HZ0.out hZ1 hkb ⟨rfl, .inl ⟨rfl, .inl ⟨h1, .inl (by omega)⟩⟩⟩ T0.out)
      clear h1 h2 hf1 hf2
      go_wp2_with fail
      refine HC.out.mono ?_
      rintro _ wN ⟨z, rfl, hz, hb1⟩
      obtain ⟨vz, rfl, hRz⟩ := hz.canon
      obtain ⟨Ez, hEz⟩ : ∃ Ez, Ez = zEx 0 1 0 := ⟨_, rfl⟩
      rw [← hEz]
      have hSz := hRz.isS
      clear hEz
      obtain ⟨Y, hY⟩ : ∃ Y, Y = wN.alloc (.cells #[.int .u64 (Z : Int), .int .i64 (k : Int), .int .i64 0, .bool (!(n1 == n2)), vz, .int .i64 Ez] 39) := ⟨_, rfl⟩
      have hbY : Below wN.heap.size wN Y := by rw [hY]; exact fbone _
      have hrz : Y.heap[wN.heap.size]? = some (.cells #[.int .u64 (Z : Int), .int .i64 (k : Int), .int .i64 0, .bool (!(n1 == n2)), vz, .int .i64 Ez] 39 (0, 0)) := by rw [hY]; exact row_chain11
      have hbX := bthen hb1 hbY
      have hr1 := keep_row hbX HR1.out
      have hr2 := keep_row hbX HR2.out
      have HWY := Lib.hid (HW.out.trans (hbX.mono hWs))
      clear c10 c11 c12 c13 c14 c15 c20 c21 c22 c23 c24 c25
      obtain ⟨-, ⟨x10, x11, x12, x13, x14, x15⟩, ⟨x20, x21, x22, x23, x24, x25⟩, ⟨x30, x31, x32, x33, x34, x35⟩⟩ := ksR3 hr1 hr2 hrz (Below.refl _ _)
      clear hb1 hbY hrz hbX hz hRz hr1 hr2
      go_upto_region 13 with fail
      rw [← hY]
      clear hY
      go_wp2
      go_ret
      exact ⟨rfl, HWY.out⟩
  · have t1 : ((F1 : Int) == 0) = false := by rw [beq_eq_false_iff_ne]; omega
    have t1' : ((F1 : Int) != 0) = true := by rw [bne_iff_ne]; omega
    by_cases h2 : F2 = 0
    · have t2 : ((F2 : Int) == 0) = true := by rw [h2]; rfl
      have t2' : ((F2 : Int) != 0) = false := by rw [h2]; rfl
      clear h1 h2 hf1 hf2
      go_wp2
      go_ret
      exact ⟨rfl, HW.out⟩
    · have t2 : ((F2 : Int) == 0) = false := by rw [beq_eq_false_iff_ne]; omega
      have t2' : ((F2 : Int) != 0) = true := by rw [bne_iff_ne]; omega
      clear h1 h2 hf1 hf2
      go_wp2
      go_ret
      exact ⟨rfl, HW.out⟩
theorem lawZeroSigns (a0 : Int) (a1 : Int) (a2 : Int) (p1 : Nat) (m1 f1 : Int) (n1 : Bool) (v1 : Value) (e1 : Int) (xs1 : List Nat) (p2 : Nat) (m2 f2 : Int) (n2 : Bool) (v2 : Value) (e2 : Int) (xs2 : List Nat) (w : World) (hT : TabW w) (hK : KarW w) (l0 : 0 ≤ a0) (h0 : a0 ≤ 255) (l1 : 0 ≤ a1) (h1 : a1 ≤ 65535) (l2 : 0 ≤ a2) (h2 : a2 ≤ 255) (hv1 : RW w v1 xs1) (_hg1 : p1 ≤ 18446744073709551615 ∧ (-9223372036854775808 ≤ m1 ∧ m1 ≤ 9223372036854775807) ∧ (-9223372036854775808 ≤ f1 ∧ f1 ≤ 9223372036854775807) ∧ (-9223372036854775808 ≤ e1 ∧ e1 ≤ 9223372036854775807)) (hv2 : RW w v2 xs2) (_hg2 : p2 ≤ 18446744073709551615 ∧ (-9223372036854775808 ≤ m2 ∧ m2 ≤ 9223372036854775807) ∧ (-9223372036854775808 ≤ f2 ∧ f2 ≤ 9223372036854775807) ∧ (-9223372036854775808 ≤ e2 ∧ e2 ≤ 9223372036854775807)) :
    Calls Tryz.prog 11 #[.int .u8 a0, .int .u16 a1, .int .u8 a2, .agg #[.int .u64 p1, .int .i64 m1, .int .i64 f1, .bool n1, v1, .int .i64 e1], .agg #[.int .u64 p2, .int .i64 m2, .int .i64 f2, .bool n2, v2, .int .i64 e2]] w fun e' w' => e' = .returned (.bool true) ∧ Below w.heap.size w w' := by
  rcases (by omega : a0 % 3 = 0 ∨ a0 % 3 = 1 ∨ a0 % 3 = 2) with h | h | h
  · exact lawZeroSigns0 a0 a1 a2 p1 m1 f1 n1 v1 e1 xs1 p2 m2 f2 n2 v2 e2 xs2 w h hT l0 h0 l1 h1 l2 h2 hv1 _hg1 hv2 _hg2
  · exact lawZeroSigns1 a0 a1 a2 p1 m1 f1 n1 v1 e1 xs1 p2 m2 f2 n2 v2 e2 xs2 w h hT hK l0 h0 l1 h1 l2 h2 hv1 _hg1 hv2 _hg2
  · exact lawZeroSigns2 a0 a1 a2 p1 m1 f1 n1 v1 e1 xs1 p2 m2 f2 n2 v2 e2 xs2 w h hT l0 h0 l1 h1 l2 h2 hv1 _hg1 hv2 _hg2
end Go.Proofs.YtgclooabjilniaaGreatDoor
