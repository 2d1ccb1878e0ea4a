/-
Texts of this proof, joined: IzG IzH IzI. No condition.
-/
import Derived.Test.YtgclooabjilniaaGreatDoorK27
import Derived.Test.YtgclooabjilniaaGreatDoorK34
/-
The statement on infinite operands. No condition.
-/
namespace Go.Proofs.YtgclooabjilniaaGreatDoor
open Go.RowKit

theorem didSpMul (q k p1 m1 f1 p2 m2 f2 f : Nat) (n1 n2 sg : Bool) (v1 v2 : Value) (e1 e2 : Int) (xs ys : List Nat) (w : World) (hv1 : RW w v1 xs) (hv2 : RW w v2 ys) (ho1 : RealOk 300 1000 p1 m1 f1 xs e1) (ho2 : RealOk 300 1000 p2 m2 f2 ys e2) (hq0 : 0 < q) (hq : q ≤ 300) (hk : k ≤ 5) (hs : SpOk 2 f1 f2 n1 n2 f sg) (hT : TabW w) :
    Calls Tryz.prog 33 #[.int .i64 2, .int .u64 q, .int .i64 k, .agg #[.int .u64 p1, .int .i64 m1, .int .i64 f1, .bool n1, v1, .int .i64 e1], .agg #[.int .u64 p2, .int .i64 m2, .int .i64 f2, .bool n2, v2, .int .i64 e2]] w fun e' w' => ∃ z, e' = .returned (.tuple #[z, .int .i64 0]) ∧ RealV w' z q k f sg 1 0 ∧ Below w.heap.size w w' :=
  did2 q k p1 m1 f1 p2 m2 f2 f 1 n1 n2 sg v1 v2 e1 e2 0 0 w hv1.isS hv2.isS (fun W hb =>
    impSpMul 300 1000 q k p1 m1 f1 p2 m2 f2 f n1 n2 sg v1 v2 e1 e2 xs ys W (hv1.below hb) (hv2.below hb) ho1 ho2 (by decide) (by decide) hq0 (by omega) hk hs (hT.below hb))
set_option maxRecDepth 100000 in
set_option maxHeartbeats 6400000 in
theorem lawInfinite2 (a0 : Int) (a1 : Int) (a2 : Int) (p1 : Nat) (m1 f1 : Int) (n1 : Bool) (v1 : Value) (e1 : Int) (xs1 : List Nat) (p2 : Nat) (m2 f2 : Int) (n2 : Bool) (v2 : Value) (e2 : Int) (xs2 : List Nat) (w : World) (hop : a0 % 4 = 2) (hT : TabW w) (l0 : 0 ≤ a0) (h0 : a0 ≤ 255) (l1 : 0 ≤ a1) (h1 : a1 ≤ 65535) (l2 : 0 ≤ a2) (h2 : a2 ≤ 255) (hv1 : RW w v1 xs1) (_hg1 : p1 ≤ 18446744073709551615 ∧ (-9223372036854775808 ≤ m1 ∧ m1 ≤ 9223372036854775807) ∧ (-9223372036854775808 ≤ f1 ∧ f1 ≤ 9223372036854775807) ∧ (-9223372036854775808 ≤ e1 ∧ e1 ≤ 9223372036854775807)) (hv2 : RW w v2 xs2) (_hg2 : p2 ≤ 18446744073709551615 ∧ (-9223372036854775808 ≤ m2 ∧ m2 ≤ 9223372036854775807) ∧ (-9223372036854775808 ≤ f2 ∧ f2 ≤ 9223372036854775807) ∧ (-9223372036854775808 ≤ e2 ∧ e2 ≤ 9223372036854775807)) :
    Calls Tryz.prog 9 #[.int .u8 a0, .int .u16 a1, .int .u8 a2, .agg #[.int .u64 p1, .int .i64 m1, .int .i64 f1, .bool n1, v1, .int .i64 e1], .agg #[.int .u64 p2, .int .i64 m2, .int .i64 f2, .bool n2, v2, .int .i64 e2]] w fun e' w' => e' = .returned (.bool true) ∧ Below w.heap.size w w' := by
  obtain ⟨b0, rfl⟩ := Int.eq_ofNat_of_zero_le l0
  have ib0 : b0 ≤ 255 := by omega
  obtain ⟨b1, rfl⟩ := Int.eq_ofNat_of_zero_le l1
  have ib1 : b1 ≤ 65535 := by omega
  obtain ⟨b2, rfl⟩ := Int.eq_ofNat_of_zero_le l2
  have ib2 : b2 ≤ 255 := by omega
  have hS1 := hv1.isS
  clear _hg1
  have hS2 := hv2.isS
  clear _hg2
  have hab1 := (Below.refl w.heap.size w).alloc (Nat.le_refl _) (.cells #[.int .u64 p1, .int .i64 m1, .int .i64 f1, .bool n1, v1, .int .i64 e1] 39)
  have hab2 := hab1.alloc hab1.size (.cells #[.int .u64 p2, .int .i64 m2, .int .i64 f2, .bool n2, v2, .int .i64 e2] 39)
  obtain ⟨X, hX⟩ : ∃ X, X = ((w.alloc (.cells #[.int .u64 p1, .int .i64 m1, .int .i64 f1, .bool n1, v1, .int .i64 e1] 39)).alloc (.cells #[.int .u64 p2, .int .i64 m2, .int .i64 f2, .bool n2, v2, .int .i64 e2] 39)) := ⟨_, rfl⟩
  have hr1 : X.heap[w.heap.size]? = some (.cells #[.int .u64 p1, .int .i64 m1, .int .i64 f1, .bool n1, v1, .int .i64 e1] 39 (0, 0)) := by
    rw [hX]; exact row_chain21
  have hr2 : X.heap[w.heap.size + 1]? = some (.cells #[.int .u64 p2, .int .i64 m2, .int .i64 f2, .bool n2, v2, .int .i64 e2] 39 (0, 0)) := by
    rw [hX]; exact row_chain22
  rw [← hX] at hab2
  obtain ⟨-, ⟨⟨c10, c11, c12, c13, c14, c15⟩, ⟨c20, c21, c22, c23, c24, c25⟩⟩⟩ := ksR2 hr1 hr2 (Below.refl _ _)
  have HR1 := Lib.hid hr1
  have V1 := Lib.hid (hv1.below hab2)
  have HR2 := Lib.hid hr2
  have V2 := Lib.hid (hv2.below hab2)
  have hXs := hab2.size
  have HW := Lib.hid hab2
  have T0 := Lib.hid (hT.below hab2)
  clear hT
  clear hr1 hv1 hr2 hv2
  clear hab2 hab1
  go_enter Tryz.func9, Tryz.ntmps9
  go_upto_region 1 with fail
  rw [← hX]
  clear hX
  go_wp2_with fail
  refine (zzFits1_any p1 m1 f1 e1 n1 v1 xs1 X V1.out).mono ?_
  rintro _ w1 ⟨rfl, hb1⟩
  obtain ⟨fits, hfits⟩ : ∃ f, f = decide (xs1.length ≤ 2147483647) := ⟨_, rfl⟩
  rw [← hfits]
  clear c10 c11 c12 c13 c14 c15 c20 c21 c22 c23 c24 c25 hfits
  obtain ⟨-, ⟨⟨c10, c11, c12, c13, c14, c15⟩, ⟨c20, c21, c22, c23, c24, c25⟩⟩⟩ := ksR2 HR1.out HR2.out hb1
  have HB := Lib.hid hb1
  clear hb1
  cases fits with
  | false =>
    go_wp2
    go_ret
    exact ⟨rfl, HW.out.trans (HB.out.mono hXs)⟩
  | true =>
  go_wp2_with fail
  refine (zzFits1_any p2 m2 f2 e2 n2 v2 xs2 w1 (V2.out.below HB.out)).mono ?_
  rintro _ w2 ⟨rfl, hb1⟩
  have hb1 := bthen HB.out hb1
  obtain ⟨fits, hfits⟩ : ∃ f, f = decide (xs2.length ≤ 2147483647) := ⟨_, rfl⟩
  rw [← hfits]
  clear c10 c11 c12 c13 c14 c15 c20 c21 c22 c23 c24 c25 HB hfits
  obtain ⟨-, ⟨⟨c10, c11, c12, c13, c14, c15⟩, ⟨c20, c21, c22, c23, c24, c25⟩⟩⟩ := ksR2 HR1.out HR2.out hb1
  have HB := Lib.hid hb1
  clear hb1
  cases fits with
  | false =>
    go_wp2
    go_ret
    exact ⟨rfl, HW.out.trans (HB.out.mono hXs)⟩
  | true =>
  go_wp2_with fail
  refine (real_any 300 1000 p1 m1 f1 e1 n1 v1 xs1 w2 (V1.out.below HB.out) (by decide) (by decide)).mono ?_
  rintro _ w3 ⟨ok, rfl, hok, hb1⟩
  have hb1 := bthen HB.out hb1
  have HO1 := Lib.hid hok
  clear c10 c11 c12 c13 c14 c15 c20 c21 c22 c23 c24 c25 HB hok
  obtain ⟨-, ⟨⟨c10, c11, c12, c13, c14, c15⟩, ⟨c20, c21, c22, c23, c24, c25⟩⟩⟩ := ksR2 HR1.out HR2.out hb1
  have HB := Lib.hid hb1
  clear hb1
  cases ok with
  | false =>
    go_wp2
    go_ret
    exact ⟨rfl, HW.out.trans (HB.out.mono hXs)⟩
  | true =>
  obtain ⟨P1, M1, F1, hp, rfl, rfl, hR⟩ := HO1.out rfl
  have hpp : P1 = p1 := by omega
  subst hpp
  have R1 := Lib.hid hR
  clear HO1 hp hR
  go_wp2_with fail
  refine (real_any 300 1000 p2 m2 f2 e2 n2 v2 xs2 w3 (V2.out.below HB.out) (by decide) (by decide)).mono ?_
  rintro _ w4 ⟨ok, rfl, hok, hb1⟩
  have hb1 := bthen HB.out hb1
  have HO2 := Lib.hid hok
  clear c10 c11 c12 c13 c14 c15 c20 c21 c22 c23 c24 c25 HB hok
  obtain ⟨-, ⟨⟨c10, c11, c12, c13, c14, c15⟩, ⟨c20, c21, c22, c23, c24, c25⟩⟩⟩ := ksR2 HR1.out HR2.out hb1
  have HB := Lib.hid hb1
  clear hb1
  cases ok with
  | false =>
    go_wp2
    go_ret
    exact ⟨rfl, HW.out.trans (HB.out.mono hXs)⟩
  | true =>
  obtain ⟨P2, M2, F2, hp, rfl, rfl, hR⟩ := HO2.out rfl
  have hpp : P2 = p2 := by omega
  subst hpp
  have R2 := Lib.hid hR
  clear HO2 hp hR
  have hWW := HW.out.trans (HB.out.mono hXs)
  have hV1 := V1.out.below HB.out
  have hr1 := keep_row HB.out HR1.out
  have hV2 := V2.out.below HB.out
  have hr2 := keep_row HB.out HR2.out
  have hT0 := T0.out.below HB.out
  clear T0
  have T0 := Lib.hid hT0
  clear hT0
  clear HW HB hXs V1 HR1 V2 HR2
  have HW := Lib.hid hWW
  have V1 := Lib.hid hV1
  have HR1 := Lib.hid hr1
  have V2 := Lib.hid hV2
  have HR2 := Lib.hid hr2
  have hWs := HW.out.size
  clear hWW hV1 hr1 hV2 hr2
  have q0 : (b0 : Int) % 4 = 2 := hop
  have q1 : (b1 : Int) % 300 = ((b1 % 300 : Nat) : Int) := by omega
  have q2 : (1 : Int) + ((b1 % 300 : Nat) : Int) = ((1 + b1 % 300 : Nat) : Int) := by omega
  have q3 : (b2 : Int) % 6 = ((b2 % 6 : Nat) : Int) := by omega
  have hZ0 : 0 < 1 + b1 % 300 := by omega
  have hZ1 : 1 + b1 % 300 ≤ 300 := by omega
  have hrb : b1 % 300 ≤ 299 := by omega
  have hkb : b2 % 6 ≤ 5 := by omega
  obtain ⟨Z, hZ⟩ : ∃ Z, Z = 1 + b1 % 300 := ⟨_, rfl⟩
  rw [← hZ] at q2 hZ0 hZ1
  obtain ⟨r, hr⟩ : ∃ r, r = b1 % 300 := ⟨_, rfl⟩
  rw [← hr] at q1 q2 hrb
  obtain ⟨k, hk⟩ : ∃ k, k = b2 % 6 := ⟨_, rfl⟩
  rw [← hk] at q3 hkb
  have HZ0 := Lib.hid hZ0
  clear hZ hr hk hop
  have hg1 := R1.out.form'
  have hg2 := R2.out.form'
  rcases (by omega : F1 = 0 ∨ F1 = 1 ∨ F1 = 2) with h1 | h1 | h1
  · have te1 : ((F1 : Int) == 2) = false := by rw [h1]; rfl
    have tn1 : ((F1 : Int) != 2) = true := by rw [h1]; rfl
    have tz1 : ((F1 : Int) == 0) = true := by rw [h1]; rfl
    have HE1 := Lib.hid h1
    clear h1
    rcases (by omega : F2 = 0 ∨ F2 = 1 ∨ F2 = 2) with h2 | h2 | h2
    · have te2 : ((F2 : Int) == 2) = false := by rw [h2]; rfl
      have tn2 : ((F2 : Int) != 2) = true := by rw [h2]; rfl
      have tz2 : ((F2 : Int) == 0) = true := by rw [h2]; rfl
      have HE2 := Lib.hid h2
      clear h2
      clear hg1 hg2
      go_wp2
      go_ret
      exact ⟨rfl, HW.out⟩
    · have te2 : ((F2 : Int) == 2) = false := by rw [h2]; rfl
      have tn2 : ((F2 : Int) != 2) = true := by rw [h2]; rfl
      have tz2 : ((F2 : Int) == 0) = false := by rw [h2]; rfl
      have HE2 := Lib.hid h2
      clear h2
      clear hg1 hg2
      go_wp2
      go_ret
      exact ⟨rfl, HW.out⟩
    · have te2 : ((F2 : Int) == 2) = true := by rw [h2]; rfl
      have tn2 : ((F2 : Int) != 2) = false := by rw [h2]; rfl
      have tz2 : ((F2 : Int) == 0) = false := by rw [h2]; rfl
      have HE2 := Lib.hid h2
      clear h2
      clear hg1 hg2
      go_wp2
      go_ret
      exact ⟨rfl, HW.out⟩
  · have te1 : ((F1 : Int) == 2) = false := by rw [h1]; rfl
    have tn1 : ((F1 : Int) != 2) = true := by rw [h1]; rfl
    have tz1 : ((F1 : Int) == 0) = false := by rw [h1]; rfl
    have HE1 := Lib.hid h1
    clear h1
    rcases (by omega : F2 = 0 ∨ F2 = 1 ∨ F2 = 2) with h2 | h2 | h2
    · have te2 : ((F2 : Int) == 2) = false := by rw [h2]; rfl
      have tn2 : ((F2 : Int) != 2) = true := by rw [h2]; rfl
      have tz2 : ((F2 : Int) == 0) = true := by rw [h2]; rfl
      have HE2 := Lib.hid h2
      clear h2
      clear hg1 hg2
      go_wp2
      go_ret
      exact ⟨rfl, HW.out⟩
    · have te2 : ((F2 : Int) == 2) = false := by rw [h2]; rfl
      have tn2 : ((F2 : Int) != 2) = true := by rw [h2]; rfl
      have tz2 : ((F2 : Int) == 0) = false := by rw [h2]; rfl
      have HE2 := Lib.hid h2
      clear h2
      clear hg1 hg2
      go_wp2
      go_ret
      exact ⟨rfl, HW.out⟩
    · have te2 : ((F2 : Int) == 2) = true := by rw [h2]; rfl
      have tn2 : ((F2 : Int) != 2) = false := by rw [h2]; rfl
      have tz2 : ((F2 : Int) == 0) = false := by rw [h2]; rfl
      have HE2 := Lib.hid h2
      clear h2
      clear hg1 hg2
      have HC := Lib.hid (didSpMul Z k P1 M1 F1 P2 M2 F2 2 n1 n2 (!(n1 == n2)) v1 v2 e1 e2 xs1 xs2 w4 V1.out V2.out R1.out R2.out HZ0.out hZ1 hkb ⟨rfl, rfl, .inr ⟨HE1.out, HE2.out⟩⟩ T0.out)
      go_wp2_with fail
      refine HC.out.mono ?_
      rintro _ wN ⟨z, rfl, hz, hb1⟩
      obtain ⟨vz, rfl, hRz⟩ := hz.canon
      obtain ⟨Ez, hEz⟩ : ∃ Ez, Ez = zEx 2 1 0 := ⟨_, rfl⟩
      rw [← hEz]
      have hSz := hRz.isS
      clear hEz
      obtain ⟨Y, hY⟩ : ∃ Y, Y = wN.alloc (.cells #[.int .u64 (Z : Int), .int .i64 (k : Int), .int .i64 2, .bool (!(n1 == n2)), vz, .int .i64 Ez] 39) := ⟨_, rfl⟩
      have hbY : Below wN.heap.size wN Y := by rw [hY]; exact fbone _
      have hrz : Y.heap[wN.heap.size]? = some (.cells #[.int .u64 (Z : Int), .int .i64 (k : Int), .int .i64 2, .bool (!(n1 == n2)), vz, .int .i64 Ez] 39 (0, 0)) := by rw [hY]; exact row_chain11
      have hbX := bthen hb1 hbY
      have hr1 := keep_row hbX HR1.out
      have hr2 := keep_row hbX HR2.out
      have HWY := Lib.hid (HW.out.trans (hbX.mono hWs))
      clear c10 c11 c12 c13 c14 c15 c20 c21 c22 c23 c24 c25
      obtain ⟨-, ⟨x10, x11, x12, x13, x14, x15⟩, ⟨x20, x21, x22, x23, x24, x25⟩, ⟨x30, x31, x32, x33, x34, x35⟩⟩ := ksR3 hr1 hr2 hrz (Below.refl _ _)
      clear hb1 hbY hrz hbX hz hRz hr1 hr2 HC
      go_upto_region 19 with fail
      rw [← hY]
      clear hY
      go_wp2
      go_ret
      exact ⟨rfl, HWY.out⟩
  · have te1 : ((F1 : Int) == 2) = true := by rw [h1]; rfl
    have tn1 : ((F1 : Int) != 2) = false := by rw [h1]; rfl
    have tz1 : ((F1 : Int) == 0) = false := by rw [h1]; rfl
    have HE1 := Lib.hid h1
    clear h1
    rcases (by omega : F2 = 0 ∨ F2 = 1 ∨ F2 = 2) with h2 | h2 | h2
    · have te2 : ((F2 : Int) == 2) = false := by rw [h2]; rfl
      have tn2 : ((F2 : Int) != 2) = true := by rw [h2]; rfl
      have tz2 : ((F2 : Int) == 0) = true := by rw [h2]; rfl
      have HE2 := Lib.hid h2
      clear h2
      clear hg1 hg2
      go_wp2
      go_ret
      exact ⟨rfl, HW.out⟩
    · have te2 : ((F2 : Int) == 2) = false := by rw [h2]; rfl
      have tn2 : ((F2 : Int) != 2) = true := by rw [h2]; rfl
      have tz2 : ((F2 : Int) == 0) = false := by rw [h2]; rfl
      have HE2 := Lib.hid h2
      clear h2
      clear hg1 hg2
      have HC := Lib.hid (didSpMul Z k P1 M1 F1 P2 M2 F2 2 n1 n2 (!(n1 == n2)) v1 v2 e1 e2 xs1 xs2 w4 V1.out V2.out R1.out R2.out HZ0.out hZ1 hkb ⟨rfl, rfl, .inl ⟨HE1.out, .inl HE2.out⟩⟩ T0.out)
      go_wp2_with fail
      refine HC.out.mono ?_
      rintro _ wN ⟨z, rfl, hz, hb1⟩
      obtain ⟨vz, rfl, hRz⟩ := hz.canon
      obtain ⟨Ez, hEz⟩ : ∃ Ez, Ez = zEx 2 1 0 := ⟨_, rfl⟩
      rw [← hEz]
      have hSz := hRz.isS
      clear hEz
      obtain ⟨Y, hY⟩ : ∃ Y, Y = wN.alloc (.cells #[.int .u64 (Z : Int), .int .i64 (k : Int), .int .i64 2, .bool (!(n1 == n2)), vz, .int .i64 Ez] 39) := ⟨_, rfl⟩
      have hbY : Below wN.heap.size wN Y := by rw [hY]; exact fbone _
      have hrz : Y.heap[wN.heap.size]? = some (.cells #[.int .u64 (Z : Int), .int .i64 (k : Int), .int .i64 2, .bool (!(n1 == n2)), vz, .int .i64 Ez] 39 (0, 0)) := by rw [hY]; exact row_chain11
      have hbX := bthen hb1 hbY
      have hr1 := keep_row hbX HR1.out
      have hr2 := keep_row hbX HR2.out
      have HWY := Lib.hid (HW.out.trans (hbX.mono hWs))
      clear c10 c11 c12 c13 c14 c15 c20 c21 c22 c23 c24 c25
      obtain ⟨-, ⟨x10, x11, x12, x13, x14, x15⟩, ⟨x20, x21, x22, x23, x24, x25⟩, ⟨x30, x31, x32, x33, x34, x35⟩⟩ := ksR3 hr1 hr2 hrz (Below.refl _ _)
      clear hb1 hbY hrz hbX hz hRz hr1 hr2 HC
      go_upto_region 19 with fail
      rw [← hY]
      clear hY
      go_wp2
      go_ret
      exact ⟨rfl, HWY.out⟩
    · have te2 : ((F2 : Int) == 2) = true := by rw [h2]; rfl
      have tn2 : ((F2 : Int) != 2) = false := by rw [h2]; rfl
      have tz2 : ((F2 : Int) == 0) = false := by rw [h2]; rfl
      have HE2 := Lib.hid h2
      clear h2
      clear hg1 hg2
      have HC := Lib.hid (didSpMul Z k P1 M1 F1 P2 M2 F2 2 n1 n2 (!(n1 == n2)) v1 v2 e1 e2 xs1 xs2 w4 V1.out V2.out R1.out R2.out HZ0.out hZ1 hkb ⟨rfl, rfl, .inl ⟨HE1.out, .inr HE2.out⟩⟩ T0.out)
      go_wp2_with fail
      refine HC.out.mono ?_
      rintro _ wN ⟨z, rfl, hz, hb1⟩
      obtain ⟨vz, rfl, hRz⟩ := hz.canon
      obtain ⟨Ez, hEz⟩ : ∃ Ez, Ez = zEx 2 1 0 := ⟨_, rfl⟩
      rw [← hEz]
      have hSz := hRz.isS
      clear hEz
      obtain ⟨Y, hY⟩ : ∃ Y, Y = wN.alloc (.cells #[.int .u64 (Z : Int), .int .i64 (k : Int), .int .i64 2, .bool (!(n1 == n2)), vz, .int .i64 Ez] 39) := ⟨_, rfl⟩
      have hbY : Below wN.heap.size wN Y := by rw [hY]; exact fbone _
      have hrz : Y.heap[wN.heap.size]? = some (.cells #[.int .u64 (Z : Int), .int .i64 (k : Int), .int .i64 2, .bool (!(n1 == n2)), vz, .int .i64 Ez] 39 (0, 0)) := by rw [hY]; exact row_chain11
      have hbX := bthen hb1 hbY
      have hr1 := keep_row hbX HR1.out
      have hr2 := keep_row hbX HR2.out
      have HWY := Lib.hid (HW.out.trans (hbX.mono hWs))
      clear c10 c11 c12 c13 c14 c15 c20 c21 c22 c23 c24 c25
      obtain ⟨-, ⟨x10, x11, x12, x13, x14, x15⟩, ⟨x20, x21, x22, x23, x24, x25⟩, ⟨x30, x31, x32, x33, x34, x35⟩⟩ := ksR3 hr1 hr2 hrz (Below.refl _ _)
      clear hb1 hbY hrz hbX hz hRz hr1 hr2 HC
      go_upto_region 19 with fail
      rw [← hY]
      clear hY
      go_wp2
      go_ret
      exact ⟨rfl, HWY.out⟩
end Go.Proofs.YtgclooabjilniaaGreatDoor

/-
The statement on infinite operands. No condition.
-/
namespace Go.Proofs.YtgclooabjilniaaGreatDoor
open Go.RowKit

theorem didSpQuo (q k p1 m1 f1 p2 m2 f2 f : Nat) (n1 n2 sg : Bool) (v1 v2 : Value) (e1 e2 : Int) (xs ys : List Nat) (w : World) (hv1 : RW w v1 xs) (hv2 : RW w v2 ys) (ho1 : RealOk 300 1000 p1 m1 f1 xs e1) (ho2 : RealOk 300 1000 p2 m2 f2 ys e2) (hq0 : 0 < q) (hq : q ≤ 300) (hk : k ≤ 5) (hs : SpOk 3 f1 f2 n1 n2 f sg) (hT : TabW w) :
    Calls Tryz.prog 33 #[.int .i64 3, .int .u64 q, .int .i64 k, .agg #[.int .u64 p1, .int .i64 m1, .int .i64 f1, .bool n1, v1, .int .i64 e1], .agg #[.int .u64 p2, .int .i64 m2, .int .i64 f2, .bool n2, v2, .int .i64 e2]] w fun e' w' => ∃ z, e' = .returned (.tuple #[z, .int .i64 0]) ∧ RealV w' z q k f sg 1 0 ∧ Below w.heap.size w w' :=
  did3 q k p1 m1 f1 p2 m2 f2 f 1 n1 n2 sg v1 v2 e1 e2 0 0 w hv1.isS hv2.isS (fun W hb =>
    impSpQuo 300 1000 q k p1 m1 f1 p2 m2 f2 f n1 n2 sg v1 v2 e1 e2 xs ys W (hv1.below hb) (hv2.below hb) ho1 ho2 (by decide) (by decide) hq0 (by omega) hk hs (hT.below hb))
set_option maxRecDepth 100000 in
set_option maxHeartbeats 6400000 in
theorem lawInfinite3 (a0 : Int) (a1 : Int) (a2 : Int) (p1 : Nat) (m1 f1 : Int) (n1 : Bool) (v1 : Value) (e1 : Int) (xs1 : List Nat) (p2 : Nat) (m2 f2 : Int) (n2 : Bool) (v2 : Value) (e2 : Int) (xs2 : List Nat) (w : World) (hop : a0 % 4 = 3) (hT : TabW w) (l0 : 0 ≤ a0) (h0 : a0 ≤ 255) (l1 : 0 ≤ a1) (h1 : a1 ≤ 65535) (l2 : 0 ≤ a2) (h2 : a2 ≤ 255) (hv1 : RW w v1 xs1) (_hg1 : p1 ≤ 18446744073709551615 ∧ (-9223372036854775808 ≤ m1 ∧ m1 ≤ 9223372036854775807) ∧ (-9223372036854775808 ≤ f1 ∧ f1 ≤ 9223372036854775807) ∧ (-9223372036854775808 ≤ e1 ∧ e1 ≤ 9223372036854775807)) (hv2 : RW w v2 xs2) (_hg2 : p2 ≤ 18446744073709551615 ∧ (-9223372036854775808 ≤ m2 ∧ m2 ≤ 9223372036854775807) ∧ (-9223372036854775808 ≤ f2 ∧ f2 ≤ 9223372036854775807) ∧ (-9223372036854775808 ≤ e2 ∧ e2 ≤ 9223372036854775807)) :
    Calls Tryz.prog 9 #[.int .u8 a0, .int .u16 a1, .int .u8 a2, .agg #[.int .u64 p1, .int .i64 m1, .int .i64 f1, .bool n1, v1, .int .i64 e1], .agg #[.int .u64 p2, .int .i64 m2, .int .i64 f2, .bool n2, v2, .int .i64 e2]] w fun e' w' => e' = .returned (.bool true) ∧ Below w.heap.size w w' := by
  obtain ⟨b0, rfl⟩ := Int.eq_ofNat_of_zero_le l0
  have ib0 : b0 ≤ 255 := by omega
  obtain ⟨b1, rfl⟩ := Int.eq_ofNat_of_zero_le l1
  have ib1 : b1 ≤ 65535 := by omega
  obtain ⟨b2, rfl⟩ := Int.eq_ofNat_of_zero_le l2
  have ib2 : b2 ≤ 255 := by omega
  have hS1 := hv1.isS
  clear _hg1
  have hS2 := hv2.isS
  clear _hg2
  have hab1 := (Below.refl w.heap.size w).alloc (Nat.le_refl _) (.cells #[.int .u64 p1, .int .i64 m1, .int .i64 f1, .bool n1, v1, .int .i64 e1] 39)
  have hab2 := hab1.alloc hab1.size (.cells #[.int .u64 p2, .int .i64 m2, .int .i64 f2, .bool n2, v2, .int .i64 e2] 39)
  obtain ⟨X, hX⟩ : ∃ X, X = ((w.alloc (.cells #[.int .u64 p1, .int .i64 m1, .int .i64 f1, .bool n1, v1, .int .i64 e1] 39)).alloc (.cells #[.int .u64 p2, .int .i64 m2, .int .i64 f2, .bool n2, v2, .int .i64 e2] 39)) := ⟨_, rfl⟩
  have hr1 : X.heap[w.heap.size]? = some (.cells #[.int .u64 p1, .int .i64 m1, .int .i64 f1, .bool n1, v1, .int .i64 e1] 39 (0, 0)) := by
    rw [hX]; exact row_chain21
  have hr2 : X.heap[w.heap.size + 1]? = some (.cells #[.int .u64 p2, .int .i64 m2, .int .i64 f2, .bool n2, v2, .int .i64 e2] 39 (0, 0)) := by
    rw [hX]; exact row_chain22
  rw [← hX] at hab2
  obtain ⟨-, ⟨⟨c10, c11, c12, c13, c14, c15⟩, ⟨c20, c21, c22, c23, c24, c25⟩⟩⟩ := ksR2 hr1 hr2 (Below.refl _ _)
  have HR1 := Lib.hid hr1
  have V1 := Lib.hid (hv1.below hab2)
  have HR2 := Lib.hid hr2
  have V2 := Lib.hid (hv2.below hab2)
  have hXs := hab2.size
  have HW := Lib.hid hab2
  have T0 := Lib.hid (hT.below hab2)
  clear hT
  clear hr1 hv1 hr2 hv2
  clear hab2 hab1
  go_enter Tryz.func9, Tryz.ntmps9
  go_upto_region 1 with fail
  rw [← hX]
  clear hX
  go_wp2_with fail
  refine (zzFits1_any p1 m1 f1 e1 n1 v1 xs1 X V1.out).mono ?_
  rintro _ w1 ⟨rfl, hb1⟩
  obtain ⟨fits, hfits⟩ : ∃ f, f = decide (xs1.length ≤ 2147483647) := ⟨_, rfl⟩
  rw [← hfits]
  clear c10 c11 c12 c13 c14 c15 c20 c21 c22 c23 c24 c25 hfits
  obtain ⟨-, ⟨⟨c10, c11, c12, c13, c14, c15⟩, ⟨c20, c21, c22, c23, c24, c25⟩⟩⟩ := ksR2 HR1.out HR2.out hb1
  have HB := Lib.hid hb1
  clear hb1
  cases fits with
  | false =>
    go_wp2
    go_ret
    exact ⟨rfl, HW.out.trans (HB.out.mono hXs)⟩
  | true =>
  go_wp2_with fail
  refine (zzFits1_any p2 m2 f2 e2 n2 v2 xs2 w1 (V2.out.below HB.out)).mono ?_
  rintro _ w2 ⟨rfl, hb1⟩
  have hb1 := bthen HB.out hb1
  obtain ⟨fits, hfits⟩ : ∃ f, f = decide (xs2.length ≤ 2147483647) := ⟨_, rfl⟩
  rw [← hfits]
  clear c10 c11 c12 c13 c14 c15 c20 c21 c22 c23 c24 c25 HB hfits
  obtain ⟨-, ⟨⟨c10, c11, c12, c13, c14, c15⟩, ⟨c20, c21, c22, c23, c24, c25⟩⟩⟩ := ksR2 HR1.out HR2.out hb1
  have HB := Lib.hid hb1
  clear hb1
  cases fits with
  | false =>
    go_wp2
    go_ret
    exact ⟨rfl, HW.out.trans (HB.out.mono hXs)⟩
  | true =>
  go_wp2_with fail
  refine (real_any 300 1000 p1 m1 f1 e1 n1 v1 xs1 w2 (V1.out.below HB.out) (by decide) (by decide)).mono ?_
  rintro _ w3 ⟨ok, rfl, hok, hb1⟩
  have hb1 := bthen HB.out hb1
  have HO1 := Lib.hid hok
  clear c10 c11 c12 c13 c14 c15 c20 c21 c22 c23 c24 c25 HB hok
  obtain ⟨-, ⟨⟨c10, c11, c12, c13, c14, c15⟩, ⟨c20, c21, c22, c23, c24, c25⟩⟩⟩ := ksR2 HR1.out HR2.out hb1
  have HB := Lib.hid hb1
  clear hb1
  cases ok with
  | false =>
    go_wp2
    go_ret
    exact ⟨rfl, HW.out.trans (HB.out.mono hXs)⟩
  | true =>
  obtain ⟨P1, M1, F1, hp, rfl, rfl, hR⟩ := HO1.out rfl
  have hpp : P1 = p1 := by omega
  subst hpp
  have R1 := Lib.hid hR
  clear HO1 hp hR
  go_wp2_with fail
  refine (real_any 300 1000 p2 m2 f2 e2 n2 v2 xs2 w3 (V2.out.below HB.out) (by decide) (by decide)).mono ?_
  rintro _ w4 ⟨ok, rfl, hok, hb1⟩
  have hb1 := bthen HB.out hb1
  have HO2 := Lib.hid hok
  clear c10 c11 c12 c13 c14 c15 c20 c21 c22 c23 c24 c25 HB hok
  obtain ⟨-, ⟨⟨c10, c11, c12, c13, c14, c15⟩, ⟨c20, c21, c22, c23, c24, c25⟩⟩⟩ := ksR2 HR1.out HR2.out hb1
  have HB := Lib.hid hb1
  clear hb1
  cases ok with
  | false =>
    go_wp2
    go_ret
    exact ⟨rfl, HW.out.trans (HB.out.mono hXs)⟩
  | true =>
  obtain ⟨P2, M2, F2, hp, rfl, rfl, hR⟩ := HO2.out rfl
  have hpp : P2 = p2 := by omega
  subst hpp
  have R2 := Lib.hid hR
  clear HO2 hp hR
  have hWW := HW.out.trans (HB.out.mono hXs)
  have hV1 := V1.out.below HB.out
  have hr1 := keep_row HB.out HR1.out
  have hV2 := V2.out.below HB.out
  have hr2 := keep_row HB.out HR2.out
  have hT0 := T0.out.below HB.out
  clear T0
  have T0 := Lib.hid hT0
  clear hT0
  clear HW HB hXs V1 HR1 V2 HR2
  have HW := Lib.hid hWW
  have V1 := Lib.hid hV1
  have HR1 := Lib.hid hr1
  have V2 := Lib.hid hV2
  have HR2 := Lib.hid hr2
  have hWs := HW.out.size
  clear hWW hV1 hr1 hV2 hr2
  have q0 : (b0 : Int) % 4 = 3 := hop
  have q1 : (b1 : Int) % 300 = ((b1 % 300 : Nat) : Int) := by omega
  have q2 : (1 : Int) + ((b1 % 300 : Nat) : Int) = ((1 + b1 % 300 : Nat) : Int) := by omega
  have q3 : (b2 : Int) % 6 = ((b2 % 6 : Nat) : Int) := by omega
  have hZ0 : 0 < 1 + b1 % 300 := by omega
  have hZ1 : 1 + b1 % 300 ≤ 300 := by omega
  have hrb : b1 % 300 ≤ 299 := by omega
  have hkb : b2 % 6 ≤ 5 := by omega
  obtain ⟨Z, hZ⟩ : ∃ Z, Z = 1 + b1 % 300 := ⟨_, rfl⟩
  rw [← hZ] at q2 hZ0 hZ1
  obtain ⟨r, hr⟩ : ∃ r, r = b1 % 300 := ⟨_, rfl⟩
  rw [← hr] at q1 q2 hrb
  obtain ⟨k, hk⟩ : ∃ k, k = b2 % 6 := ⟨_, rfl⟩
  rw [← hk] at q3 hkb
  have HZ0 := Lib.hid hZ0
  clear hZ hr hk hop
  have hg1 := R1.out.form'
  have hg2 := R2.out.form'
  by_cases h1 : F1 = 2
  · have te1 : ((F1 : Int) == 2) = true := by rw [h1]; rfl
    have tn1 : ((F1 : Int) != 2) = false := by rw [h1]; rfl
    have tz1 : ((F1 : Int) == 0) = false := by rw [h1]; rfl
    have HE1 := Lib.hid h1
    clear h1
    by_cases h2 : F2 = 2
    · have te2 : ((F2 : Int) == 2) = true := by rw [h2]; rfl
      have tn2 : ((F2 : Int) != 2) = false := by rw [h2]; rfl
      have tz2 : ((F2 : Int) == 0) = false := by rw [h2]; rfl
      have HE2 := Lib.hid h2
      clear h2
      clear hg1 hg2
      go_wp2
      go_ret
      exact ⟨rfl, HW.out⟩
    · have te2 : ((F2 : Int) == 2) = false := by rw [beq_eq_false_iff_ne]; omega
      have tn2 : ((F2 : Int) != 2) = true := by rw [bne_iff_ne]; omega
      have HE2 : Hid (F2 ≤ 1) := Lib.hid (by omega)
      clear h2
      clear hg1 hg2
      have HC := Lib.hid (didSpQuo Z k P1 M1 F1 P2 M2 F2 2 n1 n2 (!(n1 == n2)) v1 v2 e1 e2 xs1 xs2 w4 V1.out V2.out R1.out R2.out HZ0.out hZ1 hkb ⟨rfl, .inr ⟨rfl, .inr ⟨HE1.out, by have := HE2.out; omega⟩⟩⟩ T0.out)
      go_wp2_with fail
      refine HC.out.mono ?_
      rintro _ wN ⟨z, rfl, hz, hb1⟩
      obtain ⟨vz, rfl, hRz⟩ := hz.canon
      obtain ⟨Ez, hEz⟩ : ∃ Ez, Ez = zEx 2 1 0 := ⟨_, rfl⟩
      rw [← hEz]
      have hSz := hRz.isS
      clear hEz
      obtain ⟨Y, hY⟩ : ∃ Y, Y = wN.alloc (.cells #[.int .u64 (Z : Int), .int .i64 (k : Int), .int .i64 2, .bool (!(n1 == n2)), vz, .int .i64 Ez] 39) := ⟨_, rfl⟩
      have hbY : Below wN.heap.size wN Y := by rw [hY]; exact fbone _
      have hrz : Y.heap[wN.heap.size]? = some (.cells #[.int .u64 (Z : Int), .int .i64 (k : Int), .int .i64 2, .bool (!(n1 == n2)), vz, .int .i64 Ez] 39 (0, 0)) := by rw [hY]; exact row_chain11
      have hbX := bthen hb1 hbY
      have hr1 := keep_row hbX HR1.out
      have hr2 := keep_row hbX HR2.out
      have HWY := Lib.hid (HW.out.trans (hbX.mono hWs))
      clear c10 c11 c12 c13 c14 c15 c20 c21 c22 c23 c24 c25
      obtain ⟨-, ⟨x10, x11, x12, x13, x14, x15⟩, ⟨x20, x21, x22, x23, x24, x25⟩, ⟨x30, x31, x32, x33, x34, x35⟩⟩ := ksR3 hr1 hr2 hrz (Below.refl _ _)
      clear hb1 hbY hrz hbX hz hRz hr1 hr2 HC
      go_upto_region 19 with fail
      rw [← hY]
      clear hY
      go_wp2
      go_ret
      exact ⟨rfl, HWY.out⟩
  · have te1 : ((F1 : Int) == 2) = false := by rw [beq_eq_false_iff_ne]; omega
    have tn1 : ((F1 : Int) != 2) = true := by rw [bne_iff_ne]; omega
    have HE1 : Hid (F1 ≤ 1) := Lib.hid (by omega)
    clear h1
    by_cases h2 : F2 = 2
    · have te2 : ((F2 : Int) == 2) = true := by rw [h2]; rfl
      have tn2 : ((F2 : Int) != 2) = false := by rw [h2]; rfl
      have tz2 : ((F2 : Int) == 0) = false := by rw [h2]; rfl
      have HE2 := Lib.hid h2
      clear h2
      clear hg1 hg2
      have HC := Lib.hid (didSpQuo Z k P1 M1 F1 P2 M2 F2 0 n1 n2 (!(n1 == n2)) v1 v2 e1 e2 xs1 xs2 w4 V1.out V2.out R1.out R2.out HZ0.out hZ1 hkb ⟨rfl, .inl ⟨rfl, by have := HE1.out; have := HE2.out; omega⟩⟩ T0.out)
      go_wp2_with fail
      refine HC.out.mono ?_
      rintro _ wN ⟨z, rfl, hz, hb1⟩
      obtain ⟨vz, rfl, hRz⟩ := hz.canon
      obtain ⟨Ez, hEz⟩ : ∃ Ez, Ez = zEx 0 1 0 := ⟨_, rfl⟩
      rw [← hEz]
      have hSz := hRz.isS
      clear hEz
      obtain ⟨Y, hY⟩ : ∃ Y, Y = wN.alloc (.cells #[.int .u64 (Z : Int), .int .i64 (k : Int), .int .i64 0, .bool (!(n1 == n2)), vz, .int .i64 Ez] 39) := ⟨_, rfl⟩
      have hbY : Below wN.heap.size wN Y := by rw [hY]; exact fbone _
      have hrz : Y.heap[wN.heap.size]? = some (.cells #[.int .u64 (Z : Int), .int .i64 (k : Int), .int .i64 0, .bool (!(n1 == n2)), vz, .int .i64 Ez] 39 (0, 0)) := by rw [hY]; exact row_chain11
      have hbX := bthen hb1 hbY
      have hr1 := keep_row hbX HR1.out
      have hr2 := keep_row hbX HR2.out
      have HWY := Lib.hid (HW.out.trans (hbX.mono hWs))
      clear c10 c11 c12 c13 c14 c15 c20 c21 c22 c23 c24 c25
      obtain ⟨-, ⟨x10, x11, x12, x13, x14, x15⟩, ⟨x20, x21, x22, x23, x24, x25⟩, ⟨x30, x31, x32, x33, x34, x35⟩⟩ := ksR3 hr1 hr2 hrz (Below.refl _ _)
      clear hb1 hbY hrz hbX hz hRz hr1 hr2 HC
      go_upto_region 19 with fail
      rw [← hY]
      clear hY
      go_wp2
      go_ret
      exact ⟨rfl, HWY.out⟩
    · have te2 : ((F2 : Int) == 2) = false := by rw [beq_eq_false_iff_ne]; omega
      have tn2 : ((F2 : Int) != 2) = true := by rw [bne_iff_ne]; omega
      have HE2 : Hid (F2 ≤ 1) := Lib.hid (by omega)
      clear h2
      clear hg1 hg2
      go_wp2
      go_ret
      exact ⟨rfl, HW.out⟩
end Go.Proofs.YtgclooabjilniaaGreatDoor

/-
The statement on infinite operands. No condition.
-/
namespace Go.Proofs.YtgclooabjilniaaGreatDoor
open Go.RowKit

theorem lawInfinite (a0 : Int) (a1 : Int) (a2 : Int) (p1 : Nat) (m1 f1 : Int) (n1 : Bool) (v1 : Value) (e1 : Int) (xs1 : List Nat) (p2 : Nat) (m2 f2 : Int) (n2 : Bool) (v2 : Value) (e2 : Int) (xs2 : List Nat) (w : World) (hT : TabW w) (_hK : KarW w) (l0 : 0 ≤ a0) (h0 : a0 ≤ 255) (l1 : 0 ≤ a1) (h1 : a1 ≤ 65535) (l2 : 0 ≤ a2) (h2 : a2 ≤ 255) (hv1 : RW w v1 xs1) (_hg1 : p1 ≤ 18446744073709551615 ∧ (-9223372036854775808 ≤ m1 ∧ m1 ≤ 9223372036854775807) ∧ (-9223372036854775808 ≤ f1 ∧ f1 ≤ 9223372036854775807) ∧ (-9223372036854775808 ≤ e1 ∧ e1 ≤ 9223372036854775807)) (hv2 : RW w v2 xs2) (_hg2 : p2 ≤ 18446744073709551615 ∧ (-9223372036854775808 ≤ m2 ∧ m2 ≤ 9223372036854775807) ∧ (-9223372036854775808 ≤ f2 ∧ f2 ≤ 9223372036854775807) ∧ (-9223372036854775808 ≤ e2 ∧ e2 ≤ 9223372036854775807)) :
    Calls Tryz.prog 9 #[.int .u8 a0, .int .u16 a1, .int .u8 a2, .agg #[.int .u64 p1, .int .i64 m1, .int .i64 f1, .bool n1, v1, .int .i64 e1], .agg #[.int .u64 p2, .int .i64 m2, .int .i64 f2, .bool n2, v2, .int .i64 e2]] w fun e' w' => e' = .returned (.bool true) ∧ Below w.heap.size w w' := by
  rcases (by omega : a0 % 4 = 0 ∨ a0 % 4 = 1 ∨ a0 % 4 = 2 ∨ a0 % 4 = 3) with h | h | h | h
  · exact lawInfinite0 a0 a1 a2 p1 m1 f1 n1 v1 e1 xs1 p2 m2 f2 n2 v2 e2 xs2 w h hT l0 h0 l1 h1 l2 h2 hv1 _hg1 hv2 _hg2
  · exact lawInfinite1 a0 a1 a2 p1 m1 f1 n1 v1 e1 xs1 p2 m2 f2 n2 v2 e2 xs2 w h hT l0 h0 l1 h1 l2 h2 hv1 _hg1 hv2 _hg2
  · exact lawInfinite2 a0 a1 a2 p1 m1 f1 n1 v1 e1 xs1 p2 m2 f2 n2 v2 e2 xs2 w h hT l0 h0 l1 h1 l2 h2 hv1 _hg1 hv2 _hg2
  · exact lawInfinite3 a0 a1 a2 p1 m1 f1 n1 v1 e1 xs1 p2 m2 f2 n2 v2 e2 xs2 w h hT l0 h0 l1 h1 l2 h2 hv1 _hg1 hv2 _hg2
end Go.Proofs.YtgclooabjilniaaGreatDoor
