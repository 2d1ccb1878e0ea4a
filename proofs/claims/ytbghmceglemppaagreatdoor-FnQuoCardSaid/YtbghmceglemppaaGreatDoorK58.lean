/-
Texts of this proof, joined: QuL. No condition.
-/
import Derived.Test.YtbghmceglemppaaGreatDoorK52
import Derived.Test.YtbghmceglemppaaGreatDoorK53
import Derived.Test.YtbghmceglemppaaGreatDoorK56
import Derived.Test.YtbghmceglemppaaGreatDoorK57
namespace Go.Proofs.YtbghmceglemppaaGreatDoor
open Go.RowKit

set_option maxRecDepth 100000 in
set_option maxHeartbeats 3200000 in
theorem lawQuo (a0 : Int) (a1 : Int) (p1 : Nat) (m1 f1 : Int) (n1 : Bool) (v1 : Value) (e1 : Int) (xs1 : List Nat) (p2 : Nat) (m2 f2 : Int) (n2 : Bool) (v2 : Value) (e2 : Int) (xs2 : List Nat) (w : World) (hT : TabW w) (_hKar : KarW w) (hK : DivW w) (l0 : 0 ≤ a0) (h0 : a0 ≤ 65535) (l1 : 0 ≤ a1) (h1 : a1 ≤ 255) (hv1 : RW w v1 xs1) (_hg1 : p1 ≤ 18446744073709551615 ∧ (-9223372036854775808 ≤ m1 ∧ m1 ≤ 9223372036854775807) ∧ (-9223372036854775808 ≤ f1 ∧ f1 ≤ 9223372036854775807) ∧ (-9223372036854775808 ≤ e1 ∧ e1 ≤ 9223372036854775807)) (hv2 : RW w v2 xs2) (_hg2 : p2 ≤ 18446744073709551615 ∧ (-9223372036854775808 ≤ m2 ∧ m2 ≤ 9223372036854775807) ∧ (-9223372036854775808 ≤ f2 ∧ f2 ≤ 9223372036854775807) ∧ (-9223372036854775808 ≤ e2 ∧ e2 ≤ 9223372036854775807)) :
    Calls Tryz.prog 10 #[.int .u16 a0, .int .u8 a1, .agg #[.int .u64 p1, .int .i64 m1, .int .i64 f1, .bool n1, v1, .int .i64 e1], .agg #[.int .u64 p2, .int .i64 m2, .int .i64 f2, .bool n2, v2, .int .i64 e2]] w fun e' w' => e' = .returned (.bool true) ∧ Below w.heap.size w w' := by
  obtain ⟨b0, rfl⟩ := Int.eq_ofNat_of_zero_le l0
  have ib0 : b0 ≤ 65535 := by omega
  obtain ⟨b1, rfl⟩ := Int.eq_ofNat_of_zero_le l1
  have ib1 : b1 ≤ 255 := by omega
  have hS1 := hv1.isS
  clear _hg1
  have hS2 := hv2.isS
  clear _hg2
  have hab1 := (Below.refl w.heap.size w).alloc (Nat.le_refl _) (.cells #[.int .u64 p1, .int .i64 m1, .int .i64 f1, .bool n1, v1, .int .i64 e1] 25)
  have hab2 := hab1.alloc hab1.size (.cells #[.int .u64 p2, .int .i64 m2, .int .i64 f2, .bool n2, v2, .int .i64 e2] 25)
  obtain ⟨X, hX⟩ : ∃ X, X = ((w.alloc (.cells #[.int .u64 p1, .int .i64 m1, .int .i64 f1, .bool n1, v1, .int .i64 e1] 25)).alloc (.cells #[.int .u64 p2, .int .i64 m2, .int .i64 f2, .bool n2, v2, .int .i64 e2] 25)) := ⟨_, rfl⟩
  have hr1 : X.heap[w.heap.size]? = some (.cells #[.int .u64 p1, .int .i64 m1, .int .i64 f1, .bool n1, v1, .int .i64 e1] 25 (0, 0)) := by
    rw [hX]; exact row_chain21
  have hr2 : X.heap[w.heap.size + 1]? = some (.cells #[.int .u64 p2, .int .i64 m2, .int .i64 f2, .bool n2, v2, .int .i64 e2] 25 (0, 0)) := by
    rw [hX]; exact row_chain22
  rw [← hX] at hab2
  obtain ⟨-, ⟨⟨c10, c11, c12, c13, c14, c15⟩, ⟨c20, c21, c22, c23, c24, c25⟩⟩⟩ := ksR2 hr1 hr2 (Below.refl _ _)
  have HR1 := Lib.hid hr1
  have V1 := Lib.hid (hv1.below hab2)
  have HR2 := Lib.hid hr2
  have V2 := Lib.hid (hv2.below hab2)
  have hXs := hab2.size
  have HW := Lib.hid hab2
  have T0 := Lib.hid (hT.below hab2)
  have K0 := Lib.hid (hK.below hab2)
  clear hT hK
  clear hr1 hv1 hr2 hv2
  clear hab2 hab1
  go_enter Tryz.func10, Tryz.ntmps10
  go_upto_region 1 with fail
  rw [← hX]
  clear hX
  go_wp2_with fail
  refine (zzFits1_any p1 m1 f1 e1 n1 v1 xs1 X V1.out).mono ?_
  rintro _ w1 ⟨rfl, hb1⟩
  obtain ⟨fits, hfits⟩ : ∃ f, f = decide (xs1.length ≤ 2147483647) := ⟨_, rfl⟩
  rw [← hfits]
  clear c10 c11 c12 c13 c14 c15 c20 c21 c22 c23 c24 c25 hfits
  obtain ⟨-, ⟨⟨c10, c11, c12, c13, c14, c15⟩, ⟨c20, c21, c22, c23, c24, c25⟩⟩⟩ := ksR2 HR1.out HR2.out hb1
  have HB := Lib.hid hb1
  clear hb1
  cases fits with
  | false =>
    go_wp2
    go_ret
    exact ⟨rfl, HW.out.trans (HB.out.mono hXs)⟩
  | true =>
  go_wp2_with fail
  refine (zzFits1_any p2 m2 f2 e2 n2 v2 xs2 w1 (V2.out.below HB.out)).mono ?_
  rintro _ w2 ⟨rfl, hb1⟩
  have hb1 := bthen HB.out hb1
  obtain ⟨fits, hfits⟩ : ∃ f, f = decide (xs2.length ≤ 2147483647) := ⟨_, rfl⟩
  rw [← hfits]
  clear c10 c11 c12 c13 c14 c15 c20 c21 c22 c23 c24 c25 HB hfits
  obtain ⟨-, ⟨⟨c10, c11, c12, c13, c14, c15⟩, ⟨c20, c21, c22, c23, c24, c25⟩⟩⟩ := ksR2 HR1.out HR2.out hb1
  have HB := Lib.hid hb1
  clear hb1
  cases fits with
  | false =>
    go_wp2
    go_ret
    exact ⟨rfl, HW.out.trans (HB.out.mono hXs)⟩
  | true =>
  go_wp2_with fail
  refine (number_any p1 m1 f1 e1 n1 v1 xs1 w2 (V1.out.below HB.out)).mono ?_
  rintro _ w3 ⟨ok, rfl, hok, hb1⟩
  have hb1 := bthen HB.out hb1
  have HO1 := Lib.hid hok
  clear c10 c11 c12 c13 c14 c15 c20 c21 c22 c23 c24 c25 HB hok
  obtain ⟨-, ⟨⟨c10, c11, c12, c13, c14, c15⟩, ⟨c20, c21, c22, c23, c24, c25⟩⟩⟩ := ksR2 HR1.out HR2.out hb1
  have HB := Lib.hid hb1
  clear hb1
  cases ok with
  | false =>
    go_wp2
    go_ret
    exact ⟨rfl, HW.out.trans (HB.out.mono hXs)⟩
  | true =>
  obtain ⟨hn, P1, M1, F1, hp, rfl, rfl, hR⟩ := HO1.out rfl
  have hpp : P1 = p1 := by omega
  subst hpp
  have R1 := Lib.hid hR
  have N1 : Hid (F1 ≠ 2) := Lib.hid (fun h => hn (by rw [h]; rfl))
  clear HO1 hp hR hn
  go_wp2_with fail
  refine (number_any p2 m2 f2 e2 n2 v2 xs2 w3 (V2.out.below HB.out)).mono ?_
  rintro _ w4 ⟨ok, rfl, hok, hb1⟩
  have hb1 := bthen HB.out hb1
  have HO2 := Lib.hid hok
  clear c10 c11 c12 c13 c14 c15 c20 c21 c22 c23 c24 c25 HB hok
  obtain ⟨-, ⟨⟨c10, c11, c12, c13, c14, c15⟩, ⟨c20, c21, c22, c23, c24, c25⟩⟩⟩ := ksR2 HR1.out HR2.out hb1
  have HB := Lib.hid hb1
  clear hb1
  cases ok with
  | false =>
    go_wp2
    go_ret
    exact ⟨rfl, HW.out.trans (HB.out.mono hXs)⟩
  | true =>
  obtain ⟨hn, P2, M2, F2, hp, rfl, rfl, hR⟩ := HO2.out rfl
  have hpp : P2 = p2 := by omega
  subst hpp
  have R2 := Lib.hid hR
  have N2 : Hid (F2 ≠ 2) := Lib.hid (fun h => hn (by rw [h]; rfl))
  clear HO2 hp hR hn
  by_cases hF0 : F2 = 0
  · have t : ((F2 : Int) == 0) = true := by rw [hF0]; rfl
    clear hF0
    go_wp2
    go_ret
    exact ⟨rfl, HW.out.trans (HB.out.mono hXs)⟩
  have t2 : ((F2 : Int) == 0) = false := by rw [beq_eq_false_iff_ne]; omega
  have HF2 : Hid (F2 = 1) := Lib.hid (by have := R2.out.form'; have := N2.out; omega)
  clear hF0
  have hWW := HW.out.trans (HB.out.mono hXs)
  have hV1 := V1.out.below HB.out
  have hr1 := keep_row HB.out HR1.out
  have hV2 := V2.out.below HB.out
  have hr2 := keep_row HB.out HR2.out
  have hT0 := T0.out.below HB.out
  have hK0 := K0.out.below HB.out
  clear T0 K0
  have T0 := Lib.hid hT0
  have K0 := Lib.hid hK0
  clear hT0 hK0
  clear HW HB hXs V1 HR1 V2 HR2
  have HW := Lib.hid hWW
  have V1 := Lib.hid hV1
  have HR1 := Lib.hid hr1
  have V2 := Lib.hid hV2
  have HR2 := Lib.hid hr2
  have hWs := HW.out.size
  clear hWW hV1 hr1 hV2 hr2
  go_wp2_with fail
  refine (target_any b0 b1 w4 ib0 ib1).mono ?_
  rintro _ _ ⟨rfl, rfl⟩
  have hqb : b0 % 301 ≤ 300 := by omega
  have hkb : b1 % 6 ≤ 5 := by omega
  obtain ⟨q, hq⟩ : ∃ q, q = b0 % 301 := ⟨_, rfl⟩
  obtain ⟨k, hk⟩ : ∃ k, k = b1 % 6 := ⟨_, rfl⟩
  rw [← hq] at hqb ⊢
  rw [← hk] at hkb ⊢
  clear hq hk ib0 ib1
  go_wp2_with fail
  have hf1 : F1 ≤ 1 := by have := R1.out.form'; have := N1.out; omega
  clear t2
  refine (impQuo 300 1000 q k P1 M1 F1 P2 M2 F2 n1 n2 v1 v2 e1 e2 xs1 xs2 w4 V1.out V2.out R1.out R2.out hf1 HF2.out (by decide) (by decide) (by omega) hkb T0.out K0.out).mono ?_
  rintro _ wN ⟨z, A, rfl, hz, hb1⟩
  have hpo : 0 < pOf q (max P1 P2) := by have := R1.out.1; unfold pOf; split <;> omega
  have hpo2 : pOf q (max P1 P2) ≤ 300 := by have := R1.out.2.1; have := R2.out.2.1; unfold pOf; split <;> omega
  obtain ⟨Z, hZ⟩ : ∃ Z, Z = pOf q (max P1 P2) := ⟨_, rfl⟩
  rw [← hZ] at hz hpo hpo2
  have HPM := Lib.hid hZ
  obtain ⟨V, hV⟩ : ∃ V, V = sI (n1 != n2) (quN Z (dyM F1 (wv xs1)) (wv xs2)) := ⟨_, rfl⟩
  obtain ⟨XX, hXX⟩ : ∃ XX, XX = dyE F1 e1 - e2 - (quK Z (dyM F1 (wv xs1)) (wv xs2) : Nat) - 1 := ⟨_, rfl⟩
  have hbd1 := dy_bd R1.out
  have hbd2 := dy_bd R2.out
  have hM2 : dyM F2 (wv xs2) = wv xs2 := by rw [HF2.out]; rfl
  have hE2 : dyE F2 e2 = e2 := by rw [HF2.out]; rfl
  have hN2 : dyN F2 n2 = n2 := by rw [HF2.out]; rfl
  rw [hM2, hE2] at hbd2
  have hqk : quK Z (dyM F1 (wv xs1)) (wv xs2) ≤ 1000 := by unfold quK; omega
  have hblV : bl V.natAbs ≤ 2000 := by
    rw [hV, natAbs_sI]
    exact Nat.le_trans (quN_bl _ _ _) (by omega)
  have HXB : Hid (bl V.natAbs ≤ 1000000 ∧ -4000 ≤ XX ∧ XX ≤ 4000) := Lib.hid (by omega)
  have hp2' : 0 < wv xs2 := RealOk.pos R2.out HF2.out
  have wz : IntKind.i64.wrap (Z : Int) = (Z : Int) := wrap_i64_id (by omega) (by omega)
  have wz1 : IntKind.i64.wrap ((Z : Int) + 1) = (Z : Int) + 1 := wrap_i64_id (by omega) (by omega)
  have HAH : Hid (∀ (w' : World) (a b : Value), F1 = 1 → NatV w' a (dyM F1 (wv xs1)) → NatV w' b (dyM F2 (wv xs2)) → Calls Tryz.prog 51 #[.agg #[.bool (dyN F1 n1), a, .int .i64 (dyE F1 e1)], .agg #[.bool (dyN F2 n2), b, .int .i64 (dyE F2 e2)], .int .i64 ((Z : Int) + 1)] w' fun e w5 => ∃ ng c Mr, e = .returned (.agg #[.bool ng, c, .int .i64 XX]) ∧ NatV w5 c Mr ∧ sI ng Mr = V ∧ Below w'.heap.size w' w5) := Lib.hid (fun w' a b h1 ha hb => by
    rw [hM2] at hb
    rw [hE2, hN2]
    have hN1 : dyN F1 n1 = n1 := by rw [h1]; rfl
    rw [hN1]
    have := ahead_any n1 n2 a b (dyE F1 e1) e2 (dyM F1 (wv xs1)) (wv xs2) (Z + 1) w' ha hb (by omega) hp2' (by omega) (by omega) (by omega) (by omega)
    rw [show ((Z + 1 : Nat) : Int) = (Z : Int) + 1 by push_cast; rfl] at this
    refine this.mono ?_
    rintro _ w5 ⟨c, rfl, k1, k2⟩
    exact ⟨_, c, quN Z (dyM F1 (wv xs1)) (wv xs2), by rw [hXX]; rfl, k1, hV.symm, k2⟩)
  have HV0 : Hid (F1 = 0 → V = 0) := Lib.hid (fun h => by rw [hV, h, show dyM 0 (wv xs1) = 0 from rfl, quN_zero, sI_zero])
  have HV := Lib.hid hV
  rw [← hV, ← hXX] at hz
  clear hZ hV hXX hbd1 hbd2 hblV hf1 hM2 hE2 hN2 hqk hp2'
  obtain ⟨fz, sg, vz, Ez, rfl, hSz⟩ := hz.form
  obtain ⟨Y, hY⟩ : ∃ Y, Y = wN.alloc (.cells #[.int .u64 (Z : Int), .int .i64 (k : Int), .int .i64 (fz : Int), .bool sg, vz, .int .i64 Ez] 25) := ⟨_, rfl⟩
  have hbY : Below wN.heap.size wN Y := by rw [hY]; exact fbone _
  have hrz : Y.heap[wN.heap.size]? = some (.cells #[.int .u64 (Z : Int), .int .i64 (k : Int), .int .i64 (fz : Int), .bool sg, vz, .int .i64 Ez] 25 (0, 0)) := by rw [hY]; exact row_chain11
  have hbX := bthen hb1 hbY
  have hr1 := keep_row hbX HR1.out
  have HRx1 := Lib.hid hr1
  have VY1 := Lib.hid (V1.out.below hbX)
  have hr2 := keep_row hbX HR2.out
  have HRx2 := Lib.hid hr2
  have VY2 := Lib.hid (V2.out.below hbX)
  have HRz := Lib.hid hrz
  have HZ := Lib.hid (hz.below hbY)
  have HWY := Lib.hid (HW.out.trans (hbX.mono hWs))
  have TY := Lib.hid (T0.out.below hbX)
  have hYs := HWY.out.size
  have hcc := Below.refl Y.heap.size Y
  clear hb1 hbY hrz hbX hz c10 c11 c12 c13 c14 c15 c20 c21 c22 c23 c24 c25 HW hWs T0 hr1 V1 HR1 hr2 V2 HR2
  obtain ⟨-, ⟨c10, c11, c12, c13, c14, c15⟩, ⟨c20, c21, c22, c23, c24, c25⟩, d0, d1, d2, d3, d4, d5⟩ := ksR3 HRx1.out HRx2.out HRz.out hcc
  go_upto_region 7 with fail
  rw [← hY]
  clear hY
  go_wp2_with fail
  refine (chosen_any q P1 P2 M1 M2 F1 F2 n1 n2 v1 v2 e1 e2 _ hS1 hS2).mono ?_
  rintro _ w6 ⟨rfl, hb6⟩
  rw [← HPM.out]
  clear hcc c10 c11 c12 c13 c14 c15 c20 c21 c22 c23 c24 c25 d0 d1 d2 d3 d4 d5
  have hcc := hb6
  obtain ⟨-, ⟨c10, c11, c12, c13, c14, c15⟩, ⟨c20, c21, c22, c23, c24, c25⟩, d0, d1, d2, d3, d4, d5⟩ := ksR3 HRx1.out HRx2.out HRz.out hcc
  by_cases hF1 : F1 = 0
  · have t1 : ((F1 : Int) == 0) = true := by rw [hF1]; rfl
    have HTZ : Hid (Told w6 (.agg #[.int .u64 (Z : Int), .int .i64 (k : Int), .int .i64 (fz : Int), .bool sg, vz, .int .i64 Ez]) Z k false (rQ Z k false 0 0) (0 + (rk Z 0 : Nat)) ∧ A = rA Z k false 0 0) := Lib.hid (by
      have hv0 := HV0.out hF1
      obtain ⟨k1, k2⟩ := (HZ.out.below hb6).told (ng := false) (M := 0) (by rw [hv0]; rfl) hpo
      refine ⟨?_, k2⟩
      obtain ⟨r1, r2, -⟩ := rQ_zero Z k false
      rw [r2] at k1 ⊢
      obtain ⟨f, ng, v, E, zs, h1, h2, h3, -⟩ := k1
      exact ⟨f, ng, v, E, zs, h1, h2, h3, fun h => absurd rfl h⟩)
    clear hF1
    go_wp2_with fail
    refine (rounds_any _ A false (.slice none 0 0) 0 0 Z k _ HTZ.out.1 HTZ.out.2 ⟨IsS.nil, rfl, fun i hi => absurd hi (by rw [nl_zero]; omega)⟩ (by decide) (by omega) hkb (by decide) (by decide)).mono ?_
    rintro _ w7 ⟨rfl, hb7⟩
    have hbe := HWY.out.trans ((bthen hb6 hb7).mono hYs)
    go_wp2
    go_ret
    exact ⟨rfl, hbe⟩
  · have t1 : ((F1 : Int) == 0) = false := by rw [beq_eq_false_iff_ne]; omega
    have HF1 : Hid (F1 = 1) := Lib.hid (by have := R1.out.form'; have := N1.out; omega)
    clear hF1
    go_upto_region 10 with fail
    (go_region_held3 (fun w' => Below Y.heap.size Y w' ∧ (w'.cell? ⟨w.heap.size, 0, none⟩ = some (.int .u64 (P1 : Int)) ∧ w'.cell? ⟨w.heap.size, 1, none⟩ = some (.int .i64 (M1 : Int)) ∧ w'.cell? ⟨w.heap.size, 2, none⟩ = some (.int .i64 (F1 : Int)) ∧ w'.cell? ⟨w.heap.size, 3, none⟩ = some (.bool n1) ∧ w'.cell? ⟨w.heap.size, 4, none⟩ = some (v1) ∧ w'.cell? ⟨w.heap.size, 5, none⟩ = some (.int .i64 e1)) ∧ (w'.cell? ⟨w.heap.size + 1, 0, none⟩ = some (.int .u64 (P2 : Int)) ∧ w'.cell? ⟨w.heap.size + 1, 1, none⟩ = some (.int .i64 (M2 : Int)) ∧ w'.cell? ⟨w.heap.size + 1, 2, none⟩ = some (.int .i64 (F2 : Int)) ∧ w'.cell? ⟨w.heap.size + 1, 3, none⟩ = some (.bool n2) ∧ w'.cell? ⟨w.heap.size + 1, 4, none⟩ = some (v2) ∧ w'.cell? ⟨w.heap.size + 1, 5, none⟩ = some (.int .i64 e2)) ∧ w'.cell? ⟨wN.heap.size, 0, none⟩ = some (.int .u64 (Z : Int)) ∧ w'.cell? ⟨wN.heap.size, 1, none⟩ = some (.int .i64 (k : Int)) ∧ w'.cell? ⟨wN.heap.size, 2, none⟩ = some (.int .i64 (fz : Int)) ∧ w'.cell? ⟨wN.heap.size, 3, none⟩ = some (.bool sg) ∧ w'.cell? ⟨wN.heap.size, 4, none⟩ = some (vz) ∧ w'.cell? ⟨wN.heap.size, 5, none⟩ = some (.int .i64 Ez))
        ((refine ksR3 HRx1.out HRx2.out HRz.out ?_; with_reducible first | assumption | exact Below.drew hcc))
        (first
          | (go_at_call 50; (with_reducible refine (rounds_any _ A ng c Mr XX Z k _ (HZ.out.below hb10 |>.told HSV.out hpo).1 (HZ.out.told HSV.out hpo).2 D3.out (by rw [sum_bl HSV.out]; have := HXB.out; omega) (by omega) hkb (by have := HXB.out; omega) (by have := HXB.out; omega)).mono ?_); rintro _ w12 ⟨rfl, hb12⟩; have hb12 := bthen hb10 hb12)
          | (go_at_call 51; (with_reducible refine (HAH.out _ a b HF1.out D1x.out D2.out).mono ?_); rintro _ w10 ⟨ng, c, Mr, rfl, hc, hs, hb10⟩; have hTc := hc.isS; have D3 := Lib.hid hc; have HSV := Lib.hid hs; clear hc hs; have hb10 := bthen hb9 hb10)
          | (go_at_call 17; (with_reducible refine (ofReal_any 300 1000 P2 M2 F2 e2 n2 v2 xs2 _ (VY2.out.below hb8) R2.out).mono ?_); rintro _ w9 ⟨_, rfl, ⟨b, rfl, hd2⟩, hb9⟩; have hT2 := hd2.isS; have D1x := Lib.hid (D1.out.below hb9); have hb9 := bthen hb8 hb9; have D2 := Lib.hid hd2; clear hd2)
          | (go_at_call 17; refine (ofReal_any 300 1000 P1 M1 F1 e1 n1 v1 xs1 _ (VY1.out.below (And.left (by assumption))) R1.out).mono ?_; rintro _ w8 ⟨_, rfl, ⟨a, rfl, hd1⟩, hb8⟩; have hT1 := hd1.isS; have hb8 := bthenL hb8 (by assumption); have D1 := Lib.hid hd1; clear hd1)))
    all_goals
      go_wp2
      go_ret
      exact ⟨rfl, HWY.out.trans (hb12.mono hYs)⟩
end Go.Proofs.YtbghmceglemppaaGreatDoor
