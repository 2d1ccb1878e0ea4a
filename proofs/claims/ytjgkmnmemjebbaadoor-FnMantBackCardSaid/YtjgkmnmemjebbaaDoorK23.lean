/-
Texts of this proof, joined: LwG. No condition.
-/
import Derived.Test.YtjgkmnmemjebbaaDoorK22
/-
The statements on MantExp and back, and on IsInt. No condition.
-/
namespace Go.Proofs.YtjgkmnmemjebbaaDoor
open Go.RowKit

set_option maxRecDepth 100000 in
set_option maxHeartbeats 3200000 in
theorem lawMantBack (p1 : Nat) (m1 f1 : Int) (n1 : Bool) (v1 : Value) (e1 : Int) (xs1 : List Nat) (w : World) (hT : TabW w) (hv1 : RW w v1 xs1) (_hg1 : p1 ≤ 18446744073709551615 ∧ (-9223372036854775808 ≤ m1 ∧ m1 ≤ 9223372036854775807) ∧ (-9223372036854775808 ≤ f1 ∧ f1 ≤ 9223372036854775807) ∧ (-9223372036854775808 ≤ e1 ∧ e1 ≤ 9223372036854775807)) :
    Calls Tryd.prog 11 #[.agg #[.int .u64 p1, .int .i64 m1, .int .i64 f1, .bool n1, v1, .int .i64 e1]] w fun e' w' => e' = .returned (.bool true) ∧ Below w.heap.size w w' := by
  have hS1 := hv1.isS
  clear _hg1
  have hab1 := (Below.refl w.heap.size w).alloc (Nat.le_refl _) (.cells #[.int .u64 p1, .int .i64 m1, .int .i64 f1, .bool n1, v1, .int .i64 e1] 26)
  obtain ⟨X, hX⟩ : ∃ X, X = (w.alloc (.cells #[.int .u64 p1, .int .i64 m1, .int .i64 f1, .bool n1, v1, .int .i64 e1] 26)) := ⟨_, rfl⟩
  have hr1 : X.heap[w.heap.size]? = some (.cells #[.int .u64 p1, .int .i64 m1, .int .i64 f1, .bool n1, v1, .int .i64 e1] 26 (0, 0)) := by
    rw [hX]; exact row_chain11
  rw [← hX] at hab1
  obtain ⟨-, ⟨c10, c11, c12, c13, c14, c15⟩⟩ := ksR1 hr1 (Below.refl _ _)
  have HR1 := Lib.hid hr1
  have V1 := Lib.hid (hv1.below hab1)
  have hXs := hab1.size
  have HW := Lib.hid hab1
  have T0 := Lib.hid (hT.below hab1)
  clear hT
  clear hr1 hv1
  clear hab1
  go_enter Tryd.func11, Tryd.ntmps11
  go_upto_region 1 with fail
  rw [← hX]
  clear hX
  go_wp2_with fail
  refine (zzFits1_any p1 m1 f1 e1 n1 v1 xs1 X V1.out).mono ?_
  rintro _ w1 ⟨rfl, hb1⟩
  obtain ⟨fits, hfits⟩ : ∃ f, f = decide (xs1.length ≤ 2147483647) := ⟨_, rfl⟩
  rw [← hfits]
  clear c10 c11 c12 c13 c14 c15 hfits
  obtain ⟨-, ⟨c10, c11, c12, c13, c14, c15⟩⟩ := ksR1 HR1.out hb1
  have HB := Lib.hid hb1
  clear hb1
  cases fits with
  | false =>
    go_wp2
    go_ret
    exact ⟨rfl, HW.out.trans (HB.out.mono hXs)⟩
  | true =>
  go_wp2_with fail
  refine (real_any 300 1000000 p1 m1 f1 e1 n1 v1 xs1 w1 (V1.out.below HB.out) (by decide) (by decide)).mono ?_
  rintro _ w2 ⟨ok, rfl, hok, hb1⟩
  have hb1 := bthen HB.out hb1
  have HO1 := Lib.hid hok
  clear c10 c11 c12 c13 c14 c15 HB hok
  obtain ⟨-, ⟨c10, c11, c12, c13, c14, c15⟩⟩ := ksR1 HR1.out hb1
  have HB := Lib.hid hb1
  clear hb1
  cases ok with
  | false =>
    go_wp2
    go_ret
    exact ⟨rfl, HW.out.trans (HB.out.mono hXs)⟩
  | true =>
  obtain ⟨P1, M1, F1, hp, rfl, rfl, hR⟩ := HO1.out rfl
  have hpp : P1 = p1 := by omega
  subst hpp
  have R1 := Lib.hid hR
  clear HO1 hp hR
  have hWW := HW.out.trans (HB.out.mono hXs)
  have hV1 := V1.out.below HB.out
  have hr1 := keep_row HB.out HR1.out
  have hT0 := T0.out.below HB.out
  clear T0
  have T0 := Lib.hid hT0
  clear hT0
  clear HW HB hXs V1 HR1
  have HW := Lib.hid hWW
  have V1 := Lib.hid hV1
  have HR1 := Lib.hid hr1
  have hWs := HW.out.size
  clear hWW hV1 hr1
  have hm5 : M1 ≤ 5 := R1.out.2.2.1
  have hf2 := R1.out.form'
  by_cases hf2' : F1 = 2
  · have t0 : ((F1 : Int) == 2) = true := by rw [hf2']; rfl
    clear hf2'
    go_wp2
    go_ret
    exact ⟨rfl, HW.out⟩
  have t0 : ((F1 : Int) == 2) = false := by rw [beq_eq_false_iff_ne]; omega
  have HF01 : Hid (F1 = 0 ∨ F1 = 1) := Lib.hid (by omega)
  clear hf2' hf2
  go_wp2_with fail
  refine (impMantExp 300 1000000 P1 M1 F1 n1 v1 e1 xs1 w2 V1.out R1.out (by decide) (by decide) T0.out).mono ?_
  rintro _ wN ⟨z, rfl, hz, hb1⟩
  obtain ⟨A, hA⟩ : ∃ A, A = mxE F1 (wv xs1) e1 := ⟨_, rfl⟩
  have hAb : -1000000 ≤ A ∧ A ≤ 1000300 := by
    rw [hA]; unfold mxE; split
    · have := R1.out.one (by assumption); omega
    · omega
  rw [← hA]
  have HA := Lib.hid hA
  clear hA
  obtain ⟨vz, Ez, zs, rfl, hRz, hOz, hoz, hnz⟩ := hz.ok (P := 300) (E := 1000000) R1.out.1 R1.out.2.1 hm5 R1.out.form' (fun h => by
    have h1 := R1.out.one h
    have h2 := bl_od h1.1
    exact ⟨h1.1, by omega, by omega, by omega, by omega⟩)
  have hSz := hRz.isS
  obtain ⟨Y, hY⟩ : ∃ Y, Y = wN.alloc (.cells #[.int .u64 (P1 : Int), .int .i64 (M1 : Int), .int .i64 (F1 : Int), .bool n1, vz, .int .i64 Ez] 26) := ⟨_, rfl⟩
  have hbY : Below wN.heap.size wN Y := by rw [hY]; exact fbone _
  have hrz : Y.heap[wN.heap.size]? = some (.cells #[.int .u64 (P1 : Int), .int .i64 (M1 : Int), .int .i64 (F1 : Int), .bool n1, vz, .int .i64 Ez] 26 (0, 0)) := by rw [hY]; exact row_chain11
  have hbX := bthen hb1 hbY
  have hr1 := keep_row hbX HR1.out
  have HRx1 := Lib.hid hr1
  have HRz := Lib.hid hrz
  have VY1 := Lib.hid (V1.out.below hbX)
  have VZ := Lib.hid (hRz.below hbY)
  have HOZ := Lib.hid hOz
  have HoZ := Lib.hid hoz
  have HWY := Lib.hid (HW.out.trans (hbX.mono hWs))
  have TY := Lib.hid (T0.out.below hbX)
  have hYs := HWY.out.size
  obtain ⟨-, y0, y1, y2, y3, y4, y5⟩ := ks12 hrz (Below.refl _ _)
  clear hb1 hbY hrz hbX hz hRz hOz hoz hnz c10 c11 c12 c13 c14 c15 HW hWs T0 hr1 V1 HR1
  go_upto_region 6 with fail
  rw [← hY]
  clear hY
  go_wp2_with fail
  refine (impSetMantExp 300 1000000 P1 M1 F1 n1 vz Ez A zs Y VZ.out HOZ.out (by decide) (by decide) (by omega) (by omega) TY.out).mono ?_
  rintro _ wM ⟨y, rfl, hy, hb1⟩
  obtain ⟨vy, Ey, rfl, hSy⟩ := hy.form
  obtain ⟨U, hU⟩ : ∃ U, U = wM.alloc (.cells #[.int .u64 (P1 : Int), .int .i64 (M1 : Int), .int .i64 (F1 : Int), .bool n1, vy, .int .i64 Ey] 26) := ⟨_, rfl⟩
  have hbU : Below wM.heap.size wM U := by rw [hU]; exact fbone _
  have hru : U.heap[wM.heap.size]? = some (.cells #[.int .u64 (P1 : Int), .int .i64 (M1 : Int), .int .i64 (F1 : Int), .bool n1, vy, .int .i64 Ey] 26 (0, 0)) := by rw [hU]; exact row_chain11
  have hbX := bthen hb1 hbU
  have HX := Lib.hid (keep_row hbX HRx1.out)
  have HU := Lib.hid hru
  have VU := Lib.hid (VY1.out.below hbX)
  have HY2 := Lib.hid (hy.below hbU)
  have HWU := Lib.hid (HWY.out.trans (hbX.mono hYs))
  have hUs := HWU.out.size
  have hcU := Below.refl U.heap.size U
  clear hb1 hbU hru hbX hy y0 y1 y2 y3 y4 y5
  obtain ⟨-, x0, x1, x2, x3, x4, x5⟩ := ks12 HX.out (Below.refl _ _)
  obtain ⟨-, y0, y1, y2, y3, y4, y5⟩ := ks12 HU.out (Below.refl _ _)
  go_upto_region 7 with fail
  rw [← hU]
  clear hU
  rcases HF01.out with hf | hf
  · have t1 : ((F1 : Int) == 0) = true := by rw [hf]; rfl
    clear hf
    go_wp2
    go_ret
    exact ⟨rfl, HWU.out⟩
  · have t1 : ((F1 : Int) == 0) = false := by rw [beq_eq_false_iff_ne]; omega
    obtain ⟨r1, r2, r3, r4, r5, r6⟩ := R1.out.one hf
    obtain ⟨d1, d2, d3⟩ := dy_one (f := F1) (M := wv xs1) (n := n1) (e := e1) hf
    obtain ⟨k1, k2, k3, k4⟩ := HoZ.out hf
    have hq : deq (wv zs) (Ez + A) (wv xs1) e1 := by
      have := k4.exp A
      rw [show -(bl (wv xs1) : Int) + A = e1 by rw [HA.out, mxE, if_pos hf]; omega] at this
      exact this
    have HTD := Lib.hid (HY2.out.told1 hf (hq.symm.pos r1) hq)
    have HDY := Lib.hid (And.intro d1 (And.intro d2 d3))
    have HBL : Hid (bl (wv xs1) ≤ 10000000) := Lib.hid (by omega)
    clear hf d1 d2 d3 k1 k2 k3 k4 hq
    go_wp2_with fail
    clear x0 x1 x2 x3 x4 x5 y0 y1 y2 y3 y4 y5
    first
      | (go_region_held3 (fun w' => Below U.heap.size U w' ∧ (w'.cell? ⟨w.heap.size, 0, none⟩ = some (.int .u64 (P1 : Int)) ∧ w'.cell? ⟨w.heap.size, 1, none⟩ = some (.int .i64 (M1 : Int)) ∧ w'.cell? ⟨w.heap.size, 2, none⟩ = some (.int .i64 (F1 : Int)) ∧ w'.cell? ⟨w.heap.size, 3, none⟩ = some (.bool n1) ∧ w'.cell? ⟨w.heap.size, 4, none⟩ = some (v1) ∧ w'.cell? ⟨w.heap.size, 5, none⟩ = some (.int .i64 e1)) ∧ w'.cell? ⟨wM.heap.size, 0, none⟩ = some (.int .u64 (P1 : Int)) ∧ w'.cell? ⟨wM.heap.size, 1, none⟩ = some (.int .i64 (M1 : Int)) ∧ w'.cell? ⟨wM.heap.size, 2, none⟩ = some (.int .i64 (F1 : Int)) ∧ w'.cell? ⟨wM.heap.size, 3, none⟩ = some (.bool n1) ∧ w'.cell? ⟨wM.heap.size, 4, none⟩ = some (vy) ∧ w'.cell? ⟨wM.heap.size, 5, none⟩ = some (.int .i64 Ey))
          ((refine ksR2 HX.out HU.out ?_; with_reducible first | assumption | exact Below.drew hcU))
          (first
            | (go_at_call 20; refine (ofReal_any 300 1000000 P1 M1 F1 e1 n1 v1 xs1 _ (VU.out.below (And.left (by assumption))) R1.out).mono ?_; rintro _ w8 ⟨_, rfl, ⟨b, rfl, hd1⟩, hb8⟩; rw [HDY.out.2.1] at hd1; rw [HDY.out.1, HDY.out.2.2]; have hT1 := hd1.isS; have hb8 := bthenL hb8 (by assumption); have D1 := Lib.hid hd1; clear hd1)
            | (go_at_call 25; refine (spIsReal _ P1 M1 n1 b (wv xs1) e1 _ (HTD.out.below hb8) D1.out HBL.out (by omega) (by omega)).mono ?_; rintro _ w9 ⟨rfl, hb9⟩; have hb9 := bthen hb8 hb9)))
      | fail
    all_goals
      go_wp2
      go_ret
      exact ⟨rfl, HWU.out.trans (hb9.mono hUs)⟩
set_option maxRecDepth 100000 in
set_option maxHeartbeats 3200000 in
theorem lawIsInt (p1 : Nat) (m1 f1 : Int) (n1 : Bool) (v1 : Value) (e1 : Int) (xs1 : List Nat) (w : World) (hT : TabW w) (hv1 : RW w v1 xs1) (_hg1 : p1 ≤ 18446744073709551615 ∧ (-9223372036854775808 ≤ m1 ∧ m1 ≤ 9223372036854775807) ∧ (-9223372036854775808 ≤ f1 ∧ f1 ≤ 9223372036854775807) ∧ (-9223372036854775808 ≤ e1 ∧ e1 ≤ 9223372036854775807)) :
    Calls Tryd.prog 13 #[.agg #[.int .u64 p1, .int .i64 m1, .int .i64 f1, .bool n1, v1, .int .i64 e1]] w fun e' w' => e' = .returned (.bool true) ∧ Below w.heap.size w w' := by
  have hS1 := hv1.isS
  clear _hg1
  have hab1 := (Below.refl w.heap.size w).alloc (Nat.le_refl _) (.cells #[.int .u64 p1, .int .i64 m1, .int .i64 f1, .bool n1, v1, .int .i64 e1] 26)
  obtain ⟨X, hX⟩ : ∃ X, X = (w.alloc (.cells #[.int .u64 p1, .int .i64 m1, .int .i64 f1, .bool n1, v1, .int .i64 e1] 26)) := ⟨_, rfl⟩
  have hr1 : X.heap[w.heap.size]? = some (.cells #[.int .u64 p1, .int .i64 m1, .int .i64 f1, .bool n1, v1, .int .i64 e1] 26 (0, 0)) := by
    rw [hX]; exact row_chain11
  rw [← hX] at hab1
  obtain ⟨-, ⟨c10, c11, c12, c13, c14, c15⟩⟩ := ksR1 hr1 (Below.refl _ _)
  have HR1 := Lib.hid hr1
  have V1 := Lib.hid (hv1.below hab1)
  have hXs := hab1.size
  have HW := Lib.hid hab1
  have T0 := Lib.hid (hT.below hab1)
  clear hT
  clear hr1 hv1
  clear hab1
  go_enter Tryd.func13, Tryd.ntmps13
  go_upto_region 1 with fail
  rw [← hX]
  clear hX
  go_wp2_with fail
  refine (zzFits1_any p1 m1 f1 e1 n1 v1 xs1 X V1.out).mono ?_
  rintro _ w1 ⟨rfl, hb1⟩
  obtain ⟨fits, hfits⟩ : ∃ f, f = decide (xs1.length ≤ 2147483647) := ⟨_, rfl⟩
  rw [← hfits]
  clear c10 c11 c12 c13 c14 c15 hfits
  obtain ⟨-, ⟨c10, c11, c12, c13, c14, c15⟩⟩ := ksR1 HR1.out hb1
  have HB := Lib.hid hb1
  clear hb1
  cases fits with
  | false =>
    go_wp2
    go_ret
    exact ⟨rfl, HW.out.trans (HB.out.mono hXs)⟩
  | true =>
  go_wp2_with fail
  refine (real_any 300 1000000 p1 m1 f1 e1 n1 v1 xs1 w1 (V1.out.below HB.out) (by decide) (by decide)).mono ?_
  rintro _ w2 ⟨ok, rfl, hok, hb1⟩
  have hb1 := bthen HB.out hb1
  have HO1 := Lib.hid hok
  clear c10 c11 c12 c13 c14 c15 HB hok
  obtain ⟨-, ⟨c10, c11, c12, c13, c14, c15⟩⟩ := ksR1 HR1.out hb1
  have HB := Lib.hid hb1
  clear hb1
  cases ok with
  | false =>
    go_wp2
    go_ret
    exact ⟨rfl, HW.out.trans (HB.out.mono hXs)⟩
  | true =>
  obtain ⟨P1, M1, F1, hp, rfl, rfl, hR⟩ := HO1.out rfl
  have hpp : P1 = p1 := by omega
  subst hpp
  have R1 := Lib.hid hR
  clear HO1 hp hR
  have hWW := HW.out.trans (HB.out.mono hXs)
  have hV1 := V1.out.below HB.out
  have hr1 := keep_row HB.out HR1.out
  have hT0 := T0.out.below HB.out
  clear T0
  have T0 := Lib.hid hT0
  clear hT0
  clear HW HB hXs V1 HR1
  have HW := Lib.hid hWW
  have V1 := Lib.hid hV1
  have HR1 := Lib.hid hr1
  have hWs := HW.out.size
  clear hWW hV1 hr1
  have hf2 := R1.out.form'
  by_cases hf : F1 = 1
  · have t0 : ((F1 : Int) != 1) = false := by rw [hf]; rfl
    obtain ⟨r1, r2, r3, r4, r5, r6⟩ := R1.out.one hf
    have hnl : nl (wv xs1) ≤ 1000000 := nl_bl (by omega)
    have htz := tz_le r1
    obtain ⟨t, ht⟩ : ∃ t, t = tz (wv xs1) := ⟨_, rfl⟩
    rw [← ht] at htz
    have htb : t ≤ 300 := by omega
    have hwr : IntKind.i64.wrap (e1 + (t : Int)) = e1 + (t : Int) := by rw [IntKind.wrap_i64]; omega
    have HT := Lib.hid ht
    obtain ⟨I, hI⟩ : ∃ I, I = iiV F1 (wv xs1) e1 := ⟨_, rfl⟩
    have HI := Lib.hid hI
    have HI2 : Hid (I = decide (0 ≤ e1 + (t : Int))) := Lib.hid (by rw [hI, iiV, if_pos hf, ht])
    have t2 : (I == decide (0 ≤ e1 + (t : Int))) = true := by rw [HI2.out]; exact beq_self_eq_true _
    clear hf ht hI
    go_wp2_with fail
    refine (spOf v1 xs1 w2 V1.out (by omega)).mono ?_
    rintro _ w8 ⟨b, rfl, hd, hb3⟩
    have hT1 := hd.isS
    have HD := Lib.hid hd
    have B3 := Lib.hid hb3
    clear hd hb3
    go_wp2_with fail
    refine (spOdd b (wv xs1) w8 HD.out (by omega) r1).mono ?_
    rintro _ w9 ⟨r, rfl, hr, hb4⟩
    rw [← HT.out]
    have hSr := hr.isS
    have hb := bthen B3.out hb4
    have VX := Lib.hid (V1.out.below hb)
    have TX := Lib.hid (T0.out.below hb)
    have HX := Lib.hid (keep_row hb HR1.out)
    have HWX := Lib.hid (HW.out.trans (hb.mono hWs))
    have hs9 := HWX.out.size
    have hcc := Below.refl w9.heap.size w9
    clear hr hb4 hb c10 c11 c12 c13 c14 c15
    go_wp2_with fail
    first
      | (go_region_held3 (fun w' => Below w9.heap.size w9 w' ∧ w'.cell? ⟨w.heap.size, 0, none⟩ = some (.int .u64 (P1 : Int)) ∧ w'.cell? ⟨w.heap.size, 1, none⟩ = some (.int .i64 (M1 : Int)) ∧ w'.cell? ⟨w.heap.size, 2, none⟩ = some (.int .i64 (F1 : Int)) ∧ w'.cell? ⟨w.heap.size, 3, none⟩ = some (.bool n1) ∧ w'.cell? ⟨w.heap.size, 4, none⟩ = some (v1) ∧ w'.cell? ⟨w.heap.size, 5, none⟩ = some (.int .i64 e1))
          ((refine ks12 HX.out ?_; with_reducible first | assumption | exact Below.drew hcc))
          (first
            | (go_at_call 36; refine (impIsInt 300 1000000 P1 M1 F1 n1 v1 e1 xs1 _ (VX.out.below (And.left (by assumption))) R1.out (by decide) (by decide) (TX.out.below (And.left (by assumption)))).mono ?_; rintro _ w10 ⟨rfl, hb8⟩; rw [← HI.out]; have hb8 := bthenL hb8 (by assumption))))
      | fail
    all_goals
      go_wp2
      go_ret
      exact ⟨congrArg (fun b => Ending.returned (.bool b)) (by first | rfl | exact t2), HWX.out.trans (hb8.mono hs9)⟩
  · have t0 : ((F1 : Int) != 1) = true := by rw [bne_iff_ne]; omega
    have t2 : ((F1 : Int) == 0) = decide (F1 = 0) := by
      by_cases h : F1 = 0
      · rw [h]; rfl
      · rw [decide_eq_false h, beq_eq_false_iff_ne]; omega
    obtain ⟨I, hI⟩ : ∃ I, I = iiV F1 (wv xs1) e1 := ⟨_, rfl⟩
    have hI2 : I = decide (F1 = 0) := by rw [hI, iiV, if_neg hf]
    rw [← hI2] at t2
    have HI := Lib.hid hI
    have hcc := Below.refl w2.heap.size w2
    clear hf hI hI2
    go_wp2_with fail
    clear c10 c11 c12 c13 c14 c15
    first
      | (go_region_held3 (fun w' => Below w2.heap.size w2 w' ∧ w'.cell? ⟨w.heap.size, 0, none⟩ = some (.int .u64 (P1 : Int)) ∧ w'.cell? ⟨w.heap.size, 1, none⟩ = some (.int .i64 (M1 : Int)) ∧ w'.cell? ⟨w.heap.size, 2, none⟩ = some (.int .i64 (F1 : Int)) ∧ w'.cell? ⟨w.heap.size, 3, none⟩ = some (.bool n1) ∧ w'.cell? ⟨w.heap.size, 4, none⟩ = some (v1) ∧ w'.cell? ⟨w.heap.size, 5, none⟩ = some (.int .i64 e1))
          ((refine ks12 HR1.out ?_; with_reducible first | assumption | exact Below.drew hcc))
          (first
            | (go_at_call 36; refine (impIsInt 300 1000000 P1 M1 F1 n1 v1 e1 xs1 _ (V1.out.below (And.left (by assumption))) R1.out (by decide) (by decide) (T0.out.below (And.left (by assumption)))).mono ?_; rintro _ w10 ⟨rfl, hb8⟩; rw [← HI.out]; have hb8 := bthenL hb8 (by assumption))))
      | fail
    all_goals
      go_wp2
      go_ret
      exact ⟨congrArg (fun b => Ending.returned (.bool b)) (by first | rfl | exact beq_self_eq_true _ | simp [t2]), HW.out.trans (hb8.mono hWs)⟩
end Go.Proofs.YtjgkmnmemjebbaaDoor
