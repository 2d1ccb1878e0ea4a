/-
Texts of this proof, joined: LwD. No condition.
-/
import Derived.Test.YtjgkmnmemjebbaaDoorK19
/-
The statements on SetPrec. No condition.
-/
namespace Go.Proofs.YtjgkmnmemjebbaaDoor
open Go.RowKit

set_option maxRecDepth 100000 in
set_option maxHeartbeats 3200000 in
theorem lawSetPrec (p1 : Nat) (m1 f1 : Int) (n1 : Bool) (v1 : Value) (e1 : Int) (xs1 : List Nat) (a1 : Int) (w : World) (hT : TabW w) (hv1 : RW w v1 xs1) (_hg1 : p1 ≤ 18446744073709551615 ∧ (-9223372036854775808 ≤ m1 ∧ m1 ≤ 9223372036854775807) ∧ (-9223372036854775808 ≤ f1 ∧ f1 ≤ 9223372036854775807) ∧ (-9223372036854775808 ≤ e1 ∧ e1 ≤ 9223372036854775807)) (l1 : 0 ≤ a1) (h1 : a1 ≤ 65535) :
    Calls Tryd.prog 4 #[.agg #[.int .u64 p1, .int .i64 m1, .int .i64 f1, .bool n1, v1, .int .i64 e1], .int .u16 a1] w fun e' w' => e' = .returned (.bool true) ∧ Below w.heap.size w w' := by
  obtain ⟨b1, rfl⟩ := Int.eq_ofNat_of_zero_le l1
  have ib1 : b1 ≤ 65535 := by omega
  have hS1 := hv1.isS
  clear _hg1
  have hab1 := (Below.refl w.heap.size w).alloc (Nat.le_refl _) (.cells #[.int .u64 p1, .int .i64 m1, .int .i64 f1, .bool n1, v1, .int .i64 e1] 26)
  obtain ⟨X, hX⟩ : ∃ X, X = (w.alloc (.cells #[.int .u64 p1, .int .i64 m1, .int .i64 f1, .bool n1, v1, .int .i64 e1] 26)) := ⟨_, rfl⟩
  have hr1 : X.heap[w.heap.size]? = some (.cells #[.int .u64 p1, .int .i64 m1, .int .i64 f1, .bool n1, v1, .int .i64 e1] 26 (0, 0)) := by
    rw [hX]; exact row_chain11
  rw [← hX] at hab1
  obtain ⟨-, ⟨c10, c11, c12, c13, c14, c15⟩⟩ := ksR1 hr1 (Below.refl _ _)
  have HR1 := Lib.hid hr1
  have V1 := Lib.hid (hv1.below hab1)
  have hXs := hab1.size
  have HW := Lib.hid hab1
  have T0 := Lib.hid (hT.below hab1)
  clear hT
  clear hr1 hv1
  clear hab1
  go_enter Tryd.func4, Tryd.ntmps4
  go_upto_region 1 with fail
  rw [← hX]
  clear hX
  go_wp2_with fail
  refine (zzFits1_any p1 m1 f1 e1 n1 v1 xs1 X V1.out).mono ?_
  rintro _ w1 ⟨rfl, hb1⟩
  obtain ⟨fits, hfits⟩ : ∃ f, f = decide (xs1.length ≤ 2147483647) := ⟨_, rfl⟩
  rw [← hfits]
  clear c10 c11 c12 c13 c14 c15 hfits
  obtain ⟨-, ⟨c10, c11, c12, c13, c14, c15⟩⟩ := ksR1 HR1.out hb1
  have HB := Lib.hid hb1
  clear hb1
  cases fits with
  | false =>
    go_wp2
    go_ret
    exact ⟨rfl, HW.out.trans (HB.out.mono hXs)⟩
  | true =>
  go_wp2_with fail
  refine (number_any p1 m1 f1 e1 n1 v1 xs1 w1 (V1.out.below HB.out)).mono ?_
  rintro _ w2 ⟨ok, rfl, hok, hb1⟩
  have hb1 := bthen HB.out hb1
  have HO1 := Lib.hid hok
  clear c10 c11 c12 c13 c14 c15 HB hok
  obtain ⟨-, ⟨c10, c11, c12, c13, c14, c15⟩⟩ := ksR1 HR1.out hb1
  have HB := Lib.hid hb1
  clear hb1
  cases ok with
  | false =>
    go_wp2
    go_ret
    exact ⟨rfl, HW.out.trans (HB.out.mono hXs)⟩
  | true =>
  obtain ⟨hn, P1, M1, F1, hp, rfl, rfl, hR⟩ := HO1.out rfl
  have hpp : P1 = p1 := by omega
  subst hpp
  have R1 := Lib.hid hR
  have N1 : Hid (F1 ≠ 2) := Lib.hid (fun h => hn (by rw [h]; rfl))
  clear HO1 hp hR hn
  have hWW := HW.out.trans (HB.out.mono hXs)
  have hV1 := V1.out.below HB.out
  have hr1 := keep_row HB.out HR1.out
  have hT0 := T0.out.below HB.out
  clear T0
  have T0 := Lib.hid hT0
  clear hT0
  clear HW HB hXs V1 HR1
  have HW := Lib.hid hWW
  have V1 := Lib.hid hV1
  have HR1 := Lib.hid hr1
  have hWs := HW.out.size
  clear hWW hV1 hr1
  have q1 : (b1 : Int) % 300 = ((b1 % 300 : Nat) : Int) := by omega
  have q2 : (1 : Int) + ((b1 % 300 : Nat) : Int) = ((1 + b1 % 300 : Nat) : Int) := by omega
  have hZ0 : 0 < 1 + b1 % 300 := by omega
  have hZ1 : 1 + b1 % 300 ≤ 300 := by omega
  have hrb : b1 % 300 ≤ 299 := by omega
  obtain ⟨Z, hZ⟩ : ∃ Z, Z = 1 + b1 % 300 := ⟨_, rfl⟩
  rw [← hZ] at q2 hZ0 hZ1
  obtain ⟨r, hr⟩ : ∃ r, r = b1 % 300 := ⟨_, rfl⟩
  rw [← hr] at q1 q2 hrb
  clear hZ hr
  go_wp2_with fail
  refine (impSetPrec 300 1000 Z P1 M1 F1 n1 v1 e1 xs1 w2 V1.out R1.out (by decide) (by decide) hZ0 (by omega) T0.out).mono ?_
  rintro _ wN ⟨z, rfl, hz, hb1⟩
  have hf01 : F1 = 0 ∨ F1 = 1 := by have := R1.out.form'; have := N1.out; omega
  have hm5 : M1 ≤ 5 := R1.out.2.2.1
  obtain ⟨A, hA⟩ : ∃ A, A = stA F1 Z M1 n1 (wv xs1) := ⟨_, rfl⟩
  rw [← hA]
  rw [stA_dy hf01] at hA
  have HA := Lib.hid hA
  have HF := Lib.hid hf01
  clear hA hf01 q1 q2
  obtain ⟨vz, Ez, rfl, hSz⟩ := hz.form
  obtain ⟨Y, hY⟩ : ∃ Y, Y = wN.alloc (.cells #[.int .u64 (Z : Int), .int .i64 (M1 : Int), .int .i64 (F1 : Int), .bool n1, vz, .int .i64 Ez] 26) := ⟨_, rfl⟩
  have hbY : Below wN.heap.size wN Y := by rw [hY]; exact fbone _
  have hrz : Y.heap[wN.heap.size]? = some (.cells #[.int .u64 (Z : Int), .int .i64 (M1 : Int), .int .i64 (F1 : Int), .bool n1, vz, .int .i64 Ez] 26 (0, 0)) := by rw [hY]; exact row_chain11
  have hbX := bthen hb1 hbY
  have hr1 := keep_row hbX HR1.out
  have HRx1 := Lib.hid hr1
  have VY1 := Lib.hid (V1.out.below hbX)
  have HRz := Lib.hid hrz
  have HZ := Lib.hid (hz.below hbY)
  have HWY := Lib.hid (HW.out.trans (hbX.mono hWs))
  have TY := Lib.hid (T0.out.below hbX)
  have hYs := HWY.out.size
  have hcc := Below.refl Y.heap.size Y
  clear hb1 hbY hrz hbX hz c10 c11 c12 c13 c14 c15 HW hWs T0 hr1 V1 HR1
  have HTD := Lib.hid (told_dy HF.out HZ.out R1.out.pos hZ0)
  go_upto_region 7 with fail
  rw [← hY]
  clear hY
  first
    | (go_region_held3 (fun w' => Below Y.heap.size Y w' ∧ (w'.cell? ⟨w.heap.size, 0, none⟩ = some (.int .u64 (P1 : Int)) ∧ w'.cell? ⟨w.heap.size, 1, none⟩ = some (.int .i64 (M1 : Int)) ∧ w'.cell? ⟨w.heap.size, 2, none⟩ = some (.int .i64 (F1 : Int)) ∧ w'.cell? ⟨w.heap.size, 3, none⟩ = some (.bool n1) ∧ w'.cell? ⟨w.heap.size, 4, none⟩ = some (v1) ∧ w'.cell? ⟨w.heap.size, 5, none⟩ = some (.int .i64 e1)) ∧ w'.cell? ⟨wN.heap.size, 0, none⟩ = some (.int .u64 (Z : Int)) ∧ w'.cell? ⟨wN.heap.size, 1, none⟩ = some (.int .i64 (M1 : Int)) ∧ w'.cell? ⟨wN.heap.size, 2, none⟩ = some (.int .i64 (F1 : Int)) ∧ w'.cell? ⟨wN.heap.size, 3, none⟩ = some (.bool n1) ∧ w'.cell? ⟨wN.heap.size, 4, none⟩ = some (vz) ∧ w'.cell? ⟨wN.heap.size, 5, none⟩ = some (.int .i64 Ez))
        ((refine ksR2 HRx1.out HRz.out ?_; with_reducible first | assumption | exact Below.drew hcc))
        (first
          | (go_at_call 20; refine (ofReal_any 300 1000 P1 M1 F1 e1 n1 v1 xs1 _ (VY1.out.below (And.left (by assumption))) R1.out).mono ?_; rintro _ w8 ⟨_, rfl, ⟨b, rfl, hd1⟩, hb8⟩; have hT1 := hd1.isS; have hb8 := bthenL hb8 (by assumption); have D1 := Lib.hid hd1; clear hd1)
          | (go_at_call 19; refine (rounds_any _ A (dyN F1 n1) b (dyM F1 (wv xs1)) (dyE F1 e1) Z M1 _ (HTD.out.below hb8) HA.out D1.out (by have := (dy_nl R1.out (by decide)).1; omega) (by omega) hm5 (by have := (dy_nl R1.out (by decide)).2.1; omega) (by have := (dy_nl R1.out (by decide)).2.2; omega)).mono ?_; rintro _ w10 ⟨rfl, hb10⟩; have hb10 := bthen hb8 hb10)))
    | fail
  all_goals
    go_wp2
    go_ret
    exact ⟨rfl, HWY.out.trans (hb10.mono hYs)⟩
set_option maxRecDepth 100000 in
set_option maxHeartbeats 3200000 in
theorem lawSetPrecZero (p1 : Nat) (m1 f1 : Int) (n1 : Bool) (v1 : Value) (e1 : Int) (xs1 : List Nat) (w : World) (hT : TabW w) (hv1 : RW w v1 xs1) (_hg1 : p1 ≤ 18446744073709551615 ∧ (-9223372036854775808 ≤ m1 ∧ m1 ≤ 9223372036854775807) ∧ (-9223372036854775808 ≤ f1 ∧ f1 ≤ 9223372036854775807) ∧ (-9223372036854775808 ≤ e1 ∧ e1 ≤ 9223372036854775807)) :
    Calls Tryd.prog 5 #[.agg #[.int .u64 p1, .int .i64 m1, .int .i64 f1, .bool n1, v1, .int .i64 e1]] w fun e' w' => e' = .returned (.bool true) ∧ Below w.heap.size w w' := by
  have hS1 := hv1.isS
  clear _hg1
  have hab1 := (Below.refl w.heap.size w).alloc (Nat.le_refl _) (.cells #[.int .u64 p1, .int .i64 m1, .int .i64 f1, .bool n1, v1, .int .i64 e1] 26)
  obtain ⟨X, hX⟩ : ∃ X, X = (w.alloc (.cells #[.int .u64 p1, .int .i64 m1, .int .i64 f1, .bool n1, v1, .int .i64 e1] 26)) := ⟨_, rfl⟩
  have hr1 : X.heap[w.heap.size]? = some (.cells #[.int .u64 p1, .int .i64 m1, .int .i64 f1, .bool n1, v1, .int .i64 e1] 26 (0, 0)) := by
    rw [hX]; exact row_chain11
  rw [← hX] at hab1
  obtain ⟨-, ⟨c10, c11, c12, c13, c14, c15⟩⟩ := ksR1 hr1 (Below.refl _ _)
  have HR1 := Lib.hid hr1
  have V1 := Lib.hid (hv1.below hab1)
  have hXs := hab1.size
  have HW := Lib.hid hab1
  have T0 := Lib.hid (hT.below hab1)
  clear hT
  clear hr1 hv1
  clear hab1
  go_enter Tryd.func5, Tryd.ntmps5
  go_upto_region 1 with fail
  rw [← hX]
  clear hX
  go_wp2_with fail
  refine (zzFits1_any p1 m1 f1 e1 n1 v1 xs1 X V1.out).mono ?_
  rintro _ w1 ⟨rfl, hb1⟩
  obtain ⟨fits, hfits⟩ : ∃ f, f = decide (xs1.length ≤ 2147483647) := ⟨_, rfl⟩
  rw [← hfits]
  clear c10 c11 c12 c13 c14 c15 hfits
  obtain ⟨-, ⟨c10, c11, c12, c13, c14, c15⟩⟩ := ksR1 HR1.out hb1
  have HB := Lib.hid hb1
  clear hb1
  cases fits with
  | false =>
    go_wp2
    go_ret
    exact ⟨rfl, HW.out.trans (HB.out.mono hXs)⟩
  | true =>
  go_wp2_with fail
  refine (real_any 300 1000 p1 m1 f1 e1 n1 v1 xs1 w1 (V1.out.below HB.out) (by decide) (by decide)).mono ?_
  rintro _ w2 ⟨ok, rfl, hok, hb1⟩
  have hb1 := bthen HB.out hb1
  have HO1 := Lib.hid hok
  clear c10 c11 c12 c13 c14 c15 HB hok
  obtain ⟨-, ⟨c10, c11, c12, c13, c14, c15⟩⟩ := ksR1 HR1.out hb1
  have HB := Lib.hid hb1
  clear hb1
  cases ok with
  | false =>
    go_wp2
    go_ret
    exact ⟨rfl, HW.out.trans (HB.out.mono hXs)⟩
  | true =>
  obtain ⟨P1, M1, F1, hp, rfl, rfl, hR⟩ := HO1.out rfl
  have hpp : P1 = p1 := by omega
  subst hpp
  have R1 := Lib.hid hR
  clear HO1 hp hR
  have hWW := HW.out.trans (HB.out.mono hXs)
  have hV1 := V1.out.below HB.out
  have hr1 := keep_row HB.out HR1.out
  have hT0 := T0.out.below HB.out
  clear T0
  have T0 := Lib.hid hT0
  clear hT0
  clear HW HB hXs V1 HR1
  have HW := Lib.hid hWW
  have V1 := Lib.hid hV1
  have HR1 := Lib.hid hr1
  have hWs := HW.out.size
  clear hWW hV1 hr1
  go_wp2_with fail
  refine (impSetPrecZ 300 1000 P1 M1 F1 n1 v1 e1 xs1 w2 V1.out R1.out (by decide) (by decide) T0.out).mono ?_
  rintro _ wN ⟨_, rfl, ⟨z, A, rfl, hz⟩, hb1⟩
  have hm5 : M1 ≤ 5 := R1.out.2.2.1
  have hf2 := R1.out.form'
  have hzf : ((F1 : Int) == 2) = true ∧ zpF F1 = 2 ∨ ((F1 : Int) == 2) = false ∧ zpF F1 = 0 := by
    rcases (by omega : F1 = 0 ∨ F1 = 1 ∨ F1 = 2) with h | h | h <;> rw [h]
    · exact .inr ⟨rfl, rfl⟩
    · exact .inr ⟨rfl, rfl⟩
    · exact .inl ⟨rfl, rfl⟩
  obtain ⟨vz, Ez, rfl, hSz⟩ := hz.form
  obtain ⟨Y, hY⟩ : ∃ Y, Y = wN.alloc (.cells #[.int .u64 0, .int .i64 (M1 : Int), .int .i64 (zpF F1 : Int), .bool n1, vz, .int .i64 Ez] 26) := ⟨_, rfl⟩
  have hbY : Below wN.heap.size wN Y := by rw [hY]; exact fbone _
  have hrz : Y.heap[wN.heap.size]? = some (.cells #[.int .u64 0, .int .i64 (M1 : Int), .int .i64 (zpF F1 : Int), .bool n1, vz, .int .i64 Ez] 26 (0, 0)) := by rw [hY]; exact row_chain11
  have hbX := bthen hb1 hbY
  have hr1 := keep_row hbX HR1.out
  have HRx1 := Lib.hid hr1
  have VY1 := Lib.hid (V1.out.below hbX)
  have HRz := Lib.hid hrz
  have HZ := Lib.hid (hz.below hbY)
  have HWY := Lib.hid (HW.out.trans (hbX.mono hWs))
  have TY := Lib.hid (T0.out.below hbX)
  have hYs := HWY.out.size
  have hcc := Below.refl Y.heap.size Y
  clear hb1 hbY hrz hbX hz c10 c11 c12 c13 c14 c15 HW hWs T0 hr1 V1 HR1
  obtain ⟨-, x0, x1, x2, x3, x4, x5⟩ := ks12 HRx1.out (Below.refl _ _)
  obtain ⟨-, y0, y1, y2, y3, y4, y5⟩ := ks12 HRz.out (Below.refl _ _)
  go_upto_region 6 with fail
  rw [← hY]
  clear hY
  rcases hzf with ⟨g1, g2⟩ | ⟨g1, g2⟩
  · rw [g2] at y2
    have y2' : Y.cell? ⟨wN.heap.size, 2, none⟩ = some (.int .i64 2) := y2
    clear y2 g2
    go_wp2
    go_ret
    exact ⟨rfl, HWY.out⟩
  · rw [g2] at y2
    have y2' : Y.cell? ⟨wN.heap.size, 2, none⟩ = some (.int .i64 0) := y2
    clear y2 g2
    go_wp2
    go_ret
    exact ⟨rfl, HWY.out⟩
end Go.Proofs.YtjgkmnmemjebbaaDoor
