/-
Texts of this proof, joined: KfD. No condition.
-/
import Derived.Test.YtgbmlaffilccnaaGreatDoorK18
import Derived.Test.YtgbmlaffilccnaaGreatDoorK22
/-
The statement on values that are kept as bytes. No condition.
-/
namespace Go.Proofs.YtgbmlaffilccnaaGreatDoor
open Go.RowKit

/-- What is told of a value that is read back as it was. -/
theorem told_same {w : World} {z : Value} {p m f M : Nat} {n : Bool} {e : Int} (hf : f = 0 ∨ f = 1) (hz : RealV w z p m f n M e) (hM : f = 1 → 0 < M ∧ bl M ≤ p) (_hp : 0 < p) : Told w z p m (dyN f n) (dyM f M) (dyE f e) := by
  rcases hf with rfl | rfl
  · exact hz.told0
  · exact hz.told (hM rfl).1 (deq.refl _ _)
set_option maxRecDepth 100000 in
set_option maxHeartbeats 6400000 in
theorem lawKept (a0 : Int) (a1 : Int) (p1 : Nat) (m1 f1 : Int) (n1 : Bool) (v1 : Value) (e1 : Int) (xs1 : List Nat) (w : World) (hT : TabW w) (l0 : 0 ≤ a0) (h0 : a0 ≤ 65535) (l1 : 0 ≤ a1) (h1 : a1 ≤ 255) (hv1 : RW w v1 xs1) (_hg1 : p1 ≤ 18446744073709551615 ∧ (-9223372036854775808 ≤ m1 ∧ m1 ≤ 9223372036854775807) ∧ (-9223372036854775808 ≤ f1 ∧ f1 ≤ 9223372036854775807) ∧ (-9223372036854775808 ≤ e1 ∧ e1 ≤ 9223372036854775807)) :
    Calls Tryz.prog 3 #[.int .u16 a0, .int .u8 a1, .agg #[.int .u64 p1, .int .i64 m1, .int .i64 f1, .bool n1, v1, .int .i64 e1]] w fun e' w' => e' = .returned (.bool true) ∧ Below w.heap.size w w' := by
  obtain ⟨b0, rfl⟩ := Int.eq_ofNat_of_zero_le l0
  have ib0 : b0 ≤ 65535 := by omega
  obtain ⟨b1, rfl⟩ := Int.eq_ofNat_of_zero_le l1
  have ib1 : b1 ≤ 255 := by omega
  have hS1 := hv1.isS
  clear _hg1
  have hab1 := (Below.refl w.heap.size w).alloc (Nat.le_refl _) (.cells #[.int .u64 p1, .int .i64 m1, .int .i64 f1, .bool n1, v1, .int .i64 e1] 26)
  obtain ⟨X, hX⟩ : ∃ X, X = (w.alloc (.cells #[.int .u64 p1, .int .i64 m1, .int .i64 f1, .bool n1, v1, .int .i64 e1] 26)) := ⟨_, rfl⟩
  have hr1 : X.heap[w.heap.size]? = some (.cells #[.int .u64 p1, .int .i64 m1, .int .i64 f1, .bool n1, v1, .int .i64 e1] 26 (0, 0)) := by
    rw [hX]; exact row_chain11
  rw [← hX] at hab1
  obtain ⟨-, ⟨c10, c11, c12, c13, c14, c15⟩⟩ := ksR1 hr1 (Below.refl _ _)
  have HR1 := Lib.hid hr1
  have V1 := Lib.hid (hv1.below hab1)
  have hXs := hab1.size
  have HW := Lib.hid hab1
  have T0 := Lib.hid (hT.below hab1)
  clear hT
  clear hr1 hv1
  clear hab1
  go_enter Tryz.func3, Tryz.ntmps3
  go_upto_region 1 with fail
  rw [← hX]
  clear hX
  go_wp2_with fail
  refine (zzFits1_any p1 m1 f1 e1 n1 v1 xs1 X V1.out).mono ?_
  rintro _ w1 ⟨rfl, hb1⟩
  obtain ⟨fits, hfits⟩ : ∃ f, f = decide (xs1.length ≤ 2147483647) := ⟨_, rfl⟩
  rw [← hfits]
  clear c10 c11 c12 c13 c14 c15 hfits
  obtain ⟨-, ⟨c10, c11, c12, c13, c14, c15⟩⟩ := ksR1 HR1.out hb1
  have HB := Lib.hid hb1
  clear hb1
  cases fits with
  | false =>
    go_wp2
    go_ret
    exact ⟨rfl, HW.out.trans (HB.out.mono hXs)⟩
  | true =>
  go_wp2_with fail
  refine (number_any p1 m1 f1 e1 n1 v1 xs1 w1 (V1.out.below HB.out)).mono ?_
  rintro _ w2 ⟨ok, rfl, hok, hb1⟩
  have hb1 := bthen HB.out hb1
  have HO1 := Lib.hid hok
  clear c10 c11 c12 c13 c14 c15 HB hok
  obtain ⟨-, ⟨c10, c11, c12, c13, c14, c15⟩⟩ := ksR1 HR1.out hb1
  have HB := Lib.hid hb1
  clear hb1
  cases ok with
  | false =>
    go_wp2
    go_ret
    exact ⟨rfl, HW.out.trans (HB.out.mono hXs)⟩
  | true =>
  obtain ⟨hn, P1, M1, F1, hp, rfl, rfl, hR⟩ := HO1.out rfl
  have hpp : P1 = p1 := by omega
  subst hpp
  have R1 := Lib.hid hR
  have N1 : Hid (F1 ≠ 2) := Lib.hid (fun h => hn (by rw [h]; rfl))
  clear HO1 hp hR hn
  have hWW := HW.out.trans (HB.out.mono hXs)
  have hV1 := V1.out.below HB.out
  have hr1 := keep_row HB.out HR1.out
  have hT0 := T0.out.below HB.out
  clear T0
  have T0 := Lib.hid hT0
  clear hT0
  clear HW HB hXs V1 HR1
  have HW := Lib.hid hWW
  have V1 := Lib.hid hV1
  have HR1 := Lib.hid hr1
  have hWs := HW.out.size
  clear hWW hV1 hr1
  go_wp2_with fail
  refine (target_any b0 b1 w2 ib0 ib1).mono ?_
  rintro _ _ ⟨rfl, rfl⟩
  have hqb : b0 % 301 ≤ 300 := by omega
  have hkb : b1 % 6 ≤ 5 := by omega
  obtain ⟨q, hq⟩ : ∃ q, q = b0 % 301 := ⟨_, rfl⟩
  obtain ⟨k, hk⟩ : ∃ k, k = b1 % 6 := ⟨_, rfl⟩
  rw [← hq] at hqb ⊢
  rw [← hk] at hkb ⊢
  clear hq hk ib0 ib1
  go_wp2_with fail
  refine (impKeptF 300 1000 q k P1 M1 F1 n1 v1 e1 xs1 w2 V1.out R1.out (by have := R1.out.form'; have := N1.out; omega) (by decide) (by decide) (by omega) hkb T0.out).mono ?_
  rintro _ wN ⟨z, rfl, hz, hb1⟩
  have hf01 : F1 = 0 ∨ F1 = 1 := by have := R1.out.form'; have := N1.out; omega
  have hpo : 0 < P1 := R1.out.1
  have hpo2 : P1 ≤ 300 := R1.out.2.1
  have hK1 : F1 = 1 → 0 < wv xs1 ∧ bl (wv xs1) ≤ P1 := fun h => ⟨R1.out.pos h, by
    obtain ⟨-, -, -, h1 | h1 | h1⟩ := R1.out <;> omega⟩
  have HF := Lib.hid hf01
  by_cases hq : q = 0
  · have t1 : ((q : Int) == 0) = true := by rw [hq]; rfl
    have e1' : kpA q k F1 n1 (wv xs1) = 0 := if_pos hq
    have e2' : kpP q P1 = P1 := if_pos hq
    have e3' : kpK q M1 k = M1 := if_pos hq
    have e4' : kpR q k n1 (wv xs1) = wv xs1 := if_pos hq
    have e5' : kpX q (wv xs1) e1 = e1 := if_pos hq
    rw [e2', e3', e4', e5'] at hz
    rw [e1']
    clear hq e1' e2' e3' e4' e5'
    obtain ⟨vz, Ez, rfl, hSz⟩ := hz.form
    obtain ⟨Y, hY⟩ : ∃ Y, Y = wN.alloc (.cells #[.int .u64 (P1 : Int), .int .i64 (M1 : Int), .int .i64 (F1 : Int), .bool n1, vz, .int .i64 Ez] 26) := ⟨_, rfl⟩
    have hbY : Below wN.heap.size wN Y := by rw [hY]; exact fbone _
    have hrz : Y.heap[wN.heap.size]? = some (.cells #[.int .u64 (P1 : Int), .int .i64 (M1 : Int), .int .i64 (F1 : Int), .bool n1, vz, .int .i64 Ez] 26 (0, 0)) := by rw [hY]; exact row_chain11
    have hbX := bthen hb1 hbY
    have hr1 := keep_row hbX HR1.out
    have HRx1 := Lib.hid hr1
    have VY1 := Lib.hid (V1.out.below hbX)
    have HRz := Lib.hid hrz
    have HZ := Lib.hid (hz.below hbY)
    have HWY := Lib.hid (HW.out.trans (hbX.mono hWs))
    have TY := Lib.hid (T0.out.below hbX)
    have hYs := HWY.out.size
    have hcc := Below.refl Y.heap.size Y
    clear hb1 hbY hrz hbX hz c10 c11 c12 c13 c14 c15 HW hWs T0 hr1 V1 HR1
    have HTD := Lib.hid (told_same HF.out HZ.out hK1 hpo)
    go_upto_region 7 with fail
    rw [← hY]
    clear hY
    obtain ⟨-, ⟨c10, c11, c12, c13, c14, c15⟩, d0, d1, d2, d3, d4, d5⟩ := ksR2 HRx1.out HRz.out hcc
    go_upto_region 8 with fail
    clear c10 c11 c12 c13 c14 c15 d0 d1 d2 d3 d4 d5
    first
      | (go_region_held3 (fun w' => Below Y.heap.size Y w' ∧ (w'.cell? ⟨w.heap.size, 0, none⟩ = some (.int .u64 (P1 : Int)) ∧ w'.cell? ⟨w.heap.size, 1, none⟩ = some (.int .i64 (M1 : Int)) ∧ w'.cell? ⟨w.heap.size, 2, none⟩ = some (.int .i64 (F1 : Int)) ∧ w'.cell? ⟨w.heap.size, 3, none⟩ = some (.bool n1) ∧ w'.cell? ⟨w.heap.size, 4, none⟩ = some (v1) ∧ w'.cell? ⟨w.heap.size, 5, none⟩ = some (.int .i64 e1)) ∧ w'.cell? ⟨wN.heap.size, 0, none⟩ = some (.int .u64 (P1 : Int)) ∧ w'.cell? ⟨wN.heap.size, 1, none⟩ = some (.int .i64 (M1 : Int)) ∧ w'.cell? ⟨wN.heap.size, 2, none⟩ = some (.int .i64 (F1 : Int)) ∧ w'.cell? ⟨wN.heap.size, 3, none⟩ = some (.bool n1) ∧ w'.cell? ⟨wN.heap.size, 4, none⟩ = some (vz) ∧ w'.cell? ⟨wN.heap.size, 5, none⟩ = some (.int .i64 Ez))
          ((refine ksR2 HRx1.out HRz.out ?_; with_reducible first | assumption | exact Below.drew hcc))
          (first
            | (go_at_call 9; (with_reducible refine (spIsReal _ P1 M1 (dyN F1 n1) b (dyM F1 (wv xs1)) (dyE F1 e1) _ (HTD.out.below hb8) D1.out (by have := (dy_nl R1.out (by decide)).1; omega) (by have := (dy_nl R1.out (by decide)).2.1; omega) (by have := (dy_nl R1.out (by decide)).2.2; omega)).mono ?_); rintro _ w10 ⟨rfl, hb10⟩; have hb10 := bthen hb8 hb10)
            | (go_at_call 10; refine (ofReal_any 300 1000 P1 M1 F1 e1 n1 v1 xs1 _ (VY1.out.below (And.left (by assumption))) R1.out).mono ?_; rintro _ w8 ⟨_, rfl, ⟨b, rfl, hd1⟩, hb8⟩; have hT1 := hd1.isS; have hb8 := bthenL hb8 (by assumption); have D1 := Lib.hid hd1; clear hd1)))
      | fail
    all_goals
      go_wp2
      go_ret
      exact ⟨rfl, HWY.out.trans (hb10.mono hYs)⟩
  · have t1 : ((q : Int) == 0) = false := by rw [beq_eq_false_iff_ne]; omega
    have e1' : kpA q k F1 n1 (wv xs1) = stA F1 q k n1 (wv xs1) := if_neg hq
    have e2' : kpP q P1 = q := if_neg hq
    have e3' : kpK q M1 k = k := if_neg hq
    have e4' : kpR q k n1 (wv xs1) = rQ q k n1 0 (wv xs1) := if_neg hq
    have e5' : kpX q (wv xs1) e1 = e1 + (rk q (wv xs1) : Nat) := if_neg hq
    rw [e2', e3', e4', e5'] at hz
    rw [e1']
    have hq0 : 0 < q := by omega
    obtain ⟨A, hA⟩ : ∃ A, A = stA F1 q k n1 (wv xs1) := ⟨_, rfl⟩
    rw [← hA]
    rw [stA_dy hf01] at hA
    have HA := Lib.hid hA
    clear hq e1' e2' e3' e4' e5' hA
    obtain ⟨vz, Ez, rfl, hSz⟩ := hz.form
    obtain ⟨Y, hY⟩ : ∃ Y, Y = wN.alloc (.cells #[.int .u64 (q : Int), .int .i64 (k : Int), .int .i64 (F1 : Int), .bool n1, vz, .int .i64 Ez] 26) := ⟨_, rfl⟩
    have hbY : Below wN.heap.size wN Y := by rw [hY]; exact fbone _
    have hrz : Y.heap[wN.heap.size]? = some (.cells #[.int .u64 (q : Int), .int .i64 (k : Int), .int .i64 (F1 : Int), .bool n1, vz, .int .i64 Ez] 26 (0, 0)) := by rw [hY]; exact row_chain11
    have hbX := bthen hb1 hbY
    have hr1 := keep_row hbX HR1.out
    have HRx1 := Lib.hid hr1
    have VY1 := Lib.hid (V1.out.below hbX)
    have HRz := Lib.hid hrz
    have HZ := Lib.hid (hz.below hbY)
    have HWY := Lib.hid (HW.out.trans (hbX.mono hWs))
    have TY := Lib.hid (T0.out.below hbX)
    have hYs := HWY.out.size
    have hcc := Below.refl Y.heap.size Y
    clear hb1 hbY hrz hbX hz c10 c11 c12 c13 c14 c15 HW hWs T0 hr1 V1 HR1
    have HTD := Lib.hid (told_dy HF.out HZ.out R1.out.pos hq0)
    go_upto_region 7 with fail
    rw [← hY]
    clear hY
    obtain ⟨-, ⟨c10, c11, c12, c13, c14, c15⟩, d0, d1, d2, d3, d4, d5⟩ := ksR2 HRx1.out HRz.out hcc
    go_upto_region 9 with fail
    clear c10 c11 c12 c13 c14 c15 d0 d1 d2 d3 d4 d5
    first
      | (go_region_held3 (fun w' => Below Y.heap.size Y w' ∧ (w'.cell? ⟨w.heap.size, 0, none⟩ = some (.int .u64 (P1 : Int)) ∧ w'.cell? ⟨w.heap.size, 1, none⟩ = some (.int .i64 (M1 : Int)) ∧ w'.cell? ⟨w.heap.size, 2, none⟩ = some (.int .i64 (F1 : Int)) ∧ w'.cell? ⟨w.heap.size, 3, none⟩ = some (.bool n1) ∧ w'.cell? ⟨w.heap.size, 4, none⟩ = some (v1) ∧ w'.cell? ⟨w.heap.size, 5, none⟩ = some (.int .i64 e1)) ∧ w'.cell? ⟨wN.heap.size, 0, none⟩ = some (.int .u64 (q : Int)) ∧ w'.cell? ⟨wN.heap.size, 1, none⟩ = some (.int .i64 (k : Int)) ∧ w'.cell? ⟨wN.heap.size, 2, none⟩ = some (.int .i64 (F1 : Int)) ∧ w'.cell? ⟨wN.heap.size, 3, none⟩ = some (.bool n1) ∧ w'.cell? ⟨wN.heap.size, 4, none⟩ = some (vz) ∧ w'.cell? ⟨wN.heap.size, 5, none⟩ = some (.int .i64 Ez))
          ((refine ksR2 HRx1.out HRz.out ?_; with_reducible first | assumption | exact Below.drew hcc))
          (first
            | (go_at_call 11; (with_reducible refine (rounds_any _ A (dyN F1 n1) b (dyM F1 (wv xs1)) (dyE F1 e1) q k _ (HTD.out.below hb8) HA.out D1.out (by have := (dy_nl R1.out (by decide)).1; omega) (by omega) hkb (by have := (dy_nl R1.out (by decide)).2.1; omega) (by have := (dy_nl R1.out (by decide)).2.2; omega)).mono ?_); rintro _ w10 ⟨rfl, hb10⟩; have hb10 := bthen hb8 hb10)
            | (go_at_call 10; refine (ofReal_any 300 1000 P1 M1 F1 e1 n1 v1 xs1 _ (VY1.out.below (And.left (by assumption))) R1.out).mono ?_; rintro _ w8 ⟨_, rfl, ⟨b, rfl, hd1⟩, hb8⟩; have hT1 := hd1.isS; have hb8 := bthenL hb8 (by assumption); have D1 := Lib.hid hd1; clear hd1)))
      | fail
    all_goals
      go_wp2
      go_ret
      exact ⟨rfl, HWY.out.trans (hb10.mono hYs)⟩
end Go.Proofs.YtgbmlaffilccnaaGreatDoor
