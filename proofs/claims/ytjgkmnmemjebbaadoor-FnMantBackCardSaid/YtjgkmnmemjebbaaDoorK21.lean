/-
Texts of this proof, joined: LwE. No condition.
-/
import Derived.Test.YtjgkmnmemjebbaaDoorK17
import Derived.Test.YtjgkmnmemjebbaaDoorK19
/-
The statements on Neg and Abs. No condition.
-/
namespace Go.Proofs.YtjgkmnmemjebbaaDoor
open Go.RowKit

theorem told_dyW {w : World} {z : Value} {p m f M : Nat} {n x : Bool} {e : Int} (hf : f = 0 ∨ f = 1) (hz : RealV w z p m f x (rQ p m n 0 M) (e + (rk p M : Nat))) (hM : f = 1 → 0 < M) (hp : 0 < p) (y : Bool) (hy : f = 1 → x = y) :
    Told w z p m y (rQ p m (dyN f n) 0 (dyM f M)) (dyE f e + (rk p (dyM f M) : Nat)) := by
  rcases hf with rfl | rfl
  · obtain ⟨h1, h2, -⟩ := rQ_zero p m (dyN 0 n)
    rw [show dyM 0 M = 0 from rfl, h2]
    exact hz.told0
  · rw [show dyN 1 n = n from rfl, show dyM 1 M = M from rfl, show dyE 1 e = e from rfl, ← hy rfl]
    exact hz.told (rQ_pos n 0 hp (hM rfl)) (deq.refl _ _)
theorem ks15 {W X : World} {i j k : Nat} {a b c d e f a' b' c' d' e' f' x y z : Value} {T T' U : TypeId} (hr : W.heap[i]? = some (.cells #[a, b, c, d, e, f] T (0, 0))) (hq : W.heap[j]? = some (.cells #[a', b', c', d', e', f'] T' (0, 0))) (hs : W.heap[k]? = some (.cells #[x, y, z] U (0, 0))) (h : Below W.heap.size W X) :
    Below W.heap.size W X ∧ (X.cell? ⟨i, 0, none⟩ = some a ∧ X.cell? ⟨i, 1, none⟩ = some b ∧ X.cell? ⟨i, 2, none⟩ = some c ∧ X.cell? ⟨i, 3, none⟩ = some d ∧ X.cell? ⟨i, 4, none⟩ = some e ∧ X.cell? ⟨i, 5, none⟩ = some f) ∧
    (X.cell? ⟨j, 0, none⟩ = some a' ∧ X.cell? ⟨j, 1, none⟩ = some b' ∧ X.cell? ⟨j, 2, none⟩ = some c' ∧ X.cell? ⟨j, 3, none⟩ = some d' ∧ X.cell? ⟨j, 4, none⟩ = some e' ∧ X.cell? ⟨j, 5, none⟩ = some f') ∧
    (X.cell? ⟨k, 0, none⟩ = some x ∧ X.cell? ⟨k, 1, none⟩ = some y ∧ X.cell? ⟨k, 2, none⟩ = some z) :=
  ⟨h, (ks12 hr h).2, (ks12 hq h).2, (row_at (keep_row h hs) rfl).1, (row_at (keep_row h hs) rfl).1, (row_at (keep_row h hs) rfl).1⟩
set_option maxRecDepth 100000 in
set_option maxHeartbeats 6400000 in
theorem lawNeg (a0 : Int) (a1 : Int) (p1 : Nat) (m1 f1 : Int) (n1 : Bool) (v1 : Value) (e1 : Int) (xs1 : List Nat) (w : World) (hT : TabW w) (l0 : 0 ≤ a0) (h0 : a0 ≤ 65535) (l1 : 0 ≤ a1) (h1 : a1 ≤ 255) (hv1 : RW w v1 xs1) (_hg1 : p1 ≤ 18446744073709551615 ∧ (-9223372036854775808 ≤ m1 ∧ m1 ≤ 9223372036854775807) ∧ (-9223372036854775808 ≤ f1 ∧ f1 ≤ 9223372036854775807) ∧ (-9223372036854775808 ≤ e1 ∧ e1 ≤ 9223372036854775807)) :
    Calls Tryd.prog 8 #[.int .u16 a0, .int .u8 a1, .agg #[.int .u64 p1, .int .i64 m1, .int .i64 f1, .bool n1, v1, .int .i64 e1]] w fun e' w' => e' = .returned (.bool true) ∧ Below w.heap.size w w' := by
  obtain ⟨b0, rfl⟩ := Int.eq_ofNat_of_zero_le l0
  have ib0 : b0 ≤ 65535 := by omega
  obtain ⟨b1, rfl⟩ := Int.eq_ofNat_of_zero_le l1
  have ib1 : b1 ≤ 255 := by omega
  have hS1 := hv1.isS
  clear _hg1
  have hab1 := (Below.refl w.heap.size w).alloc (Nat.le_refl _) (.cells #[.int .u64 p1, .int .i64 m1, .int .i64 f1, .bool n1, v1, .int .i64 e1] 26)
  obtain ⟨X, hX⟩ : ∃ X, X = (w.alloc (.cells #[.int .u64 p1, .int .i64 m1, .int .i64 f1, .bool n1, v1, .int .i64 e1] 26)) := ⟨_, rfl⟩
  have hr1 : X.heap[w.heap.size]? = some (.cells #[.int .u64 p1, .int .i64 m1, .int .i64 f1, .bool n1, v1, .int .i64 e1] 26 (0, 0)) := by
    rw [hX]; exact row_chain11
  rw [← hX] at hab1
  obtain ⟨-, ⟨c10, c11, c12, c13, c14, c15⟩⟩ := ksR1 hr1 (Below.refl _ _)
  have HR1 := Lib.hid hr1
  have V1 := Lib.hid (hv1.below hab1)
  have hXs := hab1.size
  have HW := Lib.hid hab1
  have T0 := Lib.hid (hT.below hab1)
  clear hT
  clear hr1 hv1
  clear hab1
  go_enter Tryd.func8, Tryd.ntmps8
  go_upto_region 1 with fail
  rw [← hX]
  clear hX
  go_wp2_with fail
  refine (zzFits1_any p1 m1 f1 e1 n1 v1 xs1 X V1.out).mono ?_
  rintro _ w1 ⟨rfl, hb1⟩
  obtain ⟨fits, hfits⟩ : ∃ f, f = decide (xs1.length ≤ 2147483647) := ⟨_, rfl⟩
  rw [← hfits]
  clear c10 c11 c12 c13 c14 c15 hfits
  obtain ⟨-, ⟨c10, c11, c12, c13, c14, c15⟩⟩ := ksR1 HR1.out hb1
  have HB := Lib.hid hb1
  clear hb1
  cases fits with
  | false =>
    go_wp2
    go_ret
    exact ⟨rfl, HW.out.trans (HB.out.mono hXs)⟩
  | true =>
  go_wp2_with fail
  refine (number_any p1 m1 f1 e1 n1 v1 xs1 w1 (V1.out.below HB.out)).mono ?_
  rintro _ w2 ⟨ok, rfl, hok, hb1⟩
  have hb1 := bthen HB.out hb1
  have HO1 := Lib.hid hok
  clear c10 c11 c12 c13 c14 c15 HB hok
  obtain ⟨-, ⟨c10, c11, c12, c13, c14, c15⟩⟩ := ksR1 HR1.out hb1
  have HB := Lib.hid hb1
  clear hb1
  cases ok with
  | false =>
    go_wp2
    go_ret
    exact ⟨rfl, HW.out.trans (HB.out.mono hXs)⟩
  | true =>
  obtain ⟨hn, P1, M1, F1, hp, rfl, rfl, hR⟩ := HO1.out rfl
  have hpp : P1 = p1 := by omega
  subst hpp
  have R1 := Lib.hid hR
  have N1 : Hid (F1 ≠ 2) := Lib.hid (fun h => hn (by rw [h]; rfl))
  clear HO1 hp hR hn
  have hWW := HW.out.trans (HB.out.mono hXs)
  have hV1 := V1.out.below HB.out
  have hr1 := keep_row HB.out HR1.out
  have hT0 := T0.out.below HB.out
  clear T0
  have T0 := Lib.hid hT0
  clear hT0
  clear HW HB hXs V1 HR1
  have HW := Lib.hid hWW
  have V1 := Lib.hid hV1
  have HR1 := Lib.hid hr1
  have hWs := HW.out.size
  clear hWW hV1 hr1
  go_wp2_with fail
  refine (target_any b0 b1 w2 ib0 ib1).mono ?_
  rintro _ _ ⟨rfl, rfl⟩
  have hqb : b0 % 301 ≤ 300 := by omega
  have hkb : b1 % 6 ≤ 5 := by omega
  obtain ⟨q, hq⟩ : ∃ q, q = b0 % 301 := ⟨_, rfl⟩
  obtain ⟨k, hk⟩ : ∃ k, k = b1 % 6 := ⟨_, rfl⟩
  rw [← hq] at hqb ⊢
  rw [← hk] at hkb ⊢
  clear hq hk ib0 ib1
  go_wp2_with fail
  refine (impNeg 300 1000 q k P1 M1 F1 n1 v1 e1 xs1 w2 V1.out R1.out (by decide) (by decide) (by omega) hkb T0.out).mono ?_
  rintro _ wN ⟨z, rfl, hz, hb1⟩
  have hf01 : F1 = 0 ∨ F1 = 1 := by have := R1.out.form'; have := N1.out; omega
  have hpo : 0 < pOf q P1 := by have := R1.out.1; unfold pOf; split <;> omega
  have hpo2 : pOf q P1 ≤ 300 := by have := R1.out.2.1; unfold pOf; split <;> omega
  obtain ⟨A, hA⟩ : ∃ A, A = stA F1 (pOf q P1) k n1 (wv xs1) := ⟨_, rfl⟩
  rw [← hA]
  rw [stA_dy hf01] at hA
  have hpm := pOf_self q P1
  obtain ⟨Z, hZ⟩ : ∃ Z, Z = pOf q P1 := ⟨_, rfl⟩
  rw [← hZ] at hz hA hpo hpo2 hpm
  have HA := Lib.hid hA
  have HPM := Lib.hid hpm
  have HF := Lib.hid hf01
  clear hA hZ hpm hf01
  obtain ⟨vz, Ez, rfl, hSz⟩ := hz.form
  obtain ⟨Y, hY⟩ : ∃ Y, Y = wN.alloc (.cells #[.int .u64 (Z : Int), .int .i64 (k : Int), .int .i64 (F1 : Int), .bool (!n1), vz, .int .i64 Ez] 26) := ⟨_, rfl⟩
  have hbY : Below wN.heap.size wN Y := by rw [hY]; exact fbone _
  have hrz : Y.heap[wN.heap.size]? = some (.cells #[.int .u64 (Z : Int), .int .i64 (k : Int), .int .i64 (F1 : Int), .bool (!n1), vz, .int .i64 Ez] 26 (0, 0)) := by rw [hY]; exact row_chain11
  have hbX := bthen hb1 hbY
  have hr1 := keep_row hbX HR1.out
  have HRx1 := Lib.hid hr1
  have VY1 := Lib.hid (V1.out.below hbX)
  have HRz := Lib.hid hrz
  have HZ := Lib.hid (hz.below hbY)
  have HWY := Lib.hid (HW.out.trans (hbX.mono hWs))
  have TY := Lib.hid (T0.out.below hbX)
  have hYs := HWY.out.size
  have hcc := Below.refl Y.heap.size Y
  clear hb1 hbY hrz hbX hz c10 c11 c12 c13 c14 c15 HW hWs T0 hr1 V1 HR1
  obtain ⟨-, x0, x1, x2, x3, x4, x5⟩ := ks12 HRx1.out (Below.refl _ _)
  go_upto_region 7 with fail
  rw [← hY]
  clear hY
  go_wp2_with fail
  refine (chosen_any q P1 P1 M1 M1 F1 F1 n1 n1 v1 v1 e1 e1 Y hS1 hS1).mono ?_
  rintro _ w2 ⟨rfl, hb2⟩
  rw [HPM.out]
  have B2 := Lib.hid hb2
  clear hb2 x0 x1 x2 x3 x4 x5
  obtain ⟨-, x0, x1, x2, x3, x4, x5⟩ := ks12 HRx1.out B2.out
  go_wp2_with fail
  refine (ofReal_any 300 1000 P1 M1 F1 e1 n1 v1 xs1 w2 (VY1.out.below B2.out) R1.out).mono ?_
  rintro _ w3 ⟨_, rfl, ⟨b, rfl, hd⟩, hb3⟩
  have hT1 := hd.isS
  have HD := Lib.hid hd
  have B3 := Lib.hid (bthen B2.out hb3)
  have hdn := dy_nl R1.out (by decide)
  clear hb3 hd
  go_wp2_with fail
  refine (spRound (dyN F1 n1) b (dyE F1 e1) (dyM F1 (wv xs1)) Z k w3 HD.out (by omega) (by omega) hkb (by omega) (by omega)).mono ?_
  rintro _ w4 ⟨r, rfl, hr4, hb4⟩
  have hSr := hr4.isS
  have hrk := rk_le Z (dyM F1 (wv xs1))
  have hbq := bl_rQ Z k (dyN F1 n1) 0 (dyM F1 (wv xs1))
  rw [← HA.out]
  have HTD := told_dyW HF.out HZ.out R1.out.pos hpo (!(dyN F1 n1)) (by intro h; subst h; rfl)
  obtain ⟨D, hD⟩ : ∃ D, D = dyN F1 n1 := ⟨_, rfl⟩
  obtain ⟨G, hG⟩ : ∃ G, G = dyE F1 e1 + (rk Z (dyM F1 (wv xs1)) : Nat) := ⟨_, rfl⟩
  have hGb : -4100000000 ≤ G ∧ G ≤ 4100000000 := by omega
  rw [← hG] at HTD ⊢
  have HTD := Lib.hid HTD
  have HBQ := Lib.hid (show bl (rQ Z k (dyN F1 n1) 0 (dyM F1 (wv xs1))) ≤ 10000000 by omega)
  have HDD := Lib.hid hD
  obtain ⟨QQ, hQQ⟩ : ∃ Q, Q = rQ Z k (dyN F1 n1) 0 (dyM F1 (wv xs1)) := ⟨_, rfl⟩
  rw [← hQQ] at HTD HBQ hr4
  rw [← hD] at HTD ⊢
  clear hdn hrk hbq hG hD hQQ
  obtain ⟨U, hU⟩ : ∃ U, U = w4.alloc (.cells #[.bool D, r, .int .i64 G] 36) := ⟨_, rfl⟩
  have hbU : Below w4.heap.size w4 U := by rw [hU]; exact fbone _
  have hru : U.heap[w4.heap.size]? = some (.cells #[.bool D, r, .int .i64 G] 36 (0, 0)) := by rw [hU]; exact row_chain11
  have hbX := bthen (bthen B3.out hb4) hbU
  have BU := Lib.hid hbX
  have HR4 := Lib.hid (hr4.below hbU)
  have HRu := Lib.hid hru
  have HX := Lib.hid (keep_row hbX HRx1.out)
  have HZr := Lib.hid (keep_row hbX HRz.out)
  have hUs := BU.out.size
  have hs34 := hb4.size
  have H4 := Lib.hid hr4
  have HbU := Lib.hid hbU
  have hcU := Below.refl U.heap.size U
  clear hbU hru hbX hr4 hb4 x0 x1 x2 x3 x4 x5
  have t1 : ((!n1) != n1) = true := by cases n1 <;> rfl
  have t2 : ((A == 0) == (A == 0)) = true := beq_self_eq_true _
  go_upto_region 9 with fail
  rw [← hU]
  clear hU
  first
    | (go_region_held3 (fun w' => Below U.heap.size U w' ∧ (w'.cell? ⟨w.heap.size, 0, none⟩ = some (.int .u64 (P1 : Int)) ∧ w'.cell? ⟨w.heap.size, 1, none⟩ = some (.int .i64 (M1 : Int)) ∧ w'.cell? ⟨w.heap.size, 2, none⟩ = some (.int .i64 (F1 : Int)) ∧ w'.cell? ⟨w.heap.size, 3, none⟩ = some (.bool n1) ∧ w'.cell? ⟨w.heap.size, 4, none⟩ = some (v1) ∧ w'.cell? ⟨w.heap.size, 5, none⟩ = some (.int .i64 e1)) ∧ (w'.cell? ⟨wN.heap.size, 0, none⟩ = some (.int .u64 (Z : Int)) ∧ w'.cell? ⟨wN.heap.size, 1, none⟩ = some (.int .i64 (k : Int)) ∧ w'.cell? ⟨wN.heap.size, 2, none⟩ = some (.int .i64 (F1 : Int)) ∧ w'.cell? ⟨wN.heap.size, 3, none⟩ = some (.bool (!n1)) ∧ w'.cell? ⟨wN.heap.size, 4, none⟩ = some (vz) ∧ w'.cell? ⟨wN.heap.size, 5, none⟩ = some (.int .i64 Ez)) ∧ w'.cell? ⟨w4.heap.size, 0, none⟩ = some (.bool D) ∧ w'.cell? ⟨w4.heap.size, 1, none⟩ = some (r) ∧ w'.cell? ⟨w4.heap.size, 2, none⟩ = some (.int .i64 G))
        ((refine ks15 HX.out HZr.out HRu.out ?_; with_reducible first | assumption | exact Below.drew hcU))
        (first
          | (go_at_call 31; refine (dOpp D r G _ hSr).mono ?_; rintro _ w8 ⟨rfl, hb8⟩; have hb8 := bthenL hb8 (by assumption))
          | (go_at_call 25; refine (spIsReal _ Z k (!D) r QQ G _ ((HTD.out.below BU.out).below hb8) (HR4.out.below hb8) HBQ.out hGb.1 hGb.2).mono ?_; rintro _ w9 ⟨rfl, hb9⟩; have hb9 := bthen hb8 hb9)))
    | fail
  all_goals
    go_wp2
    go_ret
    exact ⟨congrArg (fun b => Ending.returned (.bool b)) (by first | rfl | exact beq_self_eq_true _ | simp), HWY.out.trans ((BU.out.trans (hb9.mono hUs)).mono hYs)⟩
set_option maxRecDepth 100000 in
set_option maxHeartbeats 6400000 in
theorem lawAbs (a0 : Int) (a1 : Int) (p1 : Nat) (m1 f1 : Int) (n1 : Bool) (v1 : Value) (e1 : Int) (xs1 : List Nat) (w : World) (hT : TabW w) (l0 : 0 ≤ a0) (h0 : a0 ≤ 65535) (l1 : 0 ≤ a1) (h1 : a1 ≤ 255) (hv1 : RW w v1 xs1) (_hg1 : p1 ≤ 18446744073709551615 ∧ (-9223372036854775808 ≤ m1 ∧ m1 ≤ 9223372036854775807) ∧ (-9223372036854775808 ≤ f1 ∧ f1 ≤ 9223372036854775807) ∧ (-9223372036854775808 ≤ e1 ∧ e1 ≤ 9223372036854775807)) :
    Calls Tryd.prog 9 #[.int .u16 a0, .int .u8 a1, .agg #[.int .u64 p1, .int .i64 m1, .int .i64 f1, .bool n1, v1, .int .i64 e1]] w fun e' w' => e' = .returned (.bool true) ∧ Below w.heap.size w w' := by
  obtain ⟨b0, rfl⟩ := Int.eq_ofNat_of_zero_le l0
  have ib0 : b0 ≤ 65535 := by omega
  obtain ⟨b1, rfl⟩ := Int.eq_ofNat_of_zero_le l1
  have ib1 : b1 ≤ 255 := by omega
  have hS1 := hv1.isS
  clear _hg1
  have hab1 := (Below.refl w.heap.size w).alloc (Nat.le_refl _) (.cells #[.int .u64 p1, .int .i64 m1, .int .i64 f1, .bool n1, v1, .int .i64 e1] 26)
  obtain ⟨X, hX⟩ : ∃ X, X = (w.alloc (.cells #[.int .u64 p1, .int .i64 m1, .int .i64 f1, .bool n1, v1, .int .i64 e1] 26)) := ⟨_, rfl⟩
  have hr1 : X.heap[w.heap.size]? = some (.cells #[.int .u64 p1, .int .i64 m1, .int .i64 f1, .bool n1, v1, .int .i64 e1] 26 (0, 0)) := by
    rw [hX]; exact row_chain11
  rw [← hX] at hab1
  obtain ⟨-, ⟨c10, c11, c12, c13, c14, c15⟩⟩ := ksR1 hr1 (Below.refl _ _)
  have HR1 := Lib.hid hr1
  have V1 := Lib.hid (hv1.below hab1)
  have hXs := hab1.size
  have HW := Lib.hid hab1
  have T0 := Lib.hid (hT.below hab1)
  clear hT
  clear hr1 hv1
  clear hab1
  go_enter Tryd.func9, Tryd.ntmps9
  go_upto_region 1 with fail
  rw [← hX]
  clear hX
  go_wp2_with fail
  refine (zzFits1_any p1 m1 f1 e1 n1 v1 xs1 X V1.out).mono ?_
  rintro _ w1 ⟨rfl, hb1⟩
  obtain ⟨fits, hfits⟩ : ∃ f, f = decide (xs1.length ≤ 2147483647) := ⟨_, rfl⟩
  rw [← hfits]
  clear c10 c11 c12 c13 c14 c15 hfits
  obtain ⟨-, ⟨c10, c11, c12, c13, c14, c15⟩⟩ := ksR1 HR1.out hb1
  have HB := Lib.hid hb1
  clear hb1
  cases fits with
  | false =>
    go_wp2
    go_ret
    exact ⟨rfl, HW.out.trans (HB.out.mono hXs)⟩
  | true =>
  go_wp2_with fail
  refine (number_any p1 m1 f1 e1 n1 v1 xs1 w1 (V1.out.below HB.out)).mono ?_
  rintro _ w2 ⟨ok, rfl, hok, hb1⟩
  have hb1 := bthen HB.out hb1
  have HO1 := Lib.hid hok
  clear c10 c11 c12 c13 c14 c15 HB hok
  obtain ⟨-, ⟨c10, c11, c12, c13, c14, c15⟩⟩ := ksR1 HR1.out hb1
  have HB := Lib.hid hb1
  clear hb1
  cases ok with
  | false =>
    go_wp2
    go_ret
    exact ⟨rfl, HW.out.trans (HB.out.mono hXs)⟩
  | true =>
  obtain ⟨hn, P1, M1, F1, hp, rfl, rfl, hR⟩ := HO1.out rfl
  have hpp : P1 = p1 := by omega
  subst hpp
  have R1 := Lib.hid hR
  have N1 : Hid (F1 ≠ 2) := Lib.hid (fun h => hn (by rw [h]; rfl))
  clear HO1 hp hR hn
  have hWW := HW.out.trans (HB.out.mono hXs)
  have hV1 := V1.out.below HB.out
  have hr1 := keep_row HB.out HR1.out
  have hT0 := T0.out.below HB.out
  clear T0
  have T0 := Lib.hid hT0
  clear hT0
  clear HW HB hXs V1 HR1
  have HW := Lib.hid hWW
  have V1 := Lib.hid hV1
  have HR1 := Lib.hid hr1
  have hWs := HW.out.size
  clear hWW hV1 hr1
  go_wp2_with fail
  refine (target_any b0 b1 w2 ib0 ib1).mono ?_
  rintro _ _ ⟨rfl, rfl⟩
  have hqb : b0 % 301 ≤ 300 := by omega
  have hkb : b1 % 6 ≤ 5 := by omega
  obtain ⟨q, hq⟩ : ∃ q, q = b0 % 301 := ⟨_, rfl⟩
  obtain ⟨k, hk⟩ : ∃ k, k = b1 % 6 := ⟨_, rfl⟩
  rw [← hq] at hqb ⊢
  rw [← hk] at hkb ⊢
  clear hq hk ib0 ib1
  go_wp2_with fail
  refine (impAbs 300 1000 q k P1 M1 F1 n1 v1 e1 xs1 w2 V1.out R1.out (by decide) (by decide) (by omega) hkb T0.out).mono ?_
  rintro _ wN ⟨z, rfl, hz, hb1⟩
  have hf01 : F1 = 0 ∨ F1 = 1 := by have := R1.out.form'; have := N1.out; omega
  have hpo : 0 < pOf q P1 := by have := R1.out.1; unfold pOf; split <;> omega
  have hpo2 : pOf q P1 ≤ 300 := by have := R1.out.2.1; unfold pOf; split <;> omega
  obtain ⟨A, hA⟩ : ∃ A, A = stA F1 (pOf q P1) k n1 (wv xs1) := ⟨_, rfl⟩
  rw [← hA]
  rw [stA_dy hf01] at hA
  have hpm := pOf_self q P1
  obtain ⟨Z, hZ⟩ : ∃ Z, Z = pOf q P1 := ⟨_, rfl⟩
  rw [← hZ] at hz hA hpo hpo2 hpm
  have HA := Lib.hid hA
  have HPM := Lib.hid hpm
  have HF := Lib.hid hf01
  clear hA hZ hpm hf01
  obtain ⟨vz, Ez, rfl, hSz⟩ := hz.form
  obtain ⟨Y, hY⟩ : ∃ Y, Y = wN.alloc (.cells #[.int .u64 (Z : Int), .int .i64 (k : Int), .int .i64 (F1 : Int), .bool (false), vz, .int .i64 Ez] 26) := ⟨_, rfl⟩
  have hbY : Below wN.heap.size wN Y := by rw [hY]; exact fbone _
  have hrz : Y.heap[wN.heap.size]? = some (.cells #[.int .u64 (Z : Int), .int .i64 (k : Int), .int .i64 (F1 : Int), .bool (false), vz, .int .i64 Ez] 26 (0, 0)) := by rw [hY]; exact row_chain11
  have hbX := bthen hb1 hbY
  have hr1 := keep_row hbX HR1.out
  have HRx1 := Lib.hid hr1
  have VY1 := Lib.hid (V1.out.below hbX)
  have HRz := Lib.hid hrz
  have HZ := Lib.hid (hz.below hbY)
  have HWY := Lib.hid (HW.out.trans (hbX.mono hWs))
  have TY := Lib.hid (T0.out.below hbX)
  have hYs := HWY.out.size
  have hcc := Below.refl Y.heap.size Y
  clear hb1 hbY hrz hbX hz c10 c11 c12 c13 c14 c15 HW hWs T0 hr1 V1 HR1
  obtain ⟨-, x0, x1, x2, x3, x4, x5⟩ := ks12 HRx1.out (Below.refl _ _)
  go_upto_region 7 with fail
  rw [← hY]
  clear hY
  go_wp2_with fail
  refine (chosen_any q P1 P1 M1 M1 F1 F1 n1 n1 v1 v1 e1 e1 Y hS1 hS1).mono ?_
  rintro _ w2 ⟨rfl, hb2⟩
  rw [HPM.out]
  have B2 := Lib.hid hb2
  clear hb2 x0 x1 x2 x3 x4 x5
  obtain ⟨-, x0, x1, x2, x3, x4, x5⟩ := ks12 HRx1.out B2.out
  go_wp2_with fail
  refine (ofReal_any 300 1000 P1 M1 F1 e1 n1 v1 xs1 w2 (VY1.out.below B2.out) R1.out).mono ?_
  rintro _ w3 ⟨_, rfl, ⟨b, rfl, hd⟩, hb3⟩
  have hT1 := hd.isS
  have HD := Lib.hid hd
  have B3 := Lib.hid (bthen B2.out hb3)
  have hdn := dy_nl R1.out (by decide)
  clear hb3 hd
  go_wp2_with fail
  refine (spRound (dyN F1 n1) b (dyE F1 e1) (dyM F1 (wv xs1)) Z k w3 HD.out (by omega) (by omega) hkb (by omega) (by omega)).mono ?_
  rintro _ w4 ⟨r, rfl, hr4, hb4⟩
  have hSr := hr4.isS
  have hrk := rk_le Z (dyM F1 (wv xs1))
  have hbq := bl_rQ Z k (dyN F1 n1) 0 (dyM F1 (wv xs1))
  rw [← HA.out]
  have HTD := told_dyW HF.out HZ.out R1.out.pos hpo (false) (by intro h; subst h; rfl)
  obtain ⟨D, hD⟩ : ∃ D, D = dyN F1 n1 := ⟨_, rfl⟩
  obtain ⟨G, hG⟩ : ∃ G, G = dyE F1 e1 + (rk Z (dyM F1 (wv xs1)) : Nat) := ⟨_, rfl⟩
  have hGb : -4100000000 ≤ G ∧ G ≤ 4100000000 := by omega
  rw [← hG] at HTD ⊢
  have HTD := Lib.hid HTD
  have HBQ := Lib.hid (show bl (rQ Z k (dyN F1 n1) 0 (dyM F1 (wv xs1))) ≤ 10000000 by omega)
  have HDD := Lib.hid hD
  obtain ⟨QQ, hQQ⟩ : ∃ Q, Q = rQ Z k (dyN F1 n1) 0 (dyM F1 (wv xs1)) := ⟨_, rfl⟩
  rw [← hQQ] at HTD HBQ hr4
  rw [← hD]
  clear hdn hrk hbq hG hD hQQ
  obtain ⟨U, hU⟩ : ∃ U, U = w4.alloc (.cells #[.bool D, r, .int .i64 G] 36) := ⟨_, rfl⟩
  have hbU : Below w4.heap.size w4 U := by rw [hU]; exact fbone _
  have hru : U.heap[w4.heap.size]? = some (.cells #[.bool D, r, .int .i64 G] 36 (0, 0)) := by rw [hU]; exact row_chain11
  have hbX := bthen (bthen B3.out hb4) hbU
  have BU := Lib.hid hbX
  have HR4 := Lib.hid (hr4.below hbU)
  have HRu := Lib.hid hru
  have HX := Lib.hid (keep_row hbX HRx1.out)
  have HZr := Lib.hid (keep_row hbX HRz.out)
  have hUs := BU.out.size
  have hs34 := hb4.size
  have H4 := Lib.hid hr4
  have HbU := Lib.hid hbU
  have hcU := Below.refl U.heap.size U
  clear hbU hru hbX hr4 hb4 x0 x1 x2 x3 x4 x5
  have t2 : ((A == 0) == (A == 0)) = true := beq_self_eq_true _
  have h1 := get_lt HRz.out
  have h2 := B3.out.size
  have hne : wN.heap.size ≠ w4.heap.size := by omega
  have hz2 : (U.setCell ⟨w4.heap.size, 0, none⟩ (.bool false)).heap[wN.heap.size]? = _ := (heap_setCell_other _ _ _ _ (by simpa using hne)).trans HZr.out
  have hru2 : (U.setCell ⟨w4.heap.size, 0, none⟩ (.bool false)).heap[w4.heap.size]? = some (.cells #[.bool false, r, .int .i64 G] 36 (0, 0)) := rowset (i := 0) (.bool false) HRu.out
  have HZ2 := Lib.hid hz2
  obtain ⟨u0, u1, u2, uf0, uf1, uf2⟩ := row3 HRu.out
  obtain ⟨s0, s1, s2, -, -, -⟩ := row3 hru2
  obtain ⟨⟨y0, y1, y2, y3, y4, y5⟩, -⟩ := row6 hz2
  have hB2 := bset (i := 0) (u := .bool false) (HWY.out.trans (BU.out.mono hYs)) (show w.heap.size ≤ w4.heap.size by omega)
  have HB2 := Lib.hid hB2
  have hBU2 : Below Y.heap.size Y (U.setCell ⟨w4.heap.size, 0, none⟩ (.bool false)) := bset BU.out (by omega)
  have HTD2 := Lib.hid (HTD.out.below hBU2)
  have HR42 : Hid (NatV (U.setCell ⟨w4.heap.size, 0, none⟩ (.bool false)) r QQ) := Lib.hid (H4.out.below (bset HbU.out (Nat.le_refl _)))
  clear hz2 hru2 hB2 hBU2
  go_upto_region 9 with fail
  rw [← hU]
  clear hU
  go_wp2_with fail
  refine (spIsReal _ Z k false r QQ G _ HTD2.out HR42.out HBQ.out hGb.1 hGb.2).mono ?_
  rintro _ w9 ⟨rfl, hb9⟩
  have hs9 := HB2.out.trans (hb9.mono HB2.out.size)
  have HS9 := Lib.hid hs9
  obtain ⟨⟨q0, q1, q2, q3, q4, q5⟩, -⟩ := row6 (keep_row hb9 HZ2.out)
  clear hs9 hb9
  go_wp2
  go_ret
  exact ⟨congrArg (fun b => Ending.returned (.bool b)) (by first | rfl | exact beq_self_eq_true _ | simp), HS9.out⟩
end Go.Proofs.YtjgkmnmemjebbaaDoor
