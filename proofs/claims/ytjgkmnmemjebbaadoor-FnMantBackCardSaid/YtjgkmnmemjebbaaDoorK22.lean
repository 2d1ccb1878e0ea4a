/-
Texts of this proof, joined: LwF. No condition.
-/
import Derived.Test.YtjgkmnmemjebbaaDoorK19
import Derived.Test.YtjgkmnmemjebbaaDoorK21
/-
The statements on SetMantExp and MantExp. No condition.
-/
namespace Go.Proofs.YtjgkmnmemjebbaaDoor
open Go.RowKit

theorem dy_one {f M : Nat} {n : Bool} {e : Int} (h : f = 1) : dyN f n = n ∧ dyM f M = M ∧ dyE f e = e := by subst h; exact ⟨rfl, rfl, rfl⟩
theorem RealV.told1 {w : World} {z : Value} {p m f M x : Nat} {neg : Bool} {X e : Int} (hf : f = 1) (h : RealV w z p m f neg M X) (hM : 0 < M) (hq : deq M X x e) : Told w z p m neg x e := by subst hf; exact h.told hM hq
theorem RealOk.one {P E p m f : Nat} {ws : List Nat} {e : Int} (h : RealOk P E p m f ws e) (hf : f = 1) : 0 < wv ws ∧ bl (wv ws) ≤ p ∧ bl (wv ws) ≤ P ∧ ws.length ≤ 1000000 ∧ -(E : Int) ≤ e ∧ e ≤ E := by
  subst hf
  obtain ⟨-, h2, -, h | h | h⟩ := h
  · exact absurd h (by decide)
  · exact absurd h (by decide)
  · exact ⟨h.2.1, h.2.2.1, Nat.le_trans h.2.2.1 h2, h.2.2.2⟩
theorem RealV.ok {w : World} {z : Value} {p m f M P E : Nat} {neg : Bool} {X : Int} (h : RealV w z p m f neg M X) (hp0 : 0 < p) (hp : p ≤ P) (hm : m ≤ 5) (hf : f ≤ 2) (h1 : f = 1 → 0 < M ∧ bl (od M) ≤ p ∧ bl M ≤ 60000000 ∧ -(E : Int) ≤ X ∧ X + bl M ≤ E) :
    ∃ (v : Value) (Ez : Int) (zs : List Nat), z = .agg #[.int .u64 p, .int .i64 m, .int .i64 f, .bool neg, v, .int .i64 Ez] ∧ RW w v zs ∧ RealOk P E p m f zs Ez ∧ (f = 1 → wv zs = od M ∧ zs = wds (od M) ∧ Ez = X + (tz M : Nat) ∧ deq (wv zs) Ez M X) ∧ (f ≠ 1 → zs = [] ∧ Ez = 0) := by
  obtain ⟨v, Ez, zs, B, e1, e2, e3, e4, e5⟩ := h
  refine ⟨v, Ez, zs, e1, e2.rw' e3, ⟨hp0, hp, hm, ?_⟩, fun hf1 => ?_, e4⟩
  · by_cases hf1 : f = 1
    · obtain ⟨k1, k2, k3, k4, k5⟩ := h1 hf1
      obtain ⟨l1, l2⟩ := e5 hf1
      have l3 := tz_le k1
      refine .inr (.inr ⟨hf1, ?_, ?_, ?_, ?_, ?_⟩)
      · rw [l1, wv_wds]; exact od_pos k1
      · rw [l1, wv_wds]; exact k2
      · rw [l1, wds_length, nw_bl (od_pos k1)]
        have : bl (od M) ≤ bl M := by have := bl_od k1; omega
        omega
      · omega
      · omega
    · omega
  · obtain ⟨k1, k2, k3, k4, k5⟩ := h1 hf1
    obtain ⟨l1, l2⟩ := e5 hf1
    have l3 : wv zs = od M := by rw [l1, wv_wds]
    refine ⟨l3, l1, l2, ?_⟩
    rw [l3, l2]; exact (od_deq k1 X).symm
set_option maxRecDepth 100000 in
set_option maxHeartbeats 3200000 in
theorem lawSetMantExp (p1 : Nat) (m1 f1 : Int) (n1 : Bool) (v1 : Value) (e1 : Int) (xs1 : List Nat) (a1 : Int) (w : World) (hT : TabW w) (hv1 : RW w v1 xs1) (_hg1 : p1 ≤ 18446744073709551615 ∧ (-9223372036854775808 ≤ m1 ∧ m1 ≤ 9223372036854775807) ∧ (-9223372036854775808 ≤ f1 ∧ f1 ≤ 9223372036854775807) ∧ (-9223372036854775808 ≤ e1 ∧ e1 ≤ 9223372036854775807)) (l1 : -2147483648 ≤ a1) (h1 : a1 ≤ 2147483647) :
    Calls Tryd.prog 6 #[.agg #[.int .u64 p1, .int .i64 m1, .int .i64 f1, .bool n1, v1, .int .i64 e1], .int .i32 a1] w fun e' w' => e' = .returned (.bool true) ∧ Below w.heap.size w w' := by
  have hS1 := hv1.isS
  clear _hg1
  have hab1 := (Below.refl w.heap.size w).alloc (Nat.le_refl _) (.cells #[.int .u64 p1, .int .i64 m1, .int .i64 f1, .bool n1, v1, .int .i64 e1] 26)
  obtain ⟨X, hX⟩ : ∃ X, X = (w.alloc (.cells #[.int .u64 p1, .int .i64 m1, .int .i64 f1, .bool n1, v1, .int .i64 e1] 26)) := ⟨_, rfl⟩
  have hr1 : X.heap[w.heap.size]? = some (.cells #[.int .u64 p1, .int .i64 m1, .int .i64 f1, .bool n1, v1, .int .i64 e1] 26 (0, 0)) := by
    rw [hX]; exact row_chain11
  rw [← hX] at hab1
  obtain ⟨-, ⟨c10, c11, c12, c13, c14, c15⟩⟩ := ksR1 hr1 (Below.refl _ _)
  have HR1 := Lib.hid hr1
  have V1 := Lib.hid (hv1.below hab1)
  have hXs := hab1.size
  have HW := Lib.hid hab1
  have T0 := Lib.hid (hT.below hab1)
  clear hT
  clear hr1 hv1
  clear hab1
  go_enter Tryd.func6, Tryd.ntmps6
  go_upto_region 1 with fail
  rw [← hX]
  clear hX
  go_wp2_with fail
  refine (zzFits1_any p1 m1 f1 e1 n1 v1 xs1 X V1.out).mono ?_
  rintro _ w1 ⟨rfl, hb1⟩
  obtain ⟨fits, hfits⟩ : ∃ f, f = decide (xs1.length ≤ 2147483647) := ⟨_, rfl⟩
  rw [← hfits]
  clear c10 c11 c12 c13 c14 c15 hfits
  obtain ⟨-, ⟨c10, c11, c12, c13, c14, c15⟩⟩ := ksR1 HR1.out hb1
  have HB := Lib.hid hb1
  clear hb1
  cases fits with
  | false =>
    go_wp2
    go_ret
    exact ⟨rfl, HW.out.trans (HB.out.mono hXs)⟩
  | true =>
  go_wp2_with fail
  refine (real_any 300 1000000 p1 m1 f1 e1 n1 v1 xs1 w1 (V1.out.below HB.out) (by decide) (by decide)).mono ?_
  rintro _ w2 ⟨ok, rfl, hok, hb1⟩
  have hb1 := bthen HB.out hb1
  have HO1 := Lib.hid hok
  clear c10 c11 c12 c13 c14 c15 HB hok
  obtain ⟨-, ⟨c10, c11, c12, c13, c14, c15⟩⟩ := ksR1 HR1.out hb1
  have HB := Lib.hid hb1
  clear hb1
  cases ok with
  | false =>
    go_wp2
    go_ret
    exact ⟨rfl, HW.out.trans (HB.out.mono hXs)⟩
  | true =>
  obtain ⟨P1, M1, F1, hp, rfl, rfl, hR⟩ := HO1.out rfl
  have hpp : P1 = p1 := by omega
  subst hpp
  have R1 := Lib.hid hR
  clear HO1 hp hR
  have hWW := HW.out.trans (HB.out.mono hXs)
  have hV1 := V1.out.below HB.out
  have hr1 := keep_row HB.out HR1.out
  have hT0 := T0.out.below HB.out
  clear T0
  have T0 := Lib.hid hT0
  clear hT0
  clear HW HB hXs V1 HR1
  have HW := Lib.hid hWW
  have V1 := Lib.hid hV1
  have HR1 := Lib.hid hr1
  have hWs := HW.out.size
  clear hWW hV1 hr1
  have hk1 : -1000000 ≤ a1.tmod 1000000 ∧ a1.tmod 1000000 ≤ 1000000 := by
    have := Int.tmod_lt_of_pos a1 (show (0 : Int) < 1000000 by decide)
    have := Int.lt_tmod_of_pos a1 (show (0 : Int) < 1000000 by decide)
    omega
  have hm5 : M1 ≤ 5 := R1.out.2.2.1
  go_wp2_with fail
  obtain ⟨k, hk⟩ : ∃ k, k = a1.tmod 1000000 := ⟨_, rfl⟩
  rw [← hk] at hk1 ⊢
  clear hk l1 h1
  obtain ⟨hk1, hk2⟩ := hk1
  refine (impSetMantExp 300 1000000 P1 M1 F1 n1 v1 e1 k xs1 w2 V1.out R1.out (by decide) (by decide) (by omega) (by omega) T0.out).mono ?_
  rintro _ wN ⟨z, rfl, hz, hb1⟩
  obtain ⟨vz, Ez, rfl, hSz⟩ := hz.form
  obtain ⟨Y, hY⟩ : ∃ Y, Y = wN.alloc (.cells #[.int .u64 (P1 : Int), .int .i64 (M1 : Int), .int .i64 (F1 : Int), .bool n1, vz, .int .i64 Ez] 26) := ⟨_, rfl⟩
  have hbY : Below wN.heap.size wN Y := by rw [hY]; exact fbone _
  have hrz : Y.heap[wN.heap.size]? = some (.cells #[.int .u64 (P1 : Int), .int .i64 (M1 : Int), .int .i64 (F1 : Int), .bool n1, vz, .int .i64 Ez] 26 (0, 0)) := by rw [hY]; exact row_chain11
  have hbX := bthen hb1 hbY
  have hr1 := keep_row hbX HR1.out
  have HRx1 := Lib.hid hr1
  have VY1 := Lib.hid (V1.out.below hbX)
  have HRz := Lib.hid hrz
  have HZ := Lib.hid (hz.below hbY)
  have HWY := Lib.hid (HW.out.trans (hbX.mono hWs))
  have TY := Lib.hid (T0.out.below hbX)
  have hYs := HWY.out.size
  have hcc := Below.refl Y.heap.size Y
  clear hb1 hbY hrz hbX hz c10 c11 c12 c13 c14 c15 HW hWs T0 hr1 V1 HR1
  obtain ⟨-, x0, x1, x2, x3, x4, x5⟩ := ks12 HRx1.out (Below.refl _ _)
  obtain ⟨-, y0, y1, y2, y3, y4, y5⟩ := ks12 HRz.out (Below.refl _ _)
  go_upto_region 7 with fail
  rw [← hY]
  clear hY
  by_cases hf : F1 = 1
  · have t0 : ((F1 : Int) != 1) = false := by rw [hf]; rfl
    obtain ⟨r1, r2, r3, r4, r5, r6⟩ := R1.out.one hf
    obtain ⟨d1, d2, d3⟩ := dy_one (f := F1) (M := wv xs1) (n := n1) (e := e1) hf
    have HTD := Lib.hid (HZ.out.told1 hf r1 (deq.refl _ _))
    have HDY := Lib.hid (And.intro d1 (And.intro d2 d3))
    clear hf d1 d2 d3
    go_wp2_with fail
    refine (ofReal_any 300 1000000 P1 M1 F1 e1 n1 v1 xs1 Y VY1.out R1.out).mono ?_
    rintro _ w3 ⟨_, rfl, ⟨b, rfl, hd⟩, hb3⟩
    rw [HDY.out.2.1] at hd
    rw [HDY.out.1, HDY.out.2.2]
    have hT1 := hd.isS
    obtain ⟨U, hU⟩ : ∃ U, U = w3.alloc (.cells #[.bool n1, b, .int .i64 e1] 36) := ⟨_, rfl⟩
    have hbU : Below w3.heap.size w3 U := by rw [hU]; exact fbone _
    have hru : U.heap[w3.heap.size]? = some (.cells #[.bool n1, b, .int .i64 e1] 36 (0, 0)) := by rw [hU]; exact row_chain11
    have hbX := bthen hb3 hbU
    have hs3 := hb3.size
    have h1 := get_lt HRz.out
    have h2 := get_lt HRx1.out
    have hne1 : wN.heap.size ≠ w3.heap.size := by omega
    have hne2 : w.heap.size ≠ w3.heap.size := by omega
    have hru2 : (U.setCell ⟨w3.heap.size, 2, none⟩ (.int .i64 (e1 + k))).heap[w3.heap.size]? = some (.cells #[.bool n1, b, .int .i64 (e1 + k)] 36 (0, 0)) := rowset (i := 2) (.int .i64 (e1 + k)) hru
    have hrz2 : (U.setCell ⟨w3.heap.size, 2, none⟩ (.int .i64 (e1 + k))).heap[wN.heap.size]? = _ := (heap_setCell_other _ _ _ _ (by simpa using hne1)).trans (keep_row hbX HRz.out)
    have hrx2 : (U.setCell ⟨w3.heap.size, 2, none⟩ (.int .i64 (e1 + k))).heap[w.heap.size]? = _ := (heap_setCell_other _ _ _ _ (by simpa using hne2)).trans (keep_row hbX HRx1.out)
    have hB2 : Below Y.heap.size Y (U.setCell ⟨w3.heap.size, 2, none⟩ (.int .i64 (e1 + k))) := bset hbX (by omega)
    have HN2 := Lib.hid (hd.below (bset (i := 2) (u := .int .i64 (e1 + k)) hbU (Nat.le_refl _)))
    have HTD2 := Lib.hid (HTD.out.below hB2)
    have HB2 := Lib.hid (HWY.out.trans (hB2.mono hYs))
    obtain ⟨u0, u1, u2, uf0, uf1, uf2⟩ := row3 hru
    obtain ⟨s0, s1, s2, -, -, -⟩ := row3 hru2
    obtain ⟨⟨p0, p1, p2, p3, p4, p5⟩, -⟩ := row6 hrz2
    obtain ⟨⟨q0, q1, q2, q3, q4, q5⟩, -⟩ := row6 hrx2
    have HBL : Hid (bl (wv xs1) ≤ 10000000) := Lib.hid (by omega)
    clear hbU hru hbX hru2 hrz2 hrx2 hB2 hd hb3 x0 x1 x2 x3 x4 x5 y0 y1 y2 y3 y4 y5
    go_upto_region 10 with fail
    rw [← hU]
    clear hU
    go_wp2_with fail
    refine (spIsReal _ P1 M1 n1 b (wv xs1) (e1 + k) _ HTD2.out HN2.out HBL.out (by omega) (by omega)).mono ?_
    rintro _ w9 ⟨rfl, hb9⟩
    have HS9 := Lib.hid (HB2.out.trans (hb9.mono HB2.out.size))
    clear hb9
    go_wp2
    go_ret
    exact ⟨rfl, HS9.out⟩
  · have t0 : ((F1 : Int) != 1) = true := by rw [bne_iff_ne]; omega
    clear hf
    go_wp2
    go_ret
    exact ⟨rfl, HWY.out⟩
set_option maxRecDepth 100000 in
set_option maxHeartbeats 3200000 in
theorem lawMantExp (p1 : Nat) (m1 f1 : Int) (n1 : Bool) (v1 : Value) (e1 : Int) (xs1 : List Nat) (w : World) (hT : TabW w) (hv1 : RW w v1 xs1) (_hg1 : p1 ≤ 18446744073709551615 ∧ (-9223372036854775808 ≤ m1 ∧ m1 ≤ 9223372036854775807) ∧ (-9223372036854775808 ≤ f1 ∧ f1 ≤ 9223372036854775807) ∧ (-9223372036854775808 ≤ e1 ∧ e1 ≤ 9223372036854775807)) :
    Calls Tryd.prog 7 #[.agg #[.int .u64 p1, .int .i64 m1, .int .i64 f1, .bool n1, v1, .int .i64 e1]] w fun e' w' => e' = .returned (.bool true) ∧ Below w.heap.size w w' := by
  have hS1 := hv1.isS
  clear _hg1
  have hab1 := (Below.refl w.heap.size w).alloc (Nat.le_refl _) (.cells #[.int .u64 p1, .int .i64 m1, .int .i64 f1, .bool n1, v1, .int .i64 e1] 26)
  obtain ⟨X, hX⟩ : ∃ X, X = (w.alloc (.cells #[.int .u64 p1, .int .i64 m1, .int .i64 f1, .bool n1, v1, .int .i64 e1] 26)) := ⟨_, rfl⟩
  have hr1 : X.heap[w.heap.size]? = some (.cells #[.int .u64 p1, .int .i64 m1, .int .i64 f1, .bool n1, v1, .int .i64 e1] 26 (0, 0)) := by
    rw [hX]; exact row_chain11
  rw [← hX] at hab1
  obtain ⟨-, ⟨c10, c11, c12, c13, c14, c15⟩⟩ := ksR1 hr1 (Below.refl _ _)
  have HR1 := Lib.hid hr1
  have V1 := Lib.hid (hv1.below hab1)
  have hXs := hab1.size
  have HW := Lib.hid hab1
  have T0 := Lib.hid (hT.below hab1)
  clear hT
  clear hr1 hv1
  clear hab1
  go_enter Tryd.func7, Tryd.ntmps7
  go_upto_region 1 with fail
  rw [← hX]
  clear hX
  go_wp2_with fail
  refine (zzFits1_any p1 m1 f1 e1 n1 v1 xs1 X V1.out).mono ?_
  rintro _ w1 ⟨rfl, hb1⟩
  obtain ⟨fits, hfits⟩ : ∃ f, f = decide (xs1.length ≤ 2147483647) := ⟨_, rfl⟩
  rw [← hfits]
  clear c10 c11 c12 c13 c14 c15 hfits
  obtain ⟨-, ⟨c10, c11, c12, c13, c14, c15⟩⟩ := ksR1 HR1.out hb1
  have HB := Lib.hid hb1
  clear hb1
  cases fits with
  | false =>
    go_wp2
    go_ret
    exact ⟨rfl, HW.out.trans (HB.out.mono hXs)⟩
  | true =>
  go_wp2_with fail
  refine (real_any 300 1000000 p1 m1 f1 e1 n1 v1 xs1 w1 (V1.out.below HB.out) (by decide) (by decide)).mono ?_
  rintro _ w2 ⟨ok, rfl, hok, hb1⟩
  have hb1 := bthen HB.out hb1
  have HO1 := Lib.hid hok
  clear c10 c11 c12 c13 c14 c15 HB hok
  obtain ⟨-, ⟨c10, c11, c12, c13, c14, c15⟩⟩ := ksR1 HR1.out hb1
  have HB := Lib.hid hb1
  clear hb1
  cases ok with
  | false =>
    go_wp2
    go_ret
    exact ⟨rfl, HW.out.trans (HB.out.mono hXs)⟩
  | true =>
  obtain ⟨P1, M1, F1, hp, rfl, rfl, hR⟩ := HO1.out rfl
  have hpp : P1 = p1 := by omega
  subst hpp
  have R1 := Lib.hid hR
  clear HO1 hp hR
  have hWW := HW.out.trans (HB.out.mono hXs)
  have hV1 := V1.out.below HB.out
  have hr1 := keep_row HB.out HR1.out
  have hT0 := T0.out.below HB.out
  clear T0
  have T0 := Lib.hid hT0
  clear hT0
  clear HW HB hXs V1 HR1
  have HW := Lib.hid hWW
  have V1 := Lib.hid hV1
  have HR1 := Lib.hid hr1
  have hWs := HW.out.size
  clear hWW hV1 hr1
  have hm5 : M1 ≤ 5 := R1.out.2.2.1
  go_wp2_with fail
  refine (impMantExp 300 1000000 P1 M1 F1 n1 v1 e1 xs1 w2 V1.out R1.out (by decide) (by decide) T0.out).mono ?_
  rintro _ wN ⟨z, rfl, hz, hb1⟩
  obtain ⟨A, hA⟩ : ∃ A, A = mxE F1 (wv xs1) e1 := ⟨_, rfl⟩
  rw [← hA]
  have HA := Lib.hid hA
  clear hA
  obtain ⟨vz, Ez, rfl, hSz⟩ := hz.form
  obtain ⟨Y, hY⟩ : ∃ Y, Y = wN.alloc (.cells #[.int .u64 (P1 : Int), .int .i64 (M1 : Int), .int .i64 (F1 : Int), .bool n1, vz, .int .i64 Ez] 26) := ⟨_, rfl⟩
  have hbY : Below wN.heap.size wN Y := by rw [hY]; exact fbone _
  have hrz : Y.heap[wN.heap.size]? = some (.cells #[.int .u64 (P1 : Int), .int .i64 (M1 : Int), .int .i64 (F1 : Int), .bool n1, vz, .int .i64 Ez] 26 (0, 0)) := by rw [hY]; exact row_chain11
  have hbX := bthen hb1 hbY
  have hr1 := keep_row hbX HR1.out
  have HRx1 := Lib.hid hr1
  have VY1 := Lib.hid (V1.out.below hbX)
  have HRz := Lib.hid hrz
  have HZ := Lib.hid (hz.below hbY)
  have HWY := Lib.hid (HW.out.trans (hbX.mono hWs))
  have TY := Lib.hid (T0.out.below hbX)
  have hYs := HWY.out.size
  have hcc := Below.refl Y.heap.size Y
  clear hb1 hbY hrz hbX hz c10 c11 c12 c13 c14 c15 HW hWs T0 hr1 V1 HR1
  obtain ⟨-, x0, x1, x2, x3, x4, x5⟩ := ks12 HRx1.out (Below.refl _ _)
  obtain ⟨-, y0, y1, y2, y3, y4, y5⟩ := ks12 HRz.out (Below.refl _ _)
  go_upto_region 6 with fail
  rw [← hY]
  clear hY
  by_cases hf : F1 = 1
  · have t0 : ((F1 : Int) != 1) = false := by rw [hf]; rfl
    obtain ⟨r1, r2, r3, r4, r5, r6⟩ := R1.out.one hf
    have HTD := Lib.hid (HZ.out.told1 hf r1 (deq.refl _ _))
    have HA1 : Hid (A = e1 + (bl (wv xs1) : Nat)) := Lib.hid (by rw [HA.out, mxE, if_pos hf])
    have hnl : nl (wv xs1) ≤ 1000000 := nl_bl (by omega)
    obtain ⟨L, hL⟩ : ∃ L, L = bl (wv xs1) := ⟨_, rfl⟩
    rw [← hL] at HTD HA1
    have hLb : L ≤ 300 := by omega
    have HBL : Hid (bl (wv xs1) ≤ 10000000) := Lib.hid (by omega)
    have HL := Lib.hid hL
    have t1 : (A == e1 + (L : Int)) = true := by rw [HA1.out]; exact beq_self_eq_true _
    clear hf hL
    go_wp2_with fail
    refine (spOf v1 xs1 Y VY1.out (by omega)).mono ?_
    rintro _ w3 ⟨b, rfl, hd, hb3⟩
    have hT1 := hd.isS
    have HD := Lib.hid hd
    have B3 := Lib.hid hb3
    clear hd hb3
    go_wp2_with fail
    refine (spLen b (wv xs1) w3 HD.out (by omega)).mono ?_
    rintro _ _ ⟨rfl, rfl⟩
    rw [← HL.out]
    clear x0 x1 x2 x3 x4 x5 y0 y1 y2 y3 y4 y5
    obtain ⟨-, x0, x1, x2, x3, x4, x5⟩ := ks12 HRx1.out B3.out
    obtain ⟨-, y0, y1, y2, y3, y4, y5⟩ := ks12 HRz.out B3.out
    go_wp2_with fail
    refine (spIsReal _ P1 M1 n1 b (wv xs1) (-(L : Int)) _ (HTD.out.below B3.out) HD.out HBL.out (by omega) (by omega)).mono ?_
    rintro _ w9 ⟨rfl, hb9⟩
    have HS9 := Lib.hid (HWY.out.trans ((bthen B3.out hb9).mono hYs))
    clear hb9
    go_wp2
    go_ret
    exact ⟨rfl, HS9.out⟩
  · have t0 : ((F1 : Int) != 1) = true := by rw [bne_iff_ne]; omega
    have hA0 : A = 0 := by rw [HA.out, mxE, if_neg hf]
    clear hf
    subst hA0
    go_wp2
    go_ret
    exact ⟨rfl, HWY.out⟩
end Go.Proofs.YtjgkmnmemjebbaaDoor
