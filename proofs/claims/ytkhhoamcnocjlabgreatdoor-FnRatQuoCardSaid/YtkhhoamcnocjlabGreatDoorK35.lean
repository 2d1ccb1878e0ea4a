/-
Texts of this proof, joined: RqD. No condition.
-/
import Derived.Test.YtkhhoamcnocjlabGreatDoorK18
import Derived.Test.YtkhhoamcnocjlabGreatDoorK32
import Derived.Test.YtkhhoamcnocjlabGreatDoorK34
/-
The statement on the quotient of two fractions. No condition but the thresholds.
-/
namespace Go.Proofs.YtkhhoamcnocjlabGreatDoor
open Go.RowKit

theorem ks9F {W X : World} {k g p T U : Nat} {a b c d e f a' b' c' : Value} (h1 : W.heap[k]? = some (.cells #[a, b, c] T (0, 0))) (h2 : W.heap[g]? = some (.cells #[d, e, f] T (0, 0))) (h3 : W.heap[p]? = some (.cells #[a', b', c'] U (0, 0))) (h : Below W.heap.size W X) :
    Below W.heap.size W X ∧ (X.cell? ⟨k, 0, none⟩ = some a ∧ X.cell? ⟨k, 1, none⟩ = some b ∧ X.cell? ⟨k, 2, none⟩ = some c ∧ X.cell? ⟨g, 0, none⟩ = some d ∧ X.cell? ⟨g, 1, none⟩ = some e ∧ X.cell? ⟨g, 2, none⟩ = some f) ∧
    X.cell? ⟨p, 0, none⟩ = some a' ∧ X.cell? ⟨p, 1, none⟩ = some b' ∧ X.cell? ⟨p, 2, none⟩ = some c' := by
  obtain ⟨x0, x1, x2, -, -, -⟩ := row3 (keep_row h h3)
  exact ⟨h, (ks6F h1 h2 h).2, x0, x1, x2⟩
set_option maxRecDepth 100000 in
set_option maxHeartbeats 3200000 in
theorem lawRatQuo (b1 : Bool) (v1 u1 : Value) (ns1 ds1 : List Nat) (b2 : Bool) (v2 u2 : Value) (ns2 ds2 : List Nat) (w : World) (hT : KarW w) (hDW : DivW w) (hv1 : RW w v1 ns1) (hu1 : RW w u1 ds1) (hv2 : RW w v2 ns2) (hu2 : RW w u2 ds2) :
    Calls Tryz.prog 5 #[.agg #[.bool b1, v1, u1], .agg #[.bool b2, v2, u2]] w fun e w' => e = .returned (.bool true) ∧ Below w.heap.size w w' := by
  have hS1 := hv1.isS
  have hS2 := hu1.isS
  have hS3 := hv2.isS
  have hS4 := hu2.isS
  obtain ⟨W, hW⟩ : ∃ W, W = (w.alloc (.cells #[.bool b1, v1, u1] 26)).alloc (.cells #[.bool b2, v2, u2] 26) := ⟨_, rfl⟩
  have hbW : Below w.heap.size w W := by rw [hW]; exact ((Below.refl _ w).alloc (Nat.le_refl _) _).alloc (by simp) _
  have r0 : W.heap[w.heap.size]? = some (.cells #[.bool b1, v1, u1] 26 (0, 0)) := by rw [hW]; exact keep_row (fbone _) (row_new _ _ _ _ rfl)
  have r1 : W.heap[w.heap.size + 1]? = some (.cells #[.bool b2, v2, u2] 26 (0, 0)) := by rw [hW]; exact row_new _ _ _ _ (by simp)
  obtain ⟨x0, x1, x2, -, -, -⟩ := row3 r0
  obtain ⟨y0, y1, y2, -, -, -⟩ := row3 r1
  have V1 := Lib.hid (hv1.below hbW)
  have U1 := Lib.hid (hu1.below hbW)
  have V2 := Lib.hid (hv2.below hbW)
  have U2 := Lib.hid (hu2.below hbW)
  have KW := Lib.hid (hT.below hbW)
  have DW := Lib.hid (hDW.below hbW)
  have R0 := Lib.hid r0
  have R1 := Lib.hid r1
  have hWs := hbW.size
  clear hv1 hu1 hv2 hu2 r0 r1 hT hDW
  go_enter Tryz.func5, Tryz.ntmps5
  go_upto_region 1 with fail
  rw [← hW]
  clear hW
  obtain ⟨f1, hf1⟩ : ∃ f, f = (decide (ns1.length ≤ 2147483647) && decide (ds1.length ≤ 2147483647)) := ⟨_, rfl⟩
  obtain ⟨f2, hf2⟩ : ∃ f, f = (decide (ns2.length ≤ 2147483647) && decide (ds2.length ≤ 2147483647)) := ⟨_, rfl⟩
  have HF1 := Lib.hid hf1
  have HF2 := Lib.hid hf2
  clear hf1 hf2
  go_wp2_with fail
  refine (zzFits3_any b1 v1 u1 ns1 ds1 W V1.out U1.out).mono ?_
  rintro _ w1 ⟨rfl, hb1⟩
  rw [← HF1.out]
  obtain ⟨p0, p1, p2, -, -, -⟩ := row3 (keep_row hb1 R0.out)
  obtain ⟨q0, q1, q2, -, -, -⟩ := row3 (keep_row hb1 R1.out)
  have bb1 := hbW.trans (hb1.mono hWs)
  cases f1 with
  | false =>
    go_wp2
    go_ret
    exact ⟨rfl, bb1⟩
  | true =>
  go_wp2_with fail
  refine (zzFits3_any b2 v2 u2 ns2 ds2 w1 (V2.out.below hb1) (U2.out.below hb1)).mono ?_
  rintro _ w2 ⟨rfl, hb2⟩
  rw [← HF2.out]
  have hb12 := bthen hb1 hb2
  obtain ⟨m0, m1, m2, -, -, -⟩ := row3 (keep_row hb12 R0.out)
  obtain ⟨n0, n1, n2, -, -, -⟩ := row3 (keep_row hb12 R1.out)
  have bb2 := hbW.trans (hb12.mono hWs)
  cases f2 with
  | false =>
    go_wp2
    go_ret
    exact ⟨rfl, bb2⟩
  | true =>
  go_wp2_with fail
  refine (pair_any b1 b2 v1 u1 v2 u2 16 ns1 ds1 ns2 ds2 w2 (V1.out.below hb12) (U1.out.below hb12) (V2.out.below hb12) (U2.out.below hb12) (by decide)).mono ?_
  rintro _ w3 ⟨_, rfl, x, a1, a2, y, c1, c2, ok, rfl, hA1, hA2, hC1, hC2, hb3, hok⟩
  have HOK := Lib.hid hok
  have hb13 := bthen hb12 hb3
  clear hok
  go_upto_region 4 with fail
  obtain ⟨X, hX⟩ : ∃ X, X = (w3.alloc (.cells #[.bool x, a1, a2] 31)).alloc (.cells #[.bool y, c1, c2] 31) := ⟨_, rfl⟩
  have hbX : Below w3.heap.size w3 X := by rw [hX]; exact ((Below.refl _ w3).alloc (Nat.le_refl _) _).alloc (by simp) _
  have g0 : X.heap[w3.heap.size]? = some (.cells #[.bool x, a1, a2] 31 (0, 0)) := by rw [hX]; exact keep_row (fbone _) (row_new _ _ _ _ rfl)
  have g1 : X.heap[w3.heap.size + 1]? = some (.cells #[.bool y, c1, c2] 31 (0, 0)) := by rw [hX]; exact row_new _ _ _ _ (by simp)
  rw [← hX]
  have hWX := bthen hb13 hbX
  have G0 := Lib.hid g0
  have G1 := Lib.hid g1
  have S0 := Lib.hid (keep_row hWX R0.out)
  have S1 := Lib.hid (keep_row hWX R1.out)
  have hwX : Hid (Below w.heap.size w X) := Lib.hid (hbW.trans (hWX.mono hWs))
  have hXs := hwX.out.size
  have hcc := Below.refl X.heap.size X
  obtain ⟨d0, d1, d2, -, -, -⟩ := row3 g0
  obtain ⟨e0, e1, e2, -, -, -⟩ := row3 g1
  obtain ⟨i0, i1, i2, -, -, -⟩ := row3 S0.out
  obtain ⟨j0, j1, j2, -, -, -⟩ := row3 S1.out
  clear hX g0 g1 x0 x1 x2 y0 y1 y2 p0 p1 p2 q0 q1 q2 m0 m1 m2 n0 n1 n2 bb1 bb2 hb1 hb2 hb3 hb12
  clear hcc i0 i1 i2 j0 j1 j2
  obtain ⟨i0, i1, i2, -, -, -⟩ := row3 S0.out
  obtain ⟨j0, j1, j2, -, -, -⟩ := row3 S1.out
  cases ok with
  | false =>
    go_wp2
    go_ret
    exact ⟨rfl, hwX.out⟩
  | true =>
    obtain ⟨k1, k2⟩ := HOK.out rfl
    have ex := k1.sign
    have ey := k2.sign
    subst ex ey
    have L1 := k1.l1
    have L2 := k1.l2
    have L3 := k2.l1
    have L4 := k2.l2
    have HL := Lib.hid k2.v1.len
    have t1 := nl_wv V1.out.lt
    have t2 := nl_wv U1.out.lt
    have t3 := nl_wv V2.out.lt
    have t4 := nl_wv U2.out.lt
    have z1 := nw_le (wv_lt V1.out.lt)
    have z2 := nw_le (wv_lt U1.out.lt)
    have z3 := nw_le (wv_lt V2.out.lt)
    have z4 := nw_le (wv_lt U2.out.lt)
    by_cases h0 : wv ns2 = 0
    · have HZ := Lib.hid (impQuo_zero x y v1 u1 v2 u2 ns1 ds1 ns2 ds2 X (V1.out.below hWX) (U1.out.below hWX) (V2.out.below hWX) (U2.out.below hWX) (by omega) (by omega) (by omega) (by omega) h0)
      rw [h0] at HL
      clear k1 k2 L1 L2 L3 L4 t1 t2 t3 t4 z1 z2 z3 z4 HOK h0
      go_wp2_with fail
      refine HZ.out.mono ?_
      rintro _ w5 ⟨rfl, hb5⟩
      have ha4 := (Below.refl w5.heap.size w5).alloc (Nat.le_refl _) (.cells #[.bool false, .slice none 0 0, .slice none 0 0] 26)
      obtain ⟨a0, a1', a2', -, -, -⟩ := row3 (keep_row ha4 (keep_row hb5 G0.out))
      obtain ⟨b0, b1', b2', -, -, -⟩ := row3 (keep_row ha4 (keep_row hb5 G1.out))
      have hb6 := bthen hb5 ha4
      go_wp2_with fail
      refine (signOf_any y c1 c2 0 _ hC1 hC2 HL.out).mono ?_
      rintro _ w6 ⟨rfl, hb7⟩
      rw [sg_zero]
      have hbe := hwX.out.trans ((bthen hb6 hb7).mono hXs)
      go_wp2
      go_ret
      exact ⟨rfl, hbe⟩
    · have p3 : 0 < wv ns2 := by omega
      obtain ⟨V, hV⟩ : ∃ V : Int, V = rI (x != y) (wv ns1 * wv ds2) := ⟨_, rfl⟩
      obtain ⟨D, hD⟩ : ∃ D : Nat, D = wv ns2 * wv ds1 := ⟨_, rfl⟩
      have hD0 : 0 < D := by rw [hD]; exact Nat.mul_pos p3 k1.pos
      have NV : nw V.natAbs ≤ 100 := by rw [hV, rI_abs]; exact Nat.le_trans (nw_mul_le _ _) (by omega)
      have ND : nw D ≤ 100 := by rw [hD]; exact Nat.le_trans (nw_mul_le _ _) (by omega)
      have HQ := Lib.hid (impQuo_ok x y v1 u1 v2 u2 ns1 ds1 ns2 ds2 X (V1.out.below hWX) (U1.out.below hWX) (V2.out.below hWX) (U2.out.below hWX) (by omega) (by omega) (by omega) (by omega) (by omega) (by omega) k1.pos k2.pos p3 (KW.out.below hWX) (DW.out.below hWX))
      rw [← hV, ← hD] at HQ
      have HTI : Hid (∀ w', Below X.heap.size X w' → Calls Tryz.prog 16 #[.agg #[.bool x, a1, a2], .agg #[.bool y, c2, c1]] w' fun e w7 => ∃ u, e = .returned u ∧ RtI w7 u V D ∧ Below w'.heap.size w' w7) := Lib.hid (fun w' h => by
        have hw := bthen hbX h
        refine (times_any x y a1 a2 c2 c1 (wv ns1) (wv ds1) (wv ds2) (wv ns2) w' (k1.v1.below hw) (k1.v2.below hw) (k2.v2.below hw) (k2.v1.below hw) (by omega) (by omega) (by omega) (by omega) k1.pos p3).mono ?_
        rintro e w7 ⟨u, h1, ⟨q, r, h2, h3, h4⟩, h5⟩
        have s1 : wv ns1 * wv ds2 = V.natAbs := by rw [hV, rI_abs]
        have s2 : ((x != y) && decide (0 < wv ns1 * wv ds2)) = decide (V < 0) := by rw [hV, rI_neg]
        rw [s2] at h2
        rw [s1, Nat.mul_comm (wv ds1), ← hD] at h3 h4
        exact ⟨u, h1, ⟨q, r, h2, h3, h4⟩, h5⟩)
      have HIS : Hid (∀ w' v u, FracV w' v V D → RtI w' u V D → Calls Tryz.prog 11 #[v, u] w' fun e w5 => e = .returned (.bool true) ∧ Below w'.heap.size w' w5) := Lib.hid (fun w' v u hf hr => isFracV_same hf hr hD0 NV ND)
      obtain ⟨sy, hsy⟩ : ∃ z, z = sg y (wv ns2) := ⟨_, rfl⟩
      have ts := sg_ne (b := y) p3
      have hzb := sg_bd y (wv ns2)
      rw [← hsy] at ts hzb
      obtain ⟨hzb1, hzb2⟩ := hzb
      have HSY := Lib.hid hsy
      clear hV hD k1 k2 L1 L2 L3 L4 HOK hD0 NV ND t1 t2 t3 t4 z1 z2 z3 z4 p3 h0 hsy
      go_wp2_with fail
      refine HQ.out.mono ?_
      rintro _ w5 ⟨_, rfl, ⟨r1, r2, rfl, hr1, hr2⟩, hb5⟩
      obtain ⟨q, hq⟩ : ∃ q, q = decide (V < 0) := ⟨_, rfl⟩
      rw [← hq]
      have HQQ := Lib.hid hq
      have hSr1 := hr1.isS
      have hSr2 := hr2.isS
      have ha4 := (Below.refl w5.heap.size w5).alloc (Nat.le_refl _) (.cells #[.bool q, r1, r2] 26)
      have hrY := box_row (Below.refl _ (w5.alloc (.cells #[.bool q, r1, r2] 26)))
      have hb6 := bthen hb5 ha4
      have HrY := Lib.hid hrY
      have HF := Lib.hid (show FracV (w5.alloc (.cells #[.bool q, r1, r2] 26)) (.agg #[.bool q, r1, r2]) V D from ⟨r1, r2, by rw [hq], hr1.below ha4, hr2.below ha4⟩)
      obtain ⟨m0, m1, m2, -, -, -⟩ := row3 (keep_row ha4 (keep_row hb5 G0.out))
      obtain ⟨n0, n1, n2, -, -, -⟩ := row3 (keep_row ha4 (keep_row hb5 G1.out))
      have HB6 := Lib.hid hb6
      clear hr1 hr2 hrY hq
      go_wp2_with fail
      refine (signOf_any y c1 c2 (wv ns2) _ hC1 hC2 HL.out).mono ?_
      rintro _ w6 ⟨rfl, hb7⟩
      rw [← HSY.out]
      have hbX6 := Lib.hid (bthen HB6.out hb7)
      have G2 := Lib.hid (keep_row hbX6.out G0.out)
      have G3 := Lib.hid (keep_row hbX6.out G1.out)
      have G4 := Lib.hid (keep_row hb7 HrY.out)
      have FV := Lib.hid (HF.out.below hb7)
      have hcc := Below.refl w6.heap.size w6
      have HUP := Lib.hid (fun w' => upside_any y c1 c2 w' hC1 hC2)
      clear m0 m1 m2 n0 n1 n2 hb7 hb6 ha4 hb5
      obtain ⟨m0, m1, m2, -, -, -⟩ := row3 G2.out
      obtain ⟨n0, n1, n2, -, -, -⟩ := row3 G3.out
      obtain ⟨l0, l1, l2, -, -, -⟩ := row3 G4.out
      go_upto_region 9 with fail
      first
        | (go_region_held3 (fun w' => Below w6.heap.size w6 w' ∧ (w'.cell? ⟨w3.heap.size, 0, none⟩ = some (.bool x) ∧ w'.cell? ⟨w3.heap.size, 1, none⟩ = some a1 ∧ w'.cell? ⟨w3.heap.size, 2, none⟩ = some a2 ∧ w'.cell? ⟨w3.heap.size + 1, 0, none⟩ = some (.bool y) ∧ w'.cell? ⟨w3.heap.size + 1, 1, none⟩ = some c1 ∧ w'.cell? ⟨w3.heap.size + 1, 2, none⟩ = some c2) ∧ w'.cell? ⟨w5.heap.size, 0, none⟩ = some (.bool q) ∧ w'.cell? ⟨w5.heap.size, 1, none⟩ = some r1 ∧ w'.cell? ⟨w5.heap.size, 2, none⟩ = some r2)
            ((refine ks9F G2.out G3.out G4.out ?_; first | assumption | exact Below.drew hcc))
            (first
              | (go_at_call 11; with_reducible refine (HIS.out _ _ _ FV2.out RI.out).mono ?_; rintro _ w9 ⟨rfl, hb9'⟩; have hb9 := bthen hb8 hb9')
              | (go_at_call 16; with_reducible refine (HTI.out _ (bthen hbX6.out hb7)).mono ?_; rintro _ w8 ⟨uu, rfl, hri, hb78⟩; have RI := Lib.hid hri; have hb8 := bthen hb7 hb78; have FV2 := Lib.hid (FV.out.below hb8); clear hri)
              | (go_at_call 19; with_reducible refine (HUP.out _).mono ?_; rintro _ w7 ⟨rfl, hb7'⟩; have hb7 := bthen (And.left (by assumption)) hb7')))
        | fail
      all_goals
        go_wp2
        go_ret
        exact ⟨rfl, hwX.out.trans ((bthen hbX6.out hb9).mono hXs)⟩
end Go.Proofs.YtkhhoamcnocjlabGreatDoor
