/-
Texts of this proof, joined: RsCa. No condition.
-/
import Derived.Test.YtkhhoamcnocjlaaGreatDoorK18
import Derived.Test.YtkhhoamcnocjlaaGreatDoorK30
/-
The statement on the sum of two fractions. No condition but the thresholds.
-/
namespace Go.Proofs.YtkhhoamcnocjlaaGreatDoor
open Go.RowKit

set_option maxRecDepth 100000 in
set_option maxHeartbeats 3200000 in
theorem lawRatAdd (b1 : Bool) (v1 u1 : Value) (ns1 ds1 : List Nat) (b2 : Bool) (v2 u2 : Value) (ns2 ds2 : List Nat) (w : World) (hT : KarW w) (hDW : DivW w) (hv1 : RW w v1 ns1) (hu1 : RW w u1 ds1) (hv2 : RW w v2 ns2) (hu2 : RW w u2 ds2) :
    Calls Tryz.prog 6 #[.agg #[.bool b1, v1, u1], .agg #[.bool b2, v2, u2]] w fun e w' => e = .returned (.bool true) ∧ Below w.heap.size w w' := by
  have hS1 := hv1.isS
  have hS2 := hu1.isS
  have hS3 := hv2.isS
  have hS4 := hu2.isS
  obtain ⟨W, hW⟩ : ∃ W, W = (w.alloc (.cells #[.bool b1, v1, u1] 51)).alloc (.cells #[.bool b2, v2, u2] 51) := ⟨_, rfl⟩
  have hbW : Below w.heap.size w W := by rw [hW]; exact ((Below.refl _ w).alloc (Nat.le_refl _) _).alloc (by simp) _
  have r0 : W.heap[w.heap.size]? = some (.cells #[.bool b1, v1, u1] 51 (0, 0)) := by rw [hW]; exact keep_row (fbone _) (row_new _ _ _ _ rfl)
  have r1 : W.heap[w.heap.size + 1]? = some (.cells #[.bool b2, v2, u2] 51 (0, 0)) := by rw [hW]; exact row_new _ _ _ _ (by simp)
  obtain ⟨x0, x1, x2, -, -, -⟩ := row3 r0
  obtain ⟨y0, y1, y2, -, -, -⟩ := row3 r1
  have V1 := Lib.hid (hv1.below hbW)
  have U1 := Lib.hid (hu1.below hbW)
  have V2 := Lib.hid (hv2.below hbW)
  have U2 := Lib.hid (hu2.below hbW)
  have KW := Lib.hid (hT.below hbW)
  have DW := Lib.hid (hDW.below hbW)
  have R0 := Lib.hid r0
  have R1 := Lib.hid r1
  have hWs := hbW.size
  clear hv1 hu1 hv2 hu2 r0 r1 hT hDW
  go_enter Tryz.func6, Tryz.ntmps6
  go_upto_region 1 with fail
  rw [← hW]
  clear hW
  obtain ⟨f1, hf1⟩ : ∃ f, f = (decide (ns1.length ≤ 2147483647) && decide (ds1.length ≤ 2147483647)) := ⟨_, rfl⟩
  obtain ⟨f2, hf2⟩ : ∃ f, f = (decide (ns2.length ≤ 2147483647) && decide (ds2.length ≤ 2147483647)) := ⟨_, rfl⟩
  have HF1 := Lib.hid hf1
  have HF2 := Lib.hid hf2
  clear hf1 hf2
  go_wp2_with fail
  refine (zzFits3_any b1 v1 u1 ns1 ds1 W V1.out U1.out).mono ?_
  rintro _ w1 ⟨rfl, hb1⟩
  rw [← HF1.out]
  obtain ⟨p0, p1, p2, -, -, -⟩ := row3 (keep_row hb1 R0.out)
  obtain ⟨q0, q1, q2, -, -, -⟩ := row3 (keep_row hb1 R1.out)
  have bb1 := hbW.trans (hb1.mono hWs)
  cases f1 with
  | false =>
    go_wp2
    go_ret
    exact ⟨rfl, bb1⟩
  | true =>
  go_wp2_with fail
  refine (zzFits3_any b2 v2 u2 ns2 ds2 w1 (V2.out.below hb1) (U2.out.below hb1)).mono ?_
  rintro _ w2 ⟨rfl, hb2⟩
  rw [← HF2.out]
  have hb12 := bthen hb1 hb2
  obtain ⟨m0, m1, m2, -, -, -⟩ := row3 (keep_row hb12 R0.out)
  obtain ⟨n0, n1, n2, -, -, -⟩ := row3 (keep_row hb12 R1.out)
  have bb2 := hbW.trans (hb12.mono hWs)
  cases f2 with
  | false =>
    go_wp2
    go_ret
    exact ⟨rfl, bb2⟩
  | true =>
  go_wp2_with fail
  refine (pair_any b1 b2 v1 u1 v2 u2 16 ns1 ds1 ns2 ds2 w2 (V1.out.below hb12) (U1.out.below hb12) (V2.out.below hb12) (U2.out.below hb12) (by decide)).mono ?_
  rintro _ w3 ⟨_, rfl, x, a1, a2, y, c1, c2, ok, rfl, hA1, hA2, hC1, hC2, hb3, hok⟩
  have HOK := Lib.hid hok
  have hb13 := bthen hb12 hb3
  clear hok
  go_upto_region 4 with fail
  obtain ⟨X, hX⟩ : ∃ X, X = (w3.alloc (.cells #[.bool x, a1, a2] 57)).alloc (.cells #[.bool y, c1, c2] 57) := ⟨_, rfl⟩
  have hbX : Below w3.heap.size w3 X := by rw [hX]; exact ((Below.refl _ w3).alloc (Nat.le_refl _) _).alloc (by simp) _
  have g0 : X.heap[w3.heap.size]? = some (.cells #[.bool x, a1, a2] 57 (0, 0)) := by rw [hX]; exact keep_row (fbone _) (row_new _ _ _ _ rfl)
  have g1 : X.heap[w3.heap.size + 1]? = some (.cells #[.bool y, c1, c2] 57 (0, 0)) := by rw [hX]; exact row_new _ _ _ _ (by simp)
  rw [← hX]
  have hWX := bthen hb13 hbX
  have G0 := Lib.hid g0
  have G1 := Lib.hid g1
  have S0 := Lib.hid (keep_row hWX R0.out)
  have S1 := Lib.hid (keep_row hWX R1.out)
  have hwX : Hid (Below w.heap.size w X) := Lib.hid (hbW.trans (hWX.mono hWs))
  have hXs := hwX.out.size
  have hcc := Below.refl X.heap.size X
  obtain ⟨d0, d1, d2, -, -, -⟩ := row3 g0
  obtain ⟨e0, e1, e2, -, -, -⟩ := row3 g1
  obtain ⟨i0, i1, i2, -, -, -⟩ := row3 S0.out
  obtain ⟨j0, j1, j2, -, -, -⟩ := row3 S1.out
  clear hX g0 g1 x0 x1 x2 y0 y1 y2 p0 p1 p2 q0 q1 q2 m0 m1 m2 n0 n1 n2 bb1 bb2 hb1 hb2 hb3 hb12
  cases ok with
  | false =>
    go_quiet (fail)
    go_wp2
    go_ret
    exact ⟨rfl, undrewN' hwX.out⟩
  | true =>
    obtain ⟨k1, k2⟩ := HOK.out rfl
    have ex := k1.sign
    have ey := k2.sign
    subst ex ey
    obtain ⟨V, hV⟩ : ∃ V : Int, V = rI x (wv ns1 * wv ds2) + rI y (wv ns2 * wv ds1) := ⟨_, rfl⟩
    obtain ⟨D, hD⟩ : ∃ D : Nat, D = wv ds1 * wv ds2 := ⟨_, rfl⟩
    have hD0 : 0 < D := by rw [hD]; exact Nat.mul_pos k1.pos k2.pos
    have L1 := k1.l1
    have L2 := k1.l2
    have L3 := k2.l1
    have L4 := k2.l2
    have t1 := nl_wv V1.out.lt
    have t2 := nl_wv U1.out.lt
    have t3 := nl_wv V2.out.lt
    have t4 := nl_wv U2.out.lt
    have z1 := nw_le (wv_lt V1.out.lt)
    have z2 := nw_le (wv_lt U1.out.lt)
    have z3 := nw_le (wv_lt V2.out.lt)
    have z4 := nw_le (wv_lt U2.out.lt)
    have NV : nw V.natAbs ≤ 100 := by rw [hV]; exact natAbs_nwAdd x y _ _ _ _ (by omega) (by omega) (by omega)
    have ND : nw D ≤ 100 := by rw [hD]; exact Nat.le_trans (nw_mul_le _ _) (by omega)
    have HI : Hid (∀ w', Below X.heap.size X w' → Calls Tryz.prog 26 #[.agg #[.bool x, v1, u1], .agg #[.bool y, v2, u2]] w' fun e w5 => ∃ v, e = .returned v ∧ FracV w5 v V D ∧ Below X.heap.size X w5) := Lib.hid (fun w' h => by
      rw [hV, hD]
      have hw := bthen hWX h
      refine (impRatAdd x y v1 u1 v2 u2 ns1 ds1 ns2 ds2 w' (V1.out.below hw) (U1.out.below hw) (V2.out.below hw) (U2.out.below hw) (by omega) (by omega) (by omega) (by omega) (by omega) (by omega) (by omega) (by omega) k1.pos k2.pos (KW.out.below hw) (DW.out.below hw)).mono ?_
      rintro e w5 ⟨v, h1, h2, h3⟩
      exact ⟨v, h1, h2, bthen h h3⟩)
    have HPL : Hid (∀ w', Below X.heap.size X w' → Calls Tryz.prog 27 #[.agg #[.bool x, a1, a2], .agg #[.bool y, c1, c2]] w' fun e w7 => ∃ u, e = .returned u ∧ RtI w7 u V D ∧ Below X.heap.size X w7 ∧ Below w'.heap.size w' w7) := Lib.hid (fun w' h => by
      have hw := bthen hbX h
      refine (plus_any x y a1 a2 c1 c2 (wv ns1) (wv ds1) (wv ns2) (wv ds2) w' (k1.v1.below hw) (k1.v2.below hw) (k2.v1.below hw) (k2.v2.below hw) (by omega) (by omega) (by omega) (by omega) k1.pos k2.pos).mono ?_
      rintro e w7 ⟨u, h1, ⟨q, r, h2, h3, h4⟩, h5⟩
      obtain ⟨s1, s2⟩ := plus_V x y (wv ns1 * wv ds2) (wv ns2 * wv ds1)
      rw [← hV] at s1 s2
      rw [s2] at h2
      rw [s1, ← hD] at h3 h4
      exact ⟨u, h1, ⟨q, r, h2, h3, h4⟩, bthen h h5, h5⟩)
    have HIS : Hid (∀ w' v u, Below X.heap.size X w' → FracV w' v V D → RtI w' u V D → Calls Tryz.prog 22 #[v, u] w' fun e w5 => e = .returned (.bool true) ∧ Below X.heap.size X w5) := Lib.hid (fun w' v u h hf hr => by
      refine (isFracV_same hf hr hD0 NV ND).mono ?_
      rintro e w5 ⟨h1, h2⟩
      exact ⟨h1, bthen h h2⟩)
    clear hV hD k1 k2 L1 L2 L3 L4 HOK hWX hbX t1 t2 t3 t4 z1 z2 z3 z4 NV ND hD0
    first
      | (go_region_held3 (fun w' => Below X.heap.size X w' ∧ (w'.cell? ⟨w.heap.size, 0, none⟩ = some (.bool x) ∧ w'.cell? ⟨w.heap.size, 1, none⟩ = some v1 ∧ w'.cell? ⟨w.heap.size, 2, none⟩ = some u1 ∧ w'.cell? ⟨w.heap.size + 1, 0, none⟩ = some (.bool y) ∧ w'.cell? ⟨w.heap.size + 1, 1, none⟩ = some v2 ∧ w'.cell? ⟨w.heap.size + 1, 2, none⟩ = some u2) ∧ w'.cell? ⟨w3.heap.size, 0, none⟩ = some (.bool x) ∧ w'.cell? ⟨w3.heap.size, 1, none⟩ = some a1 ∧ w'.cell? ⟨w3.heap.size, 2, none⟩ = some a2 ∧ w'.cell? ⟨w3.heap.size + 1, 0, none⟩ = some (.bool y) ∧ w'.cell? ⟨w3.heap.size + 1, 1, none⟩ = some c1 ∧ w'.cell? ⟨w3.heap.size + 1, 2, none⟩ = some c2)
          ((refine ks12F S0.out S1.out G0.out G1.out ?_; first | assumption | exact Below.drew hcc))
          (first
            | (go_at_call 22; with_reducible refine (HIS.out _ _ _ hb7 FV2.out RI.out).mono ?_; rintro _ w8 ⟨rfl, hb8⟩)
            | (go_at_call 27; with_reducible refine (HPL.out _ hb5).mono ?_; rintro _ w7 ⟨uu, rfl, hri, hb7, hb57⟩; have RI := Lib.hid hri; have FV2 := Lib.hid (FV.out.below hb57); clear hri)
            | (go_at_call 26; with_reducible refine (HI.out _ (And.left (by assumption))).mono ?_; rintro _ w5 ⟨vf, rfl, hfv, hb5⟩; have FV := Lib.hid hfv; clear hfv)))
      | fail
    all_goals
      go_wp2
      go_ret
      exact ⟨rfl, hwX.out.trans (hb8.mono hXs)⟩
end Go.Proofs.YtkhhoamcnocjlaaGreatDoor
