/-
Texts of this proof, joined: RcI0 TmA InS InT InU RiNa. No condition.
-/
import Derived.Test.YtllhnjpnkmjopaaGreatDoorK33
import Derived.Test.YtllhnjpnkmjopaaGreatDoorK34
import Derived.Test.YtllhnjpnkmjopaaGreatDoorK35
import Derived.Defers
import Derived.Recover
import Derived.Laws.Pointers
namespace Go.Proofs.YtllhnjpnkmjopaaGreatDoor
open Go.RowKit

def RtI (w : World) (v : Value) (V : Int) (D : Nat) : Prop := ∃ q r, v = .agg #[.bool (decide (V < 0)), q, r] ∧ NatV w q (V.natAbs / Nat.gcd V.natAbs D) ∧ NatV w r (D / Nat.gcd V.natAbs D)
theorem FracV.below {w w' : World} {v : Value} {V : Int} {D : Nat} (h : FracV w v V D) (hb : Below w.heap.size w w') : FracV w' v V D := by
  obtain ⟨r1, r2, h1, h2, h3⟩ := h
  exact ⟨r1, r2, h1, h2.below hb, h3.below hb⟩
theorem RtI.below {w w' : World} {v : Value} {V : Int} {D : Nat} (h : RtI w v V D) (hb : Below w.heap.size w w') : RtI w' v V D := by
  obtain ⟨r1, r2, h1, h2, h3⟩ := h
  exact ⟨r1, r2, h1, h2.below hb, h3.below hb⟩
theorem nl_nw (n : Nat) : nl n ≤ 4 * nw n := by
  unfold nw; omega
theorem isFracV_same {w : World} {v u : Value} {V : Int} {D : Nat} (hf : FracV w v V D) (hr : RtI w u V D) (hD : 0 < D) (h1 : nw V.natAbs ≤ 100) (h2 : nw D ≤ 100) :
    Calls Tryz.prog 15 #[v, u] w fun e w' => e = .returned (.bool true) ∧ Below w.heap.size w w' := by
  obtain ⟨r1, r2, rfl, f1, f2⟩ := hf
  obtain ⟨q, r, rfl, g1, g2⟩ := hr
  have n1 : nw (V.natAbs / Nat.gcd V.natAbs D) ≤ 100 := Nat.le_trans (nw_mono (Nat.div_le_self _ _)) h1
  have n2 : nw (D / Nat.gcd V.natAbs D) ≤ 100 := Nat.le_trans (nw_mono (Nat.div_le_self _ _)) h2
  have m1 := nl_nw (V.natAbs / Nat.gcd V.natAbs D)
  have m2 := nl_nw (D / Nat.gcd V.natAbs D)
  have e : isFrac (decide (V < 0)) (wds (V.natAbs / Nat.gcd V.natAbs D)) (wds (D / Nat.gcd V.natAbs D)) (decide (V < 0)) (V.natAbs / Nat.gcd V.natAbs D) (D / Nat.gcd V.natAbs D) = true := by
    unfold isFrac isNum
    rw [neg_div V hD]
    simp
  refine (isFraction_any (decide (V < 0)) (decide (V < 0)) r1 r2 q r _ _ _ _ w f1 f2 g1 g2 (by rw [wds_length]; omega) (by rw [wds_length]; omega) (by omega) (by omega)).mono ?_
  rintro e' w' ⟨h3, h4⟩
  rw [e] at h3
  exact ⟨h3, h4⟩
set_option maxRecDepth 100000 in
set_option maxHeartbeats 3200000 in
theorem times_any (m n : Bool) (a1 a2 c1 c2 : Value) (X1 X2 Y1 Y2 : Nat) (w : World) (ha1 : NatV w a1 X1) (ha2 : NatV w a2 X2) (hc1 : NatV w c1 Y1) (hc2 : NatV w c2 Y2)
    (l1 : nl X1 ≤ 1000000) (l2 : nl X2 ≤ 1000000) (l3 : nl Y1 ≤ 1000000) (l4 : nl Y2 ≤ 1000000) (p1 : 0 < X2) (p2 : 0 < Y2) :
    Calls Tryz.prog 13 #[.agg #[.bool m, a1, a2], .agg #[.bool n, c1, c2]] w fun e w' => ∃ v, e = .returned v ∧ RtV w' v (m != n) (X1 * Y1) (X2 * Y2) ∧ Below w.heap.size w w' := by
  have hS1 := ha1.isS
  have hS2 := ha2.isS
  have hS3 := hc1.isS
  have hS4 := hc2.isS
  obtain ⟨W, hW⟩ : ∃ W, W = ((w.alloc (.cells #[.bool m, a1, a2] 31)).alloc (.cells #[.bool n, c1, c2] 31)).alloc (.cells #[.bool false, .slice none 0 0, .slice none 0 0] 31) := ⟨_, rfl⟩
  have hab : Below w.heap.size w W := by rw [hW]; exact (((Below.refl _ w).alloc (Nat.le_refl _) _).alloc (by simp) _).alloc (by simp; omega) _
  have hr1 : W.heap[w.heap.size]? = some (.cells #[.bool m, a1, a2] 31 (0, 0)) := by rw [hW]; exact keep_row (fbone _) (keep_row (fbone _) (box_row (Below.refl _ _)))
  have hr2 : W.heap[w.heap.size + 1]? = some (.cells #[.bool n, c1, c2] 31 (0, 0)) := by
    have e : (w.alloc (.cells #[.bool m, a1, a2] 31)).heap.size = w.heap.size + 1 := by simp
    rw [hW, ← e]; exact keep_row (fbone _) (heap_alloc_new _ _)
  have hr3 : W.heap[w.heap.size + 1 + 1]? = some (.cells #[.bool false, .slice none 0 0, .slice none 0 0] 31 (0, 0)) := by
    have e : ((w.alloc (.cells #[.bool m, a1, a2] 31)).alloc (.cells #[.bool n, c1, c2] 31)).heap.size = w.heap.size + 1 + 1 := by simp
    rw [hW, ← e]; exact heap_alloc_new _ _
  have HR1 := Lib.hid hr1
  have HR2 := Lib.hid hr2
  have HR3 := Lib.hid hr3
  have HM1 : Hid (∀ w', Below W.heap.size W w' → Calls Tryz.prog 37 #[a1, c1] w' fun e w3 => ∃ r, e = .returned r ∧ NatV w3 r (X1 * Y1) ∧ Below W.heap.size W w3) := Lib.hid (fun w' h => (spMul a1 c1 X1 Y1 w' ((ha1.below hab).below h) ((hc1.below hab).below h) (by omega) (by omega)).mono (by rintro e w3 ⟨r, h1, h2, h3⟩; exact ⟨r, h1, h2, bthen h h3⟩))
  have HM2 : Hid (∀ w', Below W.heap.size W w' → Calls Tryz.prog 37 #[a2, c2] w' fun e w3 => ∃ r, e = .returned r ∧ NatV w3 r (X2 * Y2) ∧ Below W.heap.size W w3 ∧ Below w'.heap.size w' w3) := Lib.hid (fun w' h => (spMul a2 c2 X2 Y2 w' ((ha2.below hab).below h) ((hc2.below hab).below h) (by omega) (by omega)).mono (by rintro e w3 ⟨r, h1, h2, h3⟩; exact ⟨r, h1, h2, bthen h h3, h3⟩))
  have HO : Hid (∀ w' q1 q2, Below W.heap.size W w' → NatV w' q1 (X1 * Y1) → NatV w' q2 (X2 * Y2) → Calls Tryz.prog 38 #[.bool (!(m == n)), q1, q2] w' fun e w4 => ∃ z q r, e = .returned (.agg #[.bool z, q, r]) ∧ Hid (z = ((m != n) && decide (0 < X1 * Y1))) ∧ IsS q ∧ IsS r ∧ NatV w4 q (X1 * Y1 / Nat.gcd (X1 * Y1) (X2 * Y2)) ∧ NatV w4 r (X2 * Y2 / Nat.gcd (X1 * Y1) (X2 * Y2)) ∧ Below W.heap.size W w4) := Lib.hid (fun w' q1 q2 h h1 h2 => by
    refine (over_any (m != n) q1 q2 (X1 * Y1) (X2 * Y2) w' h1 h2 (Nat.le_trans (nl_mul_le _ _) (by omega)) (Nat.le_trans (nl_mul_le _ _) (by omega)) (Nat.mul_pos p1 p2)).mono ?_
    rintro e w4 ⟨q, r, g1, g2, g3, g4⟩
    exact ⟨_, q, r, g1, Lib.hid rfl, g2.isS, g3.isS, g2, g3, bthen h g4⟩)
  have hwX := Lib.hid hab
  have hXs := hab.size
  have hcc := Below.refl W.heap.size W
  obtain ⟨A, hA⟩ : ∃ A, A = X1 * Y1 := ⟨_, rfl⟩
  obtain ⟨D, hD⟩ : ∃ D, D = X2 * Y2 := ⟨_, rfl⟩
  rw [← hA] at HM1 HO ⊢
  rw [← hD] at HM2 HO ⊢
  clear hr1 hr2 hr3 ha1 ha2 hc1 hc2 hab hA hD l1 l2 l3 l4 p1 p2
  go_enter Tryz.func13, Tryz.ntmps13
  go_upto_region 1 with fail
  rw [← hW]
  clear hW
  first
    | (go_region_held3 (fun w' => Below w.heap.size w w' ∧ w'.cell? ⟨w.heap.size, 0, none⟩ = some (.bool m) ∧ w'.cell? ⟨w.heap.size, 1, none⟩ = some a1 ∧ w'.cell? ⟨w.heap.size, 2, none⟩ = some a2 ∧ w'.cell? ⟨w.heap.size + 1, 0, none⟩ = some (.bool n) ∧ w'.cell? ⟨w.heap.size + 1, 1, none⟩ = some c1 ∧ w'.cell? ⟨w.heap.size + 1, 2, none⟩ = some c2)
        ((first | (refine ksP2 HR1.out HR2.out hwX.out hXs ?_; with_reducible first | assumption | exact Below.drew hcc) | (refine ksP2S (by omega) (by omega) (by omega) (ksP2S (by omega) (by omega) (by omega) (ksP2S (by omega) (by omega) (by omega) (ksP2 HR1.out HR2.out hwX.out hXs ?_))); with_reducible assumption)))
        (first
          | (go_at_call 38; (with_reducible refine (HO.out _ _ _ hb4 G1.out G2.out).mono ?_); rintro _ w5 ⟨zz, q, r, rfl, HZZ, hT1, hT2, hq, hr, hb5⟩; have HRw := Lib.hid (keep_row hb5 HR3.out); obtain ⟨z0, z1, z2, z3, z4, z5⟩ := row3 HRw.out; have Q1 := Lib.hid hq; have Q2 := Lib.hid hr; clear hq hr)
          | (go_at_call 37; (with_reducible refine (HM2.out _ hb3).mono ?_); rintro _ w4 ⟨k2, rfl, hN2, hb4, hb34⟩; have hS6 := hN2.isS; have G1 := Lib.hid (hN1.below hb34); have G2 := Lib.hid hN2; clear hN1 hN2 hb34)
          | (go_at_call 37; (with_reducible refine (HM1.out _ (by first | assumption | exact Below.drew hcc)).mono ?_); rintro _ w3 ⟨k1, rfl, hN1, hb3⟩; have hS5 := hN1.isS)))
    | fail
  all_goals
    go_wp2
    obtain ⟨hx0, hx1, hx2, -, -, -⟩ := row3 (row3_set (x := .bool zz) (y := q) (z := r) HRw.out)
    refine bodyPost_ret (v := .agg #[.bool zz, q, r]) ?_ rfl ⟨_, rfl, ⟨q, r, by rw [HZZ.out], natv_row3 (x := .bool zz) (y := q) (z := r) IsS.nil IsS.nil Q1.out HRw.out, natv_row3 (x := .bool zz) (y := q) (z := r) IsS.nil IsS.nil Q2.out HRw.out⟩, bset (bset (bset (hwX.out.trans (hb5.mono hXs)) (by omega)) (by omega)) (by omega)⟩
    simp [results, Tryz.results13, go_sem, hx0, hx1, hx2]
theorem heap_new0 (w : World) {cs : Array Value} {T : TypeId} {W : World} (hb : Below (w.alloc (.cells cs T)).heap.size (w.alloc (.cells cs T)) W) {k : Nat} (hk : k = w.heap.size) : W.heap[k]? = some (.cells cs T (0, 0)) := by subst hk; exact box_row hb
theorem bone {W : World} (o : Obj) : Below W.heap.size W (W.alloc o) := (Below.refl _ _).alloc (Nat.le_refl _) _
def InvW (b : Bool) (v1 v2 : Value) (w W : World) : Prop :=
  W = (w.alloc (.cells #[.bool b, v1, v2] 26)).alloc (.cells #[.bool false, .slice none 0 0, .slice none 0 0] 26)
theorem InvW.facts {b : Bool} {v1 v2 : Value} {w W : World} (h : InvW b v1 v2 w W) : Below w.heap.size w W ∧ W.heap.size = w.heap.size + 2 ∧
    W.heap[w.heap.size]? = some (.cells #[.bool b, v1, v2] 26 (0, 0)) ∧ W.heap[w.heap.size + 1]? = some (.cells #[.bool false, .slice none 0 0, .slice none 0 0] 26 (0, 0)) := by
  unfold InvW at h
  subst h
  exact ⟨bthen (bone _) (bone _), by simp, heap_new0 w (bone _) rfl, heap_new0 _ (Below.refl _ _) (by simp)⟩
set_option maxRecDepth 100000 in
theorem upside_any (neg : Bool) (a1 a2 : Value) (w : World) (hS1 : IsS a1) (hS2 : IsS a2) :
    Calls Tryz.prog 14 #[.agg #[.bool neg, a1, a2]] w fun e w' => e = .returned (.agg #[.bool neg, a2, a1]) ∧ Below w.heap.size w w' := by
  have hab := ((Below.refl w.heap.size w).alloc (Nat.le_refl _) (.cells #[.bool neg, a1, a2] 31)).alloc ((Below.refl w.heap.size w).alloc (Nat.le_refl _) (.cells #[.bool neg, a1, a2] 31)).size (.cells #[.bool false, .slice none 0 0, .slice none 0 0] 31)
  obtain ⟨W, hW⟩ : ∃ W, W = (w.alloc (.cells #[.bool neg, a1, a2] 31)).alloc (.cells #[.bool false, .slice none 0 0, .slice none 0 0] 31) := ⟨_, rfl⟩
  have hrow0 : W.heap[w.heap.size]? = some (.cells #[.bool neg, a1, a2] 31 (0, 0)) := by rw [hW]; exact box_row (bone _)
  have hrow1 : W.heap[w.heap.size + 1]? = some (.cells #[.bool false, .slice none 0 0, .slice none 0 0] 31 (0, 0)) := by
    rw [hW]; exact heap_new0 _ (Below.refl _ _) (by simp)
  rw [← hW] at hab
  obtain ⟨x0, x1, x2, -, -, -⟩ := row3 hrow0
  obtain ⟨k0, k1, k2, f0, f1, f2⟩ := row3 hrow1
  obtain ⟨e0, e1, e2, -, -, -⟩ := row3 (row3_set (x := .bool neg) (y := a2) (z := a1) hrow1)
  have HB := Lib.hid (bset3 (a := .bool neg) (b := a2) (c := a1) hab (show w.heap.size ≤ w.heap.size + 1 by omega))
  clear hrow0 hrow1
  go_enter Tryz.func14, Tryz.ntmps14
  go_upto_region 1 with fail
  rw [← hW]
  clear hW
  go_wp2
  refine bodyPost_ret (v := .agg #[.bool neg, a2, a1]) ?_ rfl ⟨rfl, HB.out⟩
  simp [results, Tryz.results14, go_sem, e0, e1, e2]
theorem sg_zero (b : Bool) : sg b 0 = 0 := rfl
theorem sg_ne {b : Bool} {n : Nat} (h : 0 < n) : (sg b n == 0) = false := by
  rw [beq_eq_false_iff_ne]; unfold sg; rw [if_neg (by omega)]; cases b <;> simp
set_option maxRecDepth 100000 in
set_option maxHeartbeats 6400000 in
theorem lawInto_0t (a0n a1n : Nat) (b1 : Bool) (v1 u1 : Value) (ns1 ds1 : List Nat) (b2 : Bool) (v2 u2 : Value) (ns2 ds2 : List Nat) (w : World) (hT : KarW w) (hDW : DivW w) (hSQ : SqrW w) (hv1 : RW w v1 ns1) (hu1 : RW w u1 ds1) (hv2 : RW w v2 ns2) (hu2 : RW w u2 ds2) (q1k : (a0n : Int) % 4 = 0) (q2 : (a1n : Int) % 3 = 2) :
    Calls Tryz.prog 3 #[.int .u8 a0n, .int .u8 a1n, .agg #[.bool b1, v1, u1], .agg #[.bool b2, v2, u2]] w fun e w' => e = .returned (.bool true) ∧ Below w.heap.size w w' := by
  have hS1 := hv1.isS
  have hS2 := hu1.isS
  have hS3 := hv2.isS
  have hS4 := hu2.isS
  obtain ⟨W, hW⟩ : ∃ W, W = (w.alloc (.cells #[.bool b1, v1, u1] 26)).alloc (.cells #[.bool b2, v2, u2] 26) := ⟨_, rfl⟩
  have hbW : Below w.heap.size w W := by rw [hW]; exact ((Below.refl _ w).alloc (Nat.le_refl _) _).alloc (by simp) _
  have r0 : W.heap[w.heap.size]? = some (.cells #[.bool b1, v1, u1] 26 (0, 0)) := by rw [hW]; exact keep_row (fbone _) (row_new _ _ _ _ rfl)
  have r1 : W.heap[w.heap.size + 1]? = some (.cells #[.bool b2, v2, u2] 26 (0, 0)) := by rw [hW]; exact row_new _ _ _ _ (by simp)
  obtain ⟨x0, x1, x2, -, -, -⟩ := row3 r0
  obtain ⟨y0, y1, y2, -, -, -⟩ := row3 r1
  have V1 := Lib.hid (hv1.below hbW)
  have U1 := Lib.hid (hu1.below hbW)
  have V2 := Lib.hid (hv2.below hbW)
  have U2 := Lib.hid (hu2.below hbW)
  have KW := Lib.hid (hT.below hbW)
  have DW := Lib.hid (hDW.below hbW)
  have SW := Lib.hid (hSQ.below hbW)
  have R0 := Lib.hid r0
  have R1 := Lib.hid r1
  have hWs := hbW.size
  clear hv1 hu1 hv2 hu2 r0 r1 hT hDW hSQ
  go_enter Tryz.func3, Tryz.ntmps3
  go_upto_region 1 with fail
  rw [← hW]
  clear hW
  obtain ⟨f1, hf1⟩ : ∃ f, f = (decide (ns1.length ≤ 2147483647) && decide (ds1.length ≤ 2147483647)) := ⟨_, rfl⟩
  obtain ⟨f2, hf2⟩ : ∃ f, f = (decide (ns2.length ≤ 2147483647) && decide (ds2.length ≤ 2147483647)) := ⟨_, rfl⟩
  have HF1 := Lib.hid hf1
  have HF2 := Lib.hid hf2
  clear hf1 hf2
  go_wp2_with fail
  refine (zzFits3_any b1 v1 u1 ns1 ds1 W V1.out U1.out).mono ?_
  rintro _ w1 ⟨rfl, hb1⟩
  rw [← HF1.out]
  obtain ⟨p0, p1, p2, -, -, -⟩ := row3 (keep_row hb1 R0.out)
  obtain ⟨q0, q1, q2, -, -, -⟩ := row3 (keep_row hb1 R1.out)
  have bb1 := hbW.trans (hb1.mono hWs)
  cases f1 with
  | false =>
    go_wp2
    go_ret
    exact ⟨rfl, bb1⟩
  | true =>
  go_wp2_with fail
  refine (zzFits3_any b2 v2 u2 ns2 ds2 w1 (V2.out.below hb1) (U2.out.below hb1)).mono ?_
  rintro _ w2 ⟨rfl, hb2⟩
  rw [← HF2.out]
  have hb12 := bthen hb1 hb2
  obtain ⟨m0, m1, m2, -, -, -⟩ := row3 (keep_row hb12 R0.out)
  obtain ⟨n0, n1, n2, -, -, -⟩ := row3 (keep_row hb12 R1.out)
  have bb2 := hbW.trans (hb12.mono hWs)
  cases f2 with
  | false =>
    go_wp2
    go_ret
    exact ⟨rfl, bb2⟩
  | true =>
  go_wp2_with fail
  refine (pair_any b1 b2 v1 u1 v2 u2 16 ns1 ds1 ns2 ds2 w2 (V1.out.below hb12) (U1.out.below hb12) (V2.out.below hb12) (U2.out.below hb12) (by decide)).mono ?_
  rintro _ w3 ⟨_, rfl, x, a1, a2, y, c1, c2, ok, rfl, hA1, hA2, hC1, hC2, hb3, hok⟩
  have HOK := Lib.hid hok
  have hb13 := bthen hb12 hb3
  clear hok
  go_upto_region 4 with fail
  obtain ⟨X0, hX⟩ : ∃ X, X = (w3.alloc (.cells #[.bool x, a1, a2] 31)).alloc (.cells #[.bool y, c1, c2] 31) := ⟨_, rfl⟩
  have hbX0 : Below w3.heap.size w3 X0 := by rw [hX]; exact ((Below.refl _ w3).alloc (Nat.le_refl _) _).alloc (by simp) _
  have g0 : X0.heap[w3.heap.size]? = some (.cells #[.bool x, a1, a2] 31 (0, 0)) := by rw [hX]; exact keep_row (fbone _) (row_new _ _ _ _ rfl)
  have g1 : X0.heap[w3.heap.size + 1]? = some (.cells #[.bool y, c1, c2] 31 (0, 0)) := by rw [hX]; exact row_new _ _ _ _ (by simp)
  rw [← hX]
  obtain ⟨d0, d1, d2, -, -, -⟩ := row3 g0
  obtain ⟨e0, e1, e2, e3, e4, e5⟩ := row3 g1
  have G0' := Lib.hid g0
  have G1' := Lib.hid g1
  have HB13 := Lib.hid hb13
  have HB3 := Lib.hid hbX0
  clear hX g0 g1 x0 x1 x2 y0 y1 y2 p0 p1 p2 q0 q1 q2 m0 m1 m2 n0 n1 n2 bb1 bb2 hb1 hb2 hb3 hb12 hb13 hbX0
  go_upto_region 7 with fail
  obtain ⟨X, hX⟩ : ∃ X, X = ((X0.setCell ⟨w3.heap.size + 1, 0, none⟩ (.bool x)).setCell ⟨w3.heap.size + 1, 1, none⟩ a1).setCell ⟨w3.heap.size + 1, 2, none⟩ a2 := ⟨_, rfl⟩
  have g0 : X.heap[w3.heap.size]? = some (.cells #[.bool x, a1, a2] 31 (0, 0)) := by
    rw [hX, heap_setCell_other _ _ _ _ (by simp only; omega), heap_setCell_other _ _ _ _ (by simp only; omega), heap_setCell_other _ _ _ _ (by simp only; omega)]; exact G0'.out
  have g1 : X.heap[w3.heap.size + 1]? = some (.cells #[.bool x, a1, a2] 31 (0, 0)) := by rw [hX]; exact row3_set G1'.out
  have hbX : Below w3.heap.size w3 X := by rw [hX]; exact bset (bset (bset HB3.out (by omega)) (by omega)) (by omega)
  rw [← hX]
  have hWX := bthen HB13.out hbX
  have G0 := Lib.hid g0
  have G1 := Lib.hid g1
  have S0 := Lib.hid (keep_row hWX R0.out)
  have S1 := Lib.hid (keep_row hWX R1.out)
  have hwX : Hid (Below w.heap.size w X) := Lib.hid (hbW.trans (hWX.mono hWs))
  have hXs := hwX.out.size
  have hW3 : W.heap.size ≤ w3.heap.size := HB13.out.size
  clear d0 d1 d2 e0 e1 e2 e3 e4 e5
  obtain ⟨d0, d1, d2, -, -, -⟩ := row3 g0
  obtain ⟨e0, e1, e2, -, -, -⟩ := row3 g1
  clear hX g0 g1 G0' G1' HB3
  cases ok with
  | false =>
    go_wp2
    go_ret
    exact ⟨rfl, hwX.out⟩
  | true =>
    obtain ⟨k1, k2⟩ := HOK.out rfl
    have ex := k1.sign
    have ey := k2.sign
    subst ex ey
    have hx1 := frac_sign k1.low
    have hx2 := frac_sign k2.low
    obtain ⟨V, hV⟩ : ∃ V : Int, V = rI x (wv ns1 * wv ds1) + rI x (wv ns1 * wv ds1) := ⟨_, rfl⟩
    obtain ⟨D, hD⟩ : ∃ D : Nat, D = wv ds1 * wv ds1 := ⟨_, rfl⟩
    have L1 := k1.l1
    have L2 := k1.l2
    have L3 := k2.l1
    have L4 := k2.l2
    have t1 := nl_wv V1.out.lt
    have t2 := nl_wv U1.out.lt
    have t3 := nl_wv V2.out.lt
    have t4 := nl_wv U2.out.lt
    have z1 := nw_le (wv_lt V1.out.lt)
    have z2 := nw_le (wv_lt U1.out.lt)
    have z3 := nw_le (wv_lt V2.out.lt)
    have z4 := nw_le (wv_lt U2.out.lt)
    have hD0 : 0 < D := by rw [hD]; exact Nat.mul_pos k1.pos k1.pos
    have NV : nw V.natAbs ≤ 100 := by rw [hV]; exact natAbs_nwAdd x x _ _ _ _ (by omega) (by omega) (by omega)
    have ND : nw D ≤ 100 := by rw [hD]; exact Nat.le_trans (nw_mul_le _ _) (by omega)
    have HI : Hid (∀ Z : World, Below W.heap.size W Z → ∀ w', Below Z.heap.size Z w' → Calls Tryz.prog 16 #[.int .i64 0, .int .i64 2, .agg #[.bool x, v1, u1], .agg #[.bool y, v2, u2]] w' fun e w5 => ∃ v, e = .returned v ∧ FracV w5 v V D ∧ Below Z.heap.size Z w5) := Lib.hid (fun Z hZ w' h => by
      rw [hV, hD]
      have hw := bthen hZ h
      exact (into_add_s x y v1 u1 v2 u2 ns1 ds1 ns2 ds2 w' (V1.out.below hw) (U1.out.below hw) (V2.out.below hw) (U2.out.below hw) hx1 hx2 k1.l1 k1.l2 k2.l1 k2.l2 k1.pos k2.pos (KW.out.below hw) (DW.out.below hw)).mono fun e w5 ⟨v, h1, h2, h3⟩ => ⟨v, h1, h2, bthen h h3⟩)
    have HPL : Hid (Calls Tryz.prog 11 #[.agg #[.bool x, a1, a2], .agg #[.bool x, a1, a2]] X fun e w7 => ∃ z q r, e = .returned (.agg #[.bool z, q, r]) ∧ IsS q ∧ IsS r ∧ RtI w7 (.agg #[.bool z, q, r]) (rI x (wv ns1 * wv ds1) + rI x (wv ns1 * wv ds1)) (wv ds1 * wv ds1) ∧ Below X.heap.size X w7) := Lib.hid (by
      refine (plus_any x x a1 a2 a1 a2 (wv ns1) (wv ds1) (wv ns1) (wv ds1) X (k1.v1.below hbX) (k1.v2.below hbX) (k1.v1.below hbX) (k1.v2.below hbX) (by omega) (by omega) (by omega) (by omega) k1.pos k1.pos).mono ?_
      rintro e w7 ⟨_, h1, ⟨q, r, rfl, h3, h4⟩, h5⟩
      obtain ⟨s1, s2⟩ := plus_V x x (wv ns1 * wv ds1) (wv ns1 * wv ds1)
      rw [s1] at h3 h4
      exact ⟨_, q, r, h1, h3.isS, h4.isS, ⟨q, r, by rw [s2], h3, h4⟩, h5⟩)
    have HIS : Hid (∀ (Z w' : World) (v u : Value), Below Z.heap.size Z w' → FracV w' v V D → RtI w' u V D → Calls Tryz.prog 15 #[v, u] w' fun e w5 => e = .returned (.bool true) ∧ Below Z.heap.size Z w5) := Lib.hid (fun Z w' v u h hf hr => by
      refine (isFracV_same hf hr hD0 NV ND).mono ?_
      rintro e w5 ⟨h1, h2⟩
      exact ⟨h1, bthen h h2⟩)
    clear k1 k2 hx1 hx2 L1 L2 L3 L4 HOK t1 t2 t3 t4 z1 z2 z3 z4 NV ND hD0
    rw [← hV, ← hD] at HPL
    clear hV hD
    go_wp2_with fail
    refine HPL.out.mono ?_
    rintro _ w7 ⟨z0, q0, r0, rfl, hSq0, hSr0, hri0, hb7⟩
    go_upto_region 10 with fail
    obtain ⟨Z0, hZ0⟩ : ∃ Z, Z = w7.alloc (.cells #[.bool z0, q0, r0] 31) := ⟨_, rfl⟩
    have hbZ0 : Below w7.heap.size w7 Z0 := by rw [hZ0]; exact fbone _
    have g2 : Z0.heap[w7.heap.size]? = some (.cells #[.bool z0, q0, r0] 31 (0, 0)) := by rw [hZ0]; exact heap_alloc_new _ _
    rw [← hZ0]
    have hXZ := bthen hb7 hbZ0
    have hWZ0 := bthen hWX hXZ
    have hl3 : w3.heap.size + 1 < X.heap.size := get_lt G1.out
    have G0 := Lib.hid (keep_row hXZ G0.out)
    have G1 := Lib.hid (keep_row hXZ G1.out)
    have S0 := Lib.hid (keep_row hXZ S0.out)
    have S1 := Lib.hid (keep_row hXZ S1.out)
    have h7s : X.heap.size ≤ w7.heap.size := hb7.size
    have RI0 := Lib.hid (hri0.below hbZ0)
    have HXZ := Lib.hid hXZ
    have HWZ0 := Lib.hid hWZ0
    have G2 := Lib.hid g2
    clear hZ0 d0 d1 d2 e0 e1 e2 hri0 hb7 hbZ0 g2 hXZ hWX hbX
    obtain ⟨d0, d1, d2, -, -, -⟩ := row3 G0.out
    obtain ⟨e0, e1, e2, -, -, -⟩ := row3 G1.out
    have hlS : w.heap.size + 1 < W.heap.size := get_lt R1.out
    have hWZs : W.heap.size ≤ Z0.heap.size := HWZ0.out.size
    have hX3 : w3.heap.size ≤ X.heap.size := by omega
    go_upto_region 17 with fail
    obtain ⟨zz, hzz⟩ : ∃ z, z = z0 := ⟨_, rfl⟩
    subst hzz
    obtain ⟨q, hqq⟩ : ∃ z, z = q0 := ⟨_, rfl⟩
    subst hqq
    obtain ⟨r, hrr⟩ : ∃ z, z = r0 := ⟨_, rfl⟩
    subst hrr
    obtain ⟨Z, hZ⟩ : ∃ Z, Z = Z0 := ⟨_, rfl⟩
    rw [← hZ]
    have g2 : Z.heap[w7.heap.size]? = some (.cells #[.bool zz, q, r] 31 (0, 0)) := by rw [hZ]; exact G2.out
    have hriz : RtI Z (.agg #[.bool zz, q, r]) V D := by rw [hZ]; exact RI0.out
    have hWZ : Below W.heap.size W Z := by rw [hZ]; exact HWZ0.out
    have S0 := Lib.hid (keep_row hWZ R0.out)
    have S1 := Lib.hid (keep_row hWZ R1.out)
    have RIZ := Lib.hid hriz
    have HWZ := Lib.hid hWZ
    have GZ := Lib.hid g2
    have hzc := Below.refl Z.heap.size Z
    clear hZ g2 hriz hWZ d0 d1 d2 e0 e1 e2
    obtain ⟨i0, i1, i2, -, -, -⟩ := row3 S0.out
    obtain ⟨j0, j1, j2, -, -, -⟩ := row3 S1.out
    obtain ⟨l0, l1, l2, -, -, -⟩ := row3 GZ.out
    first
      | (go_region_held3 (fun w' => Below Z.heap.size Z w' ∧ (w'.cell? ⟨w.heap.size, 0, none⟩ = some (.bool x) ∧ w'.cell? ⟨w.heap.size, 1, none⟩ = some v1 ∧ w'.cell? ⟨w.heap.size, 2, none⟩ = some u1 ∧ w'.cell? ⟨w.heap.size + 1, 0, none⟩ = some (.bool y) ∧ w'.cell? ⟨w.heap.size + 1, 1, none⟩ = some v2 ∧ w'.cell? ⟨w.heap.size + 1, 2, none⟩ = some u2) ∧ w'.cell? ⟨w7.heap.size, 0, none⟩ = some (.bool zz) ∧ w'.cell? ⟨w7.heap.size, 1, none⟩ = some q ∧ w'.cell? ⟨w7.heap.size, 2, none⟩ = some r)
          ((refine ks9G S0.out S1.out GZ.out ?_; first | assumption | exact Below.drew hzc))
          (first
            | (go_at_call 15; with_reducible refine (HIS.out Z _ _ _ hb5 FV.out RI2.out).mono ?_; rintro _ w11 ⟨rfl, hb11⟩)
            | (go_at_call 16; with_reducible refine (HI.out Z HWZ.out _ (And.left (by assumption))).mono ?_; rintro _ w5 ⟨vf, rfl, hfv, hb5⟩; have FV := Lib.hid hfv; have RI2 := Lib.hid (RIZ.out.below hb5); clear hfv)))
      | fail
    all_goals
      go_wp2
      go_ret
      exact ⟨rfl, hbW.trans ((bthen HWZ.out hb11).mono hWs)⟩
set_option maxRecDepth 100000 in
set_option maxHeartbeats 6400000 in
theorem lawInto_0o (a0n a1n : Nat) (b1 : Bool) (v1 u1 : Value) (ns1 ds1 : List Nat) (b2 : Bool) (v2 u2 : Value) (ns2 ds2 : List Nat) (w : World) (hT : KarW w) (hDW : DivW w) (hSQ : SqrW w) (hv1 : RW w v1 ns1) (hu1 : RW w u1 ds1) (hv2 : RW w v2 ns2) (hu2 : RW w u2 ds2) (q1k : (a0n : Int) % 4 = 0) (WW : Nat) (hWW : WW ≤ 1) (q2 : (a1n : Int) % 3 = (WW : Int)) :
    Calls Tryz.prog 3 #[.int .u8 a0n, .int .u8 a1n, .agg #[.bool b1, v1, u1], .agg #[.bool b2, v2, u2]] w fun e w' => e = .returned (.bool true) ∧ Below w.heap.size w w' := by
  have hS1 := hv1.isS
  have hS2 := hu1.isS
  have hS3 := hv2.isS
  have hS4 := hu2.isS
  obtain ⟨W, hW⟩ : ∃ W, W = (w.alloc (.cells #[.bool b1, v1, u1] 26)).alloc (.cells #[.bool b2, v2, u2] 26) := ⟨_, rfl⟩
  have hbW : Below w.heap.size w W := by rw [hW]; exact ((Below.refl _ w).alloc (Nat.le_refl _) _).alloc (by simp) _
  have r0 : W.heap[w.heap.size]? = some (.cells #[.bool b1, v1, u1] 26 (0, 0)) := by rw [hW]; exact keep_row (fbone _) (row_new _ _ _ _ rfl)
  have r1 : W.heap[w.heap.size + 1]? = some (.cells #[.bool b2, v2, u2] 26 (0, 0)) := by rw [hW]; exact row_new _ _ _ _ (by simp)
  obtain ⟨x0, x1, x2, -, -, -⟩ := row3 r0
  obtain ⟨y0, y1, y2, -, -, -⟩ := row3 r1
  have V1 := Lib.hid (hv1.below hbW)
  have U1 := Lib.hid (hu1.below hbW)
  have V2 := Lib.hid (hv2.below hbW)
  have U2 := Lib.hid (hu2.below hbW)
  have KW := Lib.hid (hT.below hbW)
  have DW := Lib.hid (hDW.below hbW)
  have SW := Lib.hid (hSQ.below hbW)
  have R0 := Lib.hid r0
  have R1 := Lib.hid r1
  have hWs := hbW.size
  clear hv1 hu1 hv2 hu2 r0 r1 hT hDW hSQ
  go_enter Tryz.func3, Tryz.ntmps3
  go_upto_region 1 with fail
  rw [← hW]
  clear hW
  obtain ⟨f1, hf1⟩ : ∃ f, f = (decide (ns1.length ≤ 2147483647) && decide (ds1.length ≤ 2147483647)) := ⟨_, rfl⟩
  obtain ⟨f2, hf2⟩ : ∃ f, f = (decide (ns2.length ≤ 2147483647) && decide (ds2.length ≤ 2147483647)) := ⟨_, rfl⟩
  have HF1 := Lib.hid hf1
  have HF2 := Lib.hid hf2
  clear hf1 hf2
  go_wp2_with fail
  refine (zzFits3_any b1 v1 u1 ns1 ds1 W V1.out U1.out).mono ?_
  rintro _ w1 ⟨rfl, hb1⟩
  rw [← HF1.out]
  obtain ⟨p0, p1, p2, -, -, -⟩ := row3 (keep_row hb1 R0.out)
  obtain ⟨q0, q1, q2, -, -, -⟩ := row3 (keep_row hb1 R1.out)
  have bb1 := hbW.trans (hb1.mono hWs)
  cases f1 with
  | false =>
    go_wp2
    go_ret
    exact ⟨rfl, bb1⟩
  | true =>
  go_wp2_with fail
  refine (zzFits3_any b2 v2 u2 ns2 ds2 w1 (V2.out.below hb1) (U2.out.below hb1)).mono ?_
  rintro _ w2 ⟨rfl, hb2⟩
  rw [← HF2.out]
  have hb12 := bthen hb1 hb2
  obtain ⟨m0, m1, m2, -, -, -⟩ := row3 (keep_row hb12 R0.out)
  obtain ⟨n0, n1, n2, -, -, -⟩ := row3 (keep_row hb12 R1.out)
  have bb2 := hbW.trans (hb12.mono hWs)
  cases f2 with
  | false =>
    go_wp2
    go_ret
    exact ⟨rfl, bb2⟩
  | true =>
  go_wp2_with fail
  refine (pair_any b1 b2 v1 u1 v2 u2 16 ns1 ds1 ns2 ds2 w2 (V1.out.below hb12) (U1.out.below hb12) (V2.out.below hb12) (U2.out.below hb12) (by decide)).mono ?_
  rintro _ w3 ⟨_, rfl, x, a1, a2, y, c1, c2, ok, rfl, hA1, hA2, hC1, hC2, hb3, hok⟩
  have HOK := Lib.hid hok
  have hb13 := bthen hb12 hb3
  clear hok
  go_upto_region 4 with fail
  obtain ⟨X0, hX⟩ : ∃ X, X = (w3.alloc (.cells #[.bool x, a1, a2] 31)).alloc (.cells #[.bool y, c1, c2] 31) := ⟨_, rfl⟩
  have hbX0 : Below w3.heap.size w3 X0 := by rw [hX]; exact ((Below.refl _ w3).alloc (Nat.le_refl _) _).alloc (by simp) _
  have g0 : X0.heap[w3.heap.size]? = some (.cells #[.bool x, a1, a2] 31 (0, 0)) := by rw [hX]; exact keep_row (fbone _) (row_new _ _ _ _ rfl)
  have g1 : X0.heap[w3.heap.size + 1]? = some (.cells #[.bool y, c1, c2] 31 (0, 0)) := by rw [hX]; exact row_new _ _ _ _ (by simp)
  rw [← hX]
  obtain ⟨d0, d1, d2, -, -, -⟩ := row3 g0
  obtain ⟨e0, e1, e2, e3, e4, e5⟩ := row3 g1
  have G0' := Lib.hid g0
  have G1' := Lib.hid g1
  have HB13 := Lib.hid hb13
  have HB3 := Lib.hid hbX0
  clear hX g0 g1 x0 x1 x2 y0 y1 y2 p0 p1 p2 q0 q1 q2 m0 m1 m2 n0 n1 n2 bb1 bb2 hb1 hb2 hb3 hb12 hb13 hbX0
  have tW : ((WW : Int) == 2) = false := by rw [beq_eq_false_iff_ne]; omega
  have tW' : decide (WW = 2) = false := decide_eq_false (by omega)
  have tW2 : ¬ (WW : Int) = 2 := by omega
  go_upto_region 7 with fail
  obtain ⟨X, hX⟩ : ∃ X, X = X0 := ⟨_, rfl⟩
  have g0 : X.heap[w3.heap.size]? = some (.cells #[.bool x, a1, a2] 31 (0, 0)) := by rw [hX]; exact G0'.out
  have g1 : X.heap[w3.heap.size + 1]? = some (.cells #[.bool y, c1, c2] 31 (0, 0)) := by rw [hX]; exact G1'.out
  have hbX : Below w3.heap.size w3 X := by rw [hX]; exact HB3.out
  rw [← hX]
  have hWX := bthen HB13.out hbX
  have G0 := Lib.hid g0
  have G1 := Lib.hid g1
  have S0 := Lib.hid (keep_row hWX R0.out)
  have S1 := Lib.hid (keep_row hWX R1.out)
  have hwX : Hid (Below w.heap.size w X) := Lib.hid (hbW.trans (hWX.mono hWs))
  have hXs := hwX.out.size
  have hW3 : W.heap.size ≤ w3.heap.size := HB13.out.size
  clear d0 d1 d2 e0 e1 e2 e3 e4 e5
  obtain ⟨d0, d1, d2, -, -, -⟩ := row3 g0
  obtain ⟨e0, e1, e2, -, -, -⟩ := row3 g1
  clear hX g0 g1 G0' G1' HB3
  cases ok with
  | false =>
    go_wp2
    go_ret
    exact ⟨rfl, hwX.out⟩
  | true =>
    obtain ⟨k1, k2⟩ := HOK.out rfl
    have ex := k1.sign
    have ey := k2.sign
    subst ex ey
    have hx1 := frac_sign k1.low
    have hx2 := frac_sign k2.low
    obtain ⟨V, hV⟩ : ∃ V : Int, V = rI x (wv ns1 * wv ds2) + rI y (wv ns2 * wv ds1) := ⟨_, rfl⟩
    obtain ⟨D, hD⟩ : ∃ D : Nat, D = wv ds1 * wv ds2 := ⟨_, rfl⟩
    have L1 := k1.l1
    have L2 := k1.l2
    have L3 := k2.l1
    have L4 := k2.l2
    have t1 := nl_wv V1.out.lt
    have t2 := nl_wv U1.out.lt
    have t3 := nl_wv V2.out.lt
    have t4 := nl_wv U2.out.lt
    have z1 := nw_le (wv_lt V1.out.lt)
    have z2 := nw_le (wv_lt U1.out.lt)
    have z3 := nw_le (wv_lt V2.out.lt)
    have z4 := nw_le (wv_lt U2.out.lt)
    have hD0 : 0 < D := by rw [hD]; exact Nat.mul_pos k1.pos k2.pos
    have NV : nw V.natAbs ≤ 100 := by rw [hV]; exact natAbs_nwAdd x y _ _ _ _ (by omega) (by omega) (by omega)
    have ND : nw D ≤ 100 := by rw [hD]; exact Nat.le_trans (nw_mul_le _ _) (by omega)
    have HI : Hid (∀ Z : World, Below W.heap.size W Z → ∀ w', Below Z.heap.size Z w' → Calls Tryz.prog 16 #[.int .i64 0, .int .i64 WW, .agg #[.bool x, v1, u1], .agg #[.bool y, v2, u2]] w' fun e w5 => ∃ v, e = .returned v ∧ FracV w5 v V D ∧ Below Z.heap.size Z w5) := Lib.hid (fun Z hZ w' h => by
      rw [hV, hD]
      have hw := bthen hZ h
      rcases (by omega : WW = 0 ∨ WW = 1) with rfl | rfl
      · exact (into_add_x x y v1 u1 v2 u2 ns1 ds1 ns2 ds2 w' (V1.out.below hw) (U1.out.below hw) (V2.out.below hw) (U2.out.below hw) hx1 hx2 k1.l1 k1.l2 k2.l1 k2.l2 k1.pos k2.pos (KW.out.below hw) (DW.out.below hw)).mono fun e w5 ⟨v, h1, h2, h3⟩ => ⟨v, h1, h2, bthen h h3⟩
      · exact (into_add_y x y v1 u1 v2 u2 ns1 ds1 ns2 ds2 w' (V1.out.below hw) (U1.out.below hw) (V2.out.below hw) (U2.out.below hw) hx1 hx2 k1.l1 k1.l2 k2.l1 k2.l2 k1.pos k2.pos (KW.out.below hw) (DW.out.below hw)).mono fun e w5 ⟨v, h1, h2, h3⟩ => ⟨v, h1, h2, bthen h h3⟩)
    have HPL : Hid (Calls Tryz.prog 11 #[.agg #[.bool x, a1, a2], .agg #[.bool y, c1, c2]] X fun e w7 => ∃ z q r, e = .returned (.agg #[.bool z, q, r]) ∧ IsS q ∧ IsS r ∧ RtI w7 (.agg #[.bool z, q, r]) (rI x (wv ns1 * wv ds2) + rI y (wv ns2 * wv ds1)) (wv ds1 * wv ds2) ∧ Below X.heap.size X w7) := Lib.hid (by
      refine (plus_any x y a1 a2 c1 c2 (wv ns1) (wv ds1) (wv ns2) (wv ds2) X (k1.v1.below hbX) (k1.v2.below hbX) (k2.v1.below hbX) (k2.v2.below hbX) (by omega) (by omega) (by omega) (by omega) k1.pos k2.pos).mono ?_
      rintro e w7 ⟨_, h1, ⟨q, r, rfl, h3, h4⟩, h5⟩
      obtain ⟨s1, s2⟩ := plus_V x y (wv ns1 * wv ds2) (wv ns2 * wv ds1)
      rw [s1] at h3 h4
      exact ⟨_, q, r, h1, h3.isS, h4.isS, ⟨q, r, by rw [s2], h3, h4⟩, h5⟩)
    have HIS : Hid (∀ (Z w' : World) (v u : Value), Below Z.heap.size Z w' → FracV w' v V D → RtI w' u V D → Calls Tryz.prog 15 #[v, u] w' fun e w5 => e = .returned (.bool true) ∧ Below Z.heap.size Z w5) := Lib.hid (fun Z w' v u h hf hr => by
      refine (isFracV_same hf hr hD0 NV ND).mono ?_
      rintro e w5 ⟨h1, h2⟩
      exact ⟨h1, bthen h h2⟩)
    clear k1 k2 hx1 hx2 L1 L2 L3 L4 HOK t1 t2 t3 t4 z1 z2 z3 z4 NV ND hD0
    rw [← hV, ← hD] at HPL
    clear hV hD
    go_wp2_with fail
    refine HPL.out.mono ?_
    rintro _ w7 ⟨z0, q0, r0, rfl, hSq0, hSr0, hri0, hb7⟩
    go_upto_region 10 with fail
    obtain ⟨Z0, hZ0⟩ : ∃ Z, Z = w7.alloc (.cells #[.bool z0, q0, r0] 31) := ⟨_, rfl⟩
    have hbZ0 : Below w7.heap.size w7 Z0 := by rw [hZ0]; exact fbone _
    have g2 : Z0.heap[w7.heap.size]? = some (.cells #[.bool z0, q0, r0] 31 (0, 0)) := by rw [hZ0]; exact heap_alloc_new _ _
    rw [← hZ0]
    have hXZ := bthen hb7 hbZ0
    have hWZ0 := bthen hWX hXZ
    have hl3 : w3.heap.size + 1 < X.heap.size := get_lt G1.out
    have G0 := Lib.hid (keep_row hXZ G0.out)
    have G1 := Lib.hid (keep_row hXZ G1.out)
    have S0 := Lib.hid (keep_row hXZ S0.out)
    have S1 := Lib.hid (keep_row hXZ S1.out)
    have h7s : X.heap.size ≤ w7.heap.size := hb7.size
    have RI0 := Lib.hid (hri0.below hbZ0)
    have HXZ := Lib.hid hXZ
    have HWZ0 := Lib.hid hWZ0
    have G2 := Lib.hid g2
    clear hZ0 d0 d1 d2 e0 e1 e2 hri0 hb7 hbZ0 g2 hXZ hWX hbX
    obtain ⟨d0, d1, d2, -, -, -⟩ := row3 G0.out
    obtain ⟨e0, e1, e2, -, -, -⟩ := row3 G1.out
    have hlS : w.heap.size + 1 < W.heap.size := get_lt R1.out
    have hWZs : W.heap.size ≤ Z0.heap.size := HWZ0.out.size
    have hX3 : w3.heap.size ≤ X.heap.size := by omega
    go_upto_region 17 with fail
    obtain ⟨zz, hzz⟩ : ∃ z, z = z0 := ⟨_, rfl⟩
    subst hzz
    obtain ⟨q, hqq⟩ : ∃ z, z = q0 := ⟨_, rfl⟩
    subst hqq
    obtain ⟨r, hrr⟩ : ∃ z, z = r0 := ⟨_, rfl⟩
    subst hrr
    obtain ⟨Z, hZ⟩ : ∃ Z, Z = Z0 := ⟨_, rfl⟩
    rw [← hZ]
    have g2 : Z.heap[w7.heap.size]? = some (.cells #[.bool zz, q, r] 31 (0, 0)) := by rw [hZ]; exact G2.out
    have hriz : RtI Z (.agg #[.bool zz, q, r]) V D := by rw [hZ]; exact RI0.out
    have hWZ : Below W.heap.size W Z := by rw [hZ]; exact HWZ0.out
    have S0 := Lib.hid (keep_row hWZ R0.out)
    have S1 := Lib.hid (keep_row hWZ R1.out)
    have RIZ := Lib.hid hriz
    have HWZ := Lib.hid hWZ
    have GZ := Lib.hid g2
    have hzc := Below.refl Z.heap.size Z
    clear hZ g2 hriz hWZ d0 d1 d2 e0 e1 e2
    obtain ⟨i0, i1, i2, -, -, -⟩ := row3 S0.out
    obtain ⟨j0, j1, j2, -, -, -⟩ := row3 S1.out
    obtain ⟨l0, l1, l2, -, -, -⟩ := row3 GZ.out
    first
      | (go_region_held3 (fun w' => Below Z.heap.size Z w' ∧ (w'.cell? ⟨w.heap.size, 0, none⟩ = some (.bool x) ∧ w'.cell? ⟨w.heap.size, 1, none⟩ = some v1 ∧ w'.cell? ⟨w.heap.size, 2, none⟩ = some u1 ∧ w'.cell? ⟨w.heap.size + 1, 0, none⟩ = some (.bool y) ∧ w'.cell? ⟨w.heap.size + 1, 1, none⟩ = some v2 ∧ w'.cell? ⟨w.heap.size + 1, 2, none⟩ = some u2) ∧ w'.cell? ⟨w7.heap.size, 0, none⟩ = some (.bool zz) ∧ w'.cell? ⟨w7.heap.size, 1, none⟩ = some q ∧ w'.cell? ⟨w7.heap.size, 2, none⟩ = some r)
          ((refine ks9G S0.out S1.out GZ.out ?_; first | assumption | exact Below.drew hzc))
          (first
            | (go_at_call 15; with_reducible refine (HIS.out Z _ _ _ hb5 FV.out RI2.out).mono ?_; rintro _ w11 ⟨rfl, hb11⟩)
            | (go_at_call 16; with_reducible refine (HI.out Z HWZ.out _ (And.left (by assumption))).mono ?_; rintro _ w5 ⟨vf, rfl, hfv, hb5⟩; have FV := Lib.hid hfv; have RI2 := Lib.hid (RIZ.out.below hb5); clear hfv)))
      | fail
    all_goals
      go_wp2
      go_ret
      exact ⟨rfl, hbW.trans ((bthen HWZ.out hb11).mono hWs)⟩
end Go.Proofs.YtllhnjpnkmjopaaGreatDoor
