/-
Texts of this proof, joined: RfC. No condition.
-/
import Derived.Test.YtbghmceglemppaaGreatDoorK15
import Derived.Test.YtbghmceglemppaaGreatDoorK34
import Derived.Deep.DeepCutAuto
/-
The statement on sums and products of fractions: associative, commutative, distributive. No condition but the thresholds.
-/
namespace Go.Proofs.YtbghmceglemppaaGreatDoor
open Go.RowKit

/-- What a call of the thin package answers: a fraction by its value. -/
def FA (e : Ending) (w' w5 : World) (V : Int) (D m n : Nat) : Prop := ∃ s a b, e = .returned (.agg #[.bool s, a, b]) ∧ IsS a ∧ IsS b ∧ FQ w5 (.agg #[.bool s, a, b]) V D m n ∧ Below w'.heap.size w' w5
theorem FA.of {e : Ending} {w' w5 : World} {V : Int} {D m n : Nat} {v : Value} (he : e = .returned v) (h : FQ w5 v V D m n) (hb : Below w'.heap.size w' w5) : FA e w' w5 V D m n := by
  obtain ⟨r1, r2, hv, h1, h2⟩ := h.fv
  subst hv
  exact ⟨_, r1, r2, he, h1.isS, h2.isS, h, hb⟩
theorem FQ.isS {w : World} {s : Bool} {a b : Value} {V : Int} {D m n : Nat} (h : FQ w (.agg #[.bool s, a, b]) V D m n) : IsS a ∧ IsS b := by
  obtain ⟨r1, r2, hv, h1, h2⟩ := h.fv
  simp only [Value.agg.injEq, Array.mk.injEq, List.cons.injEq, Value.bool.injEq, and_true] at hv
  obtain ⟨-, rfl, rfl⟩ := hv
  exact ⟨h1.isS, h2.isS⟩
theorem addA {x y : Value} {V1 V2 : Int} {D1 D2 a1 b1 a2 b2 : Nat} {w : World} (h1 : FQ w x V1 D1 a1 b1) (h2 : FQ w y V2 D2 a2 b2) (l : a1 ≤ 30 ∧ b1 ≤ 30 ∧ a2 ≤ 30 ∧ b2 ≤ 30 ∧ a1 + b2 ≤ 37 ∧ a2 + b1 ≤ 37 ∧ b1 + b2 ≤ 37 ∧ a1 + a2 ≤ 37) (hK : KarW w) (hT : DivW w) :
    Calls Tryz.prog 35 #[x, y] w fun e w' => FA e w w' (V1 * D2 + V2 * D1) (D1 * D2) (max (a1 + b2) (a2 + b1) + 1) (b1 + b2) :=
  (addQ h1 h2 l hK hT).mono fun _ _ ⟨_, h1, h2, h3⟩ => .of h1 h2 h3
theorem subA {x y : Value} {V1 V2 : Int} {D1 D2 a1 b1 a2 b2 : Nat} {w : World} (h1 : FQ w x V1 D1 a1 b1) (h2 : FQ w y V2 D2 a2 b2) (l : a1 ≤ 30 ∧ b1 ≤ 30 ∧ a2 ≤ 30 ∧ b2 ≤ 30 ∧ a1 + b2 ≤ 37 ∧ a2 + b1 ≤ 37 ∧ b1 + b2 ≤ 37 ∧ a1 + a2 ≤ 37) (hK : KarW w) (hT : DivW w) :
    Calls Tryz.prog 38 #[x, y] w fun e w' => FA e w w' (V1 * D2 - V2 * D1) (D1 * D2) (max (a1 + b2) (a2 + b1) + 1) (b1 + b2) :=
  (subQ h1 h2 l hK hT).mono fun _ _ ⟨_, h1, h2, h3⟩ => .of h1 h2 h3
theorem mulA {x y : Value} {V1 V2 : Int} {D1 D2 a1 b1 a2 b2 : Nat} {w : World} (h1 : FQ w x V1 D1 a1 b1) (h2 : FQ w y V2 D2 a2 b2) (l : a1 ≤ 30 ∧ b1 ≤ 30 ∧ a2 ≤ 30 ∧ b2 ≤ 30 ∧ a1 + b2 ≤ 37 ∧ a2 + b1 ≤ 37 ∧ b1 + b2 ≤ 37 ∧ a1 + a2 ≤ 37) (hK : KarW w) (hT : DivW w) :
    Calls Tryz.prog 36 #[x, y] w fun e w' => FA e w w' (V1 * V2) (D1 * D2) (a1 + a2) (b1 + b2) :=
  (mulQ h1 h2 l hK hT).mono fun _ _ ⟨_, h1, h2, h3⟩ => .of h1 h2 h3
theorem ks21 {W X : World} {k0 k1 k2 k3 k4 k5 k6 T0 T1 T2 T3 T4 T5 T6 : Nat} {a0 b0 c0 a1 b1 c1 a2 b2 c2 a3 b3 c3 a4 b4 c4 a5 b5 c5 a6 b6 c6 : Value} (h0 : W.heap[k0]? = some (.cells #[a0, b0, c0] T0 (0, 0))) (h1 : W.heap[k1]? = some (.cells #[a1, b1, c1] T1 (0, 0))) (h2 : W.heap[k2]? = some (.cells #[a2, b2, c2] T2 (0, 0))) (h3 : W.heap[k3]? = some (.cells #[a3, b3, c3] T3 (0, 0))) (h4 : W.heap[k4]? = some (.cells #[a4, b4, c4] T4 (0, 0))) (h5 : W.heap[k5]? = some (.cells #[a5, b5, c5] T5 (0, 0))) (h6 : W.heap[k6]? = some (.cells #[a6, b6, c6] T6 (0, 0))) (h : Below W.heap.size W X) :
    Below W.heap.size W X ∧ (X.cell? ⟨k0, 0, none⟩ = some (a0) ∧ X.cell? ⟨k0, 1, none⟩ = some (b0) ∧ X.cell? ⟨k0, 2, none⟩ = some (c0)) ∧ (X.cell? ⟨k1, 0, none⟩ = some (a1) ∧ X.cell? ⟨k1, 1, none⟩ = some (b1) ∧ X.cell? ⟨k1, 2, none⟩ = some (c1)) ∧ (X.cell? ⟨k2, 0, none⟩ = some (a2) ∧ X.cell? ⟨k2, 1, none⟩ = some (b2) ∧ X.cell? ⟨k2, 2, none⟩ = some (c2)) ∧ (X.cell? ⟨k3, 0, none⟩ = some (a3) ∧ X.cell? ⟨k3, 1, none⟩ = some (b3) ∧ X.cell? ⟨k3, 2, none⟩ = some (c3)) ∧ (X.cell? ⟨k4, 0, none⟩ = some (a4) ∧ X.cell? ⟨k4, 1, none⟩ = some (b4) ∧ X.cell? ⟨k4, 2, none⟩ = some (c4)) ∧ (X.cell? ⟨k5, 0, none⟩ = some (a5) ∧ X.cell? ⟨k5, 1, none⟩ = some (b5) ∧ X.cell? ⟨k5, 2, none⟩ = some (c5)) ∧ X.cell? ⟨k6, 0, none⟩ = some (a6) ∧ X.cell? ⟨k6, 1, none⟩ = some (b6) ∧ X.cell? ⟨k6, 2, none⟩ = some (c6) := by
  obtain ⟨x0, y0, z0, -, -, -⟩ := row3 (keep_row h h0)
  obtain ⟨x1, y1, z1, -, -, -⟩ := row3 (keep_row h h1)
  obtain ⟨x2, y2, z2, -, -, -⟩ := row3 (keep_row h h2)
  obtain ⟨x3, y3, z3, -, -, -⟩ := row3 (keep_row h h3)
  obtain ⟨x4, y4, z4, -, -, -⟩ := row3 (keep_row h h4)
  obtain ⟨x5, y5, z5, -, -, -⟩ := row3 (keep_row h h5)
  obtain ⟨x6, y6, z6, -, -, -⟩ := row3 (keep_row h h6)
  exact ⟨h, ⟨x0, y0, z0⟩, ⟨x1, y1, z1⟩, ⟨x2, y2, z2⟩, ⟨x3, y3, z3⟩, ⟨x4, y4, z4⟩, ⟨x5, y5, z5⟩, x6, y6, z6⟩
theorem ks6Q {W X : World} {k0 k1 T0 T1 : Nat} {a0 b0 c0 a1 b1 c1 : Value} (h0 : W.heap[k0]? = some (.cells #[a0, b0, c0] T0 (0, 0))) (h1 : W.heap[k1]? = some (.cells #[a1, b1, c1] T1 (0, 0))) (h : Below W.heap.size W X) :
    Below W.heap.size W X ∧ (X.cell? ⟨k0, 0, none⟩ = some (a0) ∧ X.cell? ⟨k0, 1, none⟩ = some (b0) ∧ X.cell? ⟨k0, 2, none⟩ = some (c0)) ∧ X.cell? ⟨k1, 0, none⟩ = some (a1) ∧ X.cell? ⟨k1, 1, none⟩ = some (b1) ∧ X.cell? ⟨k1, 2, none⟩ = some (c1) := by
  obtain ⟨x0, y0, z0, -, -, -⟩ := row3 (keep_row h h0)
  obtain ⟨x1, y1, z1, -, -, -⟩ := row3 (keep_row h h1)
  exact ⟨h, ⟨x0, y0, z0⟩, x1, y1, z1⟩
set_option maxRecDepth 100000 in
set_option maxHeartbeats 12800000 in
theorem lawRatField (b1 : Bool) (v1 u1 : Value) (ns1 ds1 : List Nat) (b2 : Bool) (v2 u2 : Value) (ns2 ds2 : List Nat) (b3 : Bool) (v3 u3 : Value) (ns3 ds3 : List Nat) (w : World) (hT : KarW w) (hDW : DivW w) (hv1 : RW w v1 ns1) (hu1 : RW w u1 ds1) (hv2 : RW w v2 ns2) (hu2 : RW w u2 ds2) (hv3 : RW w v3 ns3) (hu3 : RW w u3 ds3) :
    Calls Tryz.prog 7 #[.agg #[.bool b1, v1, u1], .agg #[.bool b2, v2, u2], .agg #[.bool b3, v3, u3]] w fun e w' => e = .returned (.bool true) ∧ Below w.heap.size w w' := by
  have hS1 := hv1.isS
  have hQ1 := hu1.isS
  have hS2 := hv2.isS
  have hQ2 := hu2.isS
  have hS3 := hv3.isS
  have hQ3 := hu3.isS
  obtain ⟨W, hW⟩ : ∃ W, W = ((w.alloc (.cells #[.bool b1, v1, u1] 43)).alloc (.cells #[.bool b2, v2, u2] 43)).alloc (.cells #[.bool b3, v3, u3] 43) := ⟨_, rfl⟩
  have hbW : Below w.heap.size w W := by rw [hW]; exact (((Below.refl _ w).alloc (Nat.le_refl _) _).alloc (by simp) _).alloc (by simp; omega) _
  have r0 : W.heap[w.heap.size]? = some (.cells #[.bool b1, v1, u1] 43 (0, 0)) := by rw [hW]; exact keep_row (fbone _) (keep_row (fbone _) (row_new _ _ _ _ rfl))
  have r1 : W.heap[w.heap.size + 1]? = some (.cells #[.bool b2, v2, u2] 43 (0, 0)) := by rw [hW]; exact keep_row (fbone _) (row_new _ _ _ _ (by simp))
  have r2 : W.heap[w.heap.size + 1 + 1]? = some (.cells #[.bool b3, v3, u3] 43 (0, 0)) := by rw [hW]; exact row_new _ _ _ _ (by simp)
  obtain ⟨x0, x1, x2, -, -, -⟩ := row3 r0
  obtain ⟨y0, y1, y2, -, -, -⟩ := row3 r1
  obtain ⟨z0, z1, z2, -, -, -⟩ := row3 r2
  have V1 := Lib.hid (hv1.below hbW)
  have U1 := Lib.hid (hu1.below hbW)
  have V2 := Lib.hid (hv2.below hbW)
  have U2 := Lib.hid (hu2.below hbW)
  have V3 := Lib.hid (hv3.below hbW)
  have U3 := Lib.hid (hu3.below hbW)
  have KW := Lib.hid (hT.below hbW)
  have DW := Lib.hid (hDW.below hbW)
  have R0 := Lib.hid r0
  have R1 := Lib.hid r1
  have R2 := Lib.hid r2
  have hWs := hbW.size
  clear hv1 hu1 hv2 hu2 hv3 hu3 r0 r1 r2 hT hDW
  go_enter Tryz.func7, Tryz.ntmps7
  go_upto_region 1 with fail
  rw [← hW]
  clear hW
  obtain ⟨f1, hf1⟩ : ∃ f, f = (decide (ns1.length ≤ 2147483647) && decide (ds1.length ≤ 2147483647)) := ⟨_, rfl⟩
  have HF1 := Lib.hid hf1
  clear hf1
  obtain ⟨f2, hf2⟩ : ∃ f, f = (decide (ns2.length ≤ 2147483647) && decide (ds2.length ≤ 2147483647)) := ⟨_, rfl⟩
  have HF2 := Lib.hid hf2
  clear hf2
  obtain ⟨f3, hf3⟩ : ∃ f, f = (decide (ns3.length ≤ 2147483647) && decide (ds3.length ≤ 2147483647)) := ⟨_, rfl⟩
  have HF3 := Lib.hid hf3
  clear hf3
  have hb0 := Below.refl W.heap.size W
  go_wp2_with fail
  refine (zzFits3_any b1 v1 u1 ns1 ds1 W (V1.out.below hb0) (U1.out.below hb0)).mono ?_
  rintro _ w1 ⟨rfl, hb1'⟩
  rw [← HF1.out]
  have hb1 := bthen hb0 hb1'
  clear hb1' x0 x1 x2 y0 y1 y2 z0 z1 z2
  obtain ⟨x0, x1, x2, -, -, -⟩ := row3 (keep_row hb1 R0.out)
  obtain ⟨y0, y1, y2, -, -, -⟩ := row3 (keep_row hb1 R1.out)
  obtain ⟨z0, z1, z2, -, -, -⟩ := row3 (keep_row hb1 R2.out)
  have bb := hbW.trans (hb1.mono hWs)
  cases f1 with
  | false =>
    go_wp2
    go_ret
    exact ⟨rfl, bb⟩
  | true =>
  clear bb
  go_wp2_with fail
  refine (zzFits3_any b2 v2 u2 ns2 ds2 w1 (V2.out.below hb1) (U2.out.below hb1)).mono ?_
  rintro _ w2 ⟨rfl, hb2'⟩
  rw [← HF2.out]
  have hb2 := bthen hb1 hb2'
  clear hb2' x0 x1 x2 y0 y1 y2 z0 z1 z2
  obtain ⟨x0, x1, x2, -, -, -⟩ := row3 (keep_row hb2 R0.out)
  obtain ⟨y0, y1, y2, -, -, -⟩ := row3 (keep_row hb2 R1.out)
  obtain ⟨z0, z1, z2, -, -, -⟩ := row3 (keep_row hb2 R2.out)
  have bb := hbW.trans (hb2.mono hWs)
  cases f2 with
  | false =>
    go_wp2
    go_ret
    exact ⟨rfl, bb⟩
  | true =>
  clear bb
  go_wp2_with fail
  refine (zzFits3_any b3 v3 u3 ns3 ds3 w2 (V3.out.below hb2) (U3.out.below hb2)).mono ?_
  rintro _ w3 ⟨rfl, hb3'⟩
  rw [← HF3.out]
  have hb3 := bthen hb2 hb3'
  clear hb3' x0 x1 x2 y0 y1 y2 z0 z1 z2
  obtain ⟨x0, x1, x2, -, -, -⟩ := row3 (keep_row hb3 R0.out)
  obtain ⟨y0, y1, y2, -, -, -⟩ := row3 (keep_row hb3 R1.out)
  obtain ⟨z0, z1, z2, -, -, -⟩ := row3 (keep_row hb3 R2.out)
  have bb := hbW.trans (hb3.mono hWs)
  cases f3 with
  | false =>
    go_wp2
    go_ret
    exact ⟨rfl, bb⟩
  | true =>
  clear bb
  go_wp2_with fail
  refine (pair_any b1 b2 v1 u1 v2 u2 8 ns1 ds1 ns2 ds2 w3 (V1.out.below hb3) (U1.out.below hb3) (V2.out.below hb3) (U2.out.below hb3) (by decide)).mono ?_
  rintro _ w4 ⟨_, rfl, x, a1, a2, y, c1, c2, ok, rfl, hA1, hA2, hC1, hC2, hb4', hok⟩
  have HOK := Lib.hid hok
  have hb4 := bthen hb3 hb4'
  clear hok hb0 hb1 hb2 hb3 hb4' x0 x1 x2 y0 y1 y2 z0 z1 z2
  go_upto_region 4 with fail
  obtain ⟨X1, hX1⟩ : ∃ X, X = (w4.alloc (.cells #[.bool x, a1, a2] 49)).alloc (.cells #[.bool y, c1, c2] 49) := ⟨_, rfl⟩
  have hbX1 : Below w4.heap.size w4 X1 := by rw [hX1]; exact ((Below.refl _ w4).alloc (Nat.le_refl _) _).alloc (by simp) _
  have g0 : X1.heap[w4.heap.size]? = some (.cells #[.bool x, a1, a2] 49 (0, 0)) := by rw [hX1]; exact keep_row (fbone _) (row_new _ _ _ _ rfl)
  have g1 : X1.heap[w4.heap.size + 1]? = some (.cells #[.bool y, c1, c2] 49 (0, 0)) := by rw [hX1]; exact row_new _ _ _ _ (by simp)
  rw [← hX1]
  have hb5 := bthen hb4 hbX1
  obtain ⟨z0, z1, z2, -, -, -⟩ := row3 (keep_row hb5 R2.out)
  have G0' := Lib.hid g0
  have G1' := Lib.hid g1
  have HX1 := Lib.hid hbX1
  clear hX1 g0 g1 hbX1 hb4
  go_wp2_with fail
  refine (fraction_any b3 v3 u3 8 ns3 ds3 X1 (V3.out.below hb5) (U3.out.below hb5) (by decide)).mono ?_
  rintro _ w6 ⟨_, rfl, bb3, d1, d2, ok3, rfl, hD1, hD2, hb6, hok3⟩
  have HOK3 := Lib.hid hok3
  clear hok3 z0 z1 z2
  go_upto_region 5 with fail
  obtain ⟨X, hX⟩ : ∃ X, X = w6.alloc (.cells #[.bool bb3, d1, d2] 49) := ⟨_, rfl⟩
  have hbX : Below X1.heap.size X1 X := by rw [hX]; exact bthen hb6 (fbone _)
  rw [← hX]
  have hWX := bthen hb5 hbX
  have HWX := Lib.hid hWX
  have S0 := Lib.hid (keep_row hWX R0.out)
  have S1 := Lib.hid (keep_row hWX R1.out)
  have S2 := Lib.hid (keep_row hWX R2.out)
  have G0 := Lib.hid (keep_row hbX G0'.out)
  have G1 := Lib.hid (keep_row hbX G1'.out)
  have hwX : Hid (Below w.heap.size w X) := Lib.hid (hbW.trans (hWX.mono hWs))
  have hXs := hwX.out.size
  have hbX4 := Lib.hid (bthen HX1.out hbX)
  clear hX hb5 hb6 hbX hbW hWX
  cases ok with
  | false =>
    go_wp2
    all_goals
      go_ret
      exact ⟨rfl, hwX.out⟩
  | true =>
  cases ok3 with
  | false =>
    go_wp2
    go_ret
    exact ⟨rfl, hwX.out⟩
  | true =>
  obtain ⟨k1, k2⟩ := HOK.out rfl
  obtain ⟨m1, m2, m3, m4, m5, m6, -, -⟩ := HOK3.out rfl
  have ex := k1.sign
  have ey := k2.sign
  subst ex ey
  have FX := Lib.hid (fq_of (V1.out.below HWX.out) (U1.out.below HWX.out) k1.l1 k1.l2 k1.pos k1.low k1.cop)
  have FY := Lib.hid (fq_of (V2.out.below HWX.out) (U2.out.below HWX.out) k2.l1 k2.l2 k2.pos k2.low k2.cop)
  have FZ := Lib.hid (fq_of (V3.out.below HWX.out) (U3.out.below HWX.out) m2 m3 m4 m5 m6)
  have RX := Lib.hid ((rti_of k1.v1 k1.v2 k1.low k1.cop).below hbX4.out)
  have KX := Lib.hid (KW.out.below HWX.out)
  have DX := Lib.hid (DW.out.below HWX.out)
  have HL := Lib.hid k2.v1.len
  have HN2 : Hid (rI y (wv ns2) = 0 → wv ns2 = 0) := Lib.hid (fun h => by have := rI_abs y (wv ns2); rw [h] at this; simpa using this.symm)
  have HN3 : Hid (wv ns2 = 0 → rI y (wv ns2) = 0) := Lib.hid (fun h => by rw [h]; cases y <;> rfl)
  obtain ⟨n2, hn2⟩ : ∃ n, n = wv ns2 := ⟨_, rfl⟩
  obtain ⟨Vx, hVx⟩ : ∃ V, V = rI x (wv ns1) := ⟨_, rfl⟩
  obtain ⟨Dx, hDx⟩ : ∃ D, D = wv ds1 := ⟨_, rfl⟩
  obtain ⟨Vy, hVy⟩ : ∃ V, V = rI y (wv ns2) := ⟨_, rfl⟩
  obtain ⟨Dy, hDy⟩ : ∃ D, D = wv ds2 := ⟨_, rfl⟩
  obtain ⟨Vz, hVz⟩ : ∃ V, V = rI b3 (wv ns3) := ⟨_, rfl⟩
  obtain ⟨Dz, hDz⟩ : ∃ D, D = wv ds3 := ⟨_, rfl⟩
  rw [← hVx, ← hDx] at FX RX
  rw [← hVy] at HN2 HN3
  rw [← hVy, ← hDy] at FY
  rw [← hVz, ← hDz] at FZ
  rw [← hn2] at HN2 HN3 HL
  clear hVx hVy hVz hDx hDy hDz hn2 k1 k2 m1 m2 m3 m4 m5 m6 HOK HOK3 KW DW V1 U1 V2 U2 V3 U3
  have hcc := Below.refl X.heap.size X
  obtain ⟨i0, i1, i2, -, -, -⟩ := row3 S0.out
  obtain ⟨j0, j1, j2, -, -, -⟩ := row3 S1.out
  have HA1 : Hid (∀ w', Below X.heap.size X w' → Calls Tryz.prog 35 #[.agg #[.bool x, v1, u1], .agg #[.bool y, v2, u2]] w' fun e w5 => FA e w' w5 (Vx * Dy + Vy * Dx) (Dx * Dy) 17 16) := Lib.hid (fun w' h => addA (FX.out.below h) (FY.out.below h) (by decide) (KX.out.below h) (DX.out.below h))
  have HM1 : Hid (∀ w', Below X.heap.size X w' → Calls Tryz.prog 36 #[.agg #[.bool x, v1, u1], .agg #[.bool y, v2, u2]] w' fun e w5 => FA e w' w5 (Vx * Vy) (Dx * Dy) 16 16) := Lib.hid (fun w' h => mulA (FX.out.below h) (FY.out.below h) (by decide) (KX.out.below h) (DX.out.below h))
  have hle0 : X.heap.size ≤ X.heap.size := Nat.le_refl _
  have hle1 : X.heap.size ≤ X.heap.size + 1 := Nat.le_succ _
  go_upto_region 7 with fail
  go_cut [12, 13] (fun s12 s13 wx => ∃ (g h : Nat) (s1 s2 : Bool) (sa sb pa pb : Value), s12 = .pointer (some ⟨g, 0, none⟩) ∧ s13 = .pointer (some ⟨h, 0, none⟩) ∧ TwoF X wx s1 s2 sa sb pa pb (Vx * Dy + Vy * Dx) (Dx * Dy) 17 16 (Vx * Vy) (Dx * Dy) 16 16 g h)
  case first =>
    (go_region_held3 (fun w' => Below X.heap.size X w' ∧ (w'.cell? ⟨w.heap.size, 0, none⟩ = some (.bool x) ∧ w'.cell? ⟨w.heap.size, 1, none⟩ = some (v1) ∧ w'.cell? ⟨w.heap.size, 2, none⟩ = some (u1)) ∧ w'.cell? ⟨w.heap.size + 1, 0, none⟩ = some (.bool y) ∧ w'.cell? ⟨w.heap.size + 1, 1, none⟩ = some (v2) ∧ w'.cell? ⟨w.heap.size + 1, 2, none⟩ = some (u2))
          ((refine ks6Q S0.out S1.out ?_; repeat (with_reducible first | assumption | refine Below.drew ?_ | refine ballc ?_ _ | refine bset3 ?_ ?_)))
          (first
            | (go_at_call 36; (with_reducible refine (HM1.out _ (by repeat (with_reducible first | assumption | refine Below.drew ?_ | refine ballc ?_ _))).mono ?_); rintro _ w9 ⟨s2, pa, pb, rfl, hTp, hTq, hfp, hb9⟩; have hbw9 : Below X.heap.size X w9 := bthen (by repeat (with_reducible first | assumption | refine Below.drew ?_ | refine ballc ?_ _)) hb9; have hz9 := hbw9.size; have hz9' : X.heap.size ≤ w9.heap.size + 1 := Nat.le_succ_of_le hz9; have hfs9 : FQ w9 (.agg #[.bool s1, sa, sb]) (Vx * Dy + Vy * Dx) (Dx * Dy) 17 16 := (by first | exact hfs.below hb9 | exact (hfs.below (fbone _)).below hb9 | exact ((hfs.below (fbone _)).below (fbone _)).below hb9);
                (first | (have hrP := box_row hb9; (try simp only [alz] at hrP); have hlP := (Array.getElem?_eq_some_iff.1 hrP).1; obtain ⟨p0, p1, p2, p3, p4, p5⟩ := row3 hrP) | skip);
                (first | (have hrQ := keep_row hb9 (keep_row (w := w8.alloc _) (fbone _) (heap_alloc_new w8 _)); have hlQ := (Array.getElem?_eq_some_iff.1 hrQ).1; obtain ⟨q0, q1, q2, q3, q4, q5⟩ := row3 hrQ) | skip);
                (first | (have hrU2 := keep_row hb9 hrU; have hlU := (Array.getElem?_eq_some_iff.1 hrU2).1; obtain ⟨k0, k1, k2, k3, k4, k5⟩ := row3 hrU2) | (have hrU2 := keep_row hb9 (keep_row (fbone _) hrU); have hlU := (Array.getElem?_eq_some_iff.1 hrU2).1; obtain ⟨k0, k1, k2, k3, k4, k5⟩ := row3 hrU2) | skip);
                (first | (have hrV2 := keep_row hb9 hrV; have hlV := (Array.getElem?_eq_some_iff.1 hrV2).1; obtain ⟨l0, l1, l2, l3, l4, l5⟩ := row3 hrV2) | skip))
            | (go_at_call 35; (with_reducible refine (HA1.out _ (by repeat (with_reducible first | assumption | refine Below.drew ?_ | refine ballc ?_ _))).mono ?_); rintro _ w8 ⟨s1, sa, sb, rfl, hTa, hTb, hfs, hb8⟩; have hbw8 : Below X.heap.size X w8 := bthen (by repeat (with_reducible first | assumption | refine Below.drew ?_ | refine ballc ?_ _)) hb8; have hz8 := hbw8.size; have hz8' : X.heap.size ≤ w8.heap.size + 1 := Nat.le_succ_of_le hz8;
                (first | (have hrU := box_rowD hb8; (try simp only [alz] at hrU); have hlU0 := (Array.getElem?_eq_some_iff.1 hrU).1; have nU1 : X.heap.size ≠ w8.heap.size := (fun hc => by omega); have nU2 : w8.heap.size ≠ X.heap.size := (fun hc => by omega)) | skip);
                (first | (have hrV := box_row2D hb8) | skip))))
    all_goals
      go_wp2_with fail
      go_meet
      first
        | with_reducible exact ⟨_, _, _, _, _, _, _, _, rfl, rfl, twoF0 hbw9 hfs9 hfp⟩
        | with_reducible exact ⟨_, _, _, _, _, _, _, _, rfl, rfl, twoF0' hbw9 hfs9 hfp⟩
        | with_reducible exact ⟨_, _, _, _, _, _, _, _, rfl, rfl, twoF1 hbw9 hfs9 hfp (by assumption) (by assumption)⟩
        | with_reducible exact ⟨_, _, _, _, _, _, _, _, rfl, rfl, twoF1' hbw9 hfs9 hfp (by assumption) (by assumption)⟩
        | with_reducible exact ⟨_, _, _, _, _, _, _, _, rfl, rfl, twoF2 hbw9 hfs9 hfp (by assumption) (by assumption) (by assumption) (by assumption) (fun hc => by omega)⟩
  case rest =>
    obtain ⟨g, h, s1, s2, sa, sb, pa, pb, rfl, rfl, hgh, hgX, hhX, hrg, hrh, hfs, hfp, hbY⟩ := hcut
    have hYs := hbY.size
    obtain ⟨hTs1, hTs2⟩ := hfs.isS
    obtain ⟨hTp1, hTp2⟩ := hfp.isS
    have T0 := Lib.hid (keep_row hbY S0.out)
    have T1 := Lib.hid (keep_row hbY S1.out)
    have T2 := Lib.hid (keep_row hbY S2.out)
    have T3 := Lib.hid (keep_row hbY G0.out)
    have T4 := Lib.hid (keep_row hbY G1.out)
    have T5 := Lib.hid hrg
    have T6 := Lib.hid hrh
    have FXy := Lib.hid (FX.out.below hbY)
    have FYy := Lib.hid (FY.out.below hbY)
    have FZy := Lib.hid (FZ.out.below hbY)
    have FSy := Lib.hid hfs
    have FPy := Lib.hid hfp
    have RXy := Lib.hid (RX.out.below hbY)
    have KY := Lib.hid (KX.out.below hbY)
    have DY := Lib.hid (DX.out.below hbY)
    have hwY := Lib.hid (hwX.out.trans (hbY.mono hXs))
    have hwYs : w.heap.size ≤ wc.heap.size := hwY.out.size
    have px : 0 < Dx := FX.out.pos
    have py : 0 < Dy := FY.out.pos
    have pz : 0 < Dz := FZ.out.pos
    clear S0 S1 S2 G0 G1 hrg hrh FX FY FZ hfs hfp RX KX DX hwX hbY HA1 HM1 hcc hle0 hle1 i0 i1 i2 j0 j1 j2 hXs hYs hWs HWX hbX4 R0 R1 R2 G0' G1' HX1 hgX hhX
    have hcc := Below.refl wc.heap.size wc
    have H8A : Hid (∀ (w' : World), Below wc.heap.size wc w' → Calls Tryz.prog 35 #[.agg #[.bool y, v2, u2], .agg #[.bool x, v1, u1]] w' fun e w5 => FA e w' w5 (Vy * Dx + Vx * Dy) (Dy * Dx) 17 16) := Lib.hid (fun w' hw => addA (FYy.out.below hw) (FXy.out.below hw) (by decide) (KY.out.below hw) (DY.out.below hw))
    have H8B : Hid (∀ (w' : World) (tA : Value), Below wc.heap.size wc w' → FQ w' tA (Vy * Dx + Vx * Dy) (Dy * Dx) 17 16 → Calls Tryz.prog 37 #[.agg #[.bool s1, sa, sb], tA] w' fun e w5 => e = .returned (.bool true) ∧ Below w'.heap.size w' w5) := Lib.hid (fun w' tA hw fA => alikeQ (FSy.out.below hw) fA (by push_cast; grind) (by decide) (by decide))
    have H8C : Hid (∀ (w' : World), Below wc.heap.size wc w' → Calls Tryz.prog 36 #[.agg #[.bool y, v2, u2], .agg #[.bool x, v1, u1]] w' fun e w5 => FA e w' w5 (Vy * Vx) (Dy * Dx) 16 16) := Lib.hid (fun w' hw => mulA (FYy.out.below hw) (FXy.out.below hw) (by decide) (KY.out.below hw) (DY.out.below hw))
    have H8D : Hid (∀ (w' : World) (tC : Value), Below wc.heap.size wc w' → FQ w' tC (Vy * Vx) (Dy * Dx) 16 16 → Calls Tryz.prog 37 #[.agg #[.bool s2, pa, pb], tC] w' fun e w5 => e = .returned (.bool true) ∧ Below w'.heap.size w' w5) := Lib.hid (fun w' tC hw fC => alikeQ (FPy.out.below hw) fC (by push_cast; grind) (by decide) (by decide))
    obtain ⟨r0a, r0b, r0c, -, -, -⟩ := row3 (keep_row hcc T0.out)
    obtain ⟨r1a, r1b, r1c, -, -, -⟩ := row3 (keep_row hcc T1.out)
    obtain ⟨r2a, r2b, r2c, -, -, -⟩ := row3 (keep_row hcc T2.out)
    obtain ⟨r3a, r3b, r3c, -, -, -⟩ := row3 (keep_row hcc T3.out)
    obtain ⟨r4a, r4b, r4c, -, -, -⟩ := row3 (keep_row hcc T4.out)
    obtain ⟨r5a, r5b, r5c, -, -, -⟩ := row3 (keep_row hcc T5.out)
    obtain ⟨r6a, r6b, r6c, -, -, -⟩ := row3 (keep_row hcc T6.out)
    go_upto_region 8 with fail
    (go_region_held3 (fun w' => Below wc.heap.size wc w' ∧ (w'.cell? ⟨w.heap.size, 0, none⟩ = some (.bool x) ∧ w'.cell? ⟨w.heap.size, 1, none⟩ = some (v1) ∧ w'.cell? ⟨w.heap.size, 2, none⟩ = some (u1)) ∧ (w'.cell? ⟨w.heap.size + 1, 0, none⟩ = some (.bool y) ∧ w'.cell? ⟨w.heap.size + 1, 1, none⟩ = some (v2) ∧ w'.cell? ⟨w.heap.size + 1, 2, none⟩ = some (u2)) ∧ (w'.cell? ⟨w.heap.size + 1 + 1, 0, none⟩ = some (.bool b3) ∧ w'.cell? ⟨w.heap.size + 1 + 1, 1, none⟩ = some (v3) ∧ w'.cell? ⟨w.heap.size + 1 + 1, 2, none⟩ = some (u3)) ∧ (w'.cell? ⟨w4.heap.size, 0, none⟩ = some (.bool x) ∧ w'.cell? ⟨w4.heap.size, 1, none⟩ = some (a1) ∧ w'.cell? ⟨w4.heap.size, 2, none⟩ = some (a2)) ∧ (w'.cell? ⟨w4.heap.size + 1, 0, none⟩ = some (.bool y) ∧ w'.cell? ⟨w4.heap.size + 1, 1, none⟩ = some (c1) ∧ w'.cell? ⟨w4.heap.size + 1, 2, none⟩ = some (c2)) ∧ (w'.cell? ⟨g, 0, none⟩ = some (.bool s1) ∧ w'.cell? ⟨g, 1, none⟩ = some (sa) ∧ w'.cell? ⟨g, 2, none⟩ = some (sb)) ∧ w'.cell? ⟨h, 0, none⟩ = some (.bool s2) ∧ w'.cell? ⟨h, 1, none⟩ = some (pa) ∧ w'.cell? ⟨h, 2, none⟩ = some (pb))
        ((refine ks21 T0.out T1.out T2.out T3.out T4.out T5.out T6.out ?_; with_reducible first | assumption | exact Below.drew hcc))
        (first
          | (go_at_call 37; (with_reducible refine (H8D.out _ _ hb8C F8C_C.out).mono ?_); rintro _ w8D ⟨rfl, hcD⟩; have hb8D := bthen hb8C hcD; have F8A_D := Lib.hid (F8A_C.out.below hcD); have F8C_D := Lib.hid (F8C_C.out.below hcD))
          | (go_at_call 36; (with_reducible refine (H8C.out _ hb8B).mono ?_); rintro _ w8C ⟨qC, qaC, qbC, rfl, hiC, hjC, hfC, hcC⟩; have hb8C := bthen hb8B hcC; have F8C_C := Lib.hid hfC; have F8A_C := Lib.hid (F8A_B.out.below hcC))
          | (go_at_call 37; (with_reducible refine (H8B.out _ _ hb8A F8A_A.out).mono ?_); rintro _ w8B ⟨rfl, hcB⟩; have hb8B := bthen hb8A hcB; have F8A_B := Lib.hid (F8A_A.out.below hcB))
          | (go_at_call 35; (with_reducible refine (H8A.out _ (And.left (by assumption))).mono ?_); rintro _ w8A ⟨qA, qaA, qbA, rfl, hiA, hjA, hfA, hcA⟩; have hb8A := bthen (And.left (by assumption)) hcA; have F8A_A := Lib.hid hfA)))
    clear r0a r0b r0c r1a r1b r1c r2a r2b r2c r3a r3b r3c r4a r4b r4c r5a r5b r5c r6a r6b r6c H8A H8B H8C H8D
    clear hcc
    have hcc := hb8D
    have H10E : Hid (∀ (w' : World), Below wc.heap.size wc w' → Calls Tryz.prog 35 #[.agg #[.bool s1, sa, sb], .agg #[.bool b3, v3, u3]] w' fun e w5 => FA e w' w5 ((Vx * Dy + Vy * Dx) * Dz + Vz * (((Dx * Dy) : Nat) : Int)) ((Dx * Dy) * Dz) 26 24) := Lib.hid (fun w' hw => addA (FSy.out.below hw) (FZy.out.below hw) (by decide) (KY.out.below hw) (DY.out.below hw))
    have H10F : Hid (∀ (w' : World), Below wc.heap.size wc w' → Calls Tryz.prog 35 #[.agg #[.bool y, v2, u2], .agg #[.bool b3, v3, u3]] w' fun e w5 => FA e w' w5 (Vy * Dz + Vz * Dy) (Dy * Dz) 17 16) := Lib.hid (fun w' hw => addA (FYy.out.below hw) (FZy.out.below hw) (by decide) (KY.out.below hw) (DY.out.below hw))
    have H10G : Hid (∀ (w' : World) (tF : Value), Below wc.heap.size wc w' → FQ w' tF (Vy * Dz + Vz * Dy) (Dy * Dz) 17 16 → Calls Tryz.prog 35 #[.agg #[.bool x, v1, u1], tF] w' fun e w5 => FA e w' w5 (Vx * (((Dy * Dz) : Nat) : Int) + (Vy * Dz + Vz * Dy) * Dx) (Dx * (Dy * Dz)) 26 24) := Lib.hid (fun w' tF hw fF => addA (FXy.out.below hw) fF (by decide) (KY.out.below hw) (DY.out.below hw))
    have H10H : Hid (∀ (w' : World) (tE : Value) (tG : Value), Below wc.heap.size wc w' → FQ w' tE ((Vx * Dy + Vy * Dx) * Dz + Vz * (((Dx * Dy) : Nat) : Int)) ((Dx * Dy) * Dz) 26 24 → FQ w' tG (Vx * (((Dy * Dz) : Nat) : Int) + (Vy * Dz + Vz * Dy) * Dx) (Dx * (Dy * Dz)) 26 24 → Calls Tryz.prog 37 #[tE, tG] w' fun e w5 => e = .returned (.bool true) ∧ Below w'.heap.size w' w5) := Lib.hid (fun w' tE tG hw fE fG => alikeQ fE fG (by push_cast; grind) (by decide) (by decide))
    have H10I : Hid (∀ (w' : World), Below wc.heap.size wc w' → Calls Tryz.prog 36 #[.agg #[.bool s2, pa, pb], .agg #[.bool b3, v3, u3]] w' fun e w5 => FA e w' w5 ((Vx * Vy) * Vz) ((Dx * Dy) * Dz) 24 24) := Lib.hid (fun w' hw => mulA (FPy.out.below hw) (FZy.out.below hw) (by decide) (KY.out.below hw) (DY.out.below hw))
    have H10J : Hid (∀ (w' : World), Below wc.heap.size wc w' → Calls Tryz.prog 36 #[.agg #[.bool y, v2, u2], .agg #[.bool b3, v3, u3]] w' fun e w5 => FA e w' w5 (Vy * Vz) (Dy * Dz) 16 16) := Lib.hid (fun w' hw => mulA (FYy.out.below hw) (FZy.out.below hw) (by decide) (KY.out.below hw) (DY.out.below hw))
    have H10K : Hid (∀ (w' : World) (tJ : Value), Below wc.heap.size wc w' → FQ w' tJ (Vy * Vz) (Dy * Dz) 16 16 → Calls Tryz.prog 36 #[.agg #[.bool x, v1, u1], tJ] w' fun e w5 => FA e w' w5 (Vx * (Vy * Vz)) (Dx * (Dy * Dz)) 24 24) := Lib.hid (fun w' tJ hw fJ => mulA (FXy.out.below hw) fJ (by decide) (KY.out.below hw) (DY.out.below hw))
    have H10L : Hid (∀ (w' : World) (tI : Value) (tK : Value), Below wc.heap.size wc w' → FQ w' tI ((Vx * Vy) * Vz) ((Dx * Dy) * Dz) 24 24 → FQ w' tK (Vx * (Vy * Vz)) (Dx * (Dy * Dz)) 24 24 → Calls Tryz.prog 37 #[tI, tK] w' fun e w5 => e = .returned (.bool true) ∧ Below w'.heap.size w' w5) := Lib.hid (fun w' tI tK hw fI fK => alikeQ fI fK (by push_cast; grind) (by decide) (by decide))
    obtain ⟨r0a, r0b, r0c, -, -, -⟩ := row3 (keep_row hcc T0.out)
    obtain ⟨r1a, r1b, r1c, -, -, -⟩ := row3 (keep_row hcc T1.out)
    obtain ⟨r2a, r2b, r2c, -, -, -⟩ := row3 (keep_row hcc T2.out)
    obtain ⟨r3a, r3b, r3c, -, -, -⟩ := row3 (keep_row hcc T3.out)
    obtain ⟨r4a, r4b, r4c, -, -, -⟩ := row3 (keep_row hcc T4.out)
    obtain ⟨r5a, r5b, r5c, -, -, -⟩ := row3 (keep_row hcc T5.out)
    obtain ⟨r6a, r6b, r6c, -, -, -⟩ := row3 (keep_row hcc T6.out)
    go_upto_region 10 with fail
    (go_region_held3 (fun w' => Below wc.heap.size wc w' ∧ (w'.cell? ⟨w.heap.size, 0, none⟩ = some (.bool x) ∧ w'.cell? ⟨w.heap.size, 1, none⟩ = some (v1) ∧ w'.cell? ⟨w.heap.size, 2, none⟩ = some (u1)) ∧ (w'.cell? ⟨w.heap.size + 1, 0, none⟩ = some (.bool y) ∧ w'.cell? ⟨w.heap.size + 1, 1, none⟩ = some (v2) ∧ w'.cell? ⟨w.heap.size + 1, 2, none⟩ = some (u2)) ∧ (w'.cell? ⟨w.heap.size + 1 + 1, 0, none⟩ = some (.bool b3) ∧ w'.cell? ⟨w.heap.size + 1 + 1, 1, none⟩ = some (v3) ∧ w'.cell? ⟨w.heap.size + 1 + 1, 2, none⟩ = some (u3)) ∧ (w'.cell? ⟨w4.heap.size, 0, none⟩ = some (.bool x) ∧ w'.cell? ⟨w4.heap.size, 1, none⟩ = some (a1) ∧ w'.cell? ⟨w4.heap.size, 2, none⟩ = some (a2)) ∧ (w'.cell? ⟨w4.heap.size + 1, 0, none⟩ = some (.bool y) ∧ w'.cell? ⟨w4.heap.size + 1, 1, none⟩ = some (c1) ∧ w'.cell? ⟨w4.heap.size + 1, 2, none⟩ = some (c2)) ∧ (w'.cell? ⟨g, 0, none⟩ = some (.bool s1) ∧ w'.cell? ⟨g, 1, none⟩ = some (sa) ∧ w'.cell? ⟨g, 2, none⟩ = some (sb)) ∧ w'.cell? ⟨h, 0, none⟩ = some (.bool s2) ∧ w'.cell? ⟨h, 1, none⟩ = some (pa) ∧ w'.cell? ⟨h, 2, none⟩ = some (pb))
        ((refine ks21 T0.out T1.out T2.out T3.out T4.out T5.out T6.out ?_; with_reducible first | assumption | exact Below.drew hcc))
        (first
          | (go_at_call 37; (with_reducible refine (H10L.out _ _ _ hb10K F10I_K.out F10K_K.out).mono ?_); rintro _ w10L ⟨rfl, hcL⟩; have hb10L := bthen hb10K hcL; have F10E_L := Lib.hid (F10E_K.out.below hcL); have F10F_L := Lib.hid (F10F_K.out.below hcL); have F10G_L := Lib.hid (F10G_K.out.below hcL); have F10I_L := Lib.hid (F10I_K.out.below hcL); have F10J_L := Lib.hid (F10J_K.out.below hcL); have F10K_L := Lib.hid (F10K_K.out.below hcL))
          | (go_at_call 36; (with_reducible refine (H10K.out _ _ hb10J F10J_J.out).mono ?_); rintro _ w10K ⟨qK, qaK, qbK, rfl, hiK, hjK, hfK, hcK⟩; have hb10K := bthen hb10J hcK; have F10K_K := Lib.hid hfK; have F10E_K := Lib.hid (F10E_J.out.below hcK); have F10F_K := Lib.hid (F10F_J.out.below hcK); have F10G_K := Lib.hid (F10G_J.out.below hcK); have F10I_K := Lib.hid (F10I_J.out.below hcK); have F10J_K := Lib.hid (F10J_J.out.below hcK))
          | (go_at_call 36; (with_reducible refine (H10J.out _ hb10I).mono ?_); rintro _ w10J ⟨qJ, qaJ, qbJ, rfl, hiJ, hjJ, hfJ, hcJ⟩; have hb10J := bthen hb10I hcJ; have F10J_J := Lib.hid hfJ; have F10E_J := Lib.hid (F10E_I.out.below hcJ); have F10F_J := Lib.hid (F10F_I.out.below hcJ); have F10G_J := Lib.hid (F10G_I.out.below hcJ); have F10I_J := Lib.hid (F10I_I.out.below hcJ))
          | (go_at_call 36; (with_reducible refine (H10I.out _ hb10H).mono ?_); rintro _ w10I ⟨qI, qaI, qbI, rfl, hiI, hjI, hfI, hcI⟩; have hb10I := bthen hb10H hcI; have F10I_I := Lib.hid hfI; have F10E_I := Lib.hid (F10E_H.out.below hcI); have F10F_I := Lib.hid (F10F_H.out.below hcI); have F10G_I := Lib.hid (F10G_H.out.below hcI))
          | (go_at_call 37; (with_reducible refine (H10H.out _ _ _ hb10G F10E_G.out F10G_G.out).mono ?_); rintro _ w10H ⟨rfl, hcH⟩; have hb10H := bthen hb10G hcH; have F10E_H := Lib.hid (F10E_G.out.below hcH); have F10F_H := Lib.hid (F10F_G.out.below hcH); have F10G_H := Lib.hid (F10G_G.out.below hcH))
          | (go_at_call 35; (with_reducible refine (H10G.out _ _ hb10F F10F_F.out).mono ?_); rintro _ w10G ⟨qG, qaG, qbG, rfl, hiG, hjG, hfG, hcG⟩; have hb10G := bthen hb10F hcG; have F10G_G := Lib.hid hfG; have F10E_G := Lib.hid (F10E_F.out.below hcG); have F10F_G := Lib.hid (F10F_F.out.below hcG))
          | (go_at_call 35; (with_reducible refine (H10F.out _ hb10E).mono ?_); rintro _ w10F ⟨qF, qaF, qbF, rfl, hiF, hjF, hfF, hcF⟩; have hb10F := bthen hb10E hcF; have F10F_F := Lib.hid hfF; have F10E_F := Lib.hid (F10E_E.out.below hcF))
          | (go_at_call 35; (with_reducible refine (H10E.out _ (And.left (by assumption))).mono ?_); rintro _ w10E ⟨qE, qaE, qbE, rfl, hiE, hjE, hfE, hcE⟩; have hb10E := bthen (And.left (by assumption)) hcE; have F10E_E := Lib.hid hfE)))
    clear r0a r0b r0c r1a r1b r1c r2a r2b r2c r3a r3b r3c r4a r4b r4c r5a r5b r5c r6a r6b r6c H10E H10F H10G H10H H10I H10J H10K H10L
    clear hcc
    have hcc := hb10L
    have H12M : Hid (∀ (w' : World), Below wc.heap.size wc w' → Calls Tryz.prog 36 #[.agg #[.bool s1, sa, sb], .agg #[.bool b3, v3, u3]] w' fun e w5 => FA e w' w5 ((Vx * Dy + Vy * Dx) * Vz) ((Dx * Dy) * Dz) 25 24) := Lib.hid (fun w' hw => mulA (FSy.out.below hw) (FZy.out.below hw) (by decide) (KY.out.below hw) (DY.out.below hw))
    have H12N : Hid (∀ (w' : World), Below wc.heap.size wc w' → Calls Tryz.prog 36 #[.agg #[.bool x, v1, u1], .agg #[.bool b3, v3, u3]] w' fun e w5 => FA e w' w5 (Vx * Vz) (Dx * Dz) 16 16) := Lib.hid (fun w' hw => mulA (FXy.out.below hw) (FZy.out.below hw) (by decide) (KY.out.below hw) (DY.out.below hw))
    have H12O : Hid (∀ (w' : World), Below wc.heap.size wc w' → Calls Tryz.prog 36 #[.agg #[.bool y, v2, u2], .agg #[.bool b3, v3, u3]] w' fun e w5 => FA e w' w5 (Vy * Vz) (Dy * Dz) 16 16) := Lib.hid (fun w' hw => mulA (FYy.out.below hw) (FZy.out.below hw) (by decide) (KY.out.below hw) (DY.out.below hw))
    have H12P : Hid (∀ (w' : World) (tN : Value) (tO : Value), Below wc.heap.size wc w' → FQ w' tN (Vx * Vz) (Dx * Dz) 16 16 → FQ w' tO (Vy * Vz) (Dy * Dz) 16 16 → Calls Tryz.prog 35 #[tN, tO] w' fun e w5 => FA e w' w5 ((Vx * Vz) * (((Dy * Dz) : Nat) : Int) + (Vy * Vz) * (((Dx * Dz) : Nat) : Int)) ((Dx * Dz) * (Dy * Dz)) 33 32) := Lib.hid (fun w' tN tO hw fN fO => addA fN fO (by decide) (KY.out.below hw) (DY.out.below hw))
    have H12Q : Hid (∀ (w' : World) (tM : Value) (tP : Value), Below wc.heap.size wc w' → FQ w' tM ((Vx * Dy + Vy * Dx) * Vz) ((Dx * Dy) * Dz) 25 24 → FQ w' tP ((Vx * Vz) * (((Dy * Dz) : Nat) : Int) + (Vy * Vz) * (((Dx * Dz) : Nat) : Int)) ((Dx * Dz) * (Dy * Dz)) 33 32 → Calls Tryz.prog 37 #[tM, tP] w' fun e w5 => e = .returned (.bool true) ∧ Below w'.heap.size w' w5) := Lib.hid (fun w' tM tP hw fM fP => alikeQ fM fP (by push_cast; grind) (by decide) (by decide))
    have H12R : Hid (∀ (w' : World), Below wc.heap.size wc w' → Calls Tryz.prog 38 #[.agg #[.bool s1, sa, sb], .agg #[.bool y, v2, u2]] w' fun e w5 => FA e w' w5 ((Vx * Dy + Vy * Dx) * Dy - Vy * (((Dx * Dy) : Nat) : Int)) ((Dx * Dy) * Dy) 26 24) := Lib.hid (fun w' hw => subA (FSy.out.below hw) (FYy.out.below hw) (by decide) (KY.out.below hw) (DY.out.below hw))
    have H12T : Hid (∀ (w' : World) (tR : Value), Below wc.heap.size wc w' → FQ w' tR ((Vx * Dy + Vy * Dx) * Dy - Vy * (((Dx * Dy) : Nat) : Int)) ((Dx * Dy) * Dy) 26 24 → Calls Tryz.prog 25 #[tR, .agg #[.bool x, a1, a2]] w' fun e w5 => e = .returned (.bool true) ∧ Below w'.heap.size w' w5) := Lib.hid (fun w' tR hw fR => isFracQ fR (RXy.out.below hw) px (by push_cast; grind) (by decide) (by decide))
    obtain ⟨r0a, r0b, r0c, -, -, -⟩ := row3 (keep_row hcc T0.out)
    obtain ⟨r1a, r1b, r1c, -, -, -⟩ := row3 (keep_row hcc T1.out)
    obtain ⟨r2a, r2b, r2c, -, -, -⟩ := row3 (keep_row hcc T2.out)
    obtain ⟨r3a, r3b, r3c, -, -, -⟩ := row3 (keep_row hcc T3.out)
    obtain ⟨r4a, r4b, r4c, -, -, -⟩ := row3 (keep_row hcc T4.out)
    obtain ⟨r5a, r5b, r5c, -, -, -⟩ := row3 (keep_row hcc T5.out)
    obtain ⟨r6a, r6b, r6c, -, -, -⟩ := row3 (keep_row hcc T6.out)
    go_upto_region 12 with fail
    (go_region_held3 (fun w' => Below wc.heap.size wc w' ∧ (w'.cell? ⟨w.heap.size, 0, none⟩ = some (.bool x) ∧ w'.cell? ⟨w.heap.size, 1, none⟩ = some (v1) ∧ w'.cell? ⟨w.heap.size, 2, none⟩ = some (u1)) ∧ (w'.cell? ⟨w.heap.size + 1, 0, none⟩ = some (.bool y) ∧ w'.cell? ⟨w.heap.size + 1, 1, none⟩ = some (v2) ∧ w'.cell? ⟨w.heap.size + 1, 2, none⟩ = some (u2)) ∧ (w'.cell? ⟨w.heap.size + 1 + 1, 0, none⟩ = some (.bool b3) ∧ w'.cell? ⟨w.heap.size + 1 + 1, 1, none⟩ = some (v3) ∧ w'.cell? ⟨w.heap.size + 1 + 1, 2, none⟩ = some (u3)) ∧ (w'.cell? ⟨w4.heap.size, 0, none⟩ = some (.bool x) ∧ w'.cell? ⟨w4.heap.size, 1, none⟩ = some (a1) ∧ w'.cell? ⟨w4.heap.size, 2, none⟩ = some (a2)) ∧ (w'.cell? ⟨w4.heap.size + 1, 0, none⟩ = some (.bool y) ∧ w'.cell? ⟨w4.heap.size + 1, 1, none⟩ = some (c1) ∧ w'.cell? ⟨w4.heap.size + 1, 2, none⟩ = some (c2)) ∧ (w'.cell? ⟨g, 0, none⟩ = some (.bool s1) ∧ w'.cell? ⟨g, 1, none⟩ = some (sa) ∧ w'.cell? ⟨g, 2, none⟩ = some (sb)) ∧ w'.cell? ⟨h, 0, none⟩ = some (.bool s2) ∧ w'.cell? ⟨h, 1, none⟩ = some (pa) ∧ w'.cell? ⟨h, 2, none⟩ = some (pb))
        ((refine ks21 T0.out T1.out T2.out T3.out T4.out T5.out T6.out ?_; with_reducible first | assumption | exact Below.drew hcc))
        (first
          | (go_at_call 25; (with_reducible refine (H12T.out _ _ hb12R F12R_R.out).mono ?_); rintro _ w12T ⟨rfl, hcT⟩; have hb12T := bthen hb12R hcT; have F12M_T := Lib.hid (F12M_R.out.below hcT); have F12N_T := Lib.hid (F12N_R.out.below hcT); have F12O_T := Lib.hid (F12O_R.out.below hcT); have F12P_T := Lib.hid (F12P_R.out.below hcT); have F12R_T := Lib.hid (F12R_R.out.below hcT))
          | (go_at_call 38; (with_reducible refine (H12R.out _ hb12Q).mono ?_); rintro _ w12R ⟨qR, qaR, qbR, rfl, hiR, hjR, hfR, hcR⟩; have hb12R := bthen hb12Q hcR; have F12R_R := Lib.hid hfR; have F12M_R := Lib.hid (F12M_Q.out.below hcR); have F12N_R := Lib.hid (F12N_Q.out.below hcR); have F12O_R := Lib.hid (F12O_Q.out.below hcR); have F12P_R := Lib.hid (F12P_Q.out.below hcR))
          | (go_at_call 37; (with_reducible refine (H12Q.out _ _ _ hb12P F12M_P.out F12P_P.out).mono ?_); rintro _ w12Q ⟨rfl, hcQ⟩; have hb12Q := bthen hb12P hcQ; have F12M_Q := Lib.hid (F12M_P.out.below hcQ); have F12N_Q := Lib.hid (F12N_P.out.below hcQ); have F12O_Q := Lib.hid (F12O_P.out.below hcQ); have F12P_Q := Lib.hid (F12P_P.out.below hcQ))
          | (go_at_call 35; (with_reducible refine (H12P.out _ _ _ hb12O F12N_O.out F12O_O.out).mono ?_); rintro _ w12P ⟨qP, qaP, qbP, rfl, hiP, hjP, hfP, hcP⟩; have hb12P := bthen hb12O hcP; have F12P_P := Lib.hid hfP; have F12M_P := Lib.hid (F12M_O.out.below hcP); have F12N_P := Lib.hid (F12N_O.out.below hcP); have F12O_P := Lib.hid (F12O_O.out.below hcP))
          | (go_at_call 36; (with_reducible refine (H12O.out _ hb12N).mono ?_); rintro _ w12O ⟨qO, qaO, qbO, rfl, hiO, hjO, hfO, hcO⟩; have hb12O := bthen hb12N hcO; have F12O_O := Lib.hid hfO; have F12M_O := Lib.hid (F12M_N.out.below hcO); have F12N_O := Lib.hid (F12N_N.out.below hcO))
          | (go_at_call 36; (with_reducible refine (H12N.out _ hb12M).mono ?_); rintro _ w12N ⟨qN, qaN, qbN, rfl, hiN, hjN, hfN, hcN⟩; have hb12N := bthen hb12M hcN; have F12N_N := Lib.hid hfN; have F12M_N := Lib.hid (F12M_M.out.below hcN))
          | (go_at_call 36; (with_reducible refine (H12M.out _ (And.left (by assumption))).mono ?_); rintro _ w12M ⟨qM, qaM, qbM, rfl, hiM, hjM, hfM, hcM⟩; have hb12M := bthen (And.left (by assumption)) hcM; have F12M_M := Lib.hid hfM)))
    clear r0a r0b r0c r1a r1b r1c r2a r2b r2c r3a r3b r3c r4a r4b r4c r5a r5b r5c r6a r6b r6c H12M H12N H12O H12P H12Q H12R H12T
    clear hcc
    have hcc := hb12T
    obtain ⟨r4a, r4b, r4c, -, -, -⟩ := row3 (keep_row hcc T4.out)
    have HQ : Hid (∀ (w' : World), Below wc.heap.size wc w' → Vy ≠ 0 → Calls Tryz.prog 40 #[.agg #[.bool s2, pa, pb], .agg #[.bool y, v2, u2]] w' fun e w5 => ∃ s a b, e = .returned (.tuple #[.agg #[.bool s, a, b], .int .i64 0]) ∧ IsS a ∧ IsS b ∧ FQ w5 (.agg #[.bool s, a, b]) Vx Dx 8 8 ∧ Below w'.heap.size w' w5) := Lib.hid (fun w' hw h0 => by
      refine (quoQ (FPy.out.below hw) (FYy.out.below hw) h0 (by decide) (KY.out.below hw) (DY.out.below hw) px (V := Vx) (D := Dx) (a := 8) (b := 8) (by push_cast; grind) FXy.out.num FXy.out.den).mono ?_
      rintro _ w5 ⟨v, rfl, hf, hb⟩
      obtain ⟨q1, q2, hv, h1, h2⟩ := hf.fv
      subst hv
      exact ⟨_, q1, q2, rfl, h1.isS, h2.isS, hf, hb⟩)
    have HIS : Hid (∀ (w' : World) (v : Value), Below wc.heap.size wc w' → FQ w' v Vx Dx 8 8 → Calls Tryz.prog 25 #[v, .agg #[.bool x, a1, a2]] w' fun e w5 => e = .returned (.bool true) ∧ Below w'.heap.size w' w5) := Lib.hid (fun w' v hw hf => isFracQ hf (RXy.out.below hw) px rfl (by decide) (by decide))
    go_upto_region 14 with fail
    by_cases hn20 : n2 = 0
    · have hl0 : sLen c1 = nl 0 := by rw [← hn20]; exact HL.out
      clear hn20
      go_wp2_with fail
      refine (signOf_any y c1 c2 0 _ hC1 hC2 hl0).mono ?_
      rintro _ w14 ⟨rfl, hb14⟩
      rw [sg_zero]
      have hbe := hwY.out.trans ((bthen hcc hb14).mono hwYs)
      go_wp2
      go_ret
      exact ⟨rfl, hbe⟩
    · have p3 : 0 < n2 := by omega
      have hv0 : Hid (Vy ≠ 0) := Lib.hid (fun h => hn20 (HN2.out h))
      obtain ⟨sy, hsy⟩ : ∃ z, z = sg y n2 := ⟨_, rfl⟩
      have ts := sg_ne (b := y) p3
      have hzb := sg_bd y n2
      rw [← hsy] at ts hzb
      obtain ⟨hzb1, hzb2⟩ := hzb
      have HSY := Lib.hid hsy
      clear hsy hn20 p3
      go_wp2_with fail
      refine (signOf_any y c1 c2 n2 _ hC1 hC2 HL.out).mono ?_
      rintro _ w14 ⟨rfl, hb14⟩
      rw [← HSY.out]
      have hb15 := bthen hcc hb14
      obtain ⟨r1a, r1b, r1c, -, -, -⟩ := row3 (keep_row hb15 T1.out)
      obtain ⟨r6a, r6b, r6c, -, -, -⟩ := row3 (keep_row hb15 T6.out)
      go_wp2_with fail
      (with_reducible refine (HQ.out _ hb15 hv0.out).mono ?_)
      rintro _ w16 ⟨s3, qa, qb, rfl, hTqa, hTqb, hfq, hb16⟩
      have hb17 := bthen hb15 hb16
      have ha4 := (Below.refl w16.heap.size w16).alloc (Nat.le_refl _) (.cells #[.bool s3, qa, qb] 43)
      obtain ⟨l0, l1, l2, -, -, -⟩ := row3 (box_row (Below.refl _ (w16.alloc (.cells #[.bool s3, qa, qb] 43))))
      obtain ⟨m0, m1, m2, -, -, -⟩ := row3 (keep_row ha4 (keep_row hb17 T3.out))
      have HI := Lib.hid (HIS.out _ _ (bthen hb17 ha4) (hfq.below ha4))
      have HB18 := Lib.hid (bthen hb17 ha4)
      clear hb14 hb15 hb16 hb17 ha4 hfq r1a r1b r1c r6a r6b r6c r4a r4b r4c
      go_wp2_with fail
      (with_reducible refine HI.out.mono ?_)
      rintro _ w18 ⟨rfl, hb18⟩
      have hbe := hwY.out.trans ((bthen HB18.out hb18).mono hwYs)
      go_wp2
      go_ret
      exact ⟨rfl, hbe⟩
end Go.Proofs.YtbghmceglemppaaGreatDoor
