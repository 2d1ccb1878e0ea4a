/-
Texts of this proof, joined: RcH RcI0 RfA SaA RfB InT InU. No condition.
-/
import Derived.Test.YtbghmceglemppaaGreatDoorK03
import Derived.Test.YtbghmceglemppaaGreatDoorK15
import Derived.Test.YtbghmceglemppaaGreatDoorK32
import Derived.Test.YtbghmceglemppaaGreatDoorK33
import Derived.RegionTactic
import Derived.BigRegion
/-
Two fractions of a law: pair. No condition.
-/
namespace Go.Proofs.YtbghmceglemppaaGreatDoor
open Go.RowKit

/-- What fraction tells where it says yes. -/
structure FrOk (n : Nat) (b bb : Bool) (ns ds : List Nat) (a1 a2 : Value) (w : World) : Prop where
  sign : bb = b
  l1 : ns.length ≤ n
  l2 : ds.length ≤ n
  pos : 0 < wv ds
  v1 : NatV w a1 (wv ns)
  v2 : NatV w a2 (wv ds)
  low : isFrac b ns ds b (wv ns) (wv ds) = true
  cop : Nat.gcd (wv ns) (wv ds) = 1
theorem FrOk.below {n : Nat} {b bb : Bool} {ns ds : List Nat} {a1 a2 : Value} {w w' : World} (h : FrOk n b bb ns ds a1 a2 w) (hb : Below w.heap.size w w') : FrOk n b bb ns ds a1 a2 w' := ⟨h.sign, h.l1, h.l2, h.pos, h.v1.below hb, h.v2.below hb, h.low, h.cop⟩
/-- What pair answers. -/
def PrPost (n : Nat) (b1 b2 : Bool) (ns1 ds1 ns2 ds2 : List Nat) (w : World) (v : Value) (w' : World) : Prop :=
  ∃ x a1 a2 y c1 c2 ok, v = .tuple #[.agg #[.bool x, a1, a2], .agg #[.bool y, c1, c2], .bool ok] ∧ IsS a1 ∧ IsS a2 ∧ IsS c1 ∧ IsS c2 ∧ Below w.heap.size w w' ∧
    (ok = true → FrOk n b1 x ns1 ds1 a1 a2 w' ∧ FrOk n b2 y ns2 ds2 c1 c2 w')
theorem row_new (w : World) (cs : Array Value) (T k : Nat) (hk : w.heap.size = k) : (w.alloc (.cells cs T)).heap[k]? = some (.cells cs T (0, 0)) := by
  subst hk; exact box_row (Below.refl _ _)
set_option maxRecDepth 100000 in
set_option maxHeartbeats 3200000 in
theorem pair_any (b1 b2 : Bool) (v1 u1 v2 u2 : Value) (n : Nat) (ns1 ds1 ns2 ds2 : List Nat) (w : World) (hv1 : RW w v1 ns1) (hu1 : RW w u1 ds1) (hv2 : RW w v2 ns2) (hu2 : RW w u2 ds2) (hn : n ≤ 100000) :
    Calls Tryz.prog 34 #[.agg #[.bool b1, v1, u1], .agg #[.bool b2, v2, u2], .int .i64 n] w fun e w' => ∃ v, e = .returned v ∧ PrPost n b1 b2 ns1 ds1 ns2 ds2 w v w' := by
  have hS1 := hv1.isS
  have hS2 := hu1.isS
  have hS3 := hv2.isS
  have hS4 := hu2.isS
  obtain ⟨W, hW⟩ : ∃ W, W = (((w.alloc (.cells #[.bool b1, v1, u1] 43)).alloc (.cells #[.bool b2, v2, u2] 43)).alloc (.cells #[.bool false, .slice none 0 0, .slice none 0 0] 49)).alloc (.cells #[.bool false, .slice none 0 0, .slice none 0 0] 49) := ⟨_, rfl⟩
  have hbW : Below w.heap.size w W := by rw [hW]; exact ((((Below.refl _ w).alloc (Nat.le_refl _) _).alloc (by simp) _).alloc (by simp; omega) _).alloc (by simp; omega) _
  have r0 : W.heap[w.heap.size]? = some (.cells #[.bool b1, v1, u1] 43 (0, 0)) := by rw [hW]; exact keep_row (fbone _) (keep_row (fbone _) (keep_row (fbone _) (row_new _ _ _ _ rfl)))
  have r1 : W.heap[w.heap.size + 1]? = some (.cells #[.bool b2, v2, u2] 43 (0, 0)) := by rw [hW]; exact keep_row (fbone _) (keep_row (fbone _) (row_new _ _ _ _ (by simp)))
  have r2 : W.heap[w.heap.size + 1 + 1]? = some (.cells #[.bool false, .slice none 0 0, .slice none 0 0] 49 (0, 0)) := by rw [hW]; exact keep_row (fbone _) (row_new _ _ _ _ (by simp))
  have r3 : W.heap[w.heap.size + 1 + 1 + 1]? = some (.cells #[.bool false, .slice none 0 0, .slice none 0 0] 49 (0, 0)) := by rw [hW]; exact row_new _ _ _ _ (by simp)
  have hWz : W.heap.size = w.heap.size + 1 + 1 + 1 + 1 := by rw [hW]; simp
  obtain ⟨x0, x1, x2, -, -, -⟩ := row3 r0
  have V1 := Lib.hid (hv1.below hbW)
  have U1 := Lib.hid (hu1.below hbW)
  have V2 := Lib.hid (hv2.below hbW)
  have U2 := Lib.hid (hu2.below hbW)
  have R1 := Lib.hid r1
  have R2 := Lib.hid r2
  have R3 := Lib.hid r3
  have HWZ := Lib.hid hWz
  clear hv1 hu1 hv2 hu2 r0 r1 r2 r3 hWz
  go_enter Tryz.func34, Tryz.ntmps34
  go_upto_region 1 with fail
  rw [← hW]
  clear hW
  go_wp2_with fail
  refine (fraction_any b1 v1 u1 n ns1 ds1 W V1.out U1.out hn).mono ?_
  rintro _ w1 ⟨_, rfl, x, a1, a2, ok1, rfl, hA1, hA2, hb1, hok1⟩
  go_upto_region 2 with fail
  obtain ⟨X1, hX1⟩ : ∃ X, X = w1.alloc (.cells #[.bool x, a1, a2] 49) := ⟨_, rfl⟩
  have g1 : X1.heap[w1.heap.size]? = some (.cells #[.bool x, a1, a2] 49 (0, 0)) := by rw [hX1]; exact row_new _ _ _ _ rfl
  have hbX1 : Below w1.heap.size w1 X1 := by rw [hX1]; exact fbone _
  have hWX1 := bthen hb1 hbX1
  have hz1 := hWX1.size
  obtain ⟨y0, y1, y2, -, -, -⟩ := row3 (keep_row hWX1 R1.out)
  have hz2 := hb1.size
  rw [← hX1]
  have OK1 := Lib.hid (fun h => (⟨(hok1 h).1, (hok1 h).2.1, (hok1 h).2.2.1, (hok1 h).2.2.2.1, (hok1 h).2.2.2.2.2.2.1, (hok1 h).2.2.2.2.2.2.2, (hok1 h).2.2.2.2.1, (hok1 h).2.2.2.2.2.1⟩ : FrOk n b1 x ns1 ds1 a1 a2 w1).below hbX1)
  have G1 := Lib.hid g1
  obtain ⟨p1, hp1⟩ : ∃ p, p = w1.heap.size := ⟨_, rfl⟩
  rw [← hp1] at G1 ⊢
  have HP1 := Lib.hid hp1
  clear hX1 g1 hok1 x0 x1 x2 hp1
  go_wp2_with fail
  refine (fraction_any b2 v2 u2 n ns2 ds2 X1 (V2.out.below hWX1) (U2.out.below hWX1) hn).mono ?_
  rintro _ w2 ⟨_, rfl, y, c1, c2, ok2, rfl, hC1, hC2, hb2, hok2⟩
  go_upto_region 3 with fail
  obtain ⟨X2, hX2⟩ : ∃ X, X = w2.alloc (.cells #[.bool y, c1, c2] 49) := ⟨_, rfl⟩
  have g2 : X2.heap[w2.heap.size]? = some (.cells #[.bool y, c1, c2] 49 (0, 0)) := by rw [hX2]; exact row_new _ _ _ _ rfl
  have hbX2 : Below w2.heap.size w2 X2 := by rw [hX2]; exact fbone _
  have hX12 := bthen hb2 hbX2
  have hWX2 := bthen hWX1 hX12
  rw [← hX2]
  have OK2 := Lib.hid (fun h => (⟨(hok2 h).1, (hok2 h).2.1, (hok2 h).2.2.1, (hok2 h).2.2.2.1, (hok2 h).2.2.2.2.2.2.1, (hok2 h).2.2.2.2.2.2.2, (hok2 h).2.2.2.2.1, (hok2 h).2.2.2.2.2.1⟩ : FrOk n b2 y ns2 ds2 c1 c2 w2).below hbX2)
  have OK1' := Lib.hid (fun h => (OK1.out h).below hX12)
  obtain ⟨m0, m1, m2, -, -, -⟩ := row3 (keep_row hX12 G1.out)
  obtain ⟨n0, n1, n2, -, -, -⟩ := row3 g2
  have k2 := keep_row hWX2 R2.out
  have k3 := keep_row hWX2 R3.out
  obtain ⟨d0, d1, d2, f0, f1, f2⟩ := row3 k2
  obtain ⟨e0, e1, e2, i0, i1, i2⟩ := row3 k3
  have hz3 := hX12.size
  have hz4 := hb2.size
  have hz5 := hbX1.size
  have q1 := HWZ.out
  have q2 := HP1.out
  have nA1 : w.heap.size + 1 + 1 ≠ p1 := by omega
  have nA2 : w.heap.size + 1 + 1 ≠ w2.heap.size := by omega
  have nB1 : w.heap.size + 1 + 1 + 1 ≠ p1 := by omega
  have nB2 : w.heap.size + 1 + 1 + 1 ≠ w2.heap.size := by omega
  have hB3 : ¬ (w.heap.size + 1 + 1 + 1 = w.heap.size + 1 + 1) := by omega
  have hB4 : ¬ (w.heap.size + 1 + 1 = w.heap.size + 1 + 1 + 1) := by omega
  have HBB := Lib.hid (hbW.trans (hWX2.mono hbW.size))
  have K2 := Lib.hid k2
  have K3 := Lib.hid k3
  have hcc := Below.refl X2.heap.size X2
  clear q1 q2 hz3 hz4 hz5 hz1 hz2 hX2 g2 hok2 hWX1 hbX1 hbX2 hb1 hb2 k2 k3 y0 y1 y2
  have Z1r := row3_set (x := .bool x) (y := a1) (z := a2) K2.out
  have K3' := ((heap_setCell_other (((X2.setCell ⟨w.heap.size + 1 + 1, 0, none⟩ (.bool x)).setCell ⟨w.heap.size + 1 + 1, 1, none⟩ a1)) ⟨w.heap.size + 1 + 1, 2, none⟩ (w.heap.size + 1 + 1 + 1) a2 (by simp only; omega)).trans ((heap_setCell_other (X2.setCell ⟨w.heap.size + 1 + 1, 0, none⟩ (.bool x)) ⟨w.heap.size + 1 + 1, 1, none⟩ (w.heap.size + 1 + 1 + 1) a1 (by simp only; omega)).trans (heap_setCell_other X2 ⟨w.heap.size + 1 + 1, 0, none⟩ (w.heap.size + 1 + 1 + 1) (.bool x) (by simp only; omega)))).trans K3.out
  have Z2r := row3_set (x := .bool y) (y := c1) (z := c2) K3'
  obtain ⟨Z1, hZ1⟩ : ∃ Z, Z = (((X2.setCell ⟨w.heap.size + 1 + 1, 0, none⟩ (.bool x)).setCell ⟨w.heap.size + 1 + 1, 1, none⟩ a1).setCell ⟨w.heap.size + 1 + 1, 2, none⟩ a2) := ⟨_, rfl⟩
  rw [← hZ1] at Z1r K3' Z2r
  have Z2s := (heap_setCell_other ((Z1.setCell ⟨w.heap.size + 1 + 1 + 1, 0, none⟩ (.bool y)).setCell ⟨w.heap.size + 1 + 1 + 1, 1, none⟩ c1) ⟨w.heap.size + 1 + 1 + 1, 2, none⟩ (w.heap.size + 1 + 1) c2 (by simp only; omega)).trans ((heap_setCell_other (Z1.setCell ⟨w.heap.size + 1 + 1 + 1, 0, none⟩ (.bool y)) ⟨w.heap.size + 1 + 1 + 1, 1, none⟩ (w.heap.size + 1 + 1) c1 (by simp only; omega)).trans ((heap_setCell_other Z1 ⟨w.heap.size + 1 + 1 + 1, 0, none⟩ (w.heap.size + 1 + 1) (.bool y) (by simp only; omega)).trans Z1r))
  obtain ⟨t0, t1, t2, -, -, -⟩ := row3 Z2s
  obtain ⟨t3, t4, t5, -, -, -⟩ := row3 Z2r
  have HF1 : Hid (ok1 = true → FrOk n b1 x ns1 ds1 a1 a2 (((Z1.setCell ⟨w.heap.size + 1 + 1 + 1, 0, none⟩ (.bool y)).setCell ⟨w.heap.size + 1 + 1 + 1, 1, none⟩ c1).setCell ⟨w.heap.size + 1 + 1 + 1, 2, none⟩ c2)) := Lib.hid (fun h => by
    have k := OK1'.out h
    have k1 := natv_row3 (x := .bool x) (y := a1) (z := a2) IsS.nil IsS.nil k.v1 K2.out
    have k2 := natv_row3 (x := .bool x) (y := a1) (z := a2) IsS.nil IsS.nil k.v2 K2.out
    rw [← hZ1] at k1 k2
    exact ⟨k.sign, k.l1, k.l2, k.pos, natv_row3 IsS.nil IsS.nil k1 K3', natv_row3 IsS.nil IsS.nil k2 K3', k.low, k.cop⟩)
  have HF2 : Hid (ok2 = true → FrOk n b2 y ns2 ds2 c1 c2 (((Z1.setCell ⟨w.heap.size + 1 + 1 + 1, 0, none⟩ (.bool y)).setCell ⟨w.heap.size + 1 + 1 + 1, 1, none⟩ c1).setCell ⟨w.heap.size + 1 + 1 + 1, 2, none⟩ c2)) := Lib.hid (fun h => by
    have k := OK2.out h
    have k1 := natv_row3 (x := .bool x) (y := a1) (z := a2) IsS.nil IsS.nil k.v1 K2.out
    have k2 := natv_row3 (x := .bool x) (y := a1) (z := a2) IsS.nil IsS.nil k.v2 K2.out
    rw [← hZ1] at k1 k2
    exact ⟨k.sign, k.l1, k.l2, k.pos, natv_row3 IsS.nil IsS.nil k1 K3', natv_row3 IsS.nil IsS.nil k2 K3', k.low, k.cop⟩)
  have HZB : Hid (Below w.heap.size w (((Z1.setCell ⟨w.heap.size + 1 + 1 + 1, 0, none⟩ (.bool y)).setCell ⟨w.heap.size + 1 + 1 + 1, 1, none⟩ c1).setCell ⟨w.heap.size + 1 + 1 + 1, 2, none⟩ c2)) := Lib.hid (by
    have e1 : w.heap.size ≤ w.heap.size + 1 + 1 := by omega
    have e2 : w.heap.size ≤ w.heap.size + 1 + 1 + 1 := by omega
    have hb : Below w.heap.size w Z1 := by rw [hZ1]; exact bset (bset (bset HBB.out e1) e1) e1
    exact bset (bset (bset hb e2) e2) e2)
  clear Z1r K3' Z2r Z2s
  cases ok1
  · go_region
    go_wp2
    rw [← hZ1]
    refine bodyPost_ret (v := .tuple #[.agg #[.bool x, a1, a2], .agg #[.bool y, c1, c2], .bool false]) ?_ rfl ⟨_, rfl, x, a1, a2, y, c1, c2, false, rfl, hA1, hA2, hC1, hC2, Below.drew HZB.out, fun h => absurd h (by decide)⟩
    simp [results, Tryz.results34, go_sem, t0, t1, t2, t3, t4, t5]
  · go_region
    go_wp2
    rw [← hZ1]
    refine bodyPost_ret (v := .tuple #[.agg #[.bool x, a1, a2], .agg #[.bool y, c1, c2], .bool ok2]) ?_ rfl ⟨_, rfl, x, a1, a2, y, c1, c2, ok2, rfl, hA1, hA2, hC1, hC2, Below.drew HZB.out, fun h => ⟨(HF1.out (by trivial)).below (Below.drew (Below.refl _ _)), (HF2.out h).below (Below.drew (Below.refl _ _))⟩⟩
    simp [results, Tryz.results34, go_sem, t0, t1, t2, t3, t4, t5]
end Go.Proofs.YtbghmceglemppaaGreatDoor

/-
Cells of four boxes; a fraction of the thin package against one of the reference. No condition.
-/
namespace Go.Proofs.YtbghmceglemppaaGreatDoor
open Go.RowKit

theorem ks12F {W X : World} {k g p q T U : Nat} {a b c d e f a' b' c' d' e' f' : Value} (h1 : W.heap[k]? = some (.cells #[a, b, c] T (0, 0))) (h2 : W.heap[g]? = some (.cells #[d, e, f] T (0, 0))) (h3 : W.heap[p]? = some (.cells #[a', b', c'] U (0, 0))) (h4 : W.heap[q]? = some (.cells #[d', e', f'] U (0, 0))) (h : Below W.heap.size W X) :
    Below W.heap.size W X ∧ (X.cell? ⟨k, 0, none⟩ = some a ∧ X.cell? ⟨k, 1, none⟩ = some b ∧ X.cell? ⟨k, 2, none⟩ = some c ∧ X.cell? ⟨g, 0, none⟩ = some d ∧ X.cell? ⟨g, 1, none⟩ = some e ∧ X.cell? ⟨g, 2, none⟩ = some f) ∧
    X.cell? ⟨p, 0, none⟩ = some a' ∧ X.cell? ⟨p, 1, none⟩ = some b' ∧ X.cell? ⟨p, 2, none⟩ = some c' ∧ X.cell? ⟨q, 0, none⟩ = some d' ∧ X.cell? ⟨q, 1, none⟩ = some e' ∧ X.cell? ⟨q, 2, none⟩ = some f' :=
  ⟨h, (ks6F h1 h2 h).2, (ks6F h3 h4 h).2⟩
/-- A fraction of the reference in lowest terms, by its value. -/
def RtI (w : World) (v : Value) (V : Int) (D : Nat) : Prop := ∃ q r, v = .agg #[.bool (decide (V < 0)), q, r] ∧ NatV w q (V.natAbs / Nat.gcd V.natAbs D) ∧ NatV w r (D / Nat.gcd V.natAbs D)
theorem FracV.below {w w' : World} {v : Value} {V : Int} {D : Nat} (h : FracV w v V D) (hb : Below w.heap.size w w') : FracV w' v V D := by
  obtain ⟨r1, r2, h1, h2, h3⟩ := h
  exact ⟨r1, r2, h1, h2.below hb, h3.below hb⟩
theorem RtI.below {w w' : World} {v : Value} {V : Int} {D : Nat} (h : RtI w v V D) (hb : Below w.heap.size w w') : RtI w' v V D := by
  obtain ⟨r1, r2, h1, h2, h3⟩ := h
  exact ⟨r1, r2, h1, h2.below hb, h3.below hb⟩
theorem nl_nw (n : Nat) : nl n ≤ 4 * nw n := by
  unfold nw; omega
theorem isFracV_same {w : World} {v u : Value} {V : Int} {D : Nat} (hf : FracV w v V D) (hr : RtI w u V D) (hD : 0 < D) (h1 : nw V.natAbs ≤ 100) (h2 : nw D ≤ 100) :
    Calls Tryz.prog 25 #[v, u] w fun e w' => e = .returned (.bool true) ∧ Below w.heap.size w w' := by
  obtain ⟨r1, r2, rfl, f1, f2⟩ := hf
  obtain ⟨q, r, rfl, g1, g2⟩ := hr
  have n1 : nw (V.natAbs / Nat.gcd V.natAbs D) ≤ 100 := Nat.le_trans (nw_mono (Nat.div_le_self _ _)) h1
  have n2 : nw (D / Nat.gcd V.natAbs D) ≤ 100 := Nat.le_trans (nw_mono (Nat.div_le_self _ _)) h2
  have m1 := nl_nw (V.natAbs / Nat.gcd V.natAbs D)
  have m2 := nl_nw (D / Nat.gcd V.natAbs D)
  have e : isFrac (decide (V < 0)) (wds (V.natAbs / Nat.gcd V.natAbs D)) (wds (D / Nat.gcd V.natAbs D)) (decide (V < 0)) (V.natAbs / Nat.gcd V.natAbs D) (D / Nat.gcd V.natAbs D) = true := by
    unfold isFrac isNum
    rw [neg_div V hD]
    simp
  refine (isFraction_any (decide (V < 0)) (decide (V < 0)) r1 r2 q r _ _ _ _ w f1 f2 g1 g2 (by rw [wds_length]; omega) (by rw [wds_length]; omega) (by omega) (by omega)).mono ?_
  rintro e' w' ⟨h3, h4⟩
  rw [e] at h3
  exact ⟨h3, h4⟩
end Go.Proofs.YtbghmceglemppaaGreatDoor

/-
Sums, differences, products and quotients of fractions of the thin package by their values. No condition but the thresholds.
-/
namespace Go.Proofs.YtbghmceglemppaaGreatDoor
open Go.RowKit

/-! ### Plain numbers -/
theorem red_mul (n d k : Nat) (hk : 0 < k) : (n * k) / Nat.gcd (n * k) (d * k) = n / Nat.gcd n d := by
  rw [Nat.gcd_mul_right, Nat.mul_div_mul_right _ _ hk]
theorem red_same {V V' : Int} {D D' : Nat} (hD : 0 < D) (hD' : 0 < D') (h : V * D' = V' * D) :
    V.natAbs / Nat.gcd V.natAbs D = V'.natAbs / Nat.gcd V'.natAbs D' ∧ D / Nat.gcd V.natAbs D = D' / Nat.gcd V'.natAbs D' ∧ decide (V < 0) = decide (V' < 0) := by
  have e : V.natAbs * D' = V'.natAbs * D := by
    have := congrArg Int.natAbs h
    rwa [Int.natAbs_mul, Int.natAbs_mul, Int.natAbs_natCast, Int.natAbs_natCast] at this
  refine ⟨?_, ?_, ?_⟩
  · rw [← red_mul V.natAbs D D' hD', ← red_mul V'.natAbs D' D hD, e, Nat.mul_comm D D']
  · have h1 := red_mul D V.natAbs D' hD'
    have h2 := red_mul D' V'.natAbs D hD
    rw [Nat.gcd_comm (D * D'), Nat.gcd_comm D] at h1
    rw [Nat.gcd_comm (D' * D), Nat.gcd_comm D'] at h2
    rw [← h1, ← h2, e, Nat.mul_comm D D']
  · have p1 : (V < 0) ↔ (V * D' < 0) := by
      constructor
      · intro h; exact Int.mul_neg_of_neg_of_pos h (by omega)
      · intro h
        rcases Int.lt_or_le V 0 with h1 | h1
        · exact h1
        · have := Int.mul_nonneg h1 (show (0:Int) ≤ D' by omega); omega
    have p2 : (V' < 0) ↔ (V' * D < 0) := by
      constructor
      · intro h; exact Int.mul_neg_of_neg_of_pos h (by omega)
      · intro h
        rcases Int.lt_or_le V' 0 with h1 | h1
        · exact h1
        · have := Int.mul_nonneg h1 (show (0:Int) ≤ D by omega); omega
    rw [decide_eq_decide, p1, p2, h]
/-- A sign as a number. -/
def sI1 (b : Bool) : Int := if b then -1 else 1
theorem rI_sg (b : Bool) (n : Nat) : rI b n = sI1 b * n := by unfold rI sI1; cases b <;> simp
theorem sI1_not (b : Bool) : sI1 (!b) = - sI1 b := by cases b <;> rfl
theorem sI1_ne (a b : Bool) : sI1 (a != b) = sI1 a * sI1 b := by cases a <;> cases b <;> rfl
theorem sI1_sq (b : Bool) : sI1 b * sI1 b = 1 := by cases b <;> rfl
theorem int_sg (V : Int) : V = sI1 (decide (V < 0)) * V.natAbs := by
  unfold sI1
  by_cases h : V < 0
  · rw [decide_eq_true h]; simp; omega
  · rw [decide_eq_false h]; simp; omega
theorem add_turn {V1 V2 : Int} {D1 D2 n1 d1 g1 n2 d2 g2 : Nat} (h1 : V1.natAbs = n1 * g1) (h2 : D1 = d1 * g1) (h3 : V2.natAbs = n2 * g2) (h4 : D2 = d2 * g2) :
    (rI (decide (V1 < 0)) (n1 * d2) + rI (decide (V2 < 0)) (n2 * d1)) * ((D1 * D2 : Nat) : Int) = (V1 * D2 + V2 * D1) * ((d1 * d2 : Nat) : Int) ∧
    (rI (decide (V1 < 0)) (n1 * d2) + rI (!decide (V2 < 0)) (n2 * d1)) * ((D1 * D2 : Nat) : Int) = (V1 * D2 - V2 * D1) * ((d1 * d2 : Nat) : Int) ∧
    rI (decide (V1 < 0) != decide (V2 < 0)) (n1 * n2) * ((D1 * D2 : Nat) : Int) = V1 * V2 * ((d1 * d2 : Nat) : Int) := by
  have e1 := int_sg V1
  have e2 := int_sg V2
  rw [rI_sg, rI_sg, rI_sg, rI_sg, sI1_not, sI1_ne]
  generalize sI1 (decide (V1 < 0)) = s1 at *
  generalize sI1 (decide (V2 < 0)) = s2 at *
  rw [h1] at e1
  rw [h3] at e2
  rw [e1, e2, h2, h4]
  push_cast
  refine ⟨by grind, by grind, by grind⟩
theorem quo_turn {V1 V2 V : Int} {D1 D2 D n1 d1 g1 n2 d2 g2 : Nat} (h1 : V1.natAbs = n1 * g1) (h2 : D1 = d1 * g1) (h3 : V2.natAbs = n2 * g2) (h4 : D2 = d2 * g2) (p1 : 0 < g1) (p2 : 0 < g2) (e : V * V2 * D1 = V1 * D2 * D) :
    rI (decide (V1 < 0) != decide (V2 < 0)) (n1 * d2) * (D : Int) = V * ((n2 * d1 : Nat) : Int) := by
  have e1 := int_sg V1
  have e2 := int_sg V2
  rw [rI_sg, sI1_ne]
  have q := sI1_sq (decide (V2 < 0))
  generalize sI1 (decide (V1 < 0)) = s1 at *
  generalize sI1 (decide (V2 < 0)) = s2 at *
  rw [h1] at e1
  rw [h3] at e2
  rw [e1, e2, h2, h4] at e
  push_cast at e ⊢
  have k : ((g1 : Int) * g2) * (s1 * s2 * (n1 * d2) * D) = (g1 * g2) * (V * (n2 * d1)) := by grind
  exact Int.eq_of_mul_eq_mul_left (by have := Nat.mul_pos p1 p2; rw [← Int.natCast_mul]; omega) k
/-! ### Fractions -/
theorem FracV.turn {w : World} {v : Value} {V V' : Int} {D D' : Nat} (h : FracV w v V D) (hD : 0 < D) (hD' : 0 < D') (e : V * D' = V' * D) : FracV w v V' D' := by
  obtain ⟨r1, r2, rfl, h1, h2⟩ := h
  obtain ⟨e1, e2, e3⟩ := red_same hD hD' e
  exact ⟨r1, r2, by rw [e3], by rw [← e1]; exact h1, by rw [← e2]; exact h2⟩
theorem RtI.turn {w : World} {v : Value} {V V' : Int} {D D' : Nat} (h : RtI w v V D) (hD : 0 < D) (hD' : 0 < D') (e : V * D' = V' * D) : RtI w v V' D' := by
  obtain ⟨r1, r2, rfl, h1, h2⟩ := h
  obtain ⟨e1, e2, e3⟩ := red_same hD hD' e
  exact ⟨r1, r2, by rw [e3], by rw [← e1]; exact h1, by rw [← e2]; exact h2⟩
/-- A fraction of the thin package by its value, with its size in words. -/
structure FQ (w : World) (v : Value) (V : Int) (D a b : Nat) : Prop where
  fv : FracV w v V D
  pos : 0 < D
  num : nw V.natAbs ≤ a
  den : nw D ≤ b
theorem FQ.below {w w' : World} {v : Value} {V : Int} {D a b : Nat} (h : FQ w v V D a b) (hb : Below w.heap.size w w') : FQ w' v V D a b := ⟨h.fv.below hb, h.pos, h.num, h.den⟩
/-- What a fraction is made of. -/
theorem FQ.open {w : World} {v : Value} {V : Int} {D a b : Nat} (h : FQ w v V D a b) : ∃ r1 r2 ns ds g, v = .agg #[.bool (decide (V < 0)), r1, r2] ∧ RW w r1 ns ∧ RW w r2 ds ∧ ns.length ≤ a ∧ ds.length ≤ b ∧ 0 < wv ds ∧ 0 < g ∧ V.natAbs = wv ns * g ∧ D = wv ds * g := by
  obtain ⟨⟨r1, r2, h1, h2, h3⟩, hp, hn, hd⟩ := h
  refine ⟨r1, r2, _, _, Nat.gcd V.natAbs D, h1, h2, h3, ?_, ?_, ?_, Nat.gcd_pos_of_pos_right _ hp, ?_, ?_⟩
  · rw [wds_length]; exact Nat.le_trans (nw_mono (Nat.div_le_self _ _)) hn
  · rw [wds_length]; exact Nat.le_trans (nw_mono (Nat.div_le_self _ _)) hd
  · rw [wv_wds]; exact gcd_div_pos hp
  · rw [wv_wds]; exact (Nat.div_mul_cancel (Nat.gcd_dvd_left _ _)).symm
  · rw [wv_wds]; exact (Nat.div_mul_cancel (Nat.gcd_dvd_right _ _)).symm
theorem nw_intmul {x y : Int} {a b : Nat} (h1 : nw x.natAbs ≤ a) (h2 : nw y.natAbs ≤ b) : nw (x * y).natAbs ≤ a + b := by
  rw [Int.natAbs_mul]; exact Nat.le_trans (nw_mul_le _ _) (by omega)
theorem nw_natmul {x y : Nat} {a b : Nat} (h1 : nw x ≤ a) (h2 : nw y ≤ b) : nw (x * y) ≤ a + b := Nat.le_trans (nw_mul_le _ _) (by omega)
theorem nw_cross {V1 V2 : Int} {D1 D2 a1 b1 a2 b2 : Nat} (h1 : nw V1.natAbs ≤ a1) (h2 : nw V2.natAbs ≤ a2) (h3 : nw D1 ≤ b1) (h4 : nw D2 ≤ b2) :
    nw (V1 * D2 + V2 * D1).natAbs ≤ max (a1 + b2) (a2 + b1) + 1 ∧ nw (V1 * D2 - V2 * D1).natAbs ≤ max (a1 + b2) (a2 + b1) + 1 := by
  have e1 := nw_intmul h1 (show nw ((D2 : Int)).natAbs ≤ b2 by rw [Int.natAbs_natCast]; exact h4)
  have e2 := nw_intmul h2 (show nw ((D1 : Int)).natAbs ≤ b1 by rw [Int.natAbs_natCast]; exact h3)
  refine ⟨nw_absadd e1 e2, ?_⟩
  rw [Int.sub_eq_add_neg]
  exact nw_absadd e1 (by rw [Int.natAbs_neg]; exact e2)
theorem addQ {x y : Value} {V1 V2 : Int} {D1 D2 a1 b1 a2 b2 : Nat} {w : World} (h1 : FQ w x V1 D1 a1 b1) (h2 : FQ w y V2 D2 a2 b2) (l : a1 ≤ 30 ∧ b1 ≤ 30 ∧ a2 ≤ 30 ∧ b2 ≤ 30 ∧ a1 + b2 ≤ 37 ∧ a2 + b1 ≤ 37 ∧ b1 + b2 ≤ 37 ∧ a1 + a2 ≤ 37) (hK : KarW w) (hT : DivW w) :
    Calls Tryz.prog 35 #[x, y] w fun e w' => ∃ v, e = .returned v ∧ FQ w' v (V1 * D2 + V2 * D1) (D1 * D2) (max (a1 + b2) (a2 + b1) + 1) (b1 + b2) ∧ Below w.heap.size w w' := by
  have k1 := h1.open
  have k2 := h2.open
  obtain ⟨v1, u1, ns1, ds1, g1, rfl, c1, c2, c3, c4, c5, c6, c7, c8⟩ := k1
  obtain ⟨v2, u2, ns2, ds2, g2, rfl, d1, d2, d3, d4, d5, d6, d7, d8⟩ := k2
  refine (impRatAdd _ _ _ _ _ _ ns1 ds1 ns2 ds2 w c1 c2 d1 d2 (by omega) (by omega) (by omega) (by omega) (by omega) (by omega) (by omega) (by omega) c5 d5 hK hT).mono ?_
  rintro _ w' ⟨v, rfl, hf, hb⟩
  exact ⟨v, rfl, ⟨hf.turn (Nat.mul_pos c5 d5) (Nat.mul_pos h1.pos h2.pos) (add_turn c7 c8 d7 d8).1, Nat.mul_pos h1.pos h2.pos, (nw_cross h1.num h2.num h1.den h2.den).1, nw_natmul h1.den h2.den⟩, hb⟩
theorem subQ {x y : Value} {V1 V2 : Int} {D1 D2 a1 b1 a2 b2 : Nat} {w : World} (h1 : FQ w x V1 D1 a1 b1) (h2 : FQ w y V2 D2 a2 b2) (l : a1 ≤ 30 ∧ b1 ≤ 30 ∧ a2 ≤ 30 ∧ b2 ≤ 30 ∧ a1 + b2 ≤ 37 ∧ a2 + b1 ≤ 37 ∧ b1 + b2 ≤ 37 ∧ a1 + a2 ≤ 37) (hK : KarW w) (hT : DivW w) :
    Calls Tryz.prog 38 #[x, y] w fun e w' => ∃ v, e = .returned v ∧ FQ w' v (V1 * D2 - V2 * D1) (D1 * D2) (max (a1 + b2) (a2 + b1) + 1) (b1 + b2) ∧ Below w.heap.size w w' := by
  have k1 := h1.open
  have k2 := h2.open
  obtain ⟨v1, u1, ns1, ds1, g1, rfl, c1, c2, c3, c4, c5, c6, c7, c8⟩ := k1
  obtain ⟨v2, u2, ns2, ds2, g2, rfl, d1, d2, d3, d4, d5, d6, d7, d8⟩ := k2
  refine (impRatSub _ _ _ _ _ _ ns1 ds1 ns2 ds2 w c1 c2 d1 d2 (by omega) (by omega) (by omega) (by omega) (by omega) (by omega) (by omega) (by omega) c5 d5 hK hT).mono ?_
  rintro _ w' ⟨v, rfl, hf, hb⟩
  exact ⟨v, rfl, ⟨hf.turn (Nat.mul_pos c5 d5) (Nat.mul_pos h1.pos h2.pos) (add_turn c7 c8 d7 d8).2.1, Nat.mul_pos h1.pos h2.pos, (nw_cross h1.num h2.num h1.den h2.den).2, nw_natmul h1.den h2.den⟩, hb⟩
theorem mulQ {x y : Value} {V1 V2 : Int} {D1 D2 a1 b1 a2 b2 : Nat} {w : World} (h1 : FQ w x V1 D1 a1 b1) (h2 : FQ w y V2 D2 a2 b2) (l : a1 ≤ 30 ∧ b1 ≤ 30 ∧ a2 ≤ 30 ∧ b2 ≤ 30 ∧ a1 + b2 ≤ 37 ∧ a2 + b1 ≤ 37 ∧ b1 + b2 ≤ 37 ∧ a1 + a2 ≤ 37) (hK : KarW w) (hT : DivW w) :
    Calls Tryz.prog 36 #[x, y] w fun e w' => ∃ v, e = .returned v ∧ FQ w' v (V1 * V2) (D1 * D2) (a1 + a2) (b1 + b2) ∧ Below w.heap.size w w' := by
  have k1 := h1.open
  have k2 := h2.open
  obtain ⟨v1, u1, ns1, ds1, g1, rfl, c1, c2, c3, c4, c5, c6, c7, c8⟩ := k1
  obtain ⟨v2, u2, ns2, ds2, g2, rfl, d1, d2, d3, d4, d5, d6, d7, d8⟩ := k2
  refine (impRatMul _ _ _ _ _ _ ns1 ds1 ns2 ds2 w c1 c2 d1 d2 (by omega) (by omega) (by omega) (by omega) (by omega) (by omega) (by omega) (by omega) c5 d5 hK hT).mono ?_
  rintro _ w' ⟨v, rfl, hf, hb⟩
  exact ⟨v, rfl, ⟨hf.turn (Nat.mul_pos c5 d5) (Nat.mul_pos h1.pos h2.pos) (add_turn c7 c8 d7 d8).2.2, Nat.mul_pos h1.pos h2.pos, nw_intmul h1.num h2.num, nw_natmul h1.den h2.den⟩, hb⟩
theorem quoQ {x y : Value} {V1 V2 V : Int} {D1 D2 D a1 b1 a2 b2 a b : Nat} {w : World} (h1 : FQ w x V1 D1 a1 b1) (h2 : FQ w y V2 D2 a2 b2) (h0 : V2 ≠ 0) (l : a1 ≤ 30 ∧ b1 ≤ 30 ∧ a2 ≤ 30 ∧ b2 ≤ 30 ∧ a1 + b2 ≤ 37 ∧ a2 + b1 ≤ 37) (hK : KarW w) (hT : DivW w)
    (hD : 0 < D) (e : V * V2 * D1 = V1 * D2 * D) (ha : nw V.natAbs ≤ a) (hb : nw D ≤ b) :
    Calls Tryz.prog 40 #[x, y] w fun e w' => ∃ v, e = .returned (.tuple #[v, .int .i64 0]) ∧ FQ w' v V D a b ∧ Below w.heap.size w w' := by
  have k1 := h1.open
  have k2 := h2.open
  obtain ⟨v1, u1, ns1, ds1, g1, rfl, c1, c2, c3, c4, c5, c6, c7, c8⟩ := k1
  obtain ⟨v2, u2, ns2, ds2, g2, rfl, d1, d2, d3, d4, d5, d6, d7, d8⟩ := k2
  have p3 : 0 < wv ns2 := by
    refine Nat.pos_of_ne_zero fun hc => h0 ?_
    rw [hc, Nat.zero_mul] at d7
    omega
  refine (impQuo_ok _ _ _ _ _ _ ns1 ds1 ns2 ds2 w c1 c2 d1 d2 (by omega) (by omega) (by omega) (by omega) (by omega) (by omega) c5 d5 p3 hK hT).mono ?_
  rintro _ w' ⟨v, rfl, hf, hb'⟩
  exact ⟨v, rfl, ⟨hf.turn (Nat.mul_pos p3 c5) hD (quo_turn c7 c8 d7 d8 c6 d6 e), hD, ha, hb⟩, hb'⟩
theorem isFracQ {w : World} {v u : Value} {V V' : Int} {D D' a b : Nat} (hf : FQ w v V D a b) (hr : RtI w u V' D') (hD' : 0 < D') (e : V * D' = V' * D) (ha : a ≤ 100) (hb : b ≤ 100) :
    Calls Tryz.prog 25 #[v, u] w fun e w5 => e = .returned (.bool true) ∧ Below w.heap.size w w5 :=
  isFracV_same hf.fv (hr.turn hD' hf.pos e.symm) hf.pos (Nat.le_trans hf.num ha) (Nat.le_trans hf.den hb)
end Go.Proofs.YtbghmceglemppaaGreatDoor

/-
laws.same at equal words. No condition.
-/
namespace Go.Proofs.YtbghmceglemppaaGreatDoor
open Go.RowKit

set_option maxRecDepth 100000 in
set_option maxHeartbeats 1600000 in
theorem same_any (v1 v2 : Value) (zs : List Nat) (w : World) (h1 : RW w v1 zs) (h2 : RW w v2 zs) (hl : zs.length ≤ 1000000000) :
    Calls Tryz.prog 89 #[v1, v2] w fun e w' => e = .returned (.bool true) ∧ Below w.heap.size w w' := by
  have hS1 := h1.isS
  have hS2 := h2.isS
  have hL1 := h1.len
  have hL2 := h2.len
  obtain ⟨L, hL⟩ : ∃ L, L = zs.length := ⟨_, rfl⟩
  rw [← hL] at hL1 hL2 hl
  have HL := Lib.hid hL
  have H1 := Lib.hid h1
  have H2 := Lib.hid h2
  clear h1 h2 hL
  go_enter Tryz.func89, Tryz.ntmps89
  go_wp2
  go_loopw [5, 13] (fun _ i wr => ∃ k : Nat, k ≤ L ∧ i = .int .i64 k ∧ Below w.heap.size w wr) (fun _ i _ => L - (intOf i).toNat)
  case atStart => exact ⟨0, Nat.zero_le _, rfl, Below.refl _ _⟩
  case round =>
    obtain ⟨k, hk, rfl, hbl⟩ := hrel
    by_cases hkL : k < L
    · have c1 := (H1.out.below hbl).cell k (by rw [← HL.out]; exact hkL)
      have c2 := (H2.out.below hbl).cell k (by rw [← HL.out]; exact hkL)
      obtain ⟨p, hp⟩ : ∃ p, p = zs.getD k 0 := ⟨_, rfl⟩
      rw [← hp] at c1 c2
      clear hp
      have t2 : ((p : Int) == p) = true := beq_self_eq_true _
      go_wp2
      go_quiet (fail)
      go_wp2
      exact ⟨⟨k + 1, by omega, by go_num, undrewN' hbl⟩, by simp [intOf]; omega⟩
    · have hk1 : k = L := by omega
      have HB := Lib.hid hbl
      clear hbl
      go_wp2
      go_ret
      exact ⟨rfl, HB.out⟩
end Go.Proofs.YtbghmceglemppaaGreatDoor

/-
laws.alike at equal fractions; what a law's fraction is; two boxes made beside two calls. No condition.
-/
namespace Go.Proofs.YtbghmceglemppaaGreatDoor
open Go.RowKit

set_option maxRecDepth 100000 in
set_option maxHeartbeats 1600000 in
theorem alike_rw (b : Bool) (v1 u1 v2 u2 : Value) (ns ds : List Nat) (w : World) (h1 : RW w v1 ns) (h2 : RW w u1 ds) (h3 : RW w v2 ns) (h4 : RW w u2 ds) (hl1 : ns.length ≤ 1000000000) (hl2 : ds.length ≤ 1000000000) :
    Calls Tryz.prog 37 #[.agg #[.bool b, v1, u1], .agg #[.bool b, v2, u2]] w fun e w' => e = .returned (.bool true) ∧ Below w.heap.size w w' := by
  have hS1 := h1.isS
  have hS2 := h2.isS
  have hS3 := h3.isS
  have hS4 := h4.isS
  obtain ⟨W, hW⟩ : ∃ W, W = (w.alloc (.cells #[.bool b, v1, u1] 43)).alloc (.cells #[.bool b, v2, u2] 43) := ⟨_, rfl⟩
  have hbW : Below w.heap.size w W := by rw [hW]; exact ((Below.refl _ w).alloc (Nat.le_refl _) _).alloc (by simp) _
  have r0 : W.heap[w.heap.size]? = some (.cells #[.bool b, v1, u1] 43 (0, 0)) := by rw [hW]; exact keep_row (fbone _) (row_new _ _ _ _ rfl)
  have r1 : W.heap[w.heap.size + 1]? = some (.cells #[.bool b, v2, u2] 43 (0, 0)) := by rw [hW]; exact row_new _ _ _ _ (by simp)
  obtain ⟨x0, x1, x2, -, -, -⟩ := row3 r0
  obtain ⟨y0, y1, y2, -, -, -⟩ := row3 r1
  have H1 := Lib.hid (same_any v1 v2 ns W (h1.below hbW) (h3.below hbW) hl1)
  have H2 := Lib.hid (fun w' (h : Below W.heap.size W w') => same_any u1 u2 ds w' ((h2.below hbW).below h) ((h4.below hbW).below h) hl2)
  have R0 := Lib.hid r0
  have R1 := Lib.hid r1
  have HB := Lib.hid hbW
  have hWs := hbW.size
  have t1 : (b == b) = true := by cases b <;> rfl
  clear h1 h2 h3 h4 r0 r1 hbW
  go_enter Tryz.func37, Tryz.ntmps37
  go_upto_region 1 with fail
  rw [← hW]
  clear hW
  go_wp2_with fail
  refine H1.out.mono ?_
  rintro _ w1 ⟨rfl, hb1⟩
  obtain ⟨p0, p1, p2, -, -, -⟩ := row3 (keep_row hb1 R0.out)
  obtain ⟨q0, q1, q2, -, -, -⟩ := row3 (keep_row hb1 R1.out)
  go_wp2_with fail
  refine (H2.out _ hb1).mono ?_
  rintro _ w2 ⟨rfl, hb2⟩
  have hbb := HB.out.trans ((bthen hb1 hb2).mono hWs)
  go_wp2
  go_ret
  exact ⟨rfl, hbb⟩
theorem alikeQ {w : World} {x y : Value} {V V' : Int} {D D' a b a' b' : Nat} (h1 : FQ w x V D a b) (h2 : FQ w y V' D' a' b') (e : V * D' = V' * D) (ha : a ≤ 1000) (hb : b ≤ 1000) :
    Calls Tryz.prog 37 #[x, y] w fun e w' => e = .returned (.bool true) ∧ Below w.heap.size w w' := by
  obtain ⟨r1, r2, rfl, k1, k2⟩ := h1.fv
  obtain ⟨s1, s2, rfl, k3, k4⟩ := h2.fv.turn h2.pos h1.pos e.symm
  refine alike_rw _ _ _ _ _ _ _ w k1 k2 k3 k4 ?_ ?_
  · rw [wds_length]
    exact Nat.le_trans (Nat.le_trans (nw_mono (Nat.div_le_self _ _)) h1.num) (by omega)
  · rw [wds_length]
    exact Nat.le_trans (Nat.le_trans (nw_mono (Nat.div_le_self _ _)) h1.den) (by omega)
theorem frac_low {b : Bool} {ns ds : List Nat} (h : isFrac b ns ds b (wv ns) (wv ds) = true) : (b && decide (0 < wv ns)) = b ∧ ns = wds (wv ns) ∧ ds = wds (wv ds) := by
  unfold isFrac isNum at h
  simp only [Bool.and_eq_true, decide_eq_true_eq, beq_iff_eq] at h
  exact ⟨h.1.1.symm, h.1.2, h.2⟩
/-- A law's fraction in lowest terms, by its value. -/
theorem fq_of {n : Nat} {b : Bool} {v u : Value} {ns ds : List Nat} {w : World} (h1 : RW w v ns) (h2 : RW w u ds) (l1 : ns.length ≤ n) (l2 : ds.length ≤ n) (hp : 0 < wv ds) (hl : isFrac b ns ds b (wv ns) (wv ds) = true) (hc : Nat.gcd (wv ns) (wv ds) = 1) :
    FQ w (.agg #[.bool b, v, u]) (rI b (wv ns)) (wv ds) n n := by
  obtain ⟨e1, e2, e3⟩ := frac_low hl
  refine ⟨⟨v, u, ?_, ?_, ?_⟩, hp, ?_, ?_⟩
  · rw [rI_neg, e1]
  · rw [rI_abs, hc, Nat.div_one, ← e2]; exact h1
  · rw [rI_abs, hc, Nat.div_one, ← e3]; exact h2
  · rw [rI_abs]; exact Nat.le_trans (nw_le (wv_lt h1.lt)) l1
  · exact Nat.le_trans (nw_le (wv_lt h2.lt)) l2
theorem rti_of {b : Bool} {v u : Value} {ns ds : List Nat} {w : World} (h1 : NatV w v (wv ns)) (h2 : NatV w u (wv ds)) (hl : isFrac b ns ds b (wv ns) (wv ds) = true) (hc : Nat.gcd (wv ns) (wv ds) = 1) :
    RtI w (.agg #[.bool b, v, u]) (rI b (wv ns)) (wv ds) := by
  obtain ⟨e1, e2, e3⟩ := frac_low hl
  refine ⟨v, u, ?_, ?_, ?_⟩
  · rw [rI_neg, e1]
  · rw [rI_abs, hc, Nat.div_one]; exact h1
  · rw [rI_abs, hc, Nat.div_one]; exact h2
/-! ### Two boxes made beside two calls -/
theorem alz (w : World) (o : Obj) : (w.alloc o).heap.size = w.heap.size + 1 := by simp
theorem box_row2D {w w1 : World} {A B : Obj} (hb : Below ((w.alloc A).alloc B).drew.heap.size ((w.alloc A).alloc B).drew w1) : w1.heap[w.heap.size]? = some A :=
  keep_row hb (show ((w.alloc A).alloc B).heap[w.heap.size]? = some A from keep_row (fbone B) (heap_alloc_new w A))
theorem heap3_other {w : World} {g h : Nat} {x y z : Value} (hne : h ≠ g) : (((w.setCell ⟨g, 0, none⟩ x).setCell ⟨g, 1, none⟩ y).setCell ⟨g, 2, none⟩ z).heap[h]? = w.heap[h]? := by
  rw [heap_setCell_other _ _ _ _ (by simpa using hne), heap_setCell_other _ _ _ _ (by simpa using hne), heap_setCell_other _ _ _ _ (by simpa using hne)]
abbrev fobj (s : Bool) (a b : Value) : Obj := .cells #[.bool s, a, b] 43
abbrev fbox (s : Bool) (a b : Value) : Option Obj := some (.cells #[.bool s, a, b] 43 (0, 0))
/-- What the two calls leave: their answers' blocks. -/
def TwoF (W wx : World) (s1 s2 : Bool) (a1 b1 a2 b2 : Value) (V1 : Int) (D1 m1 n1 : Nat) (V2 : Int) (D2 m2 n2 : Nat) (g h : Nat) : Prop :=
  g ≠ h ∧ W.heap.size ≤ g ∧ W.heap.size ≤ h ∧ wx.heap[g]? = fbox s1 a1 b1 ∧ wx.heap[h]? = fbox s2 a2 b2 ∧ FQ wx (.agg #[.bool s1, a1, b1]) V1 D1 m1 n1 ∧ FQ wx (.agg #[.bool s2, a2, b2]) V2 D2 m2 n2 ∧ Below W.heap.size W wx
theorem FQ.set3 {w : World} {v : Value} {V : Int} {D m n k : Nat} {x y z : Value} (h : FQ w v V D m n) (hr : w.heap[k]? = fbox false (.slice none 0 0) (.slice none 0 0)) :
    FQ (((w.setCell ⟨k, 0, none⟩ x).setCell ⟨k, 1, none⟩ y).setCell ⟨k, 2, none⟩ z) v V D m n := by
  obtain ⟨⟨r1, r2, h1, h2, h3⟩, h4, h5, h6⟩ := h
  exact ⟨⟨r1, r2, h1, rw_row3 h2 IsS.nil IsS.nil hr, rw_row3 h3 IsS.nil IsS.nil hr⟩, h4, h5, h6⟩
section
variable {W w : World} {s1 s2 : Bool} {a1 b1 a2 b2 : Value} {V1 V2 : Int} {D1 D2 m1 n1 m2 n2 g h : Nat}
theorem twoF0 (hb : Below W.heap.size W w) (ha : FQ w (.agg #[.bool s1, a1, b1]) V1 D1 m1 n1) (hc : FQ w (.agg #[.bool s2, a2, b2]) V2 D2 m2 n2) :
    TwoF W ((w.alloc (fobj s1 a1 b1)).alloc (fobj s2 a2 b2)) s1 s2 a1 b1 a2 b2 V1 D1 m1 n1 V2 D2 m2 n2 w.heap.size (w.heap.size + 1) :=
  ⟨by omega, hb.size, Nat.le_succ_of_le hb.size, keep_row (fbone _) (heap_alloc_new _ _), row_new _ _ _ _ (by simp), (ha.below (fbone _)).below (fbone _), (hc.below (fbone _)).below (fbone _), ballc (ballc hb _) _⟩
theorem twoF0' (hb : Below W.heap.size W w) (ha : FQ w (.agg #[.bool s1, a1, b1]) V1 D1 m1 n1) (hc : FQ w (.agg #[.bool s2, a2, b2]) V2 D2 m2 n2) :
    TwoF W ((w.alloc (fobj s2 a2 b2)).alloc (fobj s1 a1 b1)) s1 s2 a1 b1 a2 b2 V1 D1 m1 n1 V2 D2 m2 n2 (w.heap.size + 1) w.heap.size :=
  ⟨by omega, Nat.le_succ_of_le hb.size, hb.size, row_new _ _ _ _ (by simp), keep_row (fbone _) (heap_alloc_new _ _), (ha.below (fbone _)).below (fbone _), (hc.below (fbone _)).below (fbone _), ballc (ballc hb _) _⟩
theorem twoF1 (hb : Below W.heap.size W w) (ha : FQ w (.agg #[.bool s1, a1, b1]) V1 D1 m1 n1) (hc : FQ w (.agg #[.bool s2, a2, b2]) V2 D2 m2 n2) (hg : w.heap[g]? = fbox false (.slice none 0 0) (.slice none 0 0)) (hl : W.heap.size ≤ g) :
    TwoF W ((((w.setCell ⟨g, 0, none⟩ (.bool s1)).setCell ⟨g, 1, none⟩ a1).setCell ⟨g, 2, none⟩ b1).alloc (fobj s2 a2 b2)) s1 s2 a1 b1 a2 b2 V1 D1 m1 n1 V2 D2 m2 n2 g w.heap.size := by
  have hlt := (Array.getElem?_eq_some_iff.1 hg).1
  have hz : (((w.setCell ⟨g, 0, none⟩ (.bool s1)).setCell ⟨g, 1, none⟩ a1).setCell ⟨g, 2, none⟩ b1).heap.size = w.heap.size := by simp
  refine ⟨by omega, hl, hb.size, keep_row (fbone _) (row3_set hg), ?_, (ha.set3 hg).below (fbone _), (hc.set3 hg).below (fbone _), ballc (bset3 hb hl) _⟩
  rw [← hz]; exact heap_alloc_new _ _
theorem twoF1' (hb : Below W.heap.size W w) (ha : FQ w (.agg #[.bool s1, a1, b1]) V1 D1 m1 n1) (hc : FQ w (.agg #[.bool s2, a2, b2]) V2 D2 m2 n2) (hg : w.heap[g]? = fbox false (.slice none 0 0) (.slice none 0 0)) (hl : W.heap.size ≤ g) :
    TwoF W ((((w.setCell ⟨g, 0, none⟩ (.bool s2)).setCell ⟨g, 1, none⟩ a2).setCell ⟨g, 2, none⟩ b2).alloc (fobj s1 a1 b1)) s1 s2 a1 b1 a2 b2 V1 D1 m1 n1 V2 D2 m2 n2 w.heap.size g := by
  have hlt := (Array.getElem?_eq_some_iff.1 hg).1
  have hz : (((w.setCell ⟨g, 0, none⟩ (.bool s2)).setCell ⟨g, 1, none⟩ a2).setCell ⟨g, 2, none⟩ b2).heap.size = w.heap.size := by simp
  refine ⟨by omega, hb.size, hl, ?_, keep_row (fbone _) (row3_set hg), (ha.set3 hg).below (fbone _), (hc.set3 hg).below (fbone _), ballc (bset3 hb hl) _⟩
  rw [← hz]; exact heap_alloc_new _ _
theorem twoF2 (hb : Below W.heap.size W w) (ha : FQ w (.agg #[.bool s1, a1, b1]) V1 D1 m1 n1) (hc : FQ w (.agg #[.bool s2, a2, b2]) V2 D2 m2 n2) (hg : w.heap[g]? = fbox false (.slice none 0 0) (.slice none 0 0)) (hh : w.heap[h]? = fbox false (.slice none 0 0) (.slice none 0 0)) (hl : W.heap.size ≤ g) (hm : W.heap.size ≤ h) (hne : g ≠ h) :
    TwoF W ((((((w.setCell ⟨g, 0, none⟩ (.bool s1)).setCell ⟨g, 1, none⟩ a1).setCell ⟨g, 2, none⟩ b1).setCell ⟨h, 0, none⟩ (.bool s2)).setCell ⟨h, 1, none⟩ a2).setCell ⟨h, 2, none⟩ b2) s1 s2 a1 b1 a2 b2 V1 D1 m1 n1 V2 D2 m2 n2 g h := by
  have hh2 : (((w.setCell ⟨g, 0, none⟩ (.bool s1)).setCell ⟨g, 1, none⟩ a1).setCell ⟨g, 2, none⟩ b1).heap[h]? = fbox false (.slice none 0 0) (.slice none 0 0) := (heap3_other (Ne.symm hne)).trans hh
  exact ⟨hne, hl, hm, (heap3_other hne).trans (row3_set hg), row3_set hh2, (ha.set3 hg).set3 hh2, (hc.set3 hg).set3 hh2, bset3 (bset3 hb hl) hm⟩
end
end Go.Proofs.YtbghmceglemppaaGreatDoor

/-
RatInv, Upside, the statement on one over a fraction. No condition.
-/
namespace Go.Proofs.YtbghmceglemppaaGreatDoor
open Go.RowKit

/-- The memory that RatInv has made when it calls. -/
def InvW (b : Bool) (v1 v2 : Value) (w W : World) : Prop :=
  W = (w.alloc (.cells #[.bool b, v1, v2] 43)).alloc (.cells #[.bool false, .slice none 0 0, .slice none 0 0] 43)
theorem InvW.facts {b : Bool} {v1 v2 : Value} {w W : World} (h : InvW b v1 v2 w W) : Below w.heap.size w W ∧ W.heap.size = w.heap.size + 2 ∧
    W.heap[w.heap.size]? = some (.cells #[.bool b, v1, v2] 43 (0, 0)) ∧ W.heap[w.heap.size + 1]? = some (.cells #[.bool false, .slice none 0 0, .slice none 0 0] 43 (0, 0)) := by
  unfold InvW at h
  subst h
  exact ⟨bthen (bone _) (bone _), by simp, heap_new0 w (bone _) rfl, heap_new0 _ (Below.refl _ _) (by simp)⟩
set_option maxRecDepth 100000 in
theorem upside_any (neg : Bool) (a1 a2 : Value) (w : World) (hS1 : IsS a1) (hS2 : IsS a2) :
    Calls Tryz.prog 44 #[.agg #[.bool neg, a1, a2]] w fun e w' => e = .returned (.agg #[.bool neg, a2, a1]) ∧ Below w.heap.size w w' := by
  have hab := ((Below.refl w.heap.size w).alloc (Nat.le_refl _) (.cells #[.bool neg, a1, a2] 49)).alloc ((Below.refl w.heap.size w).alloc (Nat.le_refl _) (.cells #[.bool neg, a1, a2] 49)).size (.cells #[.bool false, .slice none 0 0, .slice none 0 0] 49)
  obtain ⟨W, hW⟩ : ∃ W, W = (w.alloc (.cells #[.bool neg, a1, a2] 49)).alloc (.cells #[.bool false, .slice none 0 0, .slice none 0 0] 49) := ⟨_, rfl⟩
  have hrow0 : W.heap[w.heap.size]? = some (.cells #[.bool neg, a1, a2] 49 (0, 0)) := by rw [hW]; exact box_row (bone _)
  have hrow1 : W.heap[w.heap.size + 1]? = some (.cells #[.bool false, .slice none 0 0, .slice none 0 0] 49 (0, 0)) := by
    rw [hW]; exact heap_new0 _ (Below.refl _ _) (by simp)
  rw [← hW] at hab
  obtain ⟨x0, x1, x2, -, -, -⟩ := row3 hrow0
  obtain ⟨k0, k1, k2, f0, f1, f2⟩ := row3 hrow1
  obtain ⟨e0, e1, e2, -, -, -⟩ := row3 (row3_set (x := .bool neg) (y := a2) (z := a1) hrow1)
  have HB := Lib.hid (bset3 (a := .bool neg) (b := a2) (c := a1) hab (show w.heap.size ≤ w.heap.size + 1 by omega))
  clear hrow0 hrow1
  go_enter Tryz.func44, Tryz.ntmps44
  go_upto_region 1 with fail
  rw [← hW]
  clear hW
  go_wp2
  refine bodyPost_ret (v := .agg #[.bool neg, a2, a1]) ?_ rfl ⟨rfl, HB.out⟩
  simp [results, Tryz.results44, go_sem, e0, e1, e2]
end Go.Proofs.YtbghmceglemppaaGreatDoor

/-
The statement on one over a fraction. No condition.
-/
namespace Go.Proofs.YtbghmceglemppaaGreatDoor
open Go.RowKit

theorem sg_zero (b : Bool) : sg b 0 = 0 := rfl
theorem sg_ne {b : Bool} {n : Nat} (h : 0 < n) : (sg b n == 0) = false := by
  rw [beq_eq_false_iff_ne]; unfold sg; rw [if_neg (by omega)]; cases b <;> simp
end Go.Proofs.YtbghmceglemppaaGreatDoor
