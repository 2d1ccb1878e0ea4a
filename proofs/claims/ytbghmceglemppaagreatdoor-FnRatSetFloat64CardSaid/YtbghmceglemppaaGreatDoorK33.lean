/-
Texts of this proof, joined: RcG RcH RcI0 RdP. No condition.
-/
import Derived.Test.YtbghmceglemppaaGreatDoorK08
import Derived.Test.YtbghmceglemppaaGreatDoorK15
import Derived.Test.YtbghmceglemppaaGreatDoorK32
import Derived.Test.YtbghmceglemppaaGreatDoorK41
import Derived.RegionTactic
import Derived.BigRegion
/-
The order of two fractions, as the reference tells it: Compare. No condition.
-/
namespace Go.Proofs.YtbghmceglemppaaGreatDoor
open Go.RowKit

theorem cmp_law (b c : Bool) (N1 N2 A C : Nat) (hA : A = 0 ↔ N1 = 0) (hC : C = 0 ↔ N2 = 0) :
    cmpS (b && decide (0 < N1)) A (c && decide (0 < N2)) C = sg (plS b A (!c && decide (0 < N2)) C) (plN b A (!c && decide (0 < N2)) C) := by
  have e1 : decide (0 < N1) = decide (0 < A) := by rw [decide_eq_decide]; omega
  have e2 : decide (0 < N2) = decide (0 < C) := by rw [decide_eq_decide]; omega
  rw [e1, e2]
  clear hA hC e1 e2
  unfold cmpS sg plS plN cmpN
  rcases Nat.eq_zero_or_pos A with ha | ha <;> rcases Nat.eq_zero_or_pos C with hc | hc
  all_goals
    first
      | (subst ha; subst hc)
      | (subst ha; have hc' : decide (0 < C) = true := decide_eq_true hc)
      | (subst hc; have ha' : decide (0 < A) = true := decide_eq_true ha)
      | (have hc' : decide (0 < C) = true := decide_eq_true hc; have ha' : decide (0 < A) = true := decide_eq_true ha)
    cases b <;> cases c <;> simp (config := { decide := true }) [*] <;> (repeat' split) <;> omega
theorem sg_div (neg : Bool) (N D : Nat) (_hD : 0 < D) : sg (neg && decide (0 < N)) (N / Nat.gcd N D) = sg neg N := by
  rcases Nat.eq_zero_or_pos N with h | h
  · subst h; unfold sg; simp
  · have h1 : 0 < N / Nat.gcd N D := Nat.div_pos (Nat.gcd_le_left D h) (Nat.gcd_pos_of_pos_left D h)
    have h2 : ¬ N / Nat.gcd N D = 0 := by omega
    have h3 : ¬ N = 0 := by omega
    rw [decide_eq_true h, Bool.and_true]
    unfold sg
    rw [if_neg h2, if_neg h3]
end Go.Proofs.YtbghmceglemppaaGreatDoor

/-
Two fractions of a law: pair. No condition.
-/
namespace Go.Proofs.YtbghmceglemppaaGreatDoor
open Go.RowKit

/-- What fraction tells where it says yes. -/
structure FrOk (n : Nat) (b bb : Bool) (ns ds : List Nat) (a1 a2 : Value) (w : World) : Prop where
  sign : bb = b
  l1 : ns.length ≤ n
  l2 : ds.length ≤ n
  pos : 0 < wv ds
  v1 : NatV w a1 (wv ns)
  v2 : NatV w a2 (wv ds)
  low : isFrac b ns ds b (wv ns) (wv ds) = true
  cop : Nat.gcd (wv ns) (wv ds) = 1
theorem FrOk.below {n : Nat} {b bb : Bool} {ns ds : List Nat} {a1 a2 : Value} {w w' : World} (h : FrOk n b bb ns ds a1 a2 w) (hb : Below w.heap.size w w') : FrOk n b bb ns ds a1 a2 w' := ⟨h.sign, h.l1, h.l2, h.pos, h.v1.below hb, h.v2.below hb, h.low, h.cop⟩
/-- What pair answers. -/
def PrPost (n : Nat) (b1 b2 : Bool) (ns1 ds1 ns2 ds2 : List Nat) (w : World) (v : Value) (w' : World) : Prop :=
  ∃ x a1 a2 y c1 c2 ok, v = .tuple #[.agg #[.bool x, a1, a2], .agg #[.bool y, c1, c2], .bool ok] ∧ IsS a1 ∧ IsS a2 ∧ IsS c1 ∧ IsS c2 ∧ Below w.heap.size w w' ∧
    (ok = true → FrOk n b1 x ns1 ds1 a1 a2 w' ∧ FrOk n b2 y ns2 ds2 c1 c2 w')
set_option maxRecDepth 100000 in
set_option maxHeartbeats 3200000 in
theorem pair_any (b1 b2 : Bool) (v1 u1 v2 u2 : Value) (n : Nat) (ns1 ds1 ns2 ds2 : List Nat) (w : World) (hv1 : RW w v1 ns1) (hu1 : RW w u1 ds1) (hv2 : RW w v2 ns2) (hu2 : RW w u2 ds2) (hn : n ≤ 100000) :
    Calls Tryz.prog 34 #[.agg #[.bool b1, v1, u1], .agg #[.bool b2, v2, u2], .int .i64 n] w fun e w' => ∃ v, e = .returned v ∧ PrPost n b1 b2 ns1 ds1 ns2 ds2 w v w' := by
  have hS1 := hv1.isS
  have hS2 := hu1.isS
  have hS3 := hv2.isS
  have hS4 := hu2.isS
  obtain ⟨W, hW⟩ : ∃ W, W = (((w.alloc (.cells #[.bool b1, v1, u1] 43)).alloc (.cells #[.bool b2, v2, u2] 43)).alloc (.cells #[.bool false, .slice none 0 0, .slice none 0 0] 49)).alloc (.cells #[.bool false, .slice none 0 0, .slice none 0 0] 49) := ⟨_, rfl⟩
  have hbW : Below w.heap.size w W := by rw [hW]; exact ((((Below.refl _ w).alloc (Nat.le_refl _) _).alloc (by simp) _).alloc (by simp; omega) _).alloc (by simp; omega) _
  have r0 : W.heap[w.heap.size]? = some (.cells #[.bool b1, v1, u1] 43 (0, 0)) := by rw [hW]; exact keep_row (fbone _) (keep_row (fbone _) (keep_row (fbone _) (row_new _ _ _ _ rfl)))
  have r1 : W.heap[w.heap.size + 1]? = some (.cells #[.bool b2, v2, u2] 43 (0, 0)) := by rw [hW]; exact keep_row (fbone _) (keep_row (fbone _) (row_new _ _ _ _ (by simp)))
  have r2 : W.heap[w.heap.size + 1 + 1]? = some (.cells #[.bool false, .slice none 0 0, .slice none 0 0] 49 (0, 0)) := by rw [hW]; exact keep_row (fbone _) (row_new _ _ _ _ (by simp))
  have r3 : W.heap[w.heap.size + 1 + 1 + 1]? = some (.cells #[.bool false, .slice none 0 0, .slice none 0 0] 49 (0, 0)) := by rw [hW]; exact row_new _ _ _ _ (by simp)
  have hWz : W.heap.size = w.heap.size + 1 + 1 + 1 + 1 := by rw [hW]; simp
  obtain ⟨x0, x1, x2, -, -, -⟩ := row3 r0
  have V1 := Lib.hid (hv1.below hbW)
  have U1 := Lib.hid (hu1.below hbW)
  have V2 := Lib.hid (hv2.below hbW)
  have U2 := Lib.hid (hu2.below hbW)
  have R1 := Lib.hid r1
  have R2 := Lib.hid r2
  have R3 := Lib.hid r3
  have HWZ := Lib.hid hWz
  clear hv1 hu1 hv2 hu2 r0 r1 r2 r3 hWz
  go_enter Tryz.func34, Tryz.ntmps34
  go_upto_region 1 with fail
  rw [← hW]
  clear hW
  go_wp2_with fail
  refine (fraction_any b1 v1 u1 n ns1 ds1 W V1.out U1.out hn).mono ?_
  rintro _ w1 ⟨_, rfl, x, a1, a2, ok1, rfl, hA1, hA2, hb1, hok1⟩
  go_upto_region 2 with fail
  obtain ⟨X1, hX1⟩ : ∃ X, X = w1.alloc (.cells #[.bool x, a1, a2] 49) := ⟨_, rfl⟩
  have g1 : X1.heap[w1.heap.size]? = some (.cells #[.bool x, a1, a2] 49 (0, 0)) := by rw [hX1]; exact row_new _ _ _ _ rfl
  have hbX1 : Below w1.heap.size w1 X1 := by rw [hX1]; exact fbone _
  have hWX1 := bthen hb1 hbX1
  have hz1 := hWX1.size
  obtain ⟨y0, y1, y2, -, -, -⟩ := row3 (keep_row hWX1 R1.out)
  have hz2 := hb1.size
  rw [← hX1]
  have OK1 := Lib.hid (fun h => (⟨(hok1 h).1, (hok1 h).2.1, (hok1 h).2.2.1, (hok1 h).2.2.2.1, (hok1 h).2.2.2.2.2.2.1, (hok1 h).2.2.2.2.2.2.2, (hok1 h).2.2.2.2.1, (hok1 h).2.2.2.2.2.1⟩ : FrOk n b1 x ns1 ds1 a1 a2 w1).below hbX1)
  have G1 := Lib.hid g1
  obtain ⟨p1, hp1⟩ : ∃ p, p = w1.heap.size := ⟨_, rfl⟩
  rw [← hp1] at G1 ⊢
  have HP1 := Lib.hid hp1
  clear hX1 g1 hok1 x0 x1 x2 hp1
  go_wp2_with fail
  refine (fraction_any b2 v2 u2 n ns2 ds2 X1 (V2.out.below hWX1) (U2.out.below hWX1) hn).mono ?_
  rintro _ w2 ⟨_, rfl, y, c1, c2, ok2, rfl, hC1, hC2, hb2, hok2⟩
  go_upto_region 3 with fail
  obtain ⟨X2, hX2⟩ : ∃ X, X = w2.alloc (.cells #[.bool y, c1, c2] 49) := ⟨_, rfl⟩
  have g2 : X2.heap[w2.heap.size]? = some (.cells #[.bool y, c1, c2] 49 (0, 0)) := by rw [hX2]; exact row_new _ _ _ _ rfl
  have hbX2 : Below w2.heap.size w2 X2 := by rw [hX2]; exact fbone _
  have hX12 := bthen hb2 hbX2
  have hWX2 := bthen hWX1 hX12
  rw [← hX2]
  have OK2 := Lib.hid (fun h => (⟨(hok2 h).1, (hok2 h).2.1, (hok2 h).2.2.1, (hok2 h).2.2.2.1, (hok2 h).2.2.2.2.2.2.1, (hok2 h).2.2.2.2.2.2.2, (hok2 h).2.2.2.2.1, (hok2 h).2.2.2.2.2.1⟩ : FrOk n b2 y ns2 ds2 c1 c2 w2).below hbX2)
  have OK1' := Lib.hid (fun h => (OK1.out h).below hX12)
  obtain ⟨m0, m1, m2, -, -, -⟩ := row3 (keep_row hX12 G1.out)
  obtain ⟨n0, n1, n2, -, -, -⟩ := row3 g2
  have k2 := keep_row hWX2 R2.out
  have k3 := keep_row hWX2 R3.out
  obtain ⟨d0, d1, d2, f0, f1, f2⟩ := row3 k2
  obtain ⟨e0, e1, e2, i0, i1, i2⟩ := row3 k3
  have hz3 := hX12.size
  have hz4 := hb2.size
  have hz5 := hbX1.size
  have q1 := HWZ.out
  have q2 := HP1.out
  have nA1 : w.heap.size + 1 + 1 ≠ p1 := by omega
  have nA2 : w.heap.size + 1 + 1 ≠ w2.heap.size := by omega
  have nB1 : w.heap.size + 1 + 1 + 1 ≠ p1 := by omega
  have nB2 : w.heap.size + 1 + 1 + 1 ≠ w2.heap.size := by omega
  have hB3 : ¬ (w.heap.size + 1 + 1 + 1 = w.heap.size + 1 + 1) := by omega
  have hB4 : ¬ (w.heap.size + 1 + 1 = w.heap.size + 1 + 1 + 1) := by omega
  have HBB := Lib.hid (hbW.trans (hWX2.mono hbW.size))
  have K2 := Lib.hid k2
  have K3 := Lib.hid k3
  have hcc := Below.refl X2.heap.size X2
  clear q1 q2 hz3 hz4 hz5 hz1 hz2 hX2 g2 hok2 hWX1 hbX1 hbX2 hb1 hb2 k2 k3 y0 y1 y2
  have Z1r := row3_set (x := .bool x) (y := a1) (z := a2) K2.out
  have K3' := ((heap_setCell_other (((X2.setCell ⟨w.heap.size + 1 + 1, 0, none⟩ (.bool x)).setCell ⟨w.heap.size + 1 + 1, 1, none⟩ a1)) ⟨w.heap.size + 1 + 1, 2, none⟩ (w.heap.size + 1 + 1 + 1) a2 (by simp only; omega)).trans ((heap_setCell_other (X2.setCell ⟨w.heap.size + 1 + 1, 0, none⟩ (.bool x)) ⟨w.heap.size + 1 + 1, 1, none⟩ (w.heap.size + 1 + 1 + 1) a1 (by simp only; omega)).trans (heap_setCell_other X2 ⟨w.heap.size + 1 + 1, 0, none⟩ (w.heap.size + 1 + 1 + 1) (.bool x) (by simp only; omega)))).trans K3.out
  have Z2r := row3_set (x := .bool y) (y := c1) (z := c2) K3'
  obtain ⟨Z1, hZ1⟩ : ∃ Z, Z = (((X2.setCell ⟨w.heap.size + 1 + 1, 0, none⟩ (.bool x)).setCell ⟨w.heap.size + 1 + 1, 1, none⟩ a1).setCell ⟨w.heap.size + 1 + 1, 2, none⟩ a2) := ⟨_, rfl⟩
  rw [← hZ1] at Z1r K3' Z2r
  have Z2s := (heap_setCell_other ((Z1.setCell ⟨w.heap.size + 1 + 1 + 1, 0, none⟩ (.bool y)).setCell ⟨w.heap.size + 1 + 1 + 1, 1, none⟩ c1) ⟨w.heap.size + 1 + 1 + 1, 2, none⟩ (w.heap.size + 1 + 1) c2 (by simp only; omega)).trans ((heap_setCell_other (Z1.setCell ⟨w.heap.size + 1 + 1 + 1, 0, none⟩ (.bool y)) ⟨w.heap.size + 1 + 1 + 1, 1, none⟩ (w.heap.size + 1 + 1) c1 (by simp only; omega)).trans ((heap_setCell_other Z1 ⟨w.heap.size + 1 + 1 + 1, 0, none⟩ (w.heap.size + 1 + 1) (.bool y) (by simp only; omega)).trans Z1r))
  obtain ⟨t0, t1, t2, -, -, -⟩ := row3 Z2s
  obtain ⟨t3, t4, t5, -, -, -⟩ := row3 Z2r
  have HF1 : Hid (ok1 = true → FrOk n b1 x ns1 ds1 a1 a2 (((Z1.setCell ⟨w.heap.size + 1 + 1 + 1, 0, none⟩ (.bool y)).setCell ⟨w.heap.size + 1 + 1 + 1, 1, none⟩ c1).setCell ⟨w.heap.size + 1 + 1 + 1, 2, none⟩ c2)) := Lib.hid (fun h => by
    have k := OK1'.out h
    have k1 := natv_row3 (x := .bool x) (y := a1) (z := a2) IsS.nil IsS.nil k.v1 K2.out
    have k2 := natv_row3 (x := .bool x) (y := a1) (z := a2) IsS.nil IsS.nil k.v2 K2.out
    rw [← hZ1] at k1 k2
    exact ⟨k.sign, k.l1, k.l2, k.pos, natv_row3 IsS.nil IsS.nil k1 K3', natv_row3 IsS.nil IsS.nil k2 K3', k.low, k.cop⟩)
  have HF2 : Hid (ok2 = true → FrOk n b2 y ns2 ds2 c1 c2 (((Z1.setCell ⟨w.heap.size + 1 + 1 + 1, 0, none⟩ (.bool y)).setCell ⟨w.heap.size + 1 + 1 + 1, 1, none⟩ c1).setCell ⟨w.heap.size + 1 + 1 + 1, 2, none⟩ c2)) := Lib.hid (fun h => by
    have k := OK2.out h
    have k1 := natv_row3 (x := .bool x) (y := a1) (z := a2) IsS.nil IsS.nil k.v1 K2.out
    have k2 := natv_row3 (x := .bool x) (y := a1) (z := a2) IsS.nil IsS.nil k.v2 K2.out
    rw [← hZ1] at k1 k2
    exact ⟨k.sign, k.l1, k.l2, k.pos, natv_row3 IsS.nil IsS.nil k1 K3', natv_row3 IsS.nil IsS.nil k2 K3', k.low, k.cop⟩)
  have HZB : Hid (Below w.heap.size w (((Z1.setCell ⟨w.heap.size + 1 + 1 + 1, 0, none⟩ (.bool y)).setCell ⟨w.heap.size + 1 + 1 + 1, 1, none⟩ c1).setCell ⟨w.heap.size + 1 + 1 + 1, 2, none⟩ c2)) := Lib.hid (by
    have e1 : w.heap.size ≤ w.heap.size + 1 + 1 := by omega
    have e2 : w.heap.size ≤ w.heap.size + 1 + 1 + 1 := by omega
    have hb : Below w.heap.size w Z1 := by rw [hZ1]; exact bset (bset (bset HBB.out e1) e1) e1
    exact bset (bset (bset hb e2) e2) e2)
  clear Z1r K3' Z2r Z2s
  cases ok1
  · go_region
    go_wp2
    rw [← hZ1]
    refine bodyPost_ret (v := .tuple #[.agg #[.bool x, a1, a2], .agg #[.bool y, c1, c2], .bool false]) ?_ rfl ⟨_, rfl, x, a1, a2, y, c1, c2, false, rfl, hA1, hA2, hC1, hC2, Below.drew HZB.out, fun h => absurd h (by decide)⟩
    simp [results, Tryz.results34, go_sem, t0, t1, t2, t3, t4, t5]
  · go_region
    go_wp2
    rw [← hZ1]
    refine bodyPost_ret (v := .tuple #[.agg #[.bool x, a1, a2], .agg #[.bool y, c1, c2], .bool ok2]) ?_ rfl ⟨_, rfl, x, a1, a2, y, c1, c2, ok2, rfl, hA1, hA2, hC1, hC2, Below.drew HZB.out, fun h => ⟨(HF1.out (by trivial)).below (Below.drew (Below.refl _ _)), (HF2.out h).below (Below.drew (Below.refl _ _))⟩⟩
    simp [results, Tryz.results34, go_sem, t0, t1, t2, t3, t4, t5]
end Go.Proofs.YtbghmceglemppaaGreatDoor

/-
Cells of four boxes; a fraction of the thin package against one of the reference. No condition.
-/
namespace Go.Proofs.YtbghmceglemppaaGreatDoor
open Go.RowKit

theorem ks12F {W X : World} {k g p q T U : Nat} {a b c d e f a' b' c' d' e' f' : Value} (h1 : W.heap[k]? = some (.cells #[a, b, c] T (0, 0))) (h2 : W.heap[g]? = some (.cells #[d, e, f] T (0, 0))) (h3 : W.heap[p]? = some (.cells #[a', b', c'] U (0, 0))) (h4 : W.heap[q]? = some (.cells #[d', e', f'] U (0, 0))) (h : Below W.heap.size W X) :
    Below W.heap.size W X ∧ (X.cell? ⟨k, 0, none⟩ = some a ∧ X.cell? ⟨k, 1, none⟩ = some b ∧ X.cell? ⟨k, 2, none⟩ = some c ∧ X.cell? ⟨g, 0, none⟩ = some d ∧ X.cell? ⟨g, 1, none⟩ = some e ∧ X.cell? ⟨g, 2, none⟩ = some f) ∧
    X.cell? ⟨p, 0, none⟩ = some a' ∧ X.cell? ⟨p, 1, none⟩ = some b' ∧ X.cell? ⟨p, 2, none⟩ = some c' ∧ X.cell? ⟨q, 0, none⟩ = some d' ∧ X.cell? ⟨q, 1, none⟩ = some e' ∧ X.cell? ⟨q, 2, none⟩ = some f' :=
  ⟨h, (ks6F h1 h2 h).2, (ks6F h3 h4 h).2⟩
/-- A fraction of the reference in lowest terms, by its value. -/
def RtI (w : World) (v : Value) (V : Int) (D : Nat) : Prop := ∃ q r, v = .agg #[.bool (decide (V < 0)), q, r] ∧ NatV w q (V.natAbs / Nat.gcd V.natAbs D) ∧ NatV w r (D / Nat.gcd V.natAbs D)
theorem FracV.below {w w' : World} {v : Value} {V : Int} {D : Nat} (h : FracV w v V D) (hb : Below w.heap.size w w') : FracV w' v V D := by
  obtain ⟨r1, r2, h1, h2, h3⟩ := h
  exact ⟨r1, r2, h1, h2.below hb, h3.below hb⟩
theorem RtI.below {w w' : World} {v : Value} {V : Int} {D : Nat} (h : RtI w v V D) (hb : Below w.heap.size w w') : RtI w' v V D := by
  obtain ⟨r1, r2, h1, h2, h3⟩ := h
  exact ⟨r1, r2, h1, h2.below hb, h3.below hb⟩
theorem nl_nw (n : Nat) : nl n ≤ 4 * nw n := by
  unfold nw; omega
theorem isFracV_same {w : World} {v u : Value} {V : Int} {D : Nat} (hf : FracV w v V D) (hr : RtI w u V D) (hD : 0 < D) (h1 : nw V.natAbs ≤ 100) (h2 : nw D ≤ 100) :
    Calls Tryz.prog 25 #[v, u] w fun e w' => e = .returned (.bool true) ∧ Below w.heap.size w w' := by
  obtain ⟨r1, r2, rfl, f1, f2⟩ := hf
  obtain ⟨q, r, rfl, g1, g2⟩ := hr
  have n1 : nw (V.natAbs / Nat.gcd V.natAbs D) ≤ 100 := Nat.le_trans (nw_mono (Nat.div_le_self _ _)) h1
  have n2 : nw (D / Nat.gcd V.natAbs D) ≤ 100 := Nat.le_trans (nw_mono (Nat.div_le_self _ _)) h2
  have m1 := nl_nw (V.natAbs / Nat.gcd V.natAbs D)
  have m2 := nl_nw (D / Nat.gcd V.natAbs D)
  have e : isFrac (decide (V < 0)) (wds (V.natAbs / Nat.gcd V.natAbs D)) (wds (D / Nat.gcd V.natAbs D)) (decide (V < 0)) (V.natAbs / Nat.gcd V.natAbs D) (D / Nat.gcd V.natAbs D) = true := by
    unfold isFrac isNum
    rw [neg_div V hD]
    simp
  refine (isFraction_any (decide (V < 0)) (decide (V < 0)) r1 r2 q r _ _ _ _ w f1 f2 g1 g2 (by rw [wds_length]; omega) (by rw [wds_length]; omega) (by omega) (by omega)).mono ?_
  rintro e' w' ⟨h3, h4⟩
  rw [e] at h3
  exact ⟨h3, h4⟩
end Go.Proofs.YtbghmceglemppaaGreatDoor

/-
Reduced fractions in plain numbers. No condition.
-/
namespace Go.Proofs.YtbghmceglemppaaGreatDoor

theorem red_mul (n d k : Nat) (hk : 0 < k) : (n * k) / Nat.gcd (n * k) (d * k) = n / Nat.gcd n d := by
  rw [Nat.gcd_mul_right, Nat.mul_div_mul_right _ _ hk]
theorem red_same {V V' : Int} {D D' : Nat} (hD : 0 < D) (hD' : 0 < D') (h : V * D' = V' * D) :
    V.natAbs / Nat.gcd V.natAbs D = V'.natAbs / Nat.gcd V'.natAbs D' ∧ D / Nat.gcd V.natAbs D = D' / Nat.gcd V'.natAbs D' ∧ decide (V < 0) = decide (V' < 0) := by
  have e : V.natAbs * D' = V'.natAbs * D := by
    have := congrArg Int.natAbs h
    rwa [Int.natAbs_mul, Int.natAbs_mul, Int.natAbs_natCast, Int.natAbs_natCast] at this
  refine ⟨?_, ?_, ?_⟩
  · rw [← red_mul V.natAbs D D' hD', ← red_mul V'.natAbs D' D hD, e, Nat.mul_comm D D']
  · have h1 := red_mul D V.natAbs D' hD'
    have h2 := red_mul D' V'.natAbs D hD
    rw [Nat.gcd_comm (D * D'), Nat.gcd_comm D] at h1
    rw [Nat.gcd_comm (D' * D), Nat.gcd_comm D'] at h2
    rw [← h1, ← h2, e, Nat.mul_comm D D']
  · have p1 : (V < 0) ↔ (V * D' < 0) := by
      constructor
      · intro h; exact Int.mul_neg_of_neg_of_pos h (by omega)
      · intro h
        rcases Int.lt_or_le V 0 with h1 | h1
        · exact h1
        · have := Int.mul_nonneg h1 (show (0:Int) ≤ D' by omega); omega
    have p2 : (V' < 0) ↔ (V' * D < 0) := by
      constructor
      · intro h; exact Int.mul_neg_of_neg_of_pos h (by omega)
      · intro h
        rcases Int.lt_or_le V' 0 with h1 | h1
        · exact h1
        · have := Int.mul_nonneg h1 (show (0:Int) ≤ D by omega); omega
    rw [decide_eq_decide, p1, p2, h]
end Go.Proofs.YtbghmceglemppaaGreatDoor
