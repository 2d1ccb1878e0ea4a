/-
Texts of this proof, joined: RcH DvA FlB. No condition.
-/
import Derived.Test.YtkhhoamcnocjlaaGreatDoorK05
import Derived.Test.YtkhhoamcnocjlaaGreatDoorK06
import Derived.Test.YtkhhoamcnocjlaaGreatDoorK11
import Derived.RegionTactic
import Derived.BigRegion
/-
Two fractions of a law: pair. No condition.
-/
namespace Go.Proofs.YtkhhoamcnocjlaaGreatDoor
open Go.RowKit

/-- What fraction tells where it says yes. -/
structure FrOk (n : Nat) (b bb : Bool) (ns ds : List Nat) (a1 a2 : Value) (w : World) : Prop where
  sign : bb = b
  l1 : ns.length ≤ n
  l2 : ds.length ≤ n
  pos : 0 < wv ds
  v1 : NatV w a1 (wv ns)
  v2 : NatV w a2 (wv ds)
theorem FrOk.below {n : Nat} {b bb : Bool} {ns ds : List Nat} {a1 a2 : Value} {w w' : World} (h : FrOk n b bb ns ds a1 a2 w) (hb : Below w.heap.size w w') : FrOk n b bb ns ds a1 a2 w' := ⟨h.sign, h.l1, h.l2, h.pos, h.v1.below hb, h.v2.below hb⟩
/-- What pair answers. -/
def PrPost (n : Nat) (b1 b2 : Bool) (ns1 ds1 ns2 ds2 : List Nat) (w : World) (v : Value) (w' : World) : Prop :=
  ∃ x a1 a2 y c1 c2 ok, v = .tuple #[.agg #[.bool x, a1, a2], .agg #[.bool y, c1, c2], .bool ok] ∧ IsS a1 ∧ IsS a2 ∧ IsS c1 ∧ IsS c2 ∧ Below w.heap.size w w' ∧
    (ok = true → FrOk n b1 x ns1 ds1 a1 a2 w' ∧ FrOk n b2 y ns2 ds2 c1 c2 w')
theorem row_new (w : World) (cs : Array Value) (T k : Nat) (hk : w.heap.size = k) : (w.alloc (.cells cs T)).heap[k]? = some (.cells cs T (0, 0)) := by
  subst hk; exact box_row (Below.refl _ _)
set_option maxRecDepth 100000 in
set_option maxHeartbeats 3200000 in
theorem pair_any (b1 b2 : Bool) (v1 u1 v2 u2 : Value) (n : Nat) (ns1 ds1 ns2 ds2 : List Nat) (w : World) (hv1 : RW w v1 ns1) (hu1 : RW w u1 ds1) (hv2 : RW w v2 ns2) (hu2 : RW w u2 ds2) (hn : n ≤ 100000) :
    Calls Tryz.prog 25 #[.agg #[.bool b1, v1, u1], .agg #[.bool b2, v2, u2], .int .i64 n] w fun e w' => ∃ v, e = .returned v ∧ PrPost n b1 b2 ns1 ds1 ns2 ds2 w v w' := by
  have hS1 := hv1.isS
  have hS2 := hu1.isS
  have hS3 := hv2.isS
  have hS4 := hu2.isS
  obtain ⟨W, hW⟩ : ∃ W, W = (((w.alloc (.cells #[.bool b1, v1, u1] 51)).alloc (.cells #[.bool b2, v2, u2] 51)).alloc (.cells #[.bool false, .slice none 0 0, .slice none 0 0] 57)).alloc (.cells #[.bool false, .slice none 0 0, .slice none 0 0] 57) := ⟨_, rfl⟩
  have hbW : Below w.heap.size w W := by rw [hW]; exact ((((Below.refl _ w).alloc (Nat.le_refl _) _).alloc (by simp) _).alloc (by simp; omega) _).alloc (by simp; omega) _
  have r0 : W.heap[w.heap.size]? = some (.cells #[.bool b1, v1, u1] 51 (0, 0)) := by rw [hW]; exact keep_row (fbone _) (keep_row (fbone _) (keep_row (fbone _) (row_new _ _ _ _ rfl)))
  have r1 : W.heap[w.heap.size + 1]? = some (.cells #[.bool b2, v2, u2] 51 (0, 0)) := by rw [hW]; exact keep_row (fbone _) (keep_row (fbone _) (row_new _ _ _ _ (by simp)))
  have r2 : W.heap[w.heap.size + 1 + 1]? = some (.cells #[.bool false, .slice none 0 0, .slice none 0 0] 57 (0, 0)) := by rw [hW]; exact keep_row (fbone _) (row_new _ _ _ _ (by simp))
  have r3 : W.heap[w.heap.size + 1 + 1 + 1]? = some (.cells #[.bool false, .slice none 0 0, .slice none 0 0] 57 (0, 0)) := by rw [hW]; exact row_new _ _ _ _ (by simp)
  have hWz : W.heap.size = w.heap.size + 1 + 1 + 1 + 1 := by rw [hW]; simp
  obtain ⟨x0, x1, x2, -, -, -⟩ := row3 r0
  have V1 := Lib.hid (hv1.below hbW)
  have U1 := Lib.hid (hu1.below hbW)
  have V2 := Lib.hid (hv2.below hbW)
  have U2 := Lib.hid (hu2.below hbW)
  have R1 := Lib.hid r1
  have R2 := Lib.hid r2
  have R3 := Lib.hid r3
  have HWZ := Lib.hid hWz
  clear hv1 hu1 hv2 hu2 r0 r1 r2 r3 hWz
  go_enter Tryz.func25, Tryz.ntmps25
  go_upto_region 1 with fail
  rw [← hW]
  clear hW
  go_wp2_with fail
  refine (fraction_any b1 v1 u1 n ns1 ds1 W V1.out U1.out hn).mono ?_
  rintro _ w1 ⟨_, rfl, x, a1, a2, ok1, rfl, hA1, hA2, hb1, hok1⟩
  go_upto_region 2 with fail
  obtain ⟨X1, hX1⟩ : ∃ X, X = w1.alloc (.cells #[.bool x, a1, a2] 57) := ⟨_, rfl⟩
  have g1 : X1.heap[w1.heap.size]? = some (.cells #[.bool x, a1, a2] 57 (0, 0)) := by rw [hX1]; exact row_new _ _ _ _ rfl
  have hbX1 : Below w1.heap.size w1 X1 := by rw [hX1]; exact fbone _
  have hWX1 := bthen hb1 hbX1
  have hz1 := hWX1.size
  obtain ⟨y0, y1, y2, -, -, -⟩ := row3 (keep_row hWX1 R1.out)
  have hz2 := hb1.size
  rw [← hX1]
  have OK1 := Lib.hid (fun h => (⟨(hok1 h).1, (hok1 h).2.1, (hok1 h).2.2.1, (hok1 h).2.2.2.1, (hok1 h).2.2.2.2.2.2.1, (hok1 h).2.2.2.2.2.2.2⟩ : FrOk n b1 x ns1 ds1 a1 a2 w1).below hbX1)
  have G1 := Lib.hid g1
  obtain ⟨p1, hp1⟩ : ∃ p, p = w1.heap.size := ⟨_, rfl⟩
  rw [← hp1] at G1 ⊢
  have HP1 := Lib.hid hp1
  clear hX1 g1 hok1 x0 x1 x2 hp1
  go_wp2_with fail
  refine (fraction_any b2 v2 u2 n ns2 ds2 X1 (V2.out.below hWX1) (U2.out.below hWX1) hn).mono ?_
  rintro _ w2 ⟨_, rfl, y, c1, c2, ok2, rfl, hC1, hC2, hb2, hok2⟩
  go_upto_region 3 with fail
  obtain ⟨X2, hX2⟩ : ∃ X, X = w2.alloc (.cells #[.bool y, c1, c2] 57) := ⟨_, rfl⟩
  have g2 : X2.heap[w2.heap.size]? = some (.cells #[.bool y, c1, c2] 57 (0, 0)) := by rw [hX2]; exact row_new _ _ _ _ rfl
  have hbX2 : Below w2.heap.size w2 X2 := by rw [hX2]; exact fbone _
  have hX12 := bthen hb2 hbX2
  have hWX2 := bthen hWX1 hX12
  rw [← hX2]
  have OK2 := Lib.hid (fun h => (⟨(hok2 h).1, (hok2 h).2.1, (hok2 h).2.2.1, (hok2 h).2.2.2.1, (hok2 h).2.2.2.2.2.2.1, (hok2 h).2.2.2.2.2.2.2⟩ : FrOk n b2 y ns2 ds2 c1 c2 w2).below hbX2)
  have OK1' := Lib.hid (fun h => (OK1.out h).below hX12)
  obtain ⟨m0, m1, m2, -, -, -⟩ := row3 (keep_row hX12 G1.out)
  obtain ⟨n0, n1, n2, -, -, -⟩ := row3 g2
  have k2 := keep_row hWX2 R2.out
  have k3 := keep_row hWX2 R3.out
  obtain ⟨d0, d1, d2, f0, f1, f2⟩ := row3 k2
  obtain ⟨e0, e1, e2, i0, i1, i2⟩ := row3 k3
  have hz3 := hX12.size
  have hz4 := hb2.size
  have hz5 := hbX1.size
  have q1 := HWZ.out
  have q2 := HP1.out
  have nA1 : w.heap.size + 1 + 1 ≠ p1 := by omega
  have nA2 : w.heap.size + 1 + 1 ≠ w2.heap.size := by omega
  have nB1 : w.heap.size + 1 + 1 + 1 ≠ p1 := by omega
  have nB2 : w.heap.size + 1 + 1 + 1 ≠ w2.heap.size := by omega
  have hB3 : ¬ (w.heap.size + 1 + 1 + 1 = w.heap.size + 1 + 1) := by omega
  have hB4 : ¬ (w.heap.size + 1 + 1 = w.heap.size + 1 + 1 + 1) := by omega
  have HBB := Lib.hid (hbW.trans (hWX2.mono hbW.size))
  have K2 := Lib.hid k2
  have K3 := Lib.hid k3
  have hcc := Below.refl X2.heap.size X2
  clear q1 q2 hz3 hz4 hz5 hz1 hz2 hX2 g2 hok2 hWX1 hbX1 hbX2 hb1 hb2 k2 k3 y0 y1 y2
  have Z1r := row3_set (x := .bool x) (y := a1) (z := a2) K2.out
  have K3' := ((heap_setCell_other (((X2.setCell ⟨w.heap.size + 1 + 1, 0, none⟩ (.bool x)).setCell ⟨w.heap.size + 1 + 1, 1, none⟩ a1)) ⟨w.heap.size + 1 + 1, 2, none⟩ (w.heap.size + 1 + 1 + 1) a2 (by simp only; omega)).trans ((heap_setCell_other (X2.setCell ⟨w.heap.size + 1 + 1, 0, none⟩ (.bool x)) ⟨w.heap.size + 1 + 1, 1, none⟩ (w.heap.size + 1 + 1 + 1) a1 (by simp only; omega)).trans (heap_setCell_other X2 ⟨w.heap.size + 1 + 1, 0, none⟩ (w.heap.size + 1 + 1 + 1) (.bool x) (by simp only; omega)))).trans K3.out
  have Z2r := row3_set (x := .bool y) (y := c1) (z := c2) K3'
  obtain ⟨Z1, hZ1⟩ : ∃ Z, Z = (((X2.setCell ⟨w.heap.size + 1 + 1, 0, none⟩ (.bool x)).setCell ⟨w.heap.size + 1 + 1, 1, none⟩ a1).setCell ⟨w.heap.size + 1 + 1, 2, none⟩ a2) := ⟨_, rfl⟩
  rw [← hZ1] at Z1r K3' Z2r
  have Z2s := (heap_setCell_other ((Z1.setCell ⟨w.heap.size + 1 + 1 + 1, 0, none⟩ (.bool y)).setCell ⟨w.heap.size + 1 + 1 + 1, 1, none⟩ c1) ⟨w.heap.size + 1 + 1 + 1, 2, none⟩ (w.heap.size + 1 + 1) c2 (by simp only; omega)).trans ((heap_setCell_other (Z1.setCell ⟨w.heap.size + 1 + 1 + 1, 0, none⟩ (.bool y)) ⟨w.heap.size + 1 + 1 + 1, 1, none⟩ (w.heap.size + 1 + 1) c1 (by simp only; omega)).trans ((heap_setCell_other Z1 ⟨w.heap.size + 1 + 1 + 1, 0, none⟩ (w.heap.size + 1 + 1) (.bool y) (by simp only; omega)).trans Z1r))
  obtain ⟨t0, t1, t2, -, -, -⟩ := row3 Z2s
  obtain ⟨t3, t4, t5, -, -, -⟩ := row3 Z2r
  have HF1 : Hid (ok1 = true → FrOk n b1 x ns1 ds1 a1 a2 (((Z1.setCell ⟨w.heap.size + 1 + 1 + 1, 0, none⟩ (.bool y)).setCell ⟨w.heap.size + 1 + 1 + 1, 1, none⟩ c1).setCell ⟨w.heap.size + 1 + 1 + 1, 2, none⟩ c2)) := Lib.hid (fun h => by
    have k := OK1'.out h
    have k1 := natv_row3 (x := .bool x) (y := a1) (z := a2) IsS.nil IsS.nil k.v1 K2.out
    have k2 := natv_row3 (x := .bool x) (y := a1) (z := a2) IsS.nil IsS.nil k.v2 K2.out
    rw [← hZ1] at k1 k2
    exact ⟨k.sign, k.l1, k.l2, k.pos, natv_row3 IsS.nil IsS.nil k1 K3', natv_row3 IsS.nil IsS.nil k2 K3'⟩)
  have HF2 : Hid (ok2 = true → FrOk n b2 y ns2 ds2 c1 c2 (((Z1.setCell ⟨w.heap.size + 1 + 1 + 1, 0, none⟩ (.bool y)).setCell ⟨w.heap.size + 1 + 1 + 1, 1, none⟩ c1).setCell ⟨w.heap.size + 1 + 1 + 1, 2, none⟩ c2)) := Lib.hid (fun h => by
    have k := OK2.out h
    have k1 := natv_row3 (x := .bool x) (y := a1) (z := a2) IsS.nil IsS.nil k.v1 K2.out
    have k2 := natv_row3 (x := .bool x) (y := a1) (z := a2) IsS.nil IsS.nil k.v2 K2.out
    rw [← hZ1] at k1 k2
    exact ⟨k.sign, k.l1, k.l2, k.pos, natv_row3 IsS.nil IsS.nil k1 K3', natv_row3 IsS.nil IsS.nil k2 K3'⟩)
  have HZB : Hid (Below w.heap.size w (((Z1.setCell ⟨w.heap.size + 1 + 1 + 1, 0, none⟩ (.bool y)).setCell ⟨w.heap.size + 1 + 1 + 1, 1, none⟩ c1).setCell ⟨w.heap.size + 1 + 1 + 1, 2, none⟩ c2)) := Lib.hid (by
    have e1 : w.heap.size ≤ w.heap.size + 1 + 1 := by omega
    have e2 : w.heap.size ≤ w.heap.size + 1 + 1 + 1 := by omega
    have hb : Below w.heap.size w Z1 := by rw [hZ1]; exact bset (bset (bset HBB.out e1) e1) e1
    exact bset (bset (bset hb e2) e2) e2)
  clear Z1r K3' Z2r Z2s
  cases ok1
  · go_region
    go_wp2
    rw [← hZ1]
    refine bodyPost_ret (v := .tuple #[.agg #[.bool x, a1, a2], .agg #[.bool y, c1, c2], .bool false]) ?_ rfl ⟨_, rfl, x, a1, a2, y, c1, c2, false, rfl, hA1, hA2, hC1, hC2, Below.drew HZB.out, fun h => absurd h (by decide)⟩
    simp [results, Tryz.results25, go_sem, t0, t1, t2, t3, t4, t5]
  · go_region
    go_wp2
    rw [← hZ1]
    refine bodyPost_ret (v := .tuple #[.agg #[.bool x, a1, a2], .agg #[.bool y, c1, c2], .bool ok2]) ?_ rfl ⟨_, rfl, x, a1, a2, y, c1, c2, ok2, rfl, hA1, hA2, hC1, hC2, Below.drew HZB.out, fun h => ⟨(HF1.out (by trivial)).below (Below.drew (Below.refl _ _)), (HF2.out h).below (Below.drew (Below.refl _ _))⟩⟩
    simp [results, Tryz.results25, go_sem, t0, t1, t2, t3, t4, t5]
end Go.Proofs.YtkhhoamcnocjlaaGreatDoor

/-
Division of two words by one, by the reciprocal, in plain numbers. Plain law. No condition.
-/
namespace Go.Proofs.YtkhhoamcnocjlaaGreatDoor
open Go.RowKit

/-- The first guess of a quotient by the reciprocal v: it is not too great, and what is left is below B + d. -/
theorem dw_est {d v u1 u0 Q : Nat} (hd : d < 18446744073709551616) (hu1 : u1 < d) (hu0 : u0 < 18446744073709551616)
    (hv1 : v * d ≤ 340282366920938463463374607431768211455) (hv2 : 340282366920938463463374607431768211456 ≤ v * d + d)
    (hQ1 : Q * 18446744073709551616 ≤ v * u1 + u0) (hQ2 : v * u1 + u0 < Q * 18446744073709551616 + 18446744073709551616) :
    Q * d ≤ u1 * 18446744073709551616 + u0 ∧ u1 * 18446744073709551616 + u0 < Q * d + 18446744073709551616 + d := by
  have a1 := Nat.mul_le_mul_right d hQ1
  have a2 := Nat.mul_le_mul_right d (Nat.succ_le_of_lt hQ2)
  have b1 := Nat.mul_le_mul_right u1 hv1
  have b2 := Nat.mul_le_mul_right u1 hv2
  have e1 : Q * 18446744073709551616 * d = Q * d * 18446744073709551616 := by rw [Nat.mul_right_comm]
  have e2 : (v * u1 + u0) * d = v * d * u1 + u0 * d := by rw [Nat.add_mul, Nat.mul_right_comm]
  have e3 : (v * u1 + u0 + 1) * d = v * d * u1 + u0 * d + d := by rw [Nat.add_mul, e2, Nat.one_mul]
  have e4 : (Q * 18446744073709551616 + 18446744073709551616) * d = Q * d * 18446744073709551616 + 18446744073709551616 * d := by rw [Nat.add_mul, e1]
  have e5 : (v * d + d) * u1 = v * d * u1 + d * u1 := Nat.add_mul _ _ _
  rw [e1, e2] at a1
  rw [Nat.succ_eq_add_one, e3, e4] at a2
  rw [e5] at b2
  have c1 : u0 * d ≤ u0 * 18446744073709551616 := Nat.mul_le_mul_left _ (Nat.le_of_lt hd)
  obtain ⟨e, he⟩ : ∃ e, e + d = 18446744073709551616 := ⟨18446744073709551616 - d, by omega⟩
  have c2 : u0 * e ≤ 18446744073709551615 * e := Nat.mul_le_mul_right _ (by omega)
  have c3 : u0 * e + u0 * d = u0 * 18446744073709551616 := by rw [← Nat.mul_add, he]
  have c4 : d * u1 + d ≤ d * d := by
    have := Nat.mul_le_mul_left d (Nat.succ_le_of_lt hu1)
    rw [Nat.mul_succ] at this; exact this
  have c5 : d * d ≤ d * 18446744073709551616 := Nat.mul_le_mul_left _ (Nat.le_of_lt hd)
  generalize v * d * u1 = A at *
  generalize Q * d = C at *
  generalize u0 * d = D at *
  generalize u0 * e = F at *
  generalize d * u1 = G at *
  generalize d * d = H at *
  constructor <;> omega
/-- The guess is mended at most twice. -/
theorem dw_fix {d v u1 u0 Q : Nat} (hd0 : 9223372036854775808 ≤ d) (hd : d < 18446744073709551616) (hu1 : u1 < d) (hu0 : u0 < 18446744073709551616)
    (hv1 : v * d ≤ 340282366920938463463374607431768211455) (hv2 : 340282366920938463463374607431768211456 ≤ v * d + d)
    (hQ : Q = (v * u1 + u0) / 18446744073709551616) : ∃ R, u1 * 18446744073709551616 + u0 = Q * d + R ∧ R < 18446744073709551616 + d ∧ Q < 18446744073709551616 ∧
      (18446744073709551616 ≤ R → (R - d < d → (u1 * 18446744073709551616 + u0) / d = Q + 1 ∧ (u1 * 18446744073709551616 + u0) % d = R - d) ∧ (d ≤ R - d → (u1 * 18446744073709551616 + u0) / d = Q + 2 ∧ (u1 * 18446744073709551616 + u0) % d = R - d - d)) ∧
      (R < 18446744073709551616 → (R < d → (u1 * 18446744073709551616 + u0) / d = Q ∧ (u1 * 18446744073709551616 + u0) % d = R) ∧ (d ≤ R → (u1 * 18446744073709551616 + u0) / d = Q + 1 ∧ (u1 * 18446744073709551616 + u0) % d = R - d)) ∧
      (u1 * 18446744073709551616 + u0) / d < 18446744073709551616 := by
  obtain ⟨h1, h2⟩ := dw_est (Q := Q) hd hu1 hu0 hv1 hv2 (by omega) (by omega)
  have dm : ∀ q r, r < d → u1 * 18446744073709551616 + u0 = q * d + r → (u1 * 18446744073709551616 + u0) / d = q ∧ (u1 * 18446744073709551616 + u0) % d = r := fun q r hr h => by
    rw [h, Nat.mul_comm q, Nat.mul_add_div (by omega), Nat.mul_add_mod, Nat.div_eq_of_lt hr, Nat.mod_eq_of_lt hr]
    exact ⟨rfl, rfl⟩
  have hqb : (u1 * 18446744073709551616 + u0) / d < 18446744073709551616 := by
    refine Nat.div_lt_of_lt_mul ?_
    have := Nat.mul_le_mul_right 18446744073709551616 (Nat.succ_le_of_lt hu1)
    rw [Nat.succ_mul] at this
    omega
  have hQle : Q ≤ (u1 * 18446744073709551616 + u0) / d := (Nat.le_div_iff_mul_le (by omega)).2 h1
  refine ⟨u1 * 18446744073709551616 + u0 - Q * d, by omega, by omega, by omega, fun h => ⟨fun h' => ?_, fun h' => ?_⟩, fun h => ⟨fun h' => ?_, fun h' => ?_⟩, hqb⟩
  · exact dm _ _ h' (by rw [Nat.add_mul, Nat.one_mul]; omega)
  · exact dm _ _ (by omega) (by rw [Nat.add_mul]; omega)
  · exact dm _ _ h' (by omega)
  · exact dm _ _ (by omega) (by rw [Nat.add_mul, Nat.one_mul]; omega)
/-- A digit of a quotient of three halves of words by two: the guess by the upper half. -/
theorem kn_low {b y1 y0 q r u un : Nat} (h : q * y1 + r = u) (hc : b * r + un < q * y0) : u * b + un < q * (y1 * b + y0) := by
  have e : q * (y1 * b + y0) = q * y1 * b + q * y0 := by rw [Nat.mul_add, Nat.mul_assoc]
  have e2 : u * b = q * y1 * b + b * r := by rw [← h, Nat.add_mul, Nat.mul_comm b r]
  rw [e, e2]; omega
theorem kn_ok {b y1 y0 q r u un : Nat} (h : q * y1 + r = u) (hc : q * y0 ≤ b * r + un) : q * (y1 * b + y0) ≤ u * b + un := by
  have e : q * (y1 * b + y0) = q * y1 * b + q * y0 := by rw [Nat.mul_add, Nat.mul_assoc]
  have e2 : u * b = q * y1 * b + b * r := by rw [← h, Nat.add_mul, Nat.mul_comm b r]
  rw [e, e2]; omega
set_option maxRecDepth 100000 in
theorem kn_start {y1 y0 u : Nat} (hy1 : 2147483648 ≤ y1) (hy0 : y0 < 4294967296) (hu : u < y1 * 4294967296 + y0) : u / y1 ≤ 4294967297 := by
  have e : y1 * 4294967298 = y1 * 4294967296 + y1 * 2 := by rw [← Nat.mul_add]
  have h2 : u < y1 * 4294967298 := by
    rw [e]
    obtain ⟨z, hz⟩ : ∃ z, z = y1 * 4294967296 := ⟨_, rfl⟩
    rw [← hz] at hu ⊢
    clear hz e
    omega
  exact Nat.le_of_lt_succ (Nat.div_lt_of_lt_mul h2)
/-- The reciprocal. -/
theorem rec_ok {u : Nat} (hu : 9223372036854775808 ≤ u) (hu2 : u < 18446744073709551616) :
    18446744073709551615 - u < u ∧ ∃ v, v * u ≤ 340282366920938463463374607431768211455 ∧ 340282366920938463463374607431768211456 ≤ v * u + u ∧ v = 18446744073709551616 + ((18446744073709551615 - u) * 18446744073709551616 + 18446744073709551615) / u := by
  refine ⟨by omega, _, ?_, ?_, rfl⟩
  · rw [Nat.add_mul]
    have := Nat.div_mul_le_self ((18446744073709551615 - u) * 18446744073709551616 + 18446744073709551615) u
    omega
  · rw [Nat.add_mul]
    have := Nat.lt_div_mul_add (a := (18446744073709551615 - u) * 18446744073709551616 + 18446744073709551615) (b := u) (by omega)
    omega
end Go.Proofs.YtkhhoamcnocjlaaGreatDoor

/-
Floats: a Float at a block; setBits64, SetInt64 of a receiver without a precision. No condition.
-/
namespace Go.Proofs.YtkhhoamcnocjlaaGreatDoor
open Go.RowKit

/-- The cells of a Float. -/
def fcells (p m : Nat) (a : Int) (f : Nat) (neg : Bool) (v : Value) (e : Int) : Array Value := #[.int .u32 p, .int .u8 m, .int .i8 a, .int .u8 f, .bool neg, v, .int .i32 e]
/-- A Float at a block. -/
def FltR (w : World) (b p m : Nat) (a : Int) (f : Nat) (neg : Bool) (v : Value) (e : Int) : Prop := w.heap[b]? = some (.cells (fcells p m a f neg v e) 120 (0, 0))
theorem FltR.cells {w : World} {b p m f : Nat} {a e : Int} {neg : Bool} {v : Value} (h : FltR w b p m a f neg v e) :
    w.cell? ⟨b, 0, none⟩ = some (.int .u32 p) ∧ w.cell? ⟨b, 1, none⟩ = some (.int .u8 m) ∧ w.cell? ⟨b, 2, none⟩ = some (.int .i8 a) ∧ w.cell? ⟨b, 3, none⟩ = some (.int .u8 f) ∧ w.cell? ⟨b, 4, none⟩ = some (.bool neg) ∧ w.cell? ⟨b, 5, none⟩ = some v ∧ w.cell? ⟨b, 6, none⟩ = some (.int .i32 e) :=
  ⟨(row_at (i := 0) h rfl).1, (row_at (i := 1) h rfl).1, (row_at (i := 2) h rfl).1, (row_at (i := 3) h rfl).1, (row_at (i := 4) h rfl).1, (row_at (i := 5) h rfl).1, (row_at (i := 6) h rfl).1⟩
theorem FltR.free {w : World} {b p m f : Nat} {a e : Int} {neg : Bool} {v : Value} (h : FltR w b p m a f neg v e) :
    w.frozen? ⟨b, 0, none⟩ = false ∧ w.frozen? ⟨b, 1, none⟩ = false ∧ w.frozen? ⟨b, 2, none⟩ = false ∧ w.frozen? ⟨b, 3, none⟩ = false ∧ w.frozen? ⟨b, 4, none⟩ = false ∧ w.frozen? ⟨b, 5, none⟩ = false ∧ w.frozen? ⟨b, 6, none⟩ = false :=
  ⟨frozen_of_row w b 0 _ _ h, frozen_of_row w b 1 _ _ h, frozen_of_row w b 2 _ _ h, frozen_of_row w b 3 _ _ h, frozen_of_row w b 4 _ _ h, frozen_of_row w b 5 _ _ h, frozen_of_row w b 6 _ _ h⟩
theorem FltR.lt {w : World} {b p m f : Nat} {a e : Int} {neg : Bool} {v : Value} (h : FltR w b p m a f neg v e) : b < w.heap.size := (heap_alloc_lt (o := .cells #[] 0) h).2
theorem FltR.below {w w' : World} {b p m f : Nat} {a e : Int} {neg : Bool} {v : Value} (h : FltR w b p m a f neg v e) (hb : Below w.heap.size w w') : FltR w' b p m a f neg v e := keep_row hb h
theorem FltR.drewN {w : World} {b p m f : Nat} {a e : Int} {neg : Bool} {v : Value} (h : FltR w b p m a f neg v e) (n : Nat) : FltR (w.drewN n) b p m a f neg v e := h
theorem FltR.s0 {w : World} {b p m f : Nat} {a e : Int} {neg : Bool} {v : Value} (h : FltR w b p m a f neg v e) (x : Nat) : FltR (w.setCell ⟨b, 0, none⟩ (.int .u32 x)) b x m a f neg v e := rowset (i := 0) (.int .u32 x) h
theorem FltR.s1 {w : World} {b p m f : Nat} {a e : Int} {neg : Bool} {v : Value} (h : FltR w b p m a f neg v e) (x : Nat) : FltR (w.setCell ⟨b, 1, none⟩ (.int .u8 x)) b p x a f neg v e := rowset (i := 1) (.int .u8 x) h
theorem FltR.s2 {w : World} {b p m f : Nat} {a e : Int} {neg : Bool} {v : Value} (h : FltR w b p m a f neg v e) (x : Int) : FltR (w.setCell ⟨b, 2, none⟩ (.int .i8 x)) b p m x f neg v e := rowset (i := 2) (.int .i8 x) h
theorem FltR.s3 {w : World} {b p m f : Nat} {a e : Int} {neg : Bool} {v : Value} (h : FltR w b p m a f neg v e) (x : Nat) : FltR (w.setCell ⟨b, 3, none⟩ (.int .u8 x)) b p m a x neg v e := rowset (i := 3) (.int .u8 x) h
theorem FltR.s4 {w : World} {b p m f : Nat} {a e : Int} {neg : Bool} {v : Value} (h : FltR w b p m a f neg v e) (x : Bool) : FltR (w.setCell ⟨b, 4, none⟩ (.bool x)) b p m a f x v e := rowset (i := 4) (.bool x) h
theorem FltR.s5 {w : World} {b p m f : Nat} {a e : Int} {neg : Bool} {v : Value} (h : FltR w b p m a f neg v e) (x : Value) : FltR (w.setCell ⟨b, 5, none⟩ x) b p m a f neg x e := rowset (i := 5) x h
theorem FltR.s6 {w : World} {b p m f : Nat} {a e : Int} {neg : Bool} {v : Value} (h : FltR w b p m a f neg v e) (x : Int) : FltR (w.setCell ⟨b, 6, none⟩ (.int .i32 x)) b p m a f neg v x := rowset (i := 6) (.int .i32 x) h
/-- What is owned elsewhere is as it was where a Float's cell is written. -/
theorem FltR.own {w : World} {b p m f B : Nat} {a e : Int} {neg : Bool} {v u : Value} {xs : List Value} (h : FltR w b p m a f neg v e) (ho : Own w B 147 u xs) (i : Nat) (x : Value) : Own (w.setCell ⟨b, i, none⟩ x) B 147 u xs :=
  ho.away h (by decide) i x
end Go.Proofs.YtkhhoamcnocjlaaGreatDoor
