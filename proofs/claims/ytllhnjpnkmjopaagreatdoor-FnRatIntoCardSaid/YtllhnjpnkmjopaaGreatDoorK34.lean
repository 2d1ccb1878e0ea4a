/-
Texts of this proof, joined: RcE RcD RcF SiA RiH RiI KsP FvA RiJ RiK. No condition.
-/
import Derived.Test.YtllhnjpnkmjopaaGreatDoorK02
import Derived.Test.YtllhnjpnkmjopaaGreatDoorK03
import Derived.Test.YtllhnjpnkmjopaaGreatDoorK05
import Derived.Test.YtllhnjpnkmjopaaGreatDoorK13
import Derived.Test.YtllhnjpnkmjopaaGreatDoorK23
import Derived.Test.YtllhnjpnkmjopaaGreatDoorK32
import Derived.Test.YtllhnjpnkmjopaaGreatDoorK33
namespace Go.Proofs.YtllhnjpnkmjopaaGreatDoor
open Go.RowKit

set_option maxRecDepth 100000 in
set_option maxHeartbeats 1600000 in
theorem over_any (neg : Bool) (a b : Value) (x y : Nat) (w : World) (ha : NatV w a x) (hb : NatV w b y) (hx : nl x ≤ 100000000) (hy : nl y ≤ 100000000) (hy0 : 0 < y) :
    Calls Tryz.prog 38 #[.bool neg, a, b] w fun e w' => ∃ q r, e = .returned (.agg #[.bool (neg && decide (0 < x)), q, r]) ∧ NatV w' q (x / Nat.gcd x y) ∧ NatV w' r (y / Nat.gcd x y) ∧ Below w.heap.size w w' := by
  have hSa := ha.isS
  have hSb := hb.isS
  have hLa := ha.len
  obtain ⟨G, hG⟩ : ∃ G, G = Nat.gcd x y := ⟨_, rfl⟩
  have hG0 : 0 < G := by rw [hG]; exact Nat.gcd_pos_of_pos_right x hy0
  have hGl : nl G ≤ 100000000 := by rw [hG]; exact Nat.le_trans (nl_mono (Nat.gcd_le_right x hy0)) hy
  obtain ⟨W, hW⟩ : ∃ W, W = w.alloc (.cells #[.bool false, .slice none 0 0, .slice none 0 0] 31) := ⟨_, rfl⟩
  have hrow : W.heap[w.heap.size]? = some (.cells #[.bool false, .slice none 0 0, .slice none 0 0] 31 (0, 0)) := by rw [hW]; exact box_row (Below.refl _ _)
  have hab : Below w.heap.size w W := by rw [hW]; exact (Below.refl _ _).alloc (Nat.le_refl _) _
  have HA := Lib.hid (ha.below hab)
  have HB := Lib.hid (hb.below hab)
  have HR := Lib.hid hrow
  have HG := Lib.hid hG
  rw [← hG]
  obtain ⟨l, hl⟩ : ∃ l, l = nl x := ⟨_, rfl⟩
  rw [← hl] at hLa
  have hdx : decide (0 < x) = decide (0 < l) := by
    rw [decide_eq_decide, hl]
    exact ⟨nl_pos, fun h => by rcases Nat.eq_zero_or_pos x with h0 | h0; (rw [h0, nl_zero] at h; omega); exact h0⟩
  rw [hdx]
  clear ha hb hrow hG hdx hl
  go_enter Tryz.func38, Tryz.ntmps38
  go_upto_region 1 with fail
  rw [← hW]
  clear hW
  go_wp2_with fail
  refine (spGcd a b x y W HA.out HB.out (by omega) (by omega)).mono ?_
  rintro _ w1 ⟨g, rfl, hg, hb1⟩
  rw [← HG.out] at hg
  have hSg := hg.isS
  have HGv := Lib.hid hg
  clear hg
  go_wp2_with fail
  refine (spDivMod a g x G w1 (HA.out.below hb1) HGv.out (by omega) (by omega) hG0).mono ?_
  rintro _ w2 ⟨_, rfl, q1, q2, rfl, hq1, hq2, hb2⟩
  have hSq1 := hq1.isS
  have hSq2 := hq2.isS
  have HQ1 := Lib.hid hq1
  have hb12 := bthen hb1 hb2
  clear hq1 hq2
  go_wp2_with fail
  refine (spDivMod b g y G w2 (HB.out.below hb12) (HGv.out.below hb2) (by omega) (by omega) hG0).mono ?_
  rintro _ w3 ⟨_, rfl, r1, r2, rfl, hr1, hr2, hb3⟩
  have hSr1 := hr1.isS
  have hSr2 := hr2.isS
  have HR1 := Lib.hid hr1
  have HQ1' := Lib.hid (HQ1.out.below hb3)
  have hb13 := bthen hb12 hb3
  have hrow3 := keep_row hb13 HR.out
  obtain ⟨k0, k1, k2, f0, f1, f2⟩ := row3 hrow3
  have hwB := hab.trans (hb13.mono hab.size)
  have HE := Lib.hid (fun z => row3 (row3_set (x := .bool z) (y := q1) (z := r1) hrow3))
  have HN := Lib.hid (fun z => natv_row3 (x := .bool z) (y := q1) (z := r1) IsS.nil IsS.nil HQ1'.out hrow3)
  have HM := Lib.hid (fun z => natv_row3 (x := .bool z) (y := q1) (z := r1) IsS.nil IsS.nil HR1.out hrow3)
  have HBB := Lib.hid (fun z => bset (i := 2) (u := r1) (bset (i := 1) (u := q1) (bset (i := 0) (u := .bool z) hwB (Nat.le_refl _)) (Nat.le_refl _)) (Nat.le_refl _))
  clear hr1 hr2 hrow3
  have hcs : decide (0 < l) = true ∨ decide (0 < l) = false := by cases decide (0 < l) <;> simp
  cases neg <;> rcases hcs with t1 | t1
  all_goals
    go_wp2
  · obtain ⟨e0, e1, e2, -, -, -⟩ := HE.out false
    refine bodyPost_ret (v := .agg #[.bool false, q1, r1]) ?_ rfl ⟨q1, r1, (by simp [t1]), HN.out false, HM.out false, HBB.out false⟩
    simp [results, Tryz.results38, go_sem, e0, e1, e2]
  · obtain ⟨e0, e1, e2, -, -, -⟩ := HE.out false
    refine bodyPost_ret (v := .agg #[.bool false, q1, r1]) ?_ rfl ⟨q1, r1, (by simp [t1]), HN.out false, HM.out false, HBB.out false⟩
    simp [results, Tryz.results38, go_sem, e0, e1, e2]
  · obtain ⟨e0, e1, e2, -, -, -⟩ := HE.out true
    refine bodyPost_ret (v := .agg #[.bool true, q1, r1]) ?_ rfl ⟨q1, r1, (by simp [t1]), HN.out true, HM.out true, HBB.out true⟩
    simp [results, Tryz.results38, go_sem, e0, e1, e2]
  · obtain ⟨e0, e1, e2, -, -, -⟩ := HE.out false
    refine bodyPost_ret (v := .agg #[.bool false, q1, r1]) ?_ rfl ⟨q1, r1, (by simp [t1]), HN.out false, HM.out false, HBB.out false⟩
    simp [results, Tryz.results38, go_sem, e0, e1, e2]
theorem ks6F {W X : World} {k g T U : Nat} {a b c d e f : Value} (h1 : W.heap[k]? = some (.cells #[a, b, c] T (0, 0))) (h2 : W.heap[g]? = some (.cells #[d, e, f] U (0, 0))) (h : Below W.heap.size W X) :
    Below W.heap.size W X ∧ X.cell? ⟨k, 0, none⟩ = some a ∧ X.cell? ⟨k, 1, none⟩ = some b ∧ X.cell? ⟨k, 2, none⟩ = some c ∧ X.cell? ⟨g, 0, none⟩ = some d ∧ X.cell? ⟨g, 1, none⟩ = some e ∧ X.cell? ⟨g, 2, none⟩ = some f :=
  ⟨h, ks6 (row3 h1).1 (row3 h1).2.1 (row3 h1).2.2.1 (row3 h2).1 (row3 h2).2.1 (row3 h2).2.2.1 h⟩
theorem ks2 {W X : World} {k g T U : Nat} {a b c d e f : Value} (h1 : W.heap[k]? = some (.cells #[a, b, c] T (0, 0))) (h2 : W.heap[g]? = some (.cells #[d, e, f] U (0, 0))) (h : Below W.heap.size W X) :
    X.cell? ⟨k, 0, none⟩ = some a ∧ X.cell? ⟨g, 0, none⟩ = some d := ⟨(row3 (keep_row h h1)).1, (row3 (keep_row h h2)).1⟩
theorem ks2_set {X : World} {k i : Nat} {a d u : Value} (h : X.cell? ⟨k, 0, none⟩ = some a ∧ X.cell? ⟨k + 1, 0, none⟩ = some d) :
    (X.setCell ⟨k + 1 + 1, i, none⟩ u).cell? ⟨k, 0, none⟩ = some a ∧ (X.setCell ⟨k + 1 + 1, i, none⟩ u).cell? ⟨k + 1, 0, none⟩ = some d :=
  ⟨(cell_other (by simp only; omega)).trans h.1, (cell_other (by simp only; omega)).trans h.2⟩
theorem nl_mul_le (a b : Nat) : nl (a * b) ≤ nl a + nl b := nl_le (by rw [Nat.pow_add]; exact Nat.mul_lt_mul'' (lt_nl a) (lt_nl b))
theorem nl_add_le (a b : Nat) : nl (a + b) ≤ nl a + nl b + 1 := by
  have h1 := lt_nl a
  have h2 := lt_nl b
  refine nl_le ?_
  have e1 : 65536 ^ nl a ≤ 65536 ^ (nl a + nl b) := Nat.pow_le_pow_right (by decide) (by omega)
  have e2 : 65536 ^ nl b ≤ 65536 ^ (nl a + nl b) := Nat.pow_le_pow_right (by decide) (by omega)
  rw [Nat.pow_succ]
  omega
def plS (m : Bool) (X : Nat) (n : Bool) (Y : Nat) : Bool := if m = n then m else if Y ≤ X then m else n
def plN (m : Bool) (X : Nat) (n : Bool) (Y : Nat) : Nat := if m = n then X + Y else if Y ≤ X then X - Y else Y - X
def RtV (w : World) (v : Value) (neg : Bool) (X Y : Nat) : Prop := ∃ q r, v = .agg #[.bool (neg && decide (0 < X)), q, r] ∧ NatV w q (X / Nat.gcd X Y) ∧ NatV w r (Y / Nat.gcd X Y)
set_option maxRecDepth 100000 in
set_option maxHeartbeats 3200000 in
theorem plus_any (m n : Bool) (a1 a2 c1 c2 : Value) (X1 X2 Y1 Y2 : Nat) (w : World) (ha1 : NatV w a1 X1) (ha2 : NatV w a2 X2) (hc1 : NatV w c1 Y1) (hc2 : NatV w c2 Y2)
    (l1 : nl X1 ≤ 1000000) (l2 : nl X2 ≤ 1000000) (l3 : nl Y1 ≤ 1000000) (l4 : nl Y2 ≤ 1000000) (p1 : 0 < X2) (p2 : 0 < Y2) :
    Calls Tryz.prog 11 #[.agg #[.bool m, a1, a2], .agg #[.bool n, c1, c2]] w fun e w' => ∃ v, e = .returned v ∧ RtV w' v (plS m (X1 * Y2) n (Y1 * X2)) (plN m (X1 * Y2) n (Y1 * X2)) (X2 * Y2) ∧ Below w.heap.size w w' := by
  have hS1 := ha1.isS
  have hS2 := ha2.isS
  have hS3 := hc1.isS
  have hS4 := hc2.isS
  obtain ⟨W, hW⟩ : ∃ W, W = ((w.alloc (.cells #[.bool m, a1, a2] 31)).alloc (.cells #[.bool n, c1, c2] 31)).alloc (.cells #[.bool false, .slice none 0 0, .slice none 0 0] 31) := ⟨_, rfl⟩
  have hab : Below w.heap.size w W := by rw [hW]; exact (((Below.refl _ w).alloc (Nat.le_refl _) _).alloc (by simp) _).alloc (by simp; omega) _
  have hr1 : W.heap[w.heap.size]? = some (.cells #[.bool m, a1, a2] 31 (0, 0)) := by rw [hW]; exact keep_row (fbone _) (keep_row (fbone _) (box_row (Below.refl _ _)))
  have hr2 : W.heap[w.heap.size + 1]? = some (.cells #[.bool n, c1, c2] 31 (0, 0)) := by
    have h := box_row (cs := #[.bool n, c1, c2]) (T := 31) (Below.refl _ ((w.alloc (.cells #[.bool m, a1, a2] 31)).alloc (.cells #[.bool n, c1, c2] 31)))
    have e : (w.alloc (.cells #[.bool m, a1, a2] 31)).heap.size = w.heap.size + 1 := by simp
    rw [e] at h
    rw [hW]; exact keep_row (fbone _) h
  have hr3 : W.heap[w.heap.size + 1 + 1]? = some (.cells #[.bool false, .slice none 0 0, .slice none 0 0] 31 (0, 0)) := by
    have h := box_row (cs := #[.bool false, .slice none 0 0, .slice none 0 0]) (T := 31) (Below.refl _ (((w.alloc (.cells #[.bool m, a1, a2] 31)).alloc (.cells #[.bool n, c1, c2] 31)).alloc (.cells #[.bool false, .slice none 0 0, .slice none 0 0] 31)))
    have e : ((w.alloc (.cells #[.bool m, a1, a2] 31)).alloc (.cells #[.bool n, c1, c2] 31)).heap.size = w.heap.size + 1 + 1 := by simp
    rw [e] at h
    rw [hW]; exact h
  have HR1 := Lib.hid hr1
  have HR2 := Lib.hid hr2
  have HR3 := Lib.hid hr3
  have HM1 : Hid (∀ w', Below W.heap.size W w' → Calls Tryz.prog 37 #[a1, c2] w' fun e w3 => ∃ r, e = .returned r ∧ NatV w3 r (X1 * Y2) ∧ Below w'.heap.size w' w3) := Lib.hid (fun w' h => (spMul a1 c2 X1 Y2 w' ((ha1.below hab).below h) ((hc2.below hab).below h) (by omega) (by omega)).mono (by rintro e w3 ⟨r, h1, h2, h3⟩; exact ⟨r, h1, h2, h3⟩))
  have HM2 : Hid (∀ w', Below W.heap.size W w' → Calls Tryz.prog 37 #[c1, a2] w' fun e w3 => ∃ r, e = .returned r ∧ NatV w3 r (Y1 * X2) ∧ Below w'.heap.size w' w3) := Lib.hid (fun w' h => (spMul c1 a2 Y1 X2 w' ((hc1.below hab).below h) ((ha2.below hab).below h) (by omega) (by omega)).mono (by rintro e w3 ⟨r, h1, h2, h3⟩; exact ⟨r, h1, h2, h3⟩))
  have HM3 : Hid (∀ w', Below W.heap.size W w' → Calls Tryz.prog 37 #[a2, c2] w' fun e w3 => ∃ r, e = .returned r ∧ NatV w3 r (X2 * Y2) ∧ Below w'.heap.size w' w3) := Lib.hid (fun w' h => (spMul a2 c2 X2 Y2 w' ((ha2.below hab).below h) ((hc2.below hab).below h) (by omega) (by omega)).mono (by rintro e w3 ⟨r, h1, h2, h3⟩; exact ⟨r, h1, h2, h3⟩))
  have HD0 : Hid (0 < X2 * Y2) := Lib.hid (Nat.mul_pos p1 p2)
  have HL3 : Hid (nl (X2 * Y2) ≤ 100000000 ∧ nl (X1 * Y2) ≤ 2000000 ∧ nl (Y1 * X2) ≤ 2000000) := Lib.hid ⟨Nat.le_trans (nl_mul_le _ _) (by omega), Nat.le_trans (nl_mul_le _ _) (by omega), Nat.le_trans (nl_mul_le _ _) (by omega)⟩
  have hcc := Below.refl W.heap.size W
  have HAB := Lib.hid hab
  clear hr1 hr2 hr3 ha1 ha2 hc1 hc2 hab
  go_enter Tryz.func11, Tryz.ntmps11
  go_upto_region 1 with fail
  rw [← hW]
  clear hW
  first
    | (go_region_held3 (fun w' => Below W.heap.size W w' ∧ w'.cell? ⟨w.heap.size, 0, none⟩ = some (.bool m) ∧ w'.cell? ⟨w.heap.size, 1, none⟩ = some a1 ∧ w'.cell? ⟨w.heap.size, 2, none⟩ = some a2 ∧ w'.cell? ⟨w.heap.size + 1, 0, none⟩ = some (.bool n) ∧ w'.cell? ⟨w.heap.size + 1, 1, none⟩ = some c1 ∧ w'.cell? ⟨w.heap.size + 1, 2, none⟩ = some c2)
        ((refine ks6F HR1.out HR2.out ?_; first | assumption | exact Below.drew hcc))
        (first
          | (go_at_call 37; with_reducible refine (HM3.out _ hb4).mono ?_; rintro _ w5 ⟨k3, rfl, hN3, hb5⟩; have N1 := Lib.hid (hN1.below hb5); have N2 := Lib.hid (hN2.below hb5); have N3 := Lib.hid hN3; have hS7 := hN3.isS; have hb5 := bthen hb4 hb5; clear hN1 hN2 hN3)
          | (go_at_call 37; with_reducible refine (HM2.out _ hb3).mono ?_; rintro _ w4 ⟨k2, rfl, hN2, hb4⟩; have hS6 := hN2.isS; have hN1 := hN1.below hb4; have hb4 := bthen hb3 hb4)
          | (go_at_call 37; with_reducible refine (HM1.out _ (And.left (by assumption))).mono ?_; rintro _ w3 ⟨k1, rfl, hN1, hb3⟩; have hS5 := hN1.isS; have hb3 := bthenL hb3 (by assumption))))
    | fail
  have HRa := Lib.hid (keep_row hb5 HR1.out)
  have HRb := Lib.hid (keep_row hb5 HR2.out)
  have HRc := Lib.hid (keep_row hb5 HR3.out)
  have hwB : Below w.heap.size w w5 := HAB.out.trans (hb5.mono HAB.out.size)
  obtain ⟨z0, -⟩ := row3 HRa.out
  obtain ⟨z1, -⟩ := row3 HRb.out
  obtain ⟨A, hA⟩ : ∃ A, A = X1 * Y2 := ⟨_, rfl⟩
  obtain ⟨C, hC⟩ : ∃ C, C = Y1 * X2 := ⟨_, rfl⟩
  obtain ⟨D, hD⟩ : ∃ D, D = X2 * Y2 := ⟨_, rfl⟩
  have HX1 := Lib.hid hA
  have HX2 := Lib.hid hC
  have HX3 := Lib.hid hD
  rw [← hA] at N1 HL3
  rw [← hC] at N2 HL3
  rw [← hD] at N3 HL3 HD0
  clear hA hC hD HM1 HM2 HM3 HR1 HR2 HR3
  have hqq := Below.refl w5.heap.size w5
  have HO : Hid (∀ (ng : Bool) (num : Nat) (w' : World) (k : Value), nl num ≤ 100000000 → NatV w' k num → Below w5.heap.size w5 w' → Calls Tryz.prog 38 #[.bool ng, k, k3] w' fun e w7 => ∃ z q r, e = .returned (.agg #[.bool z, q, r]) ∧ Hid (z = (ng && decide (0 < num))) ∧ NatV w7 q (num / Nat.gcd num D) ∧ NatV w7 r (D / Nat.gcd num D) ∧ Below w5.heap.size w5 w7) := Lib.hid (fun ng num w' k h1 h2 h3 => by
    refine (over_any ng k k3 num D w' h2 (N3.out.below h3) h1 HL3.out.1 HD0.out).mono ?_
    rintro e w7 ⟨q, r, g1, g2, g3, g4⟩
    exact ⟨_, q, r, g1, Lib.hid rfl, g2, g3, bthen h3 g4⟩)
  have HADD : Hid (∀ w', Below w5.heap.size w5 w' → Calls Tryz.prog 24 #[k1, k2] w' fun e w6 => ∃ r, e = .returned r ∧ NatV w6 r (A + C) ∧ Below w5.heap.size w5 w6) := Lib.hid (fun w' h => (spAdd k1 k2 A C w' (N1.out.below h) (N2.out.below h) (by have := HL3.out; omega) (by have := HL3.out; omega)).mono (by rintro e w6 ⟨r, g1, g2, g3⟩; exact ⟨r, g1, g2, bthen h g3⟩))
  have HSUB : Hid (C ≤ A → ∀ w', Below w5.heap.size w5 w' → Calls Tryz.prog 40 #[k1, k2] w' fun e w6 => ∃ r, e = .returned r ∧ NatV w6 r (A - C) ∧ Below w5.heap.size w5 w6) := Lib.hid (fun hle w' h => (spSub k1 k2 A C w' (N1.out.below h) (N2.out.below h) (by have := HL3.out; omega) hle).mono (by rintro e w6 ⟨r, g1, g2, g3⟩; exact ⟨r, g1, g2, bthen h g3⟩))
  have HBUS : Hid (A ≤ C → ∀ w', Below w5.heap.size w5 w' → Calls Tryz.prog 40 #[k2, k1] w' fun e w6 => ∃ r, e = .returned r ∧ NatV w6 r (C - A) ∧ Below w5.heap.size w5 w6) := Lib.hid (fun hle w' h => (spSub k2 k1 C A w' (N2.out.below h) (N1.out.below h) (by have := HL3.out; omega) hle).mono (by rintro e w6 ⟨r, g1, g2, g3⟩; exact ⟨r, g1, g2, bthen h g3⟩))
  by_cases hmn : m = n
  · subst hmn
    go_upto_region 3 with fail
    have HPV : Hid (plS m (X1 * Y2) m (Y1 * X2) = m ∧ plN m (X1 * Y2) m (Y1 * X2) = A + C) := Lib.hid (by rw [← HX1.out, ← HX2.out]; exact ⟨if_pos rfl, if_pos rfl⟩)
    have HNL : Hid (nl (A + C) ≤ 100000000) := Lib.hid (by have := HL3.out; exact Nat.le_trans (nl_add_le _ _) (by omega))
    first
      | (go_region_held3 (fun w' => w'.cell? ⟨w.heap.size, 0, none⟩ = some (.bool m) ∧ w'.cell? ⟨w.heap.size + 1, 0, none⟩ = some (.bool m))
          ((first | (refine ks2 HRa.out HRb.out ?_; first | assumption | exact Below.drew hqq) | exact ks2_set (ks2_set (ks2_set (ks2 HRa.out HRb.out (by assumption))))))
          (first
            | (go_at_call 24; with_reducible refine (HADD.out _ (by first | assumption | exact hqq | exact Below.drew hqq)).mono ?_; rintro _ w6 ⟨k4, rfl, hk4, hb6⟩; have hS8 := hk4.isS)
            | (go_at_call 38; with_reducible refine (HO.out m _ _ _ HNL.out hk4 hb6).mono ?_; rintro _ w7 ⟨zz, q, r, rfl, HZZ, hq, hr, hb7⟩; have hSq := hq.isS; have hSr := hr.isS; have hvr := keep_row hb7 HRc.out; obtain ⟨hv0, hv1, hv2, hf0, hf1, hf2⟩ := row3 hvr)))
      | fail
    all_goals
      go_wp2
      obtain ⟨hx0, hx1, hx2, -, -, -⟩ := row3 (row3_set (x := .bool zz) (y := q) (z := r) hvr)
      have hn1 := natv_row3 (x := .bool zz) (y := q) (z := r) IsS.nil IsS.nil hq hvr
      have hn2 := natv_row3 (x := .bool zz) (y := q) (z := r) IsS.nil IsS.nil hr hvr
      have hbY := bset (i := 2) (u := r) (bset (i := 1) (u := q) (bset (i := 0) (u := .bool zz) (hwB.trans (hb7.mono hwB.size)) (show w.heap.size ≤ w.heap.size + 1 + 1 by omega)) (show w.heap.size ≤ w.heap.size + 1 + 1 by omega)) (show w.heap.size ≤ w.heap.size + 1 + 1 by omega)
      refine bodyPost_ret (v := .agg #[.bool zz, q, r]) ?_ rfl ⟨_, rfl, ⟨q, r, by rw [HPV.out.1, HPV.out.2, HZZ.out], by rw [HPV.out.2, ← HX3.out]; exact hn1, by rw [HPV.out.2, ← HX3.out]; exact hn2⟩, hbY⟩
      simp [results, Tryz.results11, go_sem, hx0, hx1, hx2]
  · have tmn : (m == n) = false := by simpa using hmn
    go_upto_region 4 with fail
    go_wp2_with fail
    refine (spCmp k1 k2 A C w5 N1.out N2.out (by have := HL3.out; omega) (by have := HL3.out; omega)).mono ?_
    rintro _ w8 ⟨rfl, hb8⟩
    have hz2 := ks2 HRa.out HRb.out hb8
    obtain ⟨z2, z3⟩ := hz2
    clear z0 z1 hqq
    have hqq := hb8
    by_cases hle : C ≤ A
    · have tge : decide (0 ≤ cmpN A C) = true := decide_eq_true ((cmpN_ge A C).2 hle)
      go_upto_region 5 with fail
      have HPV : Hid (plS m (X1 * Y2) n (Y1 * X2) = m ∧ plN m (X1 * Y2) n (Y1 * X2) = A - C) := Lib.hid (by rw [← HX1.out, ← HX2.out]; exact ⟨by unfold plS; rw [if_neg hmn, if_pos hle], by unfold plN; rw [if_neg hmn, if_pos hle]⟩)
      have HNL : Hid (nl (A - C) ≤ 100000000) := Lib.hid (by have := HL3.out; exact Nat.le_trans (nl_mono (Nat.sub_le _ _)) (by omega))
      first
        | (go_region_held3 (fun w' => w'.cell? ⟨w.heap.size, 0, none⟩ = some (.bool m) ∧ w'.cell? ⟨w.heap.size + 1, 0, none⟩ = some (.bool n))
            ((first | (refine ks2 HRa.out HRb.out ?_; first | assumption | exact Below.drew hqq) | exact ks2_set (ks2_set (ks2_set (ks2 HRa.out HRb.out (by assumption))))))
            (first
              | (go_at_call 40; with_reducible refine (HSUB.out hle _ (by first | assumption | exact hqq | exact Below.drew hqq)).mono ?_; rintro _ w6 ⟨k4, rfl, hk4, hb6⟩; have hS8 := hk4.isS)
              | (go_at_call 38; with_reducible refine (HO.out m _ _ _ HNL.out hk4 hb6).mono ?_; rintro _ w7 ⟨zz, q, r, rfl, HZZ, hq, hr, hb7⟩; have hSq := hq.isS; have hSr := hr.isS; have hvr := keep_row hb7 HRc.out; obtain ⟨hv0, hv1, hv2, hf0, hf1, hf2⟩ := row3 hvr)))
        | fail
      all_goals
        go_wp2
        obtain ⟨hx0, hx1, hx2, -, -, -⟩ := row3 (row3_set (x := .bool zz) (y := q) (z := r) hvr)
        have hn1 := natv_row3 (x := .bool zz) (y := q) (z := r) IsS.nil IsS.nil hq hvr
        have hn2 := natv_row3 (x := .bool zz) (y := q) (z := r) IsS.nil IsS.nil hr hvr
        have hbY := bset (i := 2) (u := r) (bset (i := 1) (u := q) (bset (i := 0) (u := .bool zz) (hwB.trans (hb7.mono hwB.size)) (show w.heap.size ≤ w.heap.size + 1 + 1 by omega)) (show w.heap.size ≤ w.heap.size + 1 + 1 by omega)) (show w.heap.size ≤ w.heap.size + 1 + 1 by omega)
        refine bodyPost_ret (v := .agg #[.bool zz, q, r]) ?_ rfl ⟨_, rfl, ⟨q, r, by rw [HPV.out.1, HPV.out.2, HZZ.out], by rw [HPV.out.2, ← HX3.out]; exact hn1, by rw [HPV.out.2, ← HX3.out]; exact hn2⟩, hbY⟩
        simp [results, Tryz.results11, go_sem, hx0, hx1, hx2]
    · have tge : decide (0 ≤ cmpN A C) = false := decide_eq_false (fun h => hle ((cmpN_ge A C).1 h))
      have hge : A ≤ C := by omega
      go_upto_region 6 with fail
      have HPV : Hid (plS m (X1 * Y2) n (Y1 * X2) = n ∧ plN m (X1 * Y2) n (Y1 * X2) = C - A) := Lib.hid (by rw [← HX1.out, ← HX2.out]; exact ⟨by unfold plS; rw [if_neg hmn, if_neg hle], by unfold plN; rw [if_neg hmn, if_neg hle]⟩)
      have HNL : Hid (nl (C - A) ≤ 100000000) := Lib.hid (by have := HL3.out; exact Nat.le_trans (nl_mono (Nat.sub_le _ _)) (by omega))
      first
        | (go_region_held3 (fun w' => w'.cell? ⟨w.heap.size, 0, none⟩ = some (.bool m) ∧ w'.cell? ⟨w.heap.size + 1, 0, none⟩ = some (.bool n))
            ((first | (refine ks2 HRa.out HRb.out ?_; first | assumption | exact Below.drew hqq) | exact ks2_set (ks2_set (ks2_set (ks2 HRa.out HRb.out (by assumption))))))
            (first
              | (go_at_call 40; with_reducible refine (HBUS.out hge _ (by first | assumption | exact hqq | exact Below.drew hqq)).mono ?_; rintro _ w6 ⟨k4, rfl, hk4, hb6⟩; have hS8 := hk4.isS)
              | (go_at_call 38; with_reducible refine (HO.out n _ _ _ HNL.out hk4 hb6).mono ?_; rintro _ w7 ⟨zz, q, r, rfl, HZZ, hq, hr, hb7⟩; have hSq := hq.isS; have hSr := hr.isS; have hvr := keep_row hb7 HRc.out; obtain ⟨hv0, hv1, hv2, hf0, hf1, hf2⟩ := row3 hvr)))
        | fail
      all_goals
        go_wp2
        obtain ⟨hx0, hx1, hx2, -, -, -⟩ := row3 (row3_set (x := .bool zz) (y := q) (z := r) hvr)
        have hn1 := natv_row3 (x := .bool zz) (y := q) (z := r) IsS.nil IsS.nil hq hvr
        have hn2 := natv_row3 (x := .bool zz) (y := q) (z := r) IsS.nil IsS.nil hr hvr
        have hbY := bset (i := 2) (u := r) (bset (i := 1) (u := q) (bset (i := 0) (u := .bool zz) (hwB.trans (hb7.mono hwB.size)) (show w.heap.size ≤ w.heap.size + 1 + 1 by omega)) (show w.heap.size ≤ w.heap.size + 1 + 1 by omega)) (show w.heap.size ≤ w.heap.size + 1 + 1 by omega)
        refine bodyPost_ret (v := .agg #[.bool zz, q, r]) ?_ rfl ⟨_, rfl, ⟨q, r, by rw [HPV.out.1, HPV.out.2, HZZ.out], by rw [HPV.out.2, ← HX3.out]; exact hn1, by rw [HPV.out.2, ← HX3.out]; exact hn2⟩, hbY⟩
        simp [results, Tryz.results11, go_sem, hx0, hx1, hx2]
def rI (neg : Bool) (n : Nat) : Int := if neg then -(n : Int) else n
theorem rI_and (b : Bool) (x y : Nat) : rI (b && decide (0 < x)) (x * y) = rI b (x * y) := by
  rcases Nat.eq_zero_or_pos x with h | h
  · subst h; rw [Nat.zero_mul]; unfold rI; cases b <;> rfl
  · rw [decide_eq_true h, Bool.and_true]
theorem add_V (m n : Bool) (X Y : Nat) : addM m X n Y = (rI m X + rI n Y).natAbs ∧ (decide (0 < addM m X n Y) && addN m X n Y) = decide (rI m X + rI n Y < 0) := by
  have h : addM m X n Y = (rI m X + rI n Y).natAbs := by
    unfold addM rI
    cases m <;> cases n <;> simp <;> first | omega | (split <;> omega)
  refine ⟨h, ?_⟩
  rw [h, Bool.eq_iff_iff]
  simp only [Bool.and_eq_true, decide_eq_true_eq]
  unfold addN rI
  cases m <;> cases n <;> by_cases hle : Y ≤ X <;> simp [hle] <;> omega
theorem rI_abs (b : Bool) (x : Nat) : (rI b x).natAbs = x := by unfold rI; cases b <;> simp
theorem rI_neg (b : Bool) (x : Nat) : decide (rI b x < 0) = (b && decide (0 < x)) := by
  unfold rI
  cases b
  · simp
  · simp
theorem plus_V (m n : Bool) (X Y : Nat) : plN m X n Y = (rI m X + rI n Y).natAbs ∧ (plS m X n Y && decide (0 < plN m X n Y)) = decide (rI m X + rI n Y < 0) := by
  obtain ⟨h1, h2⟩ := add_V m n X Y
  have e1 : plN m X n Y = addM m X n Y := rfl
  have e2 : plS m X n Y = addN m X n Y := by
    unfold plS addN
    cases m <;> cases n <;> rfl
  rw [e1, e2, ← h2, Bool.and_comm]
  exact ⟨h1, rfl⟩
def RvP (w : World) (B z : Nat) (V : Int) (D : Nat) : Prop := RatP w B z (decide (V < 0)) (V.natAbs / Nat.gcd V.natAbs D) (D / Nat.gcd V.natAbs D)
theorem Rcv.below {w w' : World} {B z X1 Y1 : Nat} {vx ux vy uy vz uz : Value} {nz : Bool} {zs us : List Value} (h : Rcv w B z X1 Y1 vx ux vy uy nz vz uz zs us) (hb : Below w.heap.size w w') : Rcv w' B z X1 Y1 vx ux vy uy nz vz uz zs us :=
  ⟨h.hB, keep_row hb h.rz, h.o1.below hb, h.o2.below hb, h.zz, h.a11, h.a12, h.a21, h.a22, h.dx, h.dy⟩
section
variable {w : World} {B z x y X1 X2 Y1 Y2 : Nat} {m n nz : Bool} {vx ux vy uy vz uz : Value} {zs us : List Value}
theorem TwoQ.add (h : TwoQ w B x y m n X1 X2 Y1 Y2 vx ux vy uy) (r : Rcv w B z X1 Y1 vx ux vy uy nz vz uz zs us) (p1 : 0 < X2) (p2 : 0 < Y2) (k1 : nw X1 < 40) (k2 : nw X2 < 40) (k3 : nw Y1 < 40) (k4 : nw Y2 < 40) (k5 : nw (rI m (X1 * Y2) + rI n (Y1 * X2)).natAbs < 40) (k6 : nw (X2 * Y2) < 40) (hK : KarW w) (hT : DivW w) (dg : 4 < B) (kg : 3 < B) :
    Calls Tryz.prog 76 #[.pointer (some ⟨z, 0, none⟩), .pointer (some ⟨x, 0, none⟩), .pointer (some ⟨y, 0, none⟩)] w fun e w' => e = .returned (.pointer (some ⟨z, 0, none⟩)) ∧ RvP w' B z (rI m (X1 * Y2) + rI n (Y1 * X2)) (X2 * Y2) ∧ Below B w w' ∧ FrK w w' := by
  obtain ⟨a1, a2⟩ := add_V m n (X1 * Y2) (Y1 * X2)
  refine (ratAdd_fk z x y B nz m n vz uz vx ux vy uy zs us X1 X2 Y1 Y2 w r.rz r.o1 r.o2 r.zz h.rx (h.x1.ro (wds_all _)) (h.x2.ro (wds_all _)) h.ry (h.y1.ro (wds_all _)) (h.y2.ro (wds_all _)) r.dx r.dy
    (mulDenom_gen uz ux uy X2 Y2 B p1 p2 k2 k4 h.x2.cap h.y2.cap r.a21 r.a22) p1 p2 k1 k2 k3 k4 (by rw [a1]; exact k5) k6 r.hB hK hT dg kg).mono ?_
  rintro e w4 ⟨h4, h5, h6⟩
  rw [a2, a1] at h5
  refine ⟨h4, ?_, h6⟩
  have e3 : ∀ V : Int, (decide (V < 0) && decide (0 < V.natAbs)) = decide (V < 0) := fun V => by
    by_cases hv : V < 0
    · rw [decide_eq_true hv, decide_eq_true (show 0 < V.natAbs by omega)]; rfl
    · rw [decide_eq_false hv, Bool.false_and]
  rw [e3] at h5
  exact h5
theorem TwoQ.sub (h : TwoQ w B x y m n X1 X2 Y1 Y2 vx ux vy uy) (r : Rcv w B z X1 Y1 vx ux vy uy nz vz uz zs us) (p1 : 0 < X2) (p2 : 0 < Y2) (k1 : nw X1 < 40) (k2 : nw X2 < 40) (k3 : nw Y1 < 40) (k4 : nw Y2 < 40) (k5 : nw (rI m (X1 * Y2) + rI (!n) (Y1 * X2)).natAbs < 40) (k6 : nw (X2 * Y2) < 40) (hK : KarW w) (hT : DivW w) (dg : 4 < B) (kg : 3 < B) :
    Calls Tryz.prog 77 #[.pointer (some ⟨z, 0, none⟩), .pointer (some ⟨x, 0, none⟩), .pointer (some ⟨y, 0, none⟩)] w fun e w' => e = .returned (.pointer (some ⟨z, 0, none⟩)) ∧ RvP w' B z (rI m (X1 * Y2) + rI (!n) (Y1 * X2)) (X2 * Y2) ∧ Below B w w' ∧ FrK w w' := by
  obtain ⟨a1, a2⟩ := add_V m (!n) (X1 * Y2) (Y1 * X2)
  refine (ratSub_fk z x y B nz m n vz uz vx ux vy uy zs us X1 X2 Y1 Y2 w r.rz r.o1 r.o2 r.zz h.rx (h.x1.ro (wds_all _)) (h.x2.ro (wds_all _)) h.ry (h.y1.ro (wds_all _)) (h.y2.ro (wds_all _)) r.dx r.dy
    (mulDenom_gen uz ux uy X2 Y2 B p1 p2 k2 k4 h.x2.cap h.y2.cap r.a21 r.a22) p1 p2 k1 k2 k3 k4 (by rw [a1]; exact k5) k6 r.hB hK hT dg kg).mono ?_
  rintro e w4 ⟨h4, h5, h6⟩
  rw [a2, a1] at h5
  refine ⟨h4, ?_, h6⟩
  have e3 : ∀ V : Int, (decide (V < 0) && decide (0 < V.natAbs)) = decide (V < 0) := fun V => by
    by_cases hv : V < 0
    · rw [decide_eq_true hv, decide_eq_true (show 0 < V.natAbs by omega)]; rfl
    · rw [decide_eq_false hv, Bool.false_and]
  rw [e3] at h5
  exact h5
theorem TwoQ.mul (h : TwoQ w B x y m n X1 X2 Y1 Y2 vx ux vy uy) (r : Rcv w B z X1 Y1 vx ux vy uy nz vz uz zs us) (p1 : 0 < X2) (p2 : 0 < Y2) (k1 : nw X1 < 40) (k2 : nw X2 < 40) (k3 : nw Y1 < 40) (k4 : nw Y2 < 40) (k5 : nw (X1 * Y1) < 40) (k6 : nw (X2 * Y2) < 40) (hK : KarW w) (hT : DivW w) (dg : 4 < B) (kg : 3 < B) :
    Calls Tryz.prog 78 #[.pointer (some ⟨z, 0, none⟩), .pointer (some ⟨x, 0, none⟩), .pointer (some ⟨y, 0, none⟩)] w fun e w' => e = .returned (.pointer (some ⟨z, 0, none⟩)) ∧ RvP w' B z (rI (m != n) (X1 * Y1)) (X2 * Y2) ∧ Below B w w' ∧ FrK w w' := by
  refine (ratMul_fk z x y B nz m n vz uz vx ux vy uy zs us X1 X2 Y1 Y2 w r.rz r.o1 r.o2 r.zz h.rx (h.x1.ro (wds_all _)) (h.x2.ro (wds_all _)) h.ry (h.y1.ro (wds_all _)) (h.y2.ro (wds_all _)) h.ne r.dx r.dy
    (mlP_rcv vz vx vy X1 Y1 B (.inl k1) (by omega) (by omega) h.x1.cap h.y1.cap r.a11 r.a12) (mulDenom_gen uz ux uy X2 Y2 B p1 p2 k2 k4 h.x2.cap h.y2.cap r.a21 r.a22) p1 p2 k5 k6 r.hB hK hT dg kg).mono ?_
  rintro e w4 ⟨h4, h5, h6⟩
  refine ⟨h4, ?_, h6⟩
  unfold RvP
  rw [rI_abs, rI_neg]
  rw [Bool.and_comm (decide (0 < X1 * Y1)), Bool.and_assoc, Bool.and_self] at h5
  exact h5
theorem TwoQ.quo (h : TwoQ w B x y m n X1 X2 Y1 Y2 vx ux vy uy) (r : Rcv w B z X1 Y1 vx ux vy uy nz vz uz zs us) (p1 : 0 < X2) (p2 : 0 < Y2) (p3 : 0 < Y1) (k1 : nw X1 < 40) (k2 : nw X2 < 40) (k3 : nw Y1 < 40) (k4 : nw Y2 < 40) (k5 : nw (X1 * Y2) < 40) (k6 : nw (Y1 * X2) < 40) (hK : KarW w) (hT : DivW w) (dg : 4 < B) :
    Calls Tryz.prog 79 #[.pointer (some ⟨z, 0, none⟩), .pointer (some ⟨x, 0, none⟩), .pointer (some ⟨y, 0, none⟩)] w fun e w' => e = .returned (.pointer (some ⟨z, 0, none⟩)) ∧ RvP w' B z (rI (m != n) (X1 * Y2)) (Y1 * X2) ∧ Below B w w' ∧ FrK w w' := by
  refine (ratQuo_fk z x y B m n X1 X2 Y1 Y2 w r.rz ⟨vx, ux, Nat.zero_le _, h.rx, h.x1.mono (Nat.zero_le _), h.x2.mono (Nat.zero_le _)⟩ ⟨vy, uy, Nat.zero_le _, h.ry, h.y1.mono (Nat.zero_le _), h.y2.mono (Nat.zero_le _)⟩ p1 p2 p3 k1 k2 k3 k4 k5 k6 r.hB hK hT dg).mono ?_
  rintro e w4 ⟨h4, h5, h6⟩
  refine ⟨h4, ?_, h6⟩
  unfold RvP
  rw [rI_abs, rI_neg]
  exact h5
end
theorem RvP.e3 (V : Int) : (decide (V < 0) && decide (0 < V.natAbs)) = decide (V < 0) := by
  by_cases hv : V < 0
  · rw [decide_eq_true hv, decide_eq_true (show 0 < V.natAbs by omega)]; rfl
  · rw [decide_eq_false hv, Bool.false_and]
section
variable {w : World} {B x X1 X2 : Nat} {m : Bool}
theorem RatQ.add3 (h : RatQ w B x m X1 X2) (p1 : 0 < X2) (k1 : nw X1 < 40) (k2 : nw X2 < 40) (k5 : nw (rI m (X1 * X2) + rI m (X1 * X2)).natAbs < 40) (k6 : nw (X2 * X2) < 40) (hK : KarW w) (hT : DivW w) (dg : 4 < B) (kg : 3 < B) :
    Calls Tryz.prog 76 #[.pointer (some ⟨x, 0, none⟩), .pointer (some ⟨x, 0, none⟩), .pointer (some ⟨x, 0, none⟩)] w fun e w' => e = .returned (.pointer (some ⟨x, 0, none⟩)) ∧ RvP w' B x (rI m (X1 * X2) + rI m (X1 * X2)) (X2 * X2) ∧ Below B w w' ∧ FrK w w' := by
  obtain ⟨vx, ux, hB, rx, x1, x2, hs⟩ := h
  obtain ⟨a1, a2⟩ := add_V m m (X1 * X2) (X1 * X2)
  have hd : 0 < sCap vx → sBlk ux ≠ sBlk vx := fun hc he => hs hc (x2.capPos p1) he.symm
  refine (ratAdd_fk x x x B m m m vx ux vx ux vx ux _ _ X1 X2 X1 X2 w rx x1 x2 hs rx (x1.ro (wds_all _)) (x2.ro (wds_all _)) rx (x1.ro (wds_all _)) (x2.ro (wds_all _)) hd hd
    (mulDenom_gen ux ux ux X2 X2 B p1 p1 k2 k2 x2.cap x2.cap (Av.self _) (Av.self _)) p1 p1 k1 k2 k1 k2 (by rw [a1]; exact k5) k6 hB hK hT dg kg).mono ?_
  rintro e w4 ⟨h4, h5, h6⟩
  rw [a2, a1, RvP.e3] at h5
  exact ⟨h4, h5, h6⟩
theorem RatQ.sub3 (h : RatQ w B x m X1 X2) (p1 : 0 < X2) (k1 : nw X1 < 40) (k2 : nw X2 < 40) (k5 : nw (rI m (X1 * X2) + rI (!m) (X1 * X2)).natAbs < 40) (k6 : nw (X2 * X2) < 40) (hK : KarW w) (hT : DivW w) (dg : 4 < B) (kg : 3 < B) :
    Calls Tryz.prog 77 #[.pointer (some ⟨x, 0, none⟩), .pointer (some ⟨x, 0, none⟩), .pointer (some ⟨x, 0, none⟩)] w fun e w' => e = .returned (.pointer (some ⟨x, 0, none⟩)) ∧ RvP w' B x (rI m (X1 * X2) + rI (!m) (X1 * X2)) (X2 * X2) ∧ Below B w w' ∧ FrK w w' := by
  obtain ⟨vx, ux, hB, rx, x1, x2, hs⟩ := h
  obtain ⟨a1, a2⟩ := add_V m (!m) (X1 * X2) (X1 * X2)
  have hd : 0 < sCap vx → sBlk ux ≠ sBlk vx := fun hc he => hs hc (x2.capPos p1) he.symm
  refine (ratSub_fk x x x B m m m vx ux vx ux vx ux _ _ X1 X2 X1 X2 w rx x1 x2 hs rx (x1.ro (wds_all _)) (x2.ro (wds_all _)) rx (x1.ro (wds_all _)) (x2.ro (wds_all _)) hd hd
    (mulDenom_gen ux ux ux X2 X2 B p1 p1 k2 k2 x2.cap x2.cap (Av.self _) (Av.self _)) p1 p1 k1 k2 k1 k2 (by rw [a1]; exact k5) k6 hB hK hT dg kg).mono ?_
  rintro e w4 ⟨h4, h5, h6⟩
  rw [a2, a1, RvP.e3] at h5
  exact ⟨h4, h5, h6⟩
theorem RatQ.quo3 (h : RatQ w B x m X1 X2) (p1 : 0 < X2) (p3 : 0 < X1) (k1 : nw X1 < 40) (k2 : nw X2 < 40) (k5 : nw (X1 * X2) < 40) (hK : KarW w) (hT : DivW w) (dg : 4 < B) :
    Calls Tryz.prog 79 #[.pointer (some ⟨x, 0, none⟩), .pointer (some ⟨x, 0, none⟩), .pointer (some ⟨x, 0, none⟩)] w fun e w' => e = .returned (.pointer (some ⟨x, 0, none⟩)) ∧ RvP w' B x (rI (m != m) (X1 * X2)) (X1 * X2) ∧ Below B w w' ∧ FrK w w' := by
  obtain ⟨vx, ux, hB, rx, x1, x2, hs⟩ := h
  have hp : RatP w 0 x m X1 X2 := ⟨vx, ux, Nat.zero_le _, rx, x1.mono (Nat.zero_le _), x2.mono (Nat.zero_le _)⟩
  refine (ratQuo_fk x x x B m m X1 X2 X1 X2 w rx hp hp p1 p1 p3 k1 k2 k1 k2 k5 k5 hB hK hT dg).mono ?_
  rintro e w4 ⟨h4, h5, h6⟩
  refine ⟨h4, ?_, h6⟩
  unfold RvP
  rw [rI_abs, rI_neg]
  exact h5
theorem RatQ.mul3 (h : RatQ w B x m X1 X2) (hg : Nat.gcd X1 X2 = 1) (p1 : 0 < X2) (k1 : nw X1 < 40) (k2 : nw X2 < 40) (hBw : B ≤ w.heap.size) (hS : SqrW w) (g1 : 1 < B) (g2 : 2 < B) :
    Calls Tryz.prog 78 #[.pointer (some ⟨x, 0, none⟩), .pointer (some ⟨x, 0, none⟩), .pointer (some ⟨x, 0, none⟩)] w fun e w' => e = .returned (.pointer (some ⟨x, 0, none⟩)) ∧ RvP w' B x (rI (m != m) (X1 * X1)) (X2 * X2) ∧ Below B w w' ∧ FrK w w' := by
  refine (ratSqr_any x B m X1 X2 w h p1 (by omega) (by omega) hBw hS g1 g2).mono ?_
  rintro e w4 ⟨h4, h5, h6⟩
  refine ⟨h4, ?_, h6⟩
  have hc : Nat.Coprime X1 X2 := hg
  have hgg : Nat.gcd (X1 * X1) (X2 * X2) = 1 := Nat.Coprime.mul_left (Nat.Coprime.mul_right hc hc) (Nat.Coprime.mul_right hc hc)
  unfold RvP
  rw [rI_abs, rI_neg, hgg, Nat.div_one, Nat.div_one, bne_self_eq_false, Bool.false_and]
  exact h5
end
theorem ksP2 {B : Nat} {w W X : World} {k l : Nat} {a b c a' b' c' : Value} {T T' : TypeId} (h1 : W.heap[k]? = some (.cells #[a, b, c] T (0, 0))) (h2 : W.heap[l]? = some (.cells #[a', b', c'] T' (0, 0))) (hB : Below B w W) (hs : B ≤ W.heap.size) (h : Below W.heap.size W X) :
    Below B w X ∧ X.cell? ⟨k, 0, none⟩ = some a ∧ X.cell? ⟨k, 1, none⟩ = some b ∧ X.cell? ⟨k, 2, none⟩ = some c ∧ X.cell? ⟨l, 0, none⟩ = some a' ∧ X.cell? ⟨l, 1, none⟩ = some b' ∧ X.cell? ⟨l, 2, none⟩ = some c' := by
  obtain ⟨x0, x1, x2, -, -, -⟩ := row3 (keep_row h h1)
  obtain ⟨y0, y1, y2, -, -, -⟩ := row3 (keep_row h h2)
  exact ⟨hB.trans (h.mono hs), x0, x1, x2, y0, y1, y2⟩
theorem ksP2S {B g i : Nat} {w X : World} {k l : Nat} {a b c a' b' c' u : Value} (hg : B ≤ g) (hk : g ≠ k) (hl : g ≠ l) (h : Below B w X ∧ X.cell? ⟨k, 0, none⟩ = some a ∧ X.cell? ⟨k, 1, none⟩ = some b ∧ X.cell? ⟨k, 2, none⟩ = some c ∧ X.cell? ⟨l, 0, none⟩ = some a' ∧ X.cell? ⟨l, 1, none⟩ = some b' ∧ X.cell? ⟨l, 2, none⟩ = some c') :
    Below B w (X.setCell ⟨g, i, none⟩ u) ∧ (X.setCell ⟨g, i, none⟩ u).cell? ⟨k, 0, none⟩ = some a ∧ (X.setCell ⟨g, i, none⟩ u).cell? ⟨k, 1, none⟩ = some b ∧ (X.setCell ⟨g, i, none⟩ u).cell? ⟨k, 2, none⟩ = some c ∧ (X.setCell ⟨g, i, none⟩ u).cell? ⟨l, 0, none⟩ = some a' ∧ (X.setCell ⟨g, i, none⟩ u).cell? ⟨l, 1, none⟩ = some b' ∧ (X.setCell ⟨g, i, none⟩ u).cell? ⟨l, 2, none⟩ = some c' := by
  have hk' : ∀ j, (X.setCell ⟨g, i, none⟩ u).cell? ⟨k, j, none⟩ = X.cell? ⟨k, j, none⟩ := fun j => cell_other (by simpa using hk)
  have hl' : ∀ j, (X.setCell ⟨g, i, none⟩ u).cell? ⟨l, j, none⟩ = X.cell? ⟨l, j, none⟩ := fun j => cell_other (by simpa using hl)
  simp only [hk', hl']
  exact ⟨bset h.1 hg, h.2⟩
def FracV (w : World) (v : Value) (V : Int) (D : Nat) : Prop := ∃ r1 r2, v = .agg #[.bool (decide (V < 0)), r1, r2] ∧ RW w r1 (wds (V.natAbs / Nat.gcd V.natAbs D)) ∧ RW w r2 (wds (D / Nat.gcd V.natAbs D))
theorem gcd_div_pos {N D : Nat} (h : 0 < D) : 0 < D / Nat.gcd N D := Nat.div_pos (Nat.gcd_le_right _ h) (Nat.gcd_pos_of_pos_right _ h)
theorem neg_div (V : Int) {D : Nat} (_h : 0 < D) : (decide (V < 0) && decide (0 < V.natAbs / Nat.gcd V.natAbs D)) = decide (V < 0) := by
  by_cases hv : V < 0
  · have h1 : 0 < V.natAbs := by omega
    rw [decide_eq_true hv, decide_eq_true (Nat.div_pos (Nat.gcd_le_left _ h1) (Nat.gcd_pos_of_pos_left _ h1))]; rfl
  · rw [decide_eq_false hv, Bool.false_and]
theorem nw_absadd {x y : Int} {a b : Nat} (h1 : nw x.natAbs ≤ a) (h2 : nw y.natAbs ≤ b) : nw (x + y).natAbs ≤ max a b + 1 := by
  refine nw_le ?_
  have g1 := lt_nw x.natAbs
  have g2 := lt_nw y.natAbs
  have m1 : 18446744073709551616 ^ nw x.natAbs ≤ 18446744073709551616 ^ max a b := Nat.pow_le_pow_right (by decide) (by omega)
  have m2 : 18446744073709551616 ^ nw y.natAbs ≤ 18446744073709551616 ^ max a b := Nat.pow_le_pow_right (by decide) (by omega)
  rw [Nat.pow_succ]
  omega
theorem nw_sumAdd (b1 b2 : Bool) (X1 X2 Y1 Y2 : Nat) {a b : Nat} (h1 : nw (X1 * Y2) ≤ a) (h2 : nw (Y1 * X2) ≤ b) : nw (rI b1 (X1 * Y2) + rI b2 (Y1 * X2)).natAbs ≤ max a b + 1 := nw_absadd (by rw [rI_abs]; exact h1) (by rw [rI_abs]; exact h2)
theorem nw_sumSub (b1 b2 : Bool) (X1 X2 Y1 Y2 : Nat) {a b : Nat} (h1 : nw (X1 * Y2) ≤ a) (h2 : nw (Y1 * X2) ≤ b) : nw (rI b1 (X1 * Y2) + rI (!b2) (Y1 * X2)).natAbs ≤ max a b + 1 := nw_absadd (by rw [rI_abs]; exact h1) (by rw [rI_abs]; exact h2)
theorem natAbs_nwAdd (b1 b2 : Bool) (X1 X2 Y1 Y2 : Nat) (h1 : nw X1 + nw Y2 ≤ 37) (h2 : nw Y1 + nw X2 ≤ 37) (_h3 : nw X1 + nw Y1 ≤ 37) : nw (rI b1 (X1 * Y2) + rI b2 (Y1 * X2)).natAbs ≤ 100 :=
  Nat.le_trans (nw_sumAdd b1 b2 X1 X2 Y1 Y2 (a := 37) (b := 37) (Nat.le_trans (nw_mul_le _ _) h1) (Nat.le_trans (nw_mul_le _ _) h2)) (by decide)
theorem natAbs_nwSub (b1 b2 : Bool) (X1 X2 Y1 Y2 : Nat) (h1 : nw X1 + nw Y2 ≤ 37) (h2 : nw Y1 + nw X2 ≤ 37) (_h3 : nw X1 + nw Y1 ≤ 37) : nw (rI b1 (X1 * Y2) + rI (!b2) (Y1 * X2)).natAbs ≤ 100 :=
  Nat.le_trans (nw_sumSub b1 b2 X1 X2 Y1 Y2 (a := 37) (b := 37) (Nat.le_trans (nw_mul_le _ _) h1) (Nat.le_trans (nw_mul_le _ _) h2)) (by decide)
theorem RvP.frac {w : World} {B z D : Nat} {V : Int} (h : RvP w B z V D) (hD : 0 < D) (n1 : nw V.natAbs ≤ 100) (n2 : nw D ≤ 100) :
    Calls Tryz.prog 75 #[.pointer (some ⟨z, 0, none⟩)] w fun e w4 => ∃ r1 r2, e = .returned (.agg #[.bool (decide (V < 0)), r1, r2]) ∧ IsS r1 ∧ IsS r2 ∧ RW w4 r1 (wds (V.natAbs / Nat.gcd V.natAbs D)) ∧ RW w4 r2 (wds (D / Nat.gcd V.natAbs D)) ∧ Below w.heap.size w w4 := by
  refine (frac_any z B (decide (V < 0)) _ _ w h (gcd_div_pos hD) (Nat.le_trans (nw_mono (Nat.div_le_self _ _)) (by omega)) (Nat.le_trans (nw_mono (Nat.div_le_self _ _)) (by omega))).mono ?_
  rintro e w4 ⟨r1, r2, h4, h5, h6, h7⟩
  exact ⟨r1, r2, by rw [h4, neg_div V hD], h5.isS, h6.isS, h5, h6, h7⟩
theorem FrK.setNew {w w' : World} {b i : Nat} {u : Value} (h : FrK w w') (hb : w.heap.size ≤ b) : FrK w (w'.setCell ⟨b, i, none⟩ u) := fun k cs hk => by
  refine (heap_setCell_other _ _ _ _ ?_).trans (h k cs hk)
  have := get_lt hk
  simp only
  omega
set_option maxRecDepth 100000 in
set_option maxHeartbeats 3200000 in
theorem ratOf_add (z x y B : Nat) (V : Int) (D : Nat) (w : World) (hB : B ≤ w.heap.size) (hD : 0 < D) (n1 : nw V.natAbs ≤ 100) (n2 : nw D ≤ 100)
    (HC0 : ∀ W, Below w.heap.size w W → Calls Tryz.prog 76 #[.pointer (some ⟨z, 0, none⟩), .pointer (some ⟨x, 0, none⟩), .pointer (some ⟨y, 0, none⟩)] W fun e w' => e = .returned (.pointer (some ⟨z, 0, none⟩)) ∧ RvP w' B z V D ∧ Below B W w' ∧ FrK W w') :
    Calls Tryz.prog 44 #[.int .i64 0, .pointer (some ⟨z, 0, none⟩), .pointer (some ⟨x, 0, none⟩), .pointer (some ⟨y, 0, none⟩)] w fun e w' => ∃ v, e = .returned (.tuple #[v, .bool true]) ∧ FracV w' v V D ∧ Below B w w' ∧ FrK w w' := by
  obtain ⟨W, hW⟩ : ∃ W, W = w.alloc (.cells #[.bool false, .slice none 0 0, .slice none 0 0] 26) := ⟨_, rfl⟩
  have hbw : Below w.heap.size w W := by rw [hW]; exact fbone _
  have hrow : W.heap[w.heap.size]? = some (.cells #[.bool false, .slice none 0 0, .slice none 0 0] 26 (0, 0)) := by rw [hW]; exact heap_alloc_new _ _
  have HC := Lib.hid (HC0 W hbw)
  have HRow := Lib.hid hrow
  have HD := Lib.hid (And.intro hD (And.intro n1 n2))
  have HB := Lib.hid (And.intro hB (hbw.mono hB))
  have HW := Lib.hid hW
  have HF := Lib.hid (FrK.ofBelow hbw)
  clear HC0 hW hbw hrow hD n1 n2 hB
  go_enter Tryz.func44, Tryz.ntmps44
  go_upto_region 1 with fail
  rw [← HW.out]
  go_wp2_with fail
  refine HC.out.mono ?_
  rintro _ w2 ⟨rfl, hrv, hb2, hr2⟩
  have HV := Lib.hid hrv
  have HB2 := Lib.hid (And.intro hb2 hr2)
  clear hrv hb2 hr2
  go_wp2_with fail
  refine (HV.out.frac HD.out.1 HD.out.2.1 HD.out.2.2).mono ?_
  rintro _ w3 ⟨r1, r2, rfl, hS1, hS2, hw1, hw2, hb3⟩
  have hrw := keep_row hb3 ((HB2.out.2 _ _ HRow.out).trans HRow.out)
  have HRw := Lib.hid hrw
  obtain ⟨z0, z1, z2, f0, f1, f2⟩ := row3 hrw
  clear hrw
  have HS := Lib.hid (And.intro hw1 (And.intro hw2 hb3))
  clear hw1 hw2 hb3
  go_wp2
  obtain ⟨hx0, hx1, hx2, -, -, -⟩ := row3 (row3_set (x := .bool (decide (V < 0))) (y := r1) (z := r2) HRw.out)
  have hb13 : Below B w w3 := (HB.out.2.trans HB2.out.1).trans (HS.out.2.2.mono (Nat.le_trans HB.out.1 (HB.out.2.trans HB2.out.1).size))
  have hf13 : FrK w w3 := HF.out.trans (HB2.out.2.trans (FrK.ofBelow HS.out.2.2))
  refine bodyPost_ret (v := .tuple #[.agg #[.bool (decide (V < 0)), r1, r2], .bool true]) ?_ rfl ⟨_, rfl, ⟨r1, r2, rfl, ?_, ?_⟩, bset (bset (bset hb13 HB.out.1) HB.out.1) HB.out.1, ((hf13.setNew (Nat.le_refl _)).setNew (Nat.le_refl _)).setNew (Nat.le_refl _)⟩
  · simp [results, Tryz.results44, go_sem, hx0, hx1, hx2]
  · exact rw_row3 (x := .bool (decide (V < 0))) (y := r1) (z := r2) HS.out.1 IsS.nil IsS.nil HRw.out
  · exact rw_row3 (x := .bool (decide (V < 0))) (y := r1) (z := r2) HS.out.2.1 IsS.nil IsS.nil HRw.out
set_option maxRecDepth 100000 in
set_option maxHeartbeats 3200000 in
theorem ratOf_sub (z x y B : Nat) (V : Int) (D : Nat) (w : World) (hB : B ≤ w.heap.size) (hD : 0 < D) (n1 : nw V.natAbs ≤ 100) (n2 : nw D ≤ 100)
    (HC0 : ∀ W, Below w.heap.size w W → Calls Tryz.prog 77 #[.pointer (some ⟨z, 0, none⟩), .pointer (some ⟨x, 0, none⟩), .pointer (some ⟨y, 0, none⟩)] W fun e w' => e = .returned (.pointer (some ⟨z, 0, none⟩)) ∧ RvP w' B z V D ∧ Below B W w' ∧ FrK W w') :
    Calls Tryz.prog 44 #[.int .i64 1, .pointer (some ⟨z, 0, none⟩), .pointer (some ⟨x, 0, none⟩), .pointer (some ⟨y, 0, none⟩)] w fun e w' => ∃ v, e = .returned (.tuple #[v, .bool true]) ∧ FracV w' v V D ∧ Below B w w' ∧ FrK w w' := by
  obtain ⟨W, hW⟩ : ∃ W, W = w.alloc (.cells #[.bool false, .slice none 0 0, .slice none 0 0] 26) := ⟨_, rfl⟩
  have hbw : Below w.heap.size w W := by rw [hW]; exact fbone _
  have hrow : W.heap[w.heap.size]? = some (.cells #[.bool false, .slice none 0 0, .slice none 0 0] 26 (0, 0)) := by rw [hW]; exact heap_alloc_new _ _
  have HC := Lib.hid (HC0 W hbw)
  have HRow := Lib.hid hrow
  have HD := Lib.hid (And.intro hD (And.intro n1 n2))
  have HB := Lib.hid (And.intro hB (hbw.mono hB))
  have HW := Lib.hid hW
  have HF := Lib.hid (FrK.ofBelow hbw)
  clear HC0 hW hbw hrow hD n1 n2 hB
  go_enter Tryz.func44, Tryz.ntmps44
  go_upto_region 1 with fail
  rw [← HW.out]
  go_wp2_with fail
  refine HC.out.mono ?_
  rintro _ w2 ⟨rfl, hrv, hb2, hr2⟩
  have HV := Lib.hid hrv
  have HB2 := Lib.hid (And.intro hb2 hr2)
  clear hrv hb2 hr2
  go_wp2_with fail
  refine (HV.out.frac HD.out.1 HD.out.2.1 HD.out.2.2).mono ?_
  rintro _ w3 ⟨r1, r2, rfl, hS1, hS2, hw1, hw2, hb3⟩
  have hrw := keep_row hb3 ((HB2.out.2 _ _ HRow.out).trans HRow.out)
  have HRw := Lib.hid hrw
  obtain ⟨z0, z1, z2, f0, f1, f2⟩ := row3 hrw
  clear hrw
  have HS := Lib.hid (And.intro hw1 (And.intro hw2 hb3))
  clear hw1 hw2 hb3
  go_wp2
  obtain ⟨hx0, hx1, hx2, -, -, -⟩ := row3 (row3_set (x := .bool (decide (V < 0))) (y := r1) (z := r2) HRw.out)
  have hb13 : Below B w w3 := (HB.out.2.trans HB2.out.1).trans (HS.out.2.2.mono (Nat.le_trans HB.out.1 (HB.out.2.trans HB2.out.1).size))
  have hf13 : FrK w w3 := HF.out.trans (HB2.out.2.trans (FrK.ofBelow HS.out.2.2))
  refine bodyPost_ret (v := .tuple #[.agg #[.bool (decide (V < 0)), r1, r2], .bool true]) ?_ rfl ⟨_, rfl, ⟨r1, r2, rfl, ?_, ?_⟩, bset (bset (bset hb13 HB.out.1) HB.out.1) HB.out.1, ((hf13.setNew (Nat.le_refl _)).setNew (Nat.le_refl _)).setNew (Nat.le_refl _)⟩
  · simp [results, Tryz.results44, go_sem, hx0, hx1, hx2]
  · exact rw_row3 (x := .bool (decide (V < 0))) (y := r1) (z := r2) HS.out.1 IsS.nil IsS.nil HRw.out
  · exact rw_row3 (x := .bool (decide (V < 0))) (y := r1) (z := r2) HS.out.2.1 IsS.nil IsS.nil HRw.out
set_option maxRecDepth 100000 in
set_option maxHeartbeats 3200000 in
theorem ratOf_mul (z x y B : Nat) (V : Int) (D : Nat) (w : World) (hB : B ≤ w.heap.size) (hD : 0 < D) (n1 : nw V.natAbs ≤ 100) (n2 : nw D ≤ 100)
    (HC0 : ∀ W, Below w.heap.size w W → Calls Tryz.prog 78 #[.pointer (some ⟨z, 0, none⟩), .pointer (some ⟨x, 0, none⟩), .pointer (some ⟨y, 0, none⟩)] W fun e w' => e = .returned (.pointer (some ⟨z, 0, none⟩)) ∧ RvP w' B z V D ∧ Below B W w' ∧ FrK W w') :
    Calls Tryz.prog 44 #[.int .i64 2, .pointer (some ⟨z, 0, none⟩), .pointer (some ⟨x, 0, none⟩), .pointer (some ⟨y, 0, none⟩)] w fun e w' => ∃ v, e = .returned (.tuple #[v, .bool true]) ∧ FracV w' v V D ∧ Below B w w' ∧ FrK w w' := by
  obtain ⟨W, hW⟩ : ∃ W, W = w.alloc (.cells #[.bool false, .slice none 0 0, .slice none 0 0] 26) := ⟨_, rfl⟩
  have hbw : Below w.heap.size w W := by rw [hW]; exact fbone _
  have hrow : W.heap[w.heap.size]? = some (.cells #[.bool false, .slice none 0 0, .slice none 0 0] 26 (0, 0)) := by rw [hW]; exact heap_alloc_new _ _
  have HC := Lib.hid (HC0 W hbw)
  have HRow := Lib.hid hrow
  have HD := Lib.hid (And.intro hD (And.intro n1 n2))
  have HB := Lib.hid (And.intro hB (hbw.mono hB))
  have HW := Lib.hid hW
  have HF := Lib.hid (FrK.ofBelow hbw)
  clear HC0 hW hbw hrow hD n1 n2 hB
  go_enter Tryz.func44, Tryz.ntmps44
  go_upto_region 1 with fail
  rw [← HW.out]
  go_wp2_with fail
  refine HC.out.mono ?_
  rintro _ w2 ⟨rfl, hrv, hb2, hr2⟩
  have HV := Lib.hid hrv
  have HB2 := Lib.hid (And.intro hb2 hr2)
  clear hrv hb2 hr2
  go_wp2_with fail
  refine (HV.out.frac HD.out.1 HD.out.2.1 HD.out.2.2).mono ?_
  rintro _ w3 ⟨r1, r2, rfl, hS1, hS2, hw1, hw2, hb3⟩
  have hrw := keep_row hb3 ((HB2.out.2 _ _ HRow.out).trans HRow.out)
  have HRw := Lib.hid hrw
  obtain ⟨z0, z1, z2, f0, f1, f2⟩ := row3 hrw
  clear hrw
  have HS := Lib.hid (And.intro hw1 (And.intro hw2 hb3))
  clear hw1 hw2 hb3
  go_wp2
  obtain ⟨hx0, hx1, hx2, -, -, -⟩ := row3 (row3_set (x := .bool (decide (V < 0))) (y := r1) (z := r2) HRw.out)
  have hb13 : Below B w w3 := (HB.out.2.trans HB2.out.1).trans (HS.out.2.2.mono (Nat.le_trans HB.out.1 (HB.out.2.trans HB2.out.1).size))
  have hf13 : FrK w w3 := HF.out.trans (HB2.out.2.trans (FrK.ofBelow HS.out.2.2))
  refine bodyPost_ret (v := .tuple #[.agg #[.bool (decide (V < 0)), r1, r2], .bool true]) ?_ rfl ⟨_, rfl, ⟨r1, r2, rfl, ?_, ?_⟩, bset (bset (bset hb13 HB.out.1) HB.out.1) HB.out.1, ((hf13.setNew (Nat.le_refl _)).setNew (Nat.le_refl _)).setNew (Nat.le_refl _)⟩
  · simp [results, Tryz.results44, go_sem, hx0, hx1, hx2]
  · exact rw_row3 (x := .bool (decide (V < 0))) (y := r1) (z := r2) HS.out.1 IsS.nil IsS.nil HRw.out
  · exact rw_row3 (x := .bool (decide (V < 0))) (y := r1) (z := r2) HS.out.2.1 IsS.nil IsS.nil HRw.out
set_option maxRecDepth 100000 in
set_option maxHeartbeats 3200000 in
theorem ratOf_quo (z x y B : Nat) (V : Int) (D : Nat) (w : World) (hB : B ≤ w.heap.size) (hD : 0 < D) (n1 : nw V.natAbs ≤ 100) (n2 : nw D ≤ 100)
    (HC0 : ∀ W, Below w.heap.size w W → Calls Tryz.prog 79 #[.pointer (some ⟨z, 0, none⟩), .pointer (some ⟨x, 0, none⟩), .pointer (some ⟨y, 0, none⟩)] W fun e w' => e = .returned (.pointer (some ⟨z, 0, none⟩)) ∧ RvP w' B z V D ∧ Below B W w' ∧ FrK W w') :
    Calls Tryz.prog 44 #[.int .i64 3, .pointer (some ⟨z, 0, none⟩), .pointer (some ⟨x, 0, none⟩), .pointer (some ⟨y, 0, none⟩)] w fun e w' => ∃ v, e = .returned (.tuple #[v, .bool true]) ∧ FracV w' v V D ∧ Below B w w' ∧ FrK w w' := by
  obtain ⟨W, hW⟩ : ∃ W, W = w.alloc (.cells #[.bool false, .slice none 0 0, .slice none 0 0] 26) := ⟨_, rfl⟩
  have hbw : Below w.heap.size w W := by rw [hW]; exact fbone _
  have hrow : W.heap[w.heap.size]? = some (.cells #[.bool false, .slice none 0 0, .slice none 0 0] 26 (0, 0)) := by rw [hW]; exact heap_alloc_new _ _
  have HC := Lib.hid (HC0 W hbw)
  have HRow := Lib.hid hrow
  have HD := Lib.hid (And.intro hD (And.intro n1 n2))
  have HB := Lib.hid (And.intro hB (hbw.mono hB))
  have HW := Lib.hid hW
  have HF := Lib.hid (FrK.ofBelow hbw)
  clear HC0 hW hbw hrow hD n1 n2 hB
  go_enter Tryz.func44, Tryz.ntmps44
  go_upto_region 1 with fail
  rw [← HW.out]
  go_wp2_with fail
  refine HC.out.mono ?_
  rintro _ w2 ⟨rfl, hrv, hb2, hr2⟩
  have HV := Lib.hid hrv
  have HB2 := Lib.hid (And.intro hb2 hr2)
  clear hrv hb2 hr2
  go_wp2_with fail
  refine (HV.out.frac HD.out.1 HD.out.2.1 HD.out.2.2).mono ?_
  rintro _ w3 ⟨r1, r2, rfl, hS1, hS2, hw1, hw2, hb3⟩
  have hrw := keep_row hb3 ((HB2.out.2 _ _ HRow.out).trans HRow.out)
  have HRw := Lib.hid hrw
  obtain ⟨z0, z1, z2, f0, f1, f2⟩ := row3 hrw
  clear hrw
  have HS := Lib.hid (And.intro hw1 (And.intro hw2 hb3))
  clear hw1 hw2 hb3
  go_wp2
  obtain ⟨hx0, hx1, hx2, -, -, -⟩ := row3 (row3_set (x := .bool (decide (V < 0))) (y := r1) (z := r2) HRw.out)
  have hb13 : Below B w w3 := (HB.out.2.trans HB2.out.1).trans (HS.out.2.2.mono (Nat.le_trans HB.out.1 (HB.out.2.trans HB2.out.1).size))
  have hf13 : FrK w w3 := HF.out.trans (HB2.out.2.trans (FrK.ofBelow HS.out.2.2))
  refine bodyPost_ret (v := .tuple #[.agg #[.bool (decide (V < 0)), r1, r2], .bool true]) ?_ rfl ⟨_, rfl, ⟨r1, r2, rfl, ?_, ?_⟩, bset (bset (bset hb13 HB.out.1) HB.out.1) HB.out.1, ((hf13.setNew (Nat.le_refl _)).setNew (Nat.le_refl _)).setNew (Nat.le_refl _)⟩
  · simp [results, Tryz.results44, go_sem, hx0, hx1, hx2]
  · exact rw_row3 (x := .bool (decide (V < 0))) (y := r1) (z := r2) HS.out.1 IsS.nil IsS.nil HRw.out
  · exact rw_row3 (x := .bool (decide (V < 0))) (y := r1) (z := r2) HS.out.2.1 IsS.nil IsS.nil HRw.out
end Go.Proofs.YtllhnjpnkmjopaaGreatDoor
