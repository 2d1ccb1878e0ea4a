/-
Texts of this proof, joined: RcF SiA FvA InM InN. No condition.
-/
import Derived.Test.YtbghmceglemppaaGreatDoorK02
import Derived.Test.YtbghmceglemppaaGreatDoorK15
import Derived.Test.YtbghmceglemppaaGreatDoorK23
import Derived.Test.YtbghmceglemppaaGreatDoorK31
/-
The sum of two fractions, as the reference tells it, and their order: Plus, Compare. No condition.
-/
namespace Go.Proofs.YtbghmceglemppaaGreatDoor
open Go.RowKit

theorem ks2 {W X : World} {k g T U : Nat} {a b c d e f : Value} (h1 : W.heap[k]? = some (.cells #[a, b, c] T (0, 0))) (h2 : W.heap[g]? = some (.cells #[d, e, f] U (0, 0))) (h : Below W.heap.size W X) :
    X.cell? ⟨k, 0, none⟩ = some a ∧ X.cell? ⟨g, 0, none⟩ = some d := ⟨(row3 (keep_row h h1)).1, (row3 (keep_row h h2)).1⟩
theorem ks2_set {X : World} {k i : Nat} {a d u : Value} (h : X.cell? ⟨k, 0, none⟩ = some a ∧ X.cell? ⟨k + 1, 0, none⟩ = some d) :
    (X.setCell ⟨k + 1 + 1, i, none⟩ u).cell? ⟨k, 0, none⟩ = some a ∧ (X.setCell ⟨k + 1 + 1, i, none⟩ u).cell? ⟨k + 1, 0, none⟩ = some d :=
  ⟨(cell_other (by simp only; omega)).trans h.1, (cell_other (by simp only; omega)).trans h.2⟩
theorem nl_mul_le (a b : Nat) : nl (a * b) ≤ nl a + nl b := nl_le (by rw [Nat.pow_add]; exact Nat.mul_lt_mul'' (lt_nl a) (lt_nl b))
theorem nl_add_le (a b : Nat) : nl (a + b) ≤ nl a + nl b + 1 := by
  have h1 := lt_nl a
  have h2 := lt_nl b
  refine nl_le ?_
  have e1 : 65536 ^ nl a ≤ 65536 ^ (nl a + nl b) := Nat.pow_le_pow_right (by decide) (by omega)
  have e2 : 65536 ^ nl b ≤ 65536 ^ (nl a + nl b) := Nat.pow_le_pow_right (by decide) (by omega)
  rw [Nat.pow_succ]
  omega
/-- Sign and size of a sum of two told by sign and size. -/
def plS (m : Bool) (X : Nat) (n : Bool) (Y : Nat) : Bool := if m = n then m else if Y ≤ X then m else n
def plN (m : Bool) (X : Nat) (n : Bool) (Y : Nat) : Nat := if m = n then X + Y else if Y ≤ X then X - Y else Y - X
/-- A fraction of the reference that stands for sign, numerator and denominator. -/
def RtV (w : World) (v : Value) (neg : Bool) (X Y : Nat) : Prop := ∃ q r, v = .agg #[.bool (neg && decide (0 < X)), q, r] ∧ NatV w q (X / Nat.gcd X Y) ∧ NatV w r (Y / Nat.gcd X Y)
set_option maxRecDepth 100000 in
set_option maxHeartbeats 3200000 in
theorem plus_any (m n : Bool) (a1 a2 c1 c2 : Value) (X1 X2 Y1 Y2 : Nat) (w : World) (ha1 : NatV w a1 X1) (ha2 : NatV w a2 X2) (hc1 : NatV w c1 Y1) (hc2 : NatV w c2 Y2)
    (l1 : nl X1 ≤ 1000000) (l2 : nl X2 ≤ 1000000) (l3 : nl Y1 ≤ 1000000) (l4 : nl Y2 ≤ 1000000) (p1 : 0 < X2) (p2 : 0 < Y2) :
    Calls Tryz.prog 41 #[.agg #[.bool m, a1, a2], .agg #[.bool n, c1, c2]] w fun e w' => ∃ v, e = .returned v ∧ RtV w' v (plS m (X1 * Y2) n (Y1 * X2)) (plN m (X1 * Y2) n (Y1 * X2)) (X2 * Y2) ∧ Below w.heap.size w w' := by
  have hS1 := ha1.isS
  have hS2 := ha2.isS
  have hS3 := hc1.isS
  have hS4 := hc2.isS
  obtain ⟨W, hW⟩ : ∃ W, W = ((w.alloc (.cells #[.bool m, a1, a2] 49)).alloc (.cells #[.bool n, c1, c2] 49)).alloc (.cells #[.bool false, .slice none 0 0, .slice none 0 0] 49) := ⟨_, rfl⟩
  have hab : Below w.heap.size w W := by rw [hW]; exact (((Below.refl _ w).alloc (Nat.le_refl _) _).alloc (by simp) _).alloc (by simp; omega) _
  have hr1 : W.heap[w.heap.size]? = some (.cells #[.bool m, a1, a2] 49 (0, 0)) := by rw [hW]; exact keep_row (fbone _) (keep_row (fbone _) (box_row (Below.refl _ _)))
  have hr2 : W.heap[w.heap.size + 1]? = some (.cells #[.bool n, c1, c2] 49 (0, 0)) := by
    have h := box_row (cs := #[.bool n, c1, c2]) (T := 49) (Below.refl _ ((w.alloc (.cells #[.bool m, a1, a2] 49)).alloc (.cells #[.bool n, c1, c2] 49)))
    have e : (w.alloc (.cells #[.bool m, a1, a2] 49)).heap.size = w.heap.size + 1 := by simp
    rw [e] at h
    rw [hW]; exact keep_row (fbone _) h
  have hr3 : W.heap[w.heap.size + 1 + 1]? = some (.cells #[.bool false, .slice none 0 0, .slice none 0 0] 49 (0, 0)) := by
    have h := box_row (cs := #[.bool false, .slice none 0 0, .slice none 0 0]) (T := 49) (Below.refl _ (((w.alloc (.cells #[.bool m, a1, a2] 49)).alloc (.cells #[.bool n, c1, c2] 49)).alloc (.cells #[.bool false, .slice none 0 0, .slice none 0 0] 49)))
    have e : ((w.alloc (.cells #[.bool m, a1, a2] 49)).alloc (.cells #[.bool n, c1, c2] 49)).heap.size = w.heap.size + 1 + 1 := by simp
    rw [e] at h
    rw [hW]; exact h
  have HR1 := Lib.hid hr1
  have HR2 := Lib.hid hr2
  have HR3 := Lib.hid hr3
  have HM1 : Hid (∀ w', Below W.heap.size W w' → Calls Tryz.prog 94 #[a1, c2] w' fun e w3 => ∃ r, e = .returned r ∧ NatV w3 r (X1 * Y2) ∧ Below w'.heap.size w' w3) := Lib.hid (fun w' h => (spMul a1 c2 X1 Y2 w' ((ha1.below hab).below h) ((hc2.below hab).below h) (by omega) (by omega)).mono (by rintro e w3 ⟨r, h1, h2, h3⟩; exact ⟨r, h1, h2, h3⟩))
  have HM2 : Hid (∀ w', Below W.heap.size W w' → Calls Tryz.prog 94 #[c1, a2] w' fun e w3 => ∃ r, e = .returned r ∧ NatV w3 r (Y1 * X2) ∧ Below w'.heap.size w' w3) := Lib.hid (fun w' h => (spMul c1 a2 Y1 X2 w' ((hc1.below hab).below h) ((ha2.below hab).below h) (by omega) (by omega)).mono (by rintro e w3 ⟨r, h1, h2, h3⟩; exact ⟨r, h1, h2, h3⟩))
  have HM3 : Hid (∀ w', Below W.heap.size W w' → Calls Tryz.prog 94 #[a2, c2] w' fun e w3 => ∃ r, e = .returned r ∧ NatV w3 r (X2 * Y2) ∧ Below w'.heap.size w' w3) := Lib.hid (fun w' h => (spMul a2 c2 X2 Y2 w' ((ha2.below hab).below h) ((hc2.below hab).below h) (by omega) (by omega)).mono (by rintro e w3 ⟨r, h1, h2, h3⟩; exact ⟨r, h1, h2, h3⟩))
  have HD0 : Hid (0 < X2 * Y2) := Lib.hid (Nat.mul_pos p1 p2)
  have HL3 : Hid (nl (X2 * Y2) ≤ 100000000 ∧ nl (X1 * Y2) ≤ 2000000 ∧ nl (Y1 * X2) ≤ 2000000) := Lib.hid ⟨Nat.le_trans (nl_mul_le _ _) (by omega), Nat.le_trans (nl_mul_le _ _) (by omega), Nat.le_trans (nl_mul_le _ _) (by omega)⟩
  have hcc := Below.refl W.heap.size W
  have HAB := Lib.hid hab
  clear hr1 hr2 hr3 ha1 ha2 hc1 hc2 hab
  go_enter Tryz.func41, Tryz.ntmps41
  go_upto_region 1 with fail
  rw [← hW]
  clear hW
  first
    | (go_region_held3 (fun w' => Below W.heap.size W w' ∧ w'.cell? ⟨w.heap.size, 0, none⟩ = some (.bool m) ∧ w'.cell? ⟨w.heap.size, 1, none⟩ = some a1 ∧ w'.cell? ⟨w.heap.size, 2, none⟩ = some a2 ∧ w'.cell? ⟨w.heap.size + 1, 0, none⟩ = some (.bool n) ∧ w'.cell? ⟨w.heap.size + 1, 1, none⟩ = some c1 ∧ w'.cell? ⟨w.heap.size + 1, 2, none⟩ = some c2)
        ((refine ks6F HR1.out HR2.out ?_; first | assumption | exact Below.drew hcc))
        (first
          | (go_at_call 94; with_reducible refine (HM3.out _ hb4).mono ?_; rintro _ w5 ⟨k3, rfl, hN3, hb5⟩; have N1 := Lib.hid (hN1.below hb5); have N2 := Lib.hid (hN2.below hb5); have N3 := Lib.hid hN3; have hS7 := hN3.isS; have hb5 := bthen hb4 hb5; clear hN1 hN2 hN3)
          | (go_at_call 94; with_reducible refine (HM2.out _ hb3).mono ?_; rintro _ w4 ⟨k2, rfl, hN2, hb4⟩; have hS6 := hN2.isS; have hN1 := hN1.below hb4; have hb4 := bthen hb3 hb4)
          | (go_at_call 94; with_reducible refine (HM1.out _ (And.left (by assumption))).mono ?_; rintro _ w3 ⟨k1, rfl, hN1, hb3⟩; have hS5 := hN1.isS; have hb3 := bthenL hb3 (by assumption))))
    | fail
  have HRa := Lib.hid (keep_row hb5 HR1.out)
  have HRb := Lib.hid (keep_row hb5 HR2.out)
  have HRc := Lib.hid (keep_row hb5 HR3.out)
  have hwB : Below w.heap.size w w5 := HAB.out.trans (hb5.mono HAB.out.size)
  obtain ⟨z0, -⟩ := row3 HRa.out
  obtain ⟨z1, -⟩ := row3 HRb.out
  obtain ⟨A, hA⟩ : ∃ A, A = X1 * Y2 := ⟨_, rfl⟩
  obtain ⟨C, hC⟩ : ∃ C, C = Y1 * X2 := ⟨_, rfl⟩
  obtain ⟨D, hD⟩ : ∃ D, D = X2 * Y2 := ⟨_, rfl⟩
  have HX1 := Lib.hid hA
  have HX2 := Lib.hid hC
  have HX3 := Lib.hid hD
  rw [← hA] at N1 HL3
  rw [← hC] at N2 HL3
  rw [← hD] at N3 HL3 HD0
  clear hA hC hD HM1 HM2 HM3 HR1 HR2 HR3
  have hqq := Below.refl w5.heap.size w5
  have HO : Hid (∀ (ng : Bool) (num : Nat) (w' : World) (k : Value), nl num ≤ 100000000 → NatV w' k num → Below w5.heap.size w5 w' → Calls Tryz.prog 26 #[.bool ng, k, k3] w' fun e w7 => ∃ z q r, e = .returned (.agg #[.bool z, q, r]) ∧ Hid (z = (ng && decide (0 < num))) ∧ NatV w7 q (num / Nat.gcd num D) ∧ NatV w7 r (D / Nat.gcd num D) ∧ Below w5.heap.size w5 w7) := Lib.hid (fun ng num w' k h1 h2 h3 => by
    refine (over_any ng k k3 num D w' h2 (N3.out.below h3) h1 HL3.out.1 HD0.out).mono ?_
    rintro e w7 ⟨q, r, g1, g2, g3, g4⟩
    exact ⟨_, q, r, g1, Lib.hid rfl, g2, g3, bthen h3 g4⟩)
  have HADD : Hid (∀ w', Below w5.heap.size w5 w' → Calls Tryz.prog 61 #[k1, k2] w' fun e w6 => ∃ r, e = .returned r ∧ NatV w6 r (A + C) ∧ Below w5.heap.size w5 w6) := Lib.hid (fun w' h => (spAdd k1 k2 A C w' (N1.out.below h) (N2.out.below h) (by have := HL3.out; omega) (by have := HL3.out; omega)).mono (by rintro e w6 ⟨r, g1, g2, g3⟩; exact ⟨r, g1, g2, bthen h g3⟩))
  have HSUB : Hid (C ≤ A → ∀ w', Below w5.heap.size w5 w' → Calls Tryz.prog 63 #[k1, k2] w' fun e w6 => ∃ r, e = .returned r ∧ NatV w6 r (A - C) ∧ Below w5.heap.size w5 w6) := Lib.hid (fun hle w' h => (spSub k1 k2 A C w' (N1.out.below h) (N2.out.below h) (by have := HL3.out; omega) hle).mono (by rintro e w6 ⟨r, g1, g2, g3⟩; exact ⟨r, g1, g2, bthen h g3⟩))
  have HBUS : Hid (A ≤ C → ∀ w', Below w5.heap.size w5 w' → Calls Tryz.prog 63 #[k2, k1] w' fun e w6 => ∃ r, e = .returned r ∧ NatV w6 r (C - A) ∧ Below w5.heap.size w5 w6) := Lib.hid (fun hle w' h => (spSub k2 k1 C A w' (N2.out.below h) (N1.out.below h) (by have := HL3.out; omega) hle).mono (by rintro e w6 ⟨r, g1, g2, g3⟩; exact ⟨r, g1, g2, bthen h g3⟩))
  by_cases hmn : m = n
  · subst hmn
    go_upto_region 3 with fail
    have HPV : Hid (plS m (X1 * Y2) m (Y1 * X2) = m ∧ plN m (X1 * Y2) m (Y1 * X2) = A + C) := Lib.hid (by rw [← HX1.out, ← HX2.out]; exact ⟨if_pos rfl, if_pos rfl⟩)
    have HNL : Hid (nl (A + C) ≤ 100000000) := Lib.hid (by have := HL3.out; exact Nat.le_trans (nl_add_le _ _) (by omega))
    first
      | (go_region_held3 (fun w' => w'.cell? ⟨w.heap.size, 0, none⟩ = some (.bool m) ∧ w'.cell? ⟨w.heap.size + 1, 0, none⟩ = some (.bool m))
          ((first | (refine ks2 HRa.out HRb.out ?_; first | assumption | exact Below.drew hqq) | exact ks2_set (ks2_set (ks2_set (ks2 HRa.out HRb.out (by assumption))))))
          (first
            | (go_at_call 61; with_reducible refine (HADD.out _ (by first | assumption | exact hqq | exact Below.drew hqq)).mono ?_; rintro _ w6 ⟨k4, rfl, hk4, hb6⟩; have hS8 := hk4.isS)
            | (go_at_call 26; with_reducible refine (HO.out m _ _ _ HNL.out hk4 hb6).mono ?_; rintro _ w7 ⟨zz, q, r, rfl, HZZ, hq, hr, hb7⟩; have hSq := hq.isS; have hSr := hr.isS; have hvr := keep_row hb7 HRc.out; obtain ⟨hv0, hv1, hv2, hf0, hf1, hf2⟩ := row3 hvr)))
      | fail
    all_goals
      go_wp2
      obtain ⟨hx0, hx1, hx2, -, -, -⟩ := row3 (row3_set (x := .bool zz) (y := q) (z := r) hvr)
      have hn1 := natv_row3 (x := .bool zz) (y := q) (z := r) IsS.nil IsS.nil hq hvr
      have hn2 := natv_row3 (x := .bool zz) (y := q) (z := r) IsS.nil IsS.nil hr hvr
      have hbY := bset (i := 2) (u := r) (bset (i := 1) (u := q) (bset (i := 0) (u := .bool zz) (hwB.trans (hb7.mono hwB.size)) (show w.heap.size ≤ w.heap.size + 1 + 1 by omega)) (show w.heap.size ≤ w.heap.size + 1 + 1 by omega)) (show w.heap.size ≤ w.heap.size + 1 + 1 by omega)
      refine bodyPost_ret (v := .agg #[.bool zz, q, r]) ?_ rfl ⟨_, rfl, ⟨q, r, by rw [HPV.out.1, HPV.out.2, HZZ.out], by rw [HPV.out.2, ← HX3.out]; exact hn1, by rw [HPV.out.2, ← HX3.out]; exact hn2⟩, hbY⟩
      simp [results, Tryz.results41, go_sem, hx0, hx1, hx2]
  · have tmn : (m == n) = false := by simpa using hmn
    go_upto_region 4 with fail
    go_wp2_with fail
    refine (spCmp k1 k2 A C w5 N1.out N2.out (by have := HL3.out; omega) (by have := HL3.out; omega)).mono ?_
    rintro _ w8 ⟨rfl, hb8⟩
    have hz2 := ks2 HRa.out HRb.out hb8
    obtain ⟨z2, z3⟩ := hz2
    clear z0 z1 hqq
    have hqq := hb8
    by_cases hle : C ≤ A
    · have tge : decide (0 ≤ cmpN A C) = true := decide_eq_true ((cmpN_ge A C).2 hle)
      go_upto_region 5 with fail
      have HPV : Hid (plS m (X1 * Y2) n (Y1 * X2) = m ∧ plN m (X1 * Y2) n (Y1 * X2) = A - C) := Lib.hid (by rw [← HX1.out, ← HX2.out]; exact ⟨by unfold plS; rw [if_neg hmn, if_pos hle], by unfold plN; rw [if_neg hmn, if_pos hle]⟩)
      have HNL : Hid (nl (A - C) ≤ 100000000) := Lib.hid (by have := HL3.out; exact Nat.le_trans (nl_mono (Nat.sub_le _ _)) (by omega))
      first
        | (go_region_held3 (fun w' => w'.cell? ⟨w.heap.size, 0, none⟩ = some (.bool m) ∧ w'.cell? ⟨w.heap.size + 1, 0, none⟩ = some (.bool n))
            ((first | (refine ks2 HRa.out HRb.out ?_; first | assumption | exact Below.drew hqq) | exact ks2_set (ks2_set (ks2_set (ks2 HRa.out HRb.out (by assumption))))))
            (first
              | (go_at_call 63; with_reducible refine (HSUB.out hle _ (by first | assumption | exact hqq | exact Below.drew hqq)).mono ?_; rintro _ w6 ⟨k4, rfl, hk4, hb6⟩; have hS8 := hk4.isS)
              | (go_at_call 26; with_reducible refine (HO.out m _ _ _ HNL.out hk4 hb6).mono ?_; rintro _ w7 ⟨zz, q, r, rfl, HZZ, hq, hr, hb7⟩; have hSq := hq.isS; have hSr := hr.isS; have hvr := keep_row hb7 HRc.out; obtain ⟨hv0, hv1, hv2, hf0, hf1, hf2⟩ := row3 hvr)))
        | fail
      all_goals
        go_wp2
        obtain ⟨hx0, hx1, hx2, -, -, -⟩ := row3 (row3_set (x := .bool zz) (y := q) (z := r) hvr)
        have hn1 := natv_row3 (x := .bool zz) (y := q) (z := r) IsS.nil IsS.nil hq hvr
        have hn2 := natv_row3 (x := .bool zz) (y := q) (z := r) IsS.nil IsS.nil hr hvr
        have hbY := bset (i := 2) (u := r) (bset (i := 1) (u := q) (bset (i := 0) (u := .bool zz) (hwB.trans (hb7.mono hwB.size)) (show w.heap.size ≤ w.heap.size + 1 + 1 by omega)) (show w.heap.size ≤ w.heap.size + 1 + 1 by omega)) (show w.heap.size ≤ w.heap.size + 1 + 1 by omega)
        refine bodyPost_ret (v := .agg #[.bool zz, q, r]) ?_ rfl ⟨_, rfl, ⟨q, r, by rw [HPV.out.1, HPV.out.2, HZZ.out], by rw [HPV.out.2, ← HX3.out]; exact hn1, by rw [HPV.out.2, ← HX3.out]; exact hn2⟩, hbY⟩
        simp [results, Tryz.results41, go_sem, hx0, hx1, hx2]
    · have tge : decide (0 ≤ cmpN A C) = false := decide_eq_false (fun h => hle ((cmpN_ge A C).1 h))
      have hge : A ≤ C := by omega
      go_upto_region 6 with fail
      have HPV : Hid (plS m (X1 * Y2) n (Y1 * X2) = n ∧ plN m (X1 * Y2) n (Y1 * X2) = C - A) := Lib.hid (by rw [← HX1.out, ← HX2.out]; exact ⟨by unfold plS; rw [if_neg hmn, if_neg hle], by unfold plN; rw [if_neg hmn, if_neg hle]⟩)
      have HNL : Hid (nl (C - A) ≤ 100000000) := Lib.hid (by have := HL3.out; exact Nat.le_trans (nl_mono (Nat.sub_le _ _)) (by omega))
      first
        | (go_region_held3 (fun w' => w'.cell? ⟨w.heap.size, 0, none⟩ = some (.bool m) ∧ w'.cell? ⟨w.heap.size + 1, 0, none⟩ = some (.bool n))
            ((first | (refine ks2 HRa.out HRb.out ?_; first | assumption | exact Below.drew hqq) | exact ks2_set (ks2_set (ks2_set (ks2 HRa.out HRb.out (by assumption))))))
            (first
              | (go_at_call 63; with_reducible refine (HBUS.out hge _ (by first | assumption | exact hqq | exact Below.drew hqq)).mono ?_; rintro _ w6 ⟨k4, rfl, hk4, hb6⟩; have hS8 := hk4.isS)
              | (go_at_call 26; with_reducible refine (HO.out n _ _ _ HNL.out hk4 hb6).mono ?_; rintro _ w7 ⟨zz, q, r, rfl, HZZ, hq, hr, hb7⟩; have hSq := hq.isS; have hSr := hr.isS; have hvr := keep_row hb7 HRc.out; obtain ⟨hv0, hv1, hv2, hf0, hf1, hf2⟩ := row3 hvr)))
        | fail
      all_goals
        go_wp2
        obtain ⟨hx0, hx1, hx2, -, -, -⟩ := row3 (row3_set (x := .bool zz) (y := q) (z := r) hvr)
        have hn1 := natv_row3 (x := .bool zz) (y := q) (z := r) IsS.nil IsS.nil hq hvr
        have hn2 := natv_row3 (x := .bool zz) (y := q) (z := r) IsS.nil IsS.nil hr hvr
        have hbY := bset (i := 2) (u := r) (bset (i := 1) (u := q) (bset (i := 0) (u := .bool zz) (hwB.trans (hb7.mono hwB.size)) (show w.heap.size ≤ w.heap.size + 1 + 1 by omega)) (show w.heap.size ≤ w.heap.size + 1 + 1 by omega)) (show w.heap.size ≤ w.heap.size + 1 + 1 by omega)
        refine bodyPost_ret (v := .agg #[.bool zz, q, r]) ?_ rfl ⟨_, rfl, ⟨q, r, by rw [HPV.out.1, HPV.out.2, HZZ.out], by rw [HPV.out.2, ← HX3.out]; exact hn1, by rw [HPV.out.2, ← HX3.out]; exact hn2⟩, hbY⟩
        simp [results, Tryz.results41, go_sem, hx0, hx1, hx2]
end Go.Proofs.YtbghmceglemppaaGreatDoor

/-
Signed sums of numbers told by sign and size. Plain arithmetic, no condition.
-/
namespace Go.Proofs.YtbghmceglemppaaGreatDoor
open Go.RowKit

/-- A number with its sign. -/
def rI (neg : Bool) (n : Nat) : Int := if neg then -(n : Int) else n
theorem rI_and (b : Bool) (x y : Nat) : rI (b && decide (0 < x)) (x * y) = rI b (x * y) := by
  rcases Nat.eq_zero_or_pos x with h | h
  · subst h; rw [Nat.zero_mul]; unfold rI; cases b <;> rfl
  · rw [decide_eq_true h, Bool.and_true]
theorem rI_andN (b : Bool) (x y : Nat) : rI (!(b && decide (0 < x))) (x * y) = rI (!b) (x * y) := by
  rcases Nat.eq_zero_or_pos x with h | h
  · subst h; rw [Nat.zero_mul]; unfold rI; cases b <;> rfl
  · rw [decide_eq_true h, Bool.and_true]
theorem add_V (m n : Bool) (X Y : Nat) : addM m X n Y = (rI m X + rI n Y).natAbs ∧ (decide (0 < addM m X n Y) && addN m X n Y) = decide (rI m X + rI n Y < 0) := by
  have h : addM m X n Y = (rI m X + rI n Y).natAbs := by
    unfold addM rI
    cases m <;> cases n <;> simp <;> first | omega | (split <;> omega)
  refine ⟨h, ?_⟩
  rw [h, Bool.eq_iff_iff]
  simp only [Bool.and_eq_true, decide_eq_true_eq]
  unfold addN rI
  cases m <;> cases n <;> by_cases hle : Y ≤ X <;> simp [hle] <;> omega
theorem rI_abs (b : Bool) (x : Nat) : (rI b x).natAbs = x := by unfold rI; cases b <;> simp
theorem rI_neg (b : Bool) (x : Nat) : decide (rI b x < 0) = (b && decide (0 < x)) := by
  unfold rI
  cases b
  · simp
  · simp
theorem plus_V (m n : Bool) (X Y : Nat) : plN m X n Y = (rI m X + rI n Y).natAbs ∧ (plS m X n Y && decide (0 < plN m X n Y)) = decide (rI m X + rI n Y < 0) := by
  obtain ⟨h1, h2⟩ := add_V m n X Y
  have e1 : plN m X n Y = addM m X n Y := rfl
  have e2 : plS m X n Y = addN m X n Y := by
    unfold plS addN
    cases m <;> cases n <;> rfl
  rw [e1, e2, ← h2, Bool.and_comm]
  exact ⟨h1, rfl⟩
end Go.Proofs.YtbghmceglemppaaGreatDoor

/-
Fractions of the thin package by their value; sizes of sums. Plain but for the words, no condition.
-/
namespace Go.Proofs.YtbghmceglemppaaGreatDoor
open Go.RowKit

/-- A Fraction of the thin package, in lowest terms. -/
def FracV (w : World) (v : Value) (V : Int) (D : Nat) : Prop := ∃ r1 r2, v = .agg #[.bool (decide (V < 0)), r1, r2] ∧ RW w r1 (wds (V.natAbs / Nat.gcd V.natAbs D)) ∧ RW w r2 (wds (D / Nat.gcd V.natAbs D))
theorem gcd_div_pos {N D : Nat} (h : 0 < D) : 0 < D / Nat.gcd N D := Nat.div_pos (Nat.gcd_le_right _ h) (Nat.gcd_pos_of_pos_right _ h)
theorem neg_div (V : Int) {D : Nat} (_h : 0 < D) : (decide (V < 0) && decide (0 < V.natAbs / Nat.gcd V.natAbs D)) = decide (V < 0) := by
  by_cases hv : V < 0
  · have h1 : 0 < V.natAbs := by omega
    rw [decide_eq_true hv, decide_eq_true (Nat.div_pos (Nat.gcd_le_left _ h1) (Nat.gcd_pos_of_pos_left _ h1))]; rfl
  · rw [decide_eq_false hv, Bool.false_and]
theorem nw_absadd {x y : Int} {a b : Nat} (h1 : nw x.natAbs ≤ a) (h2 : nw y.natAbs ≤ b) : nw (x + y).natAbs ≤ max a b + 1 := by
  refine nw_le ?_
  have g1 := lt_nw x.natAbs
  have g2 := lt_nw y.natAbs
  have m1 : 18446744073709551616 ^ nw x.natAbs ≤ 18446744073709551616 ^ max a b := Nat.pow_le_pow_right (by decide) (by omega)
  have m2 : 18446744073709551616 ^ nw y.natAbs ≤ 18446744073709551616 ^ max a b := Nat.pow_le_pow_right (by decide) (by omega)
  rw [Nat.pow_succ]
  omega
theorem nw_sumAdd (b1 b2 : Bool) (X1 X2 Y1 Y2 : Nat) {a b : Nat} (h1 : nw (X1 * Y2) ≤ a) (h2 : nw (Y1 * X2) ≤ b) : nw (rI b1 (X1 * Y2) + rI b2 (Y1 * X2)).natAbs ≤ max a b + 1 := nw_absadd (by rw [rI_abs]; exact h1) (by rw [rI_abs]; exact h2)
theorem nw_sumSub (b1 b2 : Bool) (X1 X2 Y1 Y2 : Nat) {a b : Nat} (h1 : nw (X1 * Y2) ≤ a) (h2 : nw (Y1 * X2) ≤ b) : nw (rI b1 (X1 * Y2) + rI (!b2) (Y1 * X2)).natAbs ≤ max a b + 1 := nw_absadd (by rw [rI_abs]; exact h1) (by rw [rI_abs]; exact h2)
theorem natAbs_nwAdd (b1 b2 : Bool) (X1 X2 Y1 Y2 : Nat) (h1 : nw X1 + nw Y2 ≤ 37) (h2 : nw Y1 + nw X2 ≤ 37) (_h3 : nw X1 + nw Y1 ≤ 37) : nw (rI b1 (X1 * Y2) + rI b2 (Y1 * X2)).natAbs ≤ 100 :=
  Nat.le_trans (nw_sumAdd b1 b2 X1 X2 Y1 Y2 (a := 37) (b := 37) (Nat.le_trans (nw_mul_le _ _) h1) (Nat.le_trans (nw_mul_le _ _) h2)) (by decide)
theorem natAbs_nwSub (b1 b2 : Bool) (X1 X2 Y1 Y2 : Nat) (h1 : nw X1 + nw Y2 ≤ 37) (h2 : nw Y1 + nw X2 ≤ 37) (_h3 : nw X1 + nw Y1 ≤ 37) : nw (rI b1 (X1 * Y2) + rI (!b2) (Y1 * X2)).natAbs ≤ 100 :=
  Nat.le_trans (nw_sumSub b1 b2 X1 X2 Y1 Y2 (a := 37) (b := 37) (Nat.le_trans (nw_mul_le _ _) h1) (Nat.le_trans (nw_mul_le _ _) h2)) (by decide)
end Go.Proofs.YtbghmceglemppaaGreatDoor

/-
The statement on a fraction's sign. No condition.
-/
namespace Go.Proofs.YtbghmceglemppaaGreatDoor
open Go.RowKit

theorem ks6B {W X : World} {k g : Nat} {a b c d e f : Value} (c0 : W.cell? ⟨k, 0, none⟩ = some a) (c1 : W.cell? ⟨k, 1, none⟩ = some b) (c2 : W.cell? ⟨k, 2, none⟩ = some c)
    (d0 : W.cell? ⟨g, 0, none⟩ = some d) (d1 : W.cell? ⟨g, 1, none⟩ = some e) (d2 : W.cell? ⟨g, 2, none⟩ = some f) (h : Below W.heap.size W X) :
    Below W.heap.size W X ∧ X.cell? ⟨k, 0, none⟩ = some a ∧ X.cell? ⟨k, 1, none⟩ = some b ∧ X.cell? ⟨k, 2, none⟩ = some c ∧ X.cell? ⟨g, 0, none⟩ = some d ∧ X.cell? ⟨g, 1, none⟩ = some e ∧ X.cell? ⟨g, 2, none⟩ = some f :=
  ⟨h, ks6 c0 c1 c2 d0 d1 d2 h⟩
end Go.Proofs.YtbghmceglemppaaGreatDoor

/-
The package's fractions: Set, Abs, Neg; the thin package's RatAbs, RatNeg. No condition.
-/
namespace Go.Proofs.YtbghmceglemppaaGreatDoor
open Go.RowKit

theorem rowoth {w : World} {g b i : Nat} {o : Obj} (u : Value) (h : w.heap[g]? = some o) (hne : g ≠ b) : (w.setCell ⟨b, i, none⟩ u).heap[g]? = some o := (heap_setCell_other w ⟨b, i, none⟩ g u (by simpa using hne)).trans h
theorem RatP.setNeg {w : World} {B b n d : Nat} {neg : Bool} (h : RatP w B b neg n d) (x : Bool) : RatP (w.setCell ⟨b, 0, none⟩ (.bool x)) B b x n d := by
  obtain ⟨v1, v2, h1, h2, h3, h4⟩ := h
  exact ⟨v1, v2, h1, rowset (i := 0) (.bool x) h2, h3.away h2 (by decide) 0 _, h4.away h2 (by decide) 0 _⟩
theorem rw_row3 {w : World} {k T : Nat} {a : Bool} {b c x y z v : Value} {ds : List Nat} (hv : RW w v ds) (hb : IsS b) (hc : IsS c) (h : w.heap[k]? = some (.cells #[.bool a, b, c] T (0, 0))) :
    RW (((w.setCell ⟨k, 0, none⟩ x).setCell ⟨k, 1, none⟩ y).setCell ⟨k, 2, none⟩ z) v ds := by
  refine ⟨⟨hv.ri.isS, hv.ri.len, fun i hi => ?_⟩, hv.lt⟩
  have hcell := hv.ri.cell i hi
  have hne : sBlk v ≠ k := by
    intro he
    rw [he, cell_of_row w k _ _ _ _ h] at hcell
    obtain ⟨b1, b2, b3, rfl⟩ := hb.form
    obtain ⟨c1, c2, c3, rfl⟩ := hc.form
    rcases Nat.lt_or_ge (sOff v + i) 3 with h3 | h3
    · rcases (by omega : sOff v + i = 0 ∨ sOff v + i = 1 ∨ sOff v + i = 2) with e | e | e <;> rw [e] at hcell <;> simp at hcell
    · rw [Array.getElem?_eq_none (by simpa using h3)] at hcell; cases hcell
  have hh : (((w.setCell ⟨k, 0, none⟩ x).setCell ⟨k, 1, none⟩ y).setCell ⟨k, 2, none⟩ z).heap[sBlk v]? = w.heap[sBlk v]? := by
    rw [heap_setCell_other _ _ _ _ (by simpa using hne), heap_setCell_other _ _ _ _ (by simpa using hne), heap_setCell_other _ _ _ _ (by simpa using hne)]
  exact (World.cell?_of_block hh).trans hcell
theorem neg_bool (b : Bool) (n : Nat) : ((decide (0 < nw n) && !(b && decide (0 < n))) && decide (0 < n)) = (!b && decide (0 < n)) := by
  rcases Nat.eq_zero_or_pos n with h | h
  · subst h; simp
  · rw [decide_eq_true h, decide_eq_true (nw_pos h)]; simp
end Go.Proofs.YtbghmceglemppaaGreatDoor
