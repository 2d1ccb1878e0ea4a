/-
Texts of this proof, joined: RcF SiA FvA InM InN RsB RmA RmC. No condition.
-/
import Derived.Test.YtbghmceglemppaaGreatDoorK02
import Derived.Test.YtbghmceglemppaaGreatDoorK15
import Derived.Test.YtbghmceglemppaaGreatDoorK23
import Derived.Test.YtbghmceglemppaaGreatDoorK31
/-
The sum of two fractions, as the reference tells it, and their order: Plus, Compare. No condition.
-/
namespace Go.Proofs.YtbghmceglemppaaGreatDoor
open Go.RowKit

theorem ks2 {W X : World} {k g T U : Nat} {a b c d e f : Value} (h1 : W.heap[k]? = some (.cells #[a, b, c] T (0, 0))) (h2 : W.heap[g]? = some (.cells #[d, e, f] U (0, 0))) (h : Below W.heap.size W X) :
    X.cell? ⟨k, 0, none⟩ = some a ∧ X.cell? ⟨g, 0, none⟩ = some d := ⟨(row3 (keep_row h h1)).1, (row3 (keep_row h h2)).1⟩
theorem ks2_set {X : World} {k i : Nat} {a d u : Value} (h : X.cell? ⟨k, 0, none⟩ = some a ∧ X.cell? ⟨k + 1, 0, none⟩ = some d) :
    (X.setCell ⟨k + 1 + 1, i, none⟩ u).cell? ⟨k, 0, none⟩ = some a ∧ (X.setCell ⟨k + 1 + 1, i, none⟩ u).cell? ⟨k + 1, 0, none⟩ = some d :=
  ⟨(cell_other (by simp only; omega)).trans h.1, (cell_other (by simp only; omega)).trans h.2⟩
theorem nl_mul_le (a b : Nat) : nl (a * b) ≤ nl a + nl b := nl_le (by rw [Nat.pow_add]; exact Nat.mul_lt_mul'' (lt_nl a) (lt_nl b))
theorem nl_add_le (a b : Nat) : nl (a + b) ≤ nl a + nl b + 1 := by
  have h1 := lt_nl a
  have h2 := lt_nl b
  refine nl_le ?_
  have e1 : 65536 ^ nl a ≤ 65536 ^ (nl a + nl b) := Nat.pow_le_pow_right (by decide) (by omega)
  have e2 : 65536 ^ nl b ≤ 65536 ^ (nl a + nl b) := Nat.pow_le_pow_right (by decide) (by omega)
  rw [Nat.pow_succ]
  omega
/-- Sign and size of a sum of two told by sign and size. -/
def plS (m : Bool) (X : Nat) (n : Bool) (Y : Nat) : Bool := if m = n then m else if Y ≤ X then m else n
def plN (m : Bool) (X : Nat) (n : Bool) (Y : Nat) : Nat := if m = n then X + Y else if Y ≤ X then X - Y else Y - X
/-- A fraction of the reference that stands for sign, numerator and denominator. -/
def RtV (w : World) (v : Value) (neg : Bool) (X Y : Nat) : Prop := ∃ q r, v = .agg #[.bool (neg && decide (0 < X)), q, r] ∧ NatV w q (X / Nat.gcd X Y) ∧ NatV w r (Y / Nat.gcd X Y)
set_option maxRecDepth 100000 in
set_option maxHeartbeats 3200000 in
theorem plus_any (m n : Bool) (a1 a2 c1 c2 : Value) (X1 X2 Y1 Y2 : Nat) (w : World) (ha1 : NatV w a1 X1) (ha2 : NatV w a2 X2) (hc1 : NatV w c1 Y1) (hc2 : NatV w c2 Y2)
    (l1 : nl X1 ≤ 1000000) (l2 : nl X2 ≤ 1000000) (l3 : nl Y1 ≤ 1000000) (l4 : nl Y2 ≤ 1000000) (p1 : 0 < X2) (p2 : 0 < Y2) :
    Calls Tryz.prog 41 #[.agg #[.bool m, a1, a2], .agg #[.bool n, c1, c2]] w fun e w' => ∃ v, e = .returned v ∧ RtV w' v (plS m (X1 * Y2) n (Y1 * X2)) (plN m (X1 * Y2) n (Y1 * X2)) (X2 * Y2) ∧ Below w.heap.size w w' := by
  have hS1 := ha1.isS
  have hS2 := ha2.isS
  have hS3 := hc1.isS
  have hS4 := hc2.isS
  obtain ⟨W, hW⟩ : ∃ W, W = ((w.alloc (.cells #[.bool m, a1, a2] 49)).alloc (.cells #[.bool n, c1, c2] 49)).alloc (.cells #[.bool false, .slice none 0 0, .slice none 0 0] 49) := ⟨_, rfl⟩
  have hab : Below w.heap.size w W := by rw [hW]; exact (((Below.refl _ w).alloc (Nat.le_refl _) _).alloc (by simp) _).alloc (by simp; omega) _
  have hr1 : W.heap[w.heap.size]? = some (.cells #[.bool m, a1, a2] 49 (0, 0)) := by rw [hW]; exact keep_row (fbone _) (keep_row (fbone _) (box_row (Below.refl _ _)))
  have hr2 : W.heap[w.heap.size + 1]? = some (.cells #[.bool n, c1, c2] 49 (0, 0)) := by
    have h := box_row (cs := #[.bool n, c1, c2]) (T := 49) (Below.refl _ ((w.alloc (.cells #[.bool m, a1, a2] 49)).alloc (.cells #[.bool n, c1, c2] 49)))
    have e : (w.alloc (.cells #[.bool m, a1, a2] 49)).heap.size = w.heap.size + 1 := by simp
    rw [e] at h
    rw [hW]; exact keep_row (fbone _) h
  have hr3 : W.heap[w.heap.size + 1 + 1]? = some (.cells #[.bool false, .slice none 0 0, .slice none 0 0] 49 (0, 0)) := by
    have h := box_row (cs := #[.bool false, .slice none 0 0, .slice none 0 0]) (T := 49) (Below.refl _ (((w.alloc (.cells #[.bool m, a1, a2] 49)).alloc (.cells #[.bool n, c1, c2] 49)).alloc (.cells #[.bool false, .slice none 0 0, .slice none 0 0] 49)))
    have e : ((w.alloc (.cells #[.bool m, a1, a2] 49)).alloc (.cells #[.bool n, c1, c2] 49)).heap.size = w.heap.size + 1 + 1 := by simp
    rw [e] at h
    rw [hW]; exact h
  have HR1 := Lib.hid hr1
  have HR2 := Lib.hid hr2
  have HR3 := Lib.hid hr3
  have HM1 : Hid (∀ w', Below W.heap.size W w' → Calls Tryz.prog 94 #[a1, c2] w' fun e w3 => ∃ r, e = .returned r ∧ NatV w3 r (X1 * Y2) ∧ Below w'.heap.size w' w3) := Lib.hid (fun w' h => (spMul a1 c2 X1 Y2 w' ((ha1.below hab).below h) ((hc2.below hab).below h) (by omega) (by omega)).mono (by rintro e w3 ⟨r, h1, h2, h3⟩; exact ⟨r, h1, h2, h3⟩))
  have HM2 : Hid (∀ w', Below W.heap.size W w' → Calls Tryz.prog 94 #[c1, a2] w' fun e w3 => ∃ r, e = .returned r ∧ NatV w3 r (Y1 * X2) ∧ Below w'.heap.size w' w3) := Lib.hid (fun w' h => (spMul c1 a2 Y1 X2 w' ((hc1.below hab).below h) ((ha2.below hab).below h) (by omega) (by omega)).mono (by rintro e w3 ⟨r, h1, h2, h3⟩; exact ⟨r, h1, h2, h3⟩))
  have HM3 : Hid (∀ w', Below W.heap.size W w' → Calls Tryz.prog 94 #[a2, c2] w' fun e w3 => ∃ r, e = .returned r ∧ NatV w3 r (X2 * Y2) ∧ Below w'.heap.size w' w3) := Lib.hid (fun w' h => (spMul a2 c2 X2 Y2 w' ((ha2.below hab).below h) ((hc2.below hab).below h) (by omega) (by omega)).mono (by rintro e w3 ⟨r, h1, h2, h3⟩; exact ⟨r, h1, h2, h3⟩))
  have HD0 : Hid (0 < X2 * Y2) := Lib.hid (Nat.mul_pos p1 p2)
  have HL3 : Hid (nl (X2 * Y2) ≤ 100000000 ∧ nl (X1 * Y2) ≤ 2000000 ∧ nl (Y1 * X2) ≤ 2000000) := Lib.hid ⟨Nat.le_trans (nl_mul_le _ _) (by omega), Nat.le_trans (nl_mul_le _ _) (by omega), Nat.le_trans (nl_mul_le _ _) (by omega)⟩
  have hcc := Below.refl W.heap.size W
  have HAB := Lib.hid hab
  clear hr1 hr2 hr3 ha1 ha2 hc1 hc2 hab
  go_enter Tryz.func41, Tryz.ntmps41
  go_upto_region 1 with fail
  rw [← hW]
  clear hW
  first
    | (go_region_held3 (fun w' => Below W.heap.size W w' ∧ w'.cell? ⟨w.heap.size, 0, none⟩ = some (.bool m) ∧ w'.cell? ⟨w.heap.size, 1, none⟩ = some a1 ∧ w'.cell? ⟨w.heap.size, 2, none⟩ = some a2 ∧ w'.cell? ⟨w.heap.size + 1, 0, none⟩ = some (.bool n) ∧ w'.cell? ⟨w.heap.size + 1, 1, none⟩ = some c1 ∧ w'.cell? ⟨w.heap.size + 1, 2, none⟩ = some c2)
        ((refine ks6F HR1.out HR2.out ?_; first | assumption | exact Below.drew hcc))
        (first
          | (go_at_call 94; with_reducible refine (HM3.out _ hb4).mono ?_; rintro _ w5 ⟨k3, rfl, hN3, hb5⟩; have N1 := Lib.hid (hN1.below hb5); have N2 := Lib.hid (hN2.below hb5); have N3 := Lib.hid hN3; have hS7 := hN3.isS; have hb5 := bthen hb4 hb5; clear hN1 hN2 hN3)
          | (go_at_call 94; with_reducible refine (HM2.out _ hb3).mono ?_; rintro _ w4 ⟨k2, rfl, hN2, hb4⟩; have hS6 := hN2.isS; have hN1 := hN1.below hb4; have hb4 := bthen hb3 hb4)
          | (go_at_call 94; with_reducible refine (HM1.out _ (And.left (by assumption))).mono ?_; rintro _ w3 ⟨k1, rfl, hN1, hb3⟩; have hS5 := hN1.isS; have hb3 := bthenL hb3 (by assumption))))
    | fail
  have HRa := Lib.hid (keep_row hb5 HR1.out)
  have HRb := Lib.hid (keep_row hb5 HR2.out)
  have HRc := Lib.hid (keep_row hb5 HR3.out)
  have hwB : Below w.heap.size w w5 := HAB.out.trans (hb5.mono HAB.out.size)
  obtain ⟨z0, -⟩ := row3 HRa.out
  obtain ⟨z1, -⟩ := row3 HRb.out
  obtain ⟨A, hA⟩ : ∃ A, A = X1 * Y2 := ⟨_, rfl⟩
  obtain ⟨C, hC⟩ : ∃ C, C = Y1 * X2 := ⟨_, rfl⟩
  obtain ⟨D, hD⟩ : ∃ D, D = X2 * Y2 := ⟨_, rfl⟩
  have HX1 := Lib.hid hA
  have HX2 := Lib.hid hC
  have HX3 := Lib.hid hD
  rw [← hA] at N1 HL3
  rw [← hC] at N2 HL3
  rw [← hD] at N3 HL3 HD0
  clear hA hC hD HM1 HM2 HM3 HR1 HR2 HR3
  have hqq := Below.refl w5.heap.size w5
  have HO : Hid (∀ (ng : Bool) (num : Nat) (w' : World) (k : Value), nl num ≤ 100000000 → NatV w' k num → Below w5.heap.size w5 w' → Calls Tryz.prog 26 #[.bool ng, k, k3] w' fun e w7 => ∃ z q r, e = .returned (.agg #[.bool z, q, r]) ∧ Hid (z = (ng && decide (0 < num))) ∧ NatV w7 q (num / Nat.gcd num D) ∧ NatV w7 r (D / Nat.gcd num D) ∧ Below w5.heap.size w5 w7) := Lib.hid (fun ng num w' k h1 h2 h3 => by
    refine (over_any ng k k3 num D w' h2 (N3.out.below h3) h1 HL3.out.1 HD0.out).mono ?_
    rintro e w7 ⟨q, r, g1, g2, g3, g4⟩
    exact ⟨_, q, r, g1, Lib.hid rfl, g2, g3, bthen h3 g4⟩)
  have HADD : Hid (∀ w', Below w5.heap.size w5 w' → Calls Tryz.prog 61 #[k1, k2] w' fun e w6 => ∃ r, e = .returned r ∧ NatV w6 r (A + C) ∧ Below w5.heap.size w5 w6) := Lib.hid (fun w' h => (spAdd k1 k2 A C w' (N1.out.below h) (N2.out.below h) (by have := HL3.out; omega) (by have := HL3.out; omega)).mono (by rintro e w6 ⟨r, g1, g2, g3⟩; exact ⟨r, g1, g2, bthen h g3⟩))
  have HSUB : Hid (C ≤ A → ∀ w', Below w5.heap.size w5 w' → Calls Tryz.prog 63 #[k1, k2] w' fun e w6 => ∃ r, e = .returned r ∧ NatV w6 r (A - C) ∧ Below w5.heap.size w5 w6) := Lib.hid (fun hle w' h => (spSub k1 k2 A C w' (N1.out.below h) (N2.out.below h) (by have := HL3.out; omega) hle).mono (by rintro e w6 ⟨r, g1, g2, g3⟩; exact ⟨r, g1, g2, bthen h g3⟩))
  have HBUS : Hid (A ≤ C → ∀ w', Below w5.heap.size w5 w' → Calls Tryz.prog 63 #[k2, k1] w' fun e w6 => ∃ r, e = .returned r ∧ NatV w6 r (C - A) ∧ Below w5.heap.size w5 w6) := Lib.hid (fun hle w' h => (spSub k2 k1 C A w' (N2.out.below h) (N1.out.below h) (by have := HL3.out; omega) hle).mono (by rintro e w6 ⟨r, g1, g2, g3⟩; exact ⟨r, g1, g2, bthen h g3⟩))
  by_cases hmn : m = n
  · subst hmn
    go_upto_region 3 with fail
    have HPV : Hid (plS m (X1 * Y2) m (Y1 * X2) = m ∧ plN m (X1 * Y2) m (Y1 * X2) = A + C) := Lib.hid (by rw [← HX1.out, ← HX2.out]; exact ⟨if_pos rfl, if_pos rfl⟩)
    have HNL : Hid (nl (A + C) ≤ 100000000) := Lib.hid (by have := HL3.out; exact Nat.le_trans (nl_add_le _ _) (by omega))
    first
      | (go_region_held3 (fun w' => w'.cell? ⟨w.heap.size, 0, none⟩ = some (.bool m) ∧ w'.cell? ⟨w.heap.size + 1, 0, none⟩ = some (.bool m))
          ((first | (refine ks2 HRa.out HRb.out ?_; first | assumption | exact Below.drew hqq) | exact ks2_set (ks2_set (ks2_set (ks2 HRa.out HRb.out (by assumption))))))
          (first
            | (go_at_call 61; with_reducible refine (HADD.out _ (by first | assumption | exact hqq | exact Below.drew hqq)).mono ?_; rintro _ w6 ⟨k4, rfl, hk4, hb6⟩; have hS8 := hk4.isS)
            | (go_at_call 26; with_reducible refine (HO.out m _ _ _ HNL.out hk4 hb6).mono ?_; rintro _ w7 ⟨zz, q, r, rfl, HZZ, hq, hr, hb7⟩; have hSq := hq.isS; have hSr := hr.isS; have hvr := keep_row hb7 HRc.out; obtain ⟨hv0, hv1, hv2, hf0, hf1, hf2⟩ := row3 hvr)))
      | fail
    all_goals
      go_wp2
      obtain ⟨hx0, hx1, hx2, -, -, -⟩ := row3 (row3_set (x := .bool zz) (y := q) (z := r) hvr)
      have hn1 := natv_row3 (x := .bool zz) (y := q) (z := r) IsS.nil IsS.nil hq hvr
      have hn2 := natv_row3 (x := .bool zz) (y := q) (z := r) IsS.nil IsS.nil hr hvr
      have hbY := bset (i := 2) (u := r) (bset (i := 1) (u := q) (bset (i := 0) (u := .bool zz) (hwB.trans (hb7.mono hwB.size)) (show w.heap.size ≤ w.heap.size + 1 + 1 by omega)) (show w.heap.size ≤ w.heap.size + 1 + 1 by omega)) (show w.heap.size ≤ w.heap.size + 1 + 1 by omega)
      refine bodyPost_ret (v := .agg #[.bool zz, q, r]) ?_ rfl ⟨_, rfl, ⟨q, r, by rw [HPV.out.1, HPV.out.2, HZZ.out], by rw [HPV.out.2, ← HX3.out]; exact hn1, by rw [HPV.out.2, ← HX3.out]; exact hn2⟩, hbY⟩
      simp [results, Tryz.results41, go_sem, hx0, hx1, hx2]
  · have tmn : (m == n) = false := by simpa using hmn
    go_upto_region 4 with fail
    go_wp2_with fail
    refine (spCmp k1 k2 A C w5 N1.out N2.out (by have := HL3.out; omega) (by have := HL3.out; omega)).mono ?_
    rintro _ w8 ⟨rfl, hb8⟩
    have hz2 := ks2 HRa.out HRb.out hb8
    obtain ⟨z2, z3⟩ := hz2
    clear z0 z1 hqq
    have hqq := hb8
    by_cases hle : C ≤ A
    · have tge : decide (0 ≤ cmpN A C) = true := decide_eq_true ((cmpN_ge A C).2 hle)
      go_upto_region 5 with fail
      have HPV : Hid (plS m (X1 * Y2) n (Y1 * X2) = m ∧ plN m (X1 * Y2) n (Y1 * X2) = A - C) := Lib.hid (by rw [← HX1.out, ← HX2.out]; exact ⟨by unfold plS; rw [if_neg hmn, if_pos hle], by unfold plN; rw [if_neg hmn, if_pos hle]⟩)
      have HNL : Hid (nl (A - C) ≤ 100000000) := Lib.hid (by have := HL3.out; exact Nat.le_trans (nl_mono (Nat.sub_le _ _)) (by omega))
      first
        | (go_region_held3 (fun w' => w'.cell? ⟨w.heap.size, 0, none⟩ = some (.bool m) ∧ w'.cell? ⟨w.heap.size + 1, 0, none⟩ = some (.bool n))
            ((first | (refine ks2 HRa.out HRb.out ?_; first | assumption | exact Below.drew hqq) | exact ks2_set (ks2_set (ks2_set (ks2 HRa.out HRb.out (by assumption))))))
            (first
              | (go_at_call 63; with_reducible refine (HSUB.out hle _ (by first | assumption | exact hqq | exact Below.drew hqq)).mono ?_; rintro _ w6 ⟨k4, rfl, hk4, hb6⟩; have hS8 := hk4.isS)
              | (go_at_call 26; with_reducible refine (HO.out m _ _ _ HNL.out hk4 hb6).mono ?_; rintro _ w7 ⟨zz, q, r, rfl, HZZ, hq, hr, hb7⟩; have hSq := hq.isS; have hSr := hr.isS; have hvr := keep_row hb7 HRc.out; obtain ⟨hv0, hv1, hv2, hf0, hf1, hf2⟩ := row3 hvr)))
        | fail
      all_goals
        go_wp2
        obtain ⟨hx0, hx1, hx2, -, -, -⟩ := row3 (row3_set (x := .bool zz) (y := q) (z := r) hvr)
        have hn1 := natv_row3 (x := .bool zz) (y := q) (z := r) IsS.nil IsS.nil hq hvr
        have hn2 := natv_row3 (x := .bool zz) (y := q) (z := r) IsS.nil IsS.nil hr hvr
        have hbY := bset (i := 2) (u := r) (bset (i := 1) (u := q) (bset (i := 0) (u := .bool zz) (hwB.trans (hb7.mono hwB.size)) (show w.heap.size ≤ w.heap.size + 1 + 1 by omega)) (show w.heap.size ≤ w.heap.size + 1 + 1 by omega)) (show w.heap.size ≤ w.heap.size + 1 + 1 by omega)
        refine bodyPost_ret (v := .agg #[.bool zz, q, r]) ?_ rfl ⟨_, rfl, ⟨q, r, by rw [HPV.out.1, HPV.out.2, HZZ.out], by rw [HPV.out.2, ← HX3.out]; exact hn1, by rw [HPV.out.2, ← HX3.out]; exact hn2⟩, hbY⟩
        simp [results, Tryz.results41, go_sem, hx0, hx1, hx2]
    · have tge : decide (0 ≤ cmpN A C) = false := decide_eq_false (fun h => hle ((cmpN_ge A C).1 h))
      have hge : A ≤ C := by omega
      go_upto_region 6 with fail
      have HPV : Hid (plS m (X1 * Y2) n (Y1 * X2) = n ∧ plN m (X1 * Y2) n (Y1 * X2) = C - A) := Lib.hid (by rw [← HX1.out, ← HX2.out]; exact ⟨by unfold plS; rw [if_neg hmn, if_neg hle], by unfold plN; rw [if_neg hmn, if_neg hle]⟩)
      have HNL : Hid (nl (C - A) ≤ 100000000) := Lib.hid (by have := HL3.out; exact Nat.le_trans (nl_mono (Nat.sub_le _ _)) (by omega))
      first
        | (go_region_held3 (fun w' => w'.cell? ⟨w.heap.size, 0, none⟩ = some (.bool m) ∧ w'.cell? ⟨w.heap.size + 1, 0, none⟩ = some (.bool n))
            ((first | (refine ks2 HRa.out HRb.out ?_; first | assumption | exact Below.drew hqq) | exact ks2_set (ks2_set (ks2_set (ks2 HRa.out HRb.out (by assumption))))))
            (first
              | (go_at_call 63; with_reducible refine (HBUS.out hge _ (by first | assumption | exact hqq | exact Below.drew hqq)).mono ?_; rintro _ w6 ⟨k4, rfl, hk4, hb6⟩; have hS8 := hk4.isS)
              | (go_at_call 26; with_reducible refine (HO.out n _ _ _ HNL.out hk4 hb6).mono ?_; rintro _ w7 ⟨zz, q, r, rfl, HZZ, hq, hr, hb7⟩; have hSq := hq.isS; have hSr := hr.isS; have hvr := keep_row hb7 HRc.out; obtain ⟨hv0, hv1, hv2, hf0, hf1, hf2⟩ := row3 hvr)))
        | fail
      all_goals
        go_wp2
        obtain ⟨hx0, hx1, hx2, -, -, -⟩ := row3 (row3_set (x := .bool zz) (y := q) (z := r) hvr)
        have hn1 := natv_row3 (x := .bool zz) (y := q) (z := r) IsS.nil IsS.nil hq hvr
        have hn2 := natv_row3 (x := .bool zz) (y := q) (z := r) IsS.nil IsS.nil hr hvr
        have hbY := bset (i := 2) (u := r) (bset (i := 1) (u := q) (bset (i := 0) (u := .bool zz) (hwB.trans (hb7.mono hwB.size)) (show w.heap.size ≤ w.heap.size + 1 + 1 by omega)) (show w.heap.size ≤ w.heap.size + 1 + 1 by omega)) (show w.heap.size ≤ w.heap.size + 1 + 1 by omega)
        refine bodyPost_ret (v := .agg #[.bool zz, q, r]) ?_ rfl ⟨_, rfl, ⟨q, r, by rw [HPV.out.1, HPV.out.2, HZZ.out], by rw [HPV.out.2, ← HX3.out]; exact hn1, by rw [HPV.out.2, ← HX3.out]; exact hn2⟩, hbY⟩
        simp [results, Tryz.results41, go_sem, hx0, hx1, hx2]
end Go.Proofs.YtbghmceglemppaaGreatDoor

/-
Signed sums of numbers told by sign and size. Plain arithmetic, no condition.
-/
namespace Go.Proofs.YtbghmceglemppaaGreatDoor
open Go.RowKit

/-- A number with its sign. -/
def rI (neg : Bool) (n : Nat) : Int := if neg then -(n : Int) else n
theorem rI_and (b : Bool) (x y : Nat) : rI (b && decide (0 < x)) (x * y) = rI b (x * y) := by
  rcases Nat.eq_zero_or_pos x with h | h
  · subst h; rw [Nat.zero_mul]; unfold rI; cases b <;> rfl
  · rw [decide_eq_true h, Bool.and_true]
theorem rI_andN (b : Bool) (x y : Nat) : rI (!(b && decide (0 < x))) (x * y) = rI (!b) (x * y) := by
  rcases Nat.eq_zero_or_pos x with h | h
  · subst h; rw [Nat.zero_mul]; unfold rI; cases b <;> rfl
  · rw [decide_eq_true h, Bool.and_true]
theorem add_V (m n : Bool) (X Y : Nat) : addM m X n Y = (rI m X + rI n Y).natAbs ∧ (decide (0 < addM m X n Y) && addN m X n Y) = decide (rI m X + rI n Y < 0) := by
  have h : addM m X n Y = (rI m X + rI n Y).natAbs := by
    unfold addM rI
    cases m <;> cases n <;> simp <;> first | omega | (split <;> omega)
  refine ⟨h, ?_⟩
  rw [h, Bool.eq_iff_iff]
  simp only [Bool.and_eq_true, decide_eq_true_eq]
  unfold addN rI
  cases m <;> cases n <;> by_cases hle : Y ≤ X <;> simp [hle] <;> omega
theorem rI_abs (b : Bool) (x : Nat) : (rI b x).natAbs = x := by unfold rI; cases b <;> simp
theorem rI_neg (b : Bool) (x : Nat) : decide (rI b x < 0) = (b && decide (0 < x)) := by
  unfold rI
  cases b
  · simp
  · simp
theorem plus_V (m n : Bool) (X Y : Nat) : plN m X n Y = (rI m X + rI n Y).natAbs ∧ (plS m X n Y && decide (0 < plN m X n Y)) = decide (rI m X + rI n Y < 0) := by
  obtain ⟨h1, h2⟩ := add_V m n X Y
  have e1 : plN m X n Y = addM m X n Y := rfl
  have e2 : plS m X n Y = addN m X n Y := by
    unfold plS addN
    cases m <;> cases n <;> rfl
  rw [e1, e2, ← h2, Bool.and_comm]
  exact ⟨h1, rfl⟩
end Go.Proofs.YtbghmceglemppaaGreatDoor

/-
Fractions of the thin package by their value; sizes of sums. Plain but for the words, no condition.
-/
namespace Go.Proofs.YtbghmceglemppaaGreatDoor
open Go.RowKit

/-- A Fraction of the thin package, in lowest terms. -/
def FracV (w : World) (v : Value) (V : Int) (D : Nat) : Prop := ∃ r1 r2, v = .agg #[.bool (decide (V < 0)), r1, r2] ∧ RW w r1 (wds (V.natAbs / Nat.gcd V.natAbs D)) ∧ RW w r2 (wds (D / Nat.gcd V.natAbs D))
theorem gcd_div_pos {N D : Nat} (h : 0 < D) : 0 < D / Nat.gcd N D := Nat.div_pos (Nat.gcd_le_right _ h) (Nat.gcd_pos_of_pos_right _ h)
theorem neg_div (V : Int) {D : Nat} (_h : 0 < D) : (decide (V < 0) && decide (0 < V.natAbs / Nat.gcd V.natAbs D)) = decide (V < 0) := by
  by_cases hv : V < 0
  · have h1 : 0 < V.natAbs := by omega
    rw [decide_eq_true hv, decide_eq_true (Nat.div_pos (Nat.gcd_le_left _ h1) (Nat.gcd_pos_of_pos_left _ h1))]; rfl
  · rw [decide_eq_false hv, Bool.false_and]
theorem nw_absadd {x y : Int} {a b : Nat} (h1 : nw x.natAbs ≤ a) (h2 : nw y.natAbs ≤ b) : nw (x + y).natAbs ≤ max a b + 1 := by
  refine nw_le ?_
  have g1 := lt_nw x.natAbs
  have g2 := lt_nw y.natAbs
  have m1 : 18446744073709551616 ^ nw x.natAbs ≤ 18446744073709551616 ^ max a b := Nat.pow_le_pow_right (by decide) (by omega)
  have m2 : 18446744073709551616 ^ nw y.natAbs ≤ 18446744073709551616 ^ max a b := Nat.pow_le_pow_right (by decide) (by omega)
  rw [Nat.pow_succ]
  omega
theorem nw_sumAdd (b1 b2 : Bool) (X1 X2 Y1 Y2 : Nat) {a b : Nat} (h1 : nw (X1 * Y2) ≤ a) (h2 : nw (Y1 * X2) ≤ b) : nw (rI b1 (X1 * Y2) + rI b2 (Y1 * X2)).natAbs ≤ max a b + 1 := nw_absadd (by rw [rI_abs]; exact h1) (by rw [rI_abs]; exact h2)
theorem nw_sumSub (b1 b2 : Bool) (X1 X2 Y1 Y2 : Nat) {a b : Nat} (h1 : nw (X1 * Y2) ≤ a) (h2 : nw (Y1 * X2) ≤ b) : nw (rI b1 (X1 * Y2) + rI (!b2) (Y1 * X2)).natAbs ≤ max a b + 1 := nw_absadd (by rw [rI_abs]; exact h1) (by rw [rI_abs]; exact h2)
theorem natAbs_nwAdd (b1 b2 : Bool) (X1 X2 Y1 Y2 : Nat) (h1 : nw X1 + nw Y2 ≤ 37) (h2 : nw Y1 + nw X2 ≤ 37) (_h3 : nw X1 + nw Y1 ≤ 37) : nw (rI b1 (X1 * Y2) + rI b2 (Y1 * X2)).natAbs ≤ 100 :=
  Nat.le_trans (nw_sumAdd b1 b2 X1 X2 Y1 Y2 (a := 37) (b := 37) (Nat.le_trans (nw_mul_le _ _) h1) (Nat.le_trans (nw_mul_le _ _) h2)) (by decide)
theorem natAbs_nwSub (b1 b2 : Bool) (X1 X2 Y1 Y2 : Nat) (h1 : nw X1 + nw Y2 ≤ 37) (h2 : nw Y1 + nw X2 ≤ 37) (_h3 : nw X1 + nw Y1 ≤ 37) : nw (rI b1 (X1 * Y2) + rI (!b2) (Y1 * X2)).natAbs ≤ 100 :=
  Nat.le_trans (nw_sumSub b1 b2 X1 X2 Y1 Y2 (a := 37) (b := 37) (Nat.le_trans (nw_mul_le _ _) h1) (Nat.le_trans (nw_mul_le _ _) h2)) (by decide)
end Go.Proofs.YtbghmceglemppaaGreatDoor

/-
The statement on a fraction's sign. No condition.
-/
namespace Go.Proofs.YtbghmceglemppaaGreatDoor
open Go.RowKit

theorem ks6B {W X : World} {k g : Nat} {a b c d e f : Value} (c0 : W.cell? ⟨k, 0, none⟩ = some a) (c1 : W.cell? ⟨k, 1, none⟩ = some b) (c2 : W.cell? ⟨k, 2, none⟩ = some c)
    (d0 : W.cell? ⟨g, 0, none⟩ = some d) (d1 : W.cell? ⟨g, 1, none⟩ = some e) (d2 : W.cell? ⟨g, 2, none⟩ = some f) (h : Below W.heap.size W X) :
    Below W.heap.size W X ∧ X.cell? ⟨k, 0, none⟩ = some a ∧ X.cell? ⟨k, 1, none⟩ = some b ∧ X.cell? ⟨k, 2, none⟩ = some c ∧ X.cell? ⟨g, 0, none⟩ = some d ∧ X.cell? ⟨g, 1, none⟩ = some e ∧ X.cell? ⟨g, 2, none⟩ = some f :=
  ⟨h, ks6 c0 c1 c2 d0 d1 d2 h⟩
end Go.Proofs.YtbghmceglemppaaGreatDoor

/-
The package's fractions: Set, Abs, Neg; the thin package's RatAbs, RatNeg. No condition.
-/
namespace Go.Proofs.YtbghmceglemppaaGreatDoor
open Go.RowKit

theorem rowoth {w : World} {g b i : Nat} {o : Obj} (u : Value) (h : w.heap[g]? = some o) (hne : g ≠ b) : (w.setCell ⟨b, i, none⟩ u).heap[g]? = some o := (heap_setCell_other w ⟨b, i, none⟩ g u (by simpa using hne)).trans h
theorem RatP.setNeg {w : World} {B b n d : Nat} {neg : Bool} (h : RatP w B b neg n d) (x : Bool) : RatP (w.setCell ⟨b, 0, none⟩ (.bool x)) B b x n d := by
  obtain ⟨v1, v2, h1, h2, h3, h4⟩ := h
  exact ⟨v1, v2, h1, rowset (i := 0) (.bool x) h2, h3.away h2 (by decide) 0 _, h4.away h2 (by decide) 0 _⟩
theorem rw_row3 {w : World} {k T : Nat} {a : Bool} {b c x y z v : Value} {ds : List Nat} (hv : RW w v ds) (hb : IsS b) (hc : IsS c) (h : w.heap[k]? = some (.cells #[.bool a, b, c] T (0, 0))) :
    RW (((w.setCell ⟨k, 0, none⟩ x).setCell ⟨k, 1, none⟩ y).setCell ⟨k, 2, none⟩ z) v ds := by
  refine ⟨⟨hv.ri.isS, hv.ri.len, fun i hi => ?_⟩, hv.lt⟩
  have hcell := hv.ri.cell i hi
  have hne : sBlk v ≠ k := by
    intro he
    rw [he, cell_of_row w k _ _ _ _ h] at hcell
    obtain ⟨b1, b2, b3, rfl⟩ := hb.form
    obtain ⟨c1, c2, c3, rfl⟩ := hc.form
    rcases Nat.lt_or_ge (sOff v + i) 3 with h3 | h3
    · rcases (by omega : sOff v + i = 0 ∨ sOff v + i = 1 ∨ sOff v + i = 2) with e | e | e <;> rw [e] at hcell <;> simp at hcell
    · rw [Array.getElem?_eq_none (by simpa using h3)] at hcell; cases hcell
  have hh : (((w.setCell ⟨k, 0, none⟩ x).setCell ⟨k, 1, none⟩ y).setCell ⟨k, 2, none⟩ z).heap[sBlk v]? = w.heap[sBlk v]? := by
    rw [heap_setCell_other _ _ _ _ (by simpa using hne), heap_setCell_other _ _ _ _ (by simpa using hne), heap_setCell_other _ _ _ _ (by simpa using hne)]
  exact (World.cell?_of_block hh).trans hcell
theorem neg_bool (b : Bool) (n : Nat) : ((decide (0 < nw n) && !(b && decide (0 < n))) && decide (0 < n)) = (!b && decide (0 < n)) := by
  rcases Nat.eq_zero_or_pos n with h | h
  · subst h; simp
  · rw [decide_eq_true h, decide_eq_true (nw_pos h)]; simp
end Go.Proofs.YtbghmceglemppaaGreatDoor

/-
impl.RatAdd and impl.RatSub. No condition but the thresholds.
-/
namespace Go.Proofs.YtbghmceglemppaaGreatDoor
open Go.RowKit

set_option maxRecDepth 100000 in
set_option maxHeartbeats 3200000 in
theorem impRatAdd (b1 b2 : Bool) (v1 u1 v2 u2 : Value) (ns1 ds1 ns2 ds2 : List Nat) (w : World) (hv1 : RW w v1 ns1) (hu1 : RW w u1 ds1) (hv2 : RW w v2 ns2) (hu2 : RW w u2 ds2)
    (l1 : ns1.length ≤ 30) (l2 : ds1.length ≤ 30) (l3 : ns2.length ≤ 30) (l4 : ds2.length ≤ 30) (l5 : ns1.length + ds2.length ≤ 37) (l6 : ns2.length + ds1.length ≤ 37) (l7 : ds1.length + ds2.length ≤ 37) (l8 : ns1.length + ns2.length ≤ 37) (p1 : 0 < wv ds1) (p2 : 0 < wv ds2) (hK : KarW w) (hT : DivW w) :
    Calls Tryz.prog 35 #[.agg #[.bool b1, v1, u1], .agg #[.bool b2, v2, u2]] w fun e w' => ∃ v, e = .returned v ∧ FracV w' v (rI b1 (wv ns1 * wv ds2) + rI b2 (wv ns2 * wv ds1)) (wv ds1 * wv ds2) ∧ Below w.heap.size w w' := by
  have hS1 := hv1.isS
  have hS2 := hv2.isS
  have hS3 := hu1.isS
  have hS4 := hu2.isS
  obtain ⟨V, hV⟩ : ∃ V : Int, V = rI b1 (wv ns1 * wv ds2) + rI b2 (wv ns2 * wv ds1) := ⟨_, rfl⟩
  obtain ⟨D, hD⟩ : ∃ D : Nat, D = wv ds1 * wv ds2 := ⟨_, rfl⟩
  have hD0 : 0 < D := by rw [hD]; exact Nat.mul_pos p1 p2
  obtain ⟨X, hX⟩ : ∃ X, X = ((w.alloc (.cells #[.bool b1, v1, u1] 43)).alloc (.cells #[.bool b2, v2, u2] 43)).alloc (.cells #[.bool false, .slice none 0 0, .slice none 0 0] 43) := ⟨_, rfl⟩
  have hac : Below w.heap.size w X := by rw [hX]; exact (((Below.refl _ w).alloc (Nat.le_refl _) _).alloc (by simp) _).alloc (by simp; omega) _
  have hr1 : X.heap[w.heap.size]? = some (.cells #[.bool b1, v1, u1] 43 (0, 0)) := by
    rw [hX]; exact keep_row (fbone _) (keep_row (fbone _) (box_row (Below.refl _ _)))
  have hr2 : X.heap[w.heap.size + 1]? = some (.cells #[.bool b2, v2, u2] 43 (0, 0)) := by
    have e : (w.alloc (.cells #[.bool b1, v1, u1] 43)).heap.size = w.heap.size + 1 := by simp
    rw [hX, ← e]; exact keep_row (fbone _) (heap_alloc_new _ _)
  have hr3 : X.heap[w.heap.size + 1 + 1]? = some (.cells #[.bool false, .slice none 0 0, .slice none 0 0] 43 (0, 0)) := by
    have e : ((w.alloc (.cells #[.bool b1, v1, u1] 43)).alloc (.cells #[.bool b2, v2, u2] 43)).heap.size = w.heap.size + 1 + 1 := by simp
    rw [hX, ← e]; exact heap_alloc_new _ _
  have hKX := hK.below hac
  have hTX := hT.below hac
  have dg : 4 < X.heap.size := World.block_lt_of_cell? X _ hTX
  have kg : 3 < X.heap.size := World.block_lt_of_cell? X _ hKX
  have k1 := nw_le (wv_lt hv1.lt)
  have k2 := nw_le (wv_lt hu1.lt)
  have k3 := nw_le (wv_lt hv2.lt)
  have k4 := nw_le (wv_lt hu2.lt)
  have V1 := Lib.hid (hv1.below hac)
  have V2 := Lib.hid (hv2.below hac)
  have U1 := Lib.hid (hu1.below hac)
  have U2 := Lib.hid (hu2.below hac)
  have HR1 := Lib.hid hr1
  have HR2 := Lib.hid hr2
  have HR3 := Lib.hid hr3
  have hwX := Lib.hid hac
  have hcc := Below.refl X.heap.size X
  have hXs := hac.size
  have HF1 : Hid (∀ w', Below X.heap.size X w' → Calls Tryz.prog 82 #[.agg #[.bool b1, v1, u1]] w' fun e w3 => ∃ g, e = .returned (.pointer (some ⟨g, 0, none⟩)) ∧ RatP w3 0 g (b1 && decide (0 < wv ns1)) (wv ns1) (wv ds1) ∧ Below w'.heap.size w' w3) := Lib.hid (fun w' h => by
    refine (rat_any b1 v1 u1 ns1 ds1 w' (V1.out.below h) (U1.out.below h) (by omega) (by omega)).mono ?_
    rintro e w3 ⟨g, h1, h2, h3⟩
    exact ⟨g, h1, h2.mono (Nat.zero_le _), h3⟩)
  have HF2 : Hid (∀ w', Below X.heap.size X w' → Calls Tryz.prog 82 #[.agg #[.bool b2, v2, u2]] w' fun e w3 => ∃ g, e = .returned (.pointer (some ⟨g, 0, none⟩)) ∧ RatP w3 0 g (b2 && decide (0 < wv ns2)) (wv ns2) (wv ds2) ∧ Below w'.heap.size w' w3) := Lib.hid (fun w' h => by
    refine (rat_any b2 v2 u2 ns2 ds2 w' (V2.out.below h) (U2.out.below h) (by omega) (by omega)).mono ?_
    rintro e w3 ⟨g, h1, h2, h3⟩
    exact ⟨g, h1, h2.mono (Nat.zero_le _), h3⟩)
  have HC : Hid (∀ g g1 g2 w', w'.heap[g]? = some (.cells #[.bool false, .slice none 0 0, .bool false, .slice none 0 0] 113 (0, 0)) → X.heap.size ≤ g → RatP w' 0 g1 (b1 && decide (0 < wv ns1)) (wv ns1) (wv ds1) → RatP w' 0 g2 (b2 && decide (0 < wv ns2)) (wv ns2) (wv ds2) → Below X.heap.size X w' →
      Calls Tryz.prog 87 #[.pointer (some ⟨g, 0, none⟩), .pointer (some ⟨g1, 0, none⟩), .pointer (some ⟨g2, 0, none⟩)] w' fun e w4 => e = .returned (.pointer (some ⟨g, 0, none⟩)) ∧ RatP w4 X.heap.size g (decide (V < 0)) (V.natAbs / Nat.gcd V.natAbs D) (D / Nat.gcd V.natAbs D) ∧ Below X.heap.size X w4) := Lib.hid (fun g g1 g2 w' hg hg0 h1 h2 h3 => by
    obtain ⟨vx, ux, -, rx, ox1, ox2⟩ := h1
    obtain ⟨vy, uy, -, ry, oy1, oy2⟩ := h2
    have e1 : rI (b1 && decide (0 < wv ns1)) (wv ns1 * wv ds2) = rI b1 (wv ns1 * wv ds2) := rI_and _ _ _
    have e2 : rI (b2 && decide (0 < wv ns2)) (wv ns2 * wv ds1) = rI b2 (wv ns2 * wv ds1) := rI_and _ _ _
    obtain ⟨a1, a2⟩ := add_V (b1 && decide (0 < wv ns1)) (b2 && decide (0 < wv ns2)) (wv ns1 * wv ds2) (wv ns2 * wv ds1)
    rw [e1, e2, ← hV] at a1 a2
    have k5 : nw V.natAbs < 40 := by
      have := natAbs_nwAdd b1 b2 (wv ns1) (wv ds1) (wv ns2) (wv ds2) (by omega) (by omega) (by omega)
      rw [hV]
      refine Nat.lt_of_le_of_lt (nw_sumAdd b1 b2 _ _ _ _ (a := ns1.length + ds2.length) (b := ns2.length + ds1.length) (Nat.le_trans (nw_mul_le _ _) (by omega)) (Nat.le_trans (nw_mul_le _ _) (by omega))) (by omega)
    refine (ratAdd_any g g1 g2 X.heap.size false _ _ (.slice none 0 0) (.slice none 0 0) vx ux vy uy [] [] (wv ns1) (wv ds1) (wv ns2) (wv ds2) w' hg (Own.nil _ _ _) (Own.nil _ _ _) (fun h => absurd h nil_cap) rx (ox1.ro (fun d hd => wds_lt hd)) (ox2.ro (fun d hd => wds_lt hd)) ry (oy1.ro (fun d hd => wds_lt hd)) (oy2.ro (fun d hd => wds_lt hd)) (fun h => absurd h nil_cap) (fun h => absurd h nil_cap) (fun h => absurd h nil_cap)
      (mulDenom_nil ux uy _ _ _ p1 p2 (by omega) (by omega)) p1 p2 (by omega) (by omega) (by omega) (by omega) (by rw [a1]; exact k5) (Nat.lt_of_le_of_lt (nw_mul_le _ _) (by omega)) hg0 (hKX.below h3) (hTX.below h3) dg kg).mono ?_
    rintro e w4 ⟨h4, h5, h6⟩
    rw [a2, a1, ← hD] at h5
    refine ⟨h4, ?_, h3.trans h6⟩
    have e3 : (decide (V < 0) && decide (0 < V.natAbs)) = decide (V < 0) := by
      by_cases hv : V < 0
      · rw [decide_eq_true hv, decide_eq_true (show 0 < V.natAbs by omega)]; rfl
      · rw [decide_eq_false hv, Bool.false_and]
    rw [e3] at h5
    exact h5)
  have HFR : Hid (∀ g w', RatP w' X.heap.size g (decide (V < 0)) (V.natAbs / Nat.gcd V.natAbs D) (D / Nat.gcd V.natAbs D) → Below X.heap.size X w' → Calls Tryz.prog 72 #[.pointer (some ⟨g, 0, none⟩)] w' fun e w4 => ∃ r1 r2, e = .returned (.agg #[.bool (decide (V < 0)), r1, r2]) ∧ IsS r1 ∧ IsS r2 ∧ RW w4 r1 (wds (V.natAbs / Nat.gcd V.natAbs D)) ∧ RW w4 r2 (wds (D / Nat.gcd V.natAbs D)) ∧ Below X.heap.size X w4) := Lib.hid (fun g w' h1 h2 => by
    have n1 : nw V.natAbs ≤ 100 := by rw [hV]; exact natAbs_nwAdd b1 b2 _ _ _ _ (by omega) (by omega) (by omega)
    have n2 : nw D ≤ 100 := by rw [hD]; exact Nat.le_trans (nw_mul_le _ _) (by omega)
    refine (frac_any g X.heap.size (decide (V < 0)) _ _ w' h1 (gcd_div_pos hD0) (Nat.le_trans (nw_mono (Nat.div_le_self _ _)) (by omega)) (Nat.le_trans (nw_mono (Nat.div_le_self _ _)) (by omega))).mono ?_
    rintro e w4 ⟨r1, r2, h4, h5, h6, h7⟩
    refine ⟨r1, r2, ?_, h5.isS, h6.isS, h5, h6, bthen h2 h7⟩
    rw [h4, neg_div V hD0])
  rw [← hV, ← hD]
  clear hv1 hv2 hu1 hu2 hac hr1 hr2 hr3 hK hT hKX hTX dg kg k1 k2 k3 k4 l1 l2 l3 l4 l5 l6 l7 l8 p1 p2 hV hD
  obtain ⟨N1, hN1⟩ : ∃ N1, N1 = V.natAbs / Nat.gcd V.natAbs D := ⟨_, rfl⟩
  obtain ⟨N2, hN2⟩ : ∃ N2, N2 = D / Nat.gcd V.natAbs D := ⟨_, rfl⟩
  rw [← hN1, ← hN2] at HC HFR
  have HN := Lib.hid (And.intro hN1 hN2)
  obtain ⟨sg, hsg⟩ : ∃ sg, sg = decide (V < 0) := ⟨_, rfl⟩
  rw [← hsg] at HC HFR
  have HG := Lib.hid hsg
  clear hN1 hN2 hsg
  go_enter Tryz.func35, Tryz.ntmps35
  go_upto_region 1 with fail
  rw [← hX]
  clear hX
  first
    | (go_region_held3 (fun w' => Below w.heap.size w w' ∧ w'.cell? ⟨w.heap.size, 0, none⟩ = some (.bool b1) ∧ w'.cell? ⟨w.heap.size, 1, none⟩ = some v1 ∧ w'.cell? ⟨w.heap.size, 2, none⟩ = some u1 ∧ w'.cell? ⟨w.heap.size + 1, 0, none⟩ = some (.bool b2) ∧ w'.cell? ⟨w.heap.size + 1, 1, none⟩ = some v2 ∧ w'.cell? ⟨w.heap.size + 1, 2, none⟩ = some u2)
        ((first | (refine ksP2 HR1.out HR2.out hwX.out hXs ?_; (repeat (with_reducible first | assumption | refine Below.drew ?_ | refine ballc ?_ _)); done) | (refine ksP2S (by omega) (by omega) (by omega) (ksP2S (by omega) (by omega) (by omega) (ksP2S (by omega) (by omega) (by omega) (ksP2 HR1.out HR2.out hwX.out hXs ?_))); with_reducible assumption)))
        (first
          | (go_at_call 72; (with_reducible refine (HFR.out _ _ hrat hb5).mono ?_); rintro _ w6 ⟨r1, r2, rfl, hT1, hT2, hw1, hw2, hb6⟩; have W1 := Lib.hid hw1; have W2 := Lib.hid hw2; have HRw := Lib.hid (keep_row hb6 HR3.out); obtain ⟨z0, z1, z2, z3, z4, z5⟩ := row3 HRw.out; clear hw1 hw2)
          | (go_at_call 87; first
              | (with_reducible refine (HC.out _ _ _ _ hrU2 (Nat.le_refl _) G1.out G2.out hb4).mono ?_)
              | (with_reducible refine (HC.out _ _ _ _ hrV2 hz3 G1.out G2.out hb4).mono ?_)
              | (with_reducible refine (HC.out _ _ _ _ (heap_alloc_new w4 _) hz4 (G1.out.below (fbone _)) (G2.out.below (fbone _)) (ballc hb4 _)).mono ?_)
             rintro _ w5 ⟨rfl, hrat, hb5⟩)
          | (go_at_call 82; (with_reducible refine (HF2.out _ (by repeat (with_reducible first | assumption | refine Below.drew ?_ | refine ballc ?_ _))).mono ?_); rintro _ w4 ⟨g2, rfl, hG2, hb34⟩; have G1 := Lib.hid (show RatP w4 0 g1 (b1 && decide (0 < wv ns1)) (wv ns1) (wv ds1) from by first | exact hF1.below hb34 | exact (hF1.below (fbone _)).below hb34); have G2 := Lib.hid hG2; clear hF1 hG2; have hb4 : Below X.heap.size X w4 := bthen (by repeat (with_reducible first | assumption | refine Below.drew ?_ | refine ballc ?_ _)) hb34; have hz4 := hb4.size;
              (first | (have hrU2 := keep_row hb34 hrU) | (have hrV2 := box_row hb34) | skip))
          | (go_at_call 82; (with_reducible refine (HF1.out _ (by repeat (with_reducible first | assumption | refine Below.drew ?_ | refine ballc ?_ _))).mono ?_); rintro _ w3 ⟨g1, rfl, hF1, hb3'⟩; have hb3 : Below X.heap.size X w3 := bthen (by repeat (with_reducible first | assumption | refine Below.drew ?_ | refine ballc ?_ _)) hb3'; have hz3 := hb3.size;
              (first | (have hrU := box_rowD hb3') | skip))))
    | fail
  all_goals
    go_wp2
    obtain ⟨hx0, hx1, hx2, -, -, -⟩ := row3 (row3_set (x := .bool sg) (y := r1) (z := r2) HRw.out)
    refine bodyPost_ret (v := .agg #[.bool sg, r1, r2]) ?_ rfl ⟨_, rfl, ⟨r1, r2, by rw [HG.out], ?_, ?_⟩, bset (bset (bset (hwX.out.trans (hb6.mono hXs)) (by omega)) (by omega)) (by omega)⟩
    · simp [results, Tryz.results35, go_sem, hx0, hx1, hx2]
    · rw [← HN.out.1]; exact rw_row3 (x := .bool sg) (y := r1) (z := r2) W1.out IsS.nil IsS.nil HRw.out
    · rw [← HN.out.2]; exact rw_row3 (x := .bool sg) (y := r1) (z := r2) W2.out IsS.nil IsS.nil HRw.out
set_option maxRecDepth 100000 in
set_option maxHeartbeats 3200000 in
theorem impRatSub (b1 b2 : Bool) (v1 u1 v2 u2 : Value) (ns1 ds1 ns2 ds2 : List Nat) (w : World) (hv1 : RW w v1 ns1) (hu1 : RW w u1 ds1) (hv2 : RW w v2 ns2) (hu2 : RW w u2 ds2)
    (l1 : ns1.length ≤ 30) (l2 : ds1.length ≤ 30) (l3 : ns2.length ≤ 30) (l4 : ds2.length ≤ 30) (l5 : ns1.length + ds2.length ≤ 37) (l6 : ns2.length + ds1.length ≤ 37) (l7 : ds1.length + ds2.length ≤ 37) (l8 : ns1.length + ns2.length ≤ 37) (p1 : 0 < wv ds1) (p2 : 0 < wv ds2) (hK : KarW w) (hT : DivW w) :
    Calls Tryz.prog 38 #[.agg #[.bool b1, v1, u1], .agg #[.bool b2, v2, u2]] w fun e w' => ∃ v, e = .returned v ∧ FracV w' v (rI b1 (wv ns1 * wv ds2) + rI (!b2) (wv ns2 * wv ds1)) (wv ds1 * wv ds2) ∧ Below w.heap.size w w' := by
  have hS1 := hv1.isS
  have hS2 := hv2.isS
  have hS3 := hu1.isS
  have hS4 := hu2.isS
  obtain ⟨V, hV⟩ : ∃ V : Int, V = rI b1 (wv ns1 * wv ds2) + rI (!b2) (wv ns2 * wv ds1) := ⟨_, rfl⟩
  obtain ⟨D, hD⟩ : ∃ D : Nat, D = wv ds1 * wv ds2 := ⟨_, rfl⟩
  have hD0 : 0 < D := by rw [hD]; exact Nat.mul_pos p1 p2
  obtain ⟨X, hX⟩ : ∃ X, X = ((w.alloc (.cells #[.bool b1, v1, u1] 43)).alloc (.cells #[.bool b2, v2, u2] 43)).alloc (.cells #[.bool false, .slice none 0 0, .slice none 0 0] 43) := ⟨_, rfl⟩
  have hac : Below w.heap.size w X := by rw [hX]; exact (((Below.refl _ w).alloc (Nat.le_refl _) _).alloc (by simp) _).alloc (by simp; omega) _
  have hr1 : X.heap[w.heap.size]? = some (.cells #[.bool b1, v1, u1] 43 (0, 0)) := by
    rw [hX]; exact keep_row (fbone _) (keep_row (fbone _) (box_row (Below.refl _ _)))
  have hr2 : X.heap[w.heap.size + 1]? = some (.cells #[.bool b2, v2, u2] 43 (0, 0)) := by
    have e : (w.alloc (.cells #[.bool b1, v1, u1] 43)).heap.size = w.heap.size + 1 := by simp
    rw [hX, ← e]; exact keep_row (fbone _) (heap_alloc_new _ _)
  have hr3 : X.heap[w.heap.size + 1 + 1]? = some (.cells #[.bool false, .slice none 0 0, .slice none 0 0] 43 (0, 0)) := by
    have e : ((w.alloc (.cells #[.bool b1, v1, u1] 43)).alloc (.cells #[.bool b2, v2, u2] 43)).heap.size = w.heap.size + 1 + 1 := by simp
    rw [hX, ← e]; exact heap_alloc_new _ _
  have hKX := hK.below hac
  have hTX := hT.below hac
  have dg : 4 < X.heap.size := World.block_lt_of_cell? X _ hTX
  have kg : 3 < X.heap.size := World.block_lt_of_cell? X _ hKX
  have k1 := nw_le (wv_lt hv1.lt)
  have k2 := nw_le (wv_lt hu1.lt)
  have k3 := nw_le (wv_lt hv2.lt)
  have k4 := nw_le (wv_lt hu2.lt)
  have V1 := Lib.hid (hv1.below hac)
  have V2 := Lib.hid (hv2.below hac)
  have U1 := Lib.hid (hu1.below hac)
  have U2 := Lib.hid (hu2.below hac)
  have HR1 := Lib.hid hr1
  have HR2 := Lib.hid hr2
  have HR3 := Lib.hid hr3
  have hwX := Lib.hid hac
  have hcc := Below.refl X.heap.size X
  have hXs := hac.size
  have HF1 : Hid (∀ w', Below X.heap.size X w' → Calls Tryz.prog 82 #[.agg #[.bool b1, v1, u1]] w' fun e w3 => ∃ g, e = .returned (.pointer (some ⟨g, 0, none⟩)) ∧ RatP w3 0 g (b1 && decide (0 < wv ns1)) (wv ns1) (wv ds1) ∧ Below w'.heap.size w' w3) := Lib.hid (fun w' h => by
    refine (rat_any b1 v1 u1 ns1 ds1 w' (V1.out.below h) (U1.out.below h) (by omega) (by omega)).mono ?_
    rintro e w3 ⟨g, h1, h2, h3⟩
    exact ⟨g, h1, h2.mono (Nat.zero_le _), h3⟩)
  have HF2 : Hid (∀ w', Below X.heap.size X w' → Calls Tryz.prog 82 #[.agg #[.bool b2, v2, u2]] w' fun e w3 => ∃ g, e = .returned (.pointer (some ⟨g, 0, none⟩)) ∧ RatP w3 0 g (b2 && decide (0 < wv ns2)) (wv ns2) (wv ds2) ∧ Below w'.heap.size w' w3) := Lib.hid (fun w' h => by
    refine (rat_any b2 v2 u2 ns2 ds2 w' (V2.out.below h) (U2.out.below h) (by omega) (by omega)).mono ?_
    rintro e w3 ⟨g, h1, h2, h3⟩
    exact ⟨g, h1, h2.mono (Nat.zero_le _), h3⟩)
  have HC : Hid (∀ g g1 g2 w', w'.heap[g]? = some (.cells #[.bool false, .slice none 0 0, .bool false, .slice none 0 0] 113 (0, 0)) → X.heap.size ≤ g → RatP w' 0 g1 (b1 && decide (0 < wv ns1)) (wv ns1) (wv ds1) → RatP w' 0 g2 (b2 && decide (0 < wv ns2)) (wv ns2) (wv ds2) → Below X.heap.size X w' →
      Calls Tryz.prog 90 #[.pointer (some ⟨g, 0, none⟩), .pointer (some ⟨g1, 0, none⟩), .pointer (some ⟨g2, 0, none⟩)] w' fun e w4 => e = .returned (.pointer (some ⟨g, 0, none⟩)) ∧ RatP w4 X.heap.size g (decide (V < 0)) (V.natAbs / Nat.gcd V.natAbs D) (D / Nat.gcd V.natAbs D) ∧ Below X.heap.size X w4) := Lib.hid (fun g g1 g2 w' hg hg0 h1 h2 h3 => by
    obtain ⟨vx, ux, -, rx, ox1, ox2⟩ := h1
    obtain ⟨vy, uy, -, ry, oy1, oy2⟩ := h2
    have e1 : rI (b1 && decide (0 < wv ns1)) (wv ns1 * wv ds2) = rI b1 (wv ns1 * wv ds2) := rI_and _ _ _
    have e2 : rI (!(b2 && decide (0 < wv ns2))) (wv ns2 * wv ds1) = rI (!b2) (wv ns2 * wv ds1) := rI_andN _ _ _
    obtain ⟨a1, a2⟩ := add_V (b1 && decide (0 < wv ns1)) (!(b2 && decide (0 < wv ns2))) (wv ns1 * wv ds2) (wv ns2 * wv ds1)
    rw [e1, e2, ← hV] at a1 a2
    have k5 : nw V.natAbs < 40 := by
      have := natAbs_nwSub b1 b2 (wv ns1) (wv ds1) (wv ns2) (wv ds2) (by omega) (by omega) (by omega)
      rw [hV]
      refine Nat.lt_of_le_of_lt (nw_sumSub b1 b2 _ _ _ _ (a := ns1.length + ds2.length) (b := ns2.length + ds1.length) (Nat.le_trans (nw_mul_le _ _) (by omega)) (Nat.le_trans (nw_mul_le _ _) (by omega))) (by omega)
    refine (ratSub_any g g1 g2 X.heap.size false _ _ (.slice none 0 0) (.slice none 0 0) vx ux vy uy [] [] (wv ns1) (wv ds1) (wv ns2) (wv ds2) w' hg (Own.nil _ _ _) (Own.nil _ _ _) (fun h => absurd h nil_cap) rx (ox1.ro (fun d hd => wds_lt hd)) (ox2.ro (fun d hd => wds_lt hd)) ry (oy1.ro (fun d hd => wds_lt hd)) (oy2.ro (fun d hd => wds_lt hd)) (fun h => absurd h nil_cap) (fun h => absurd h nil_cap) (fun h => absurd h nil_cap)
      (mulDenom_nil ux uy _ _ _ p1 p2 (by omega) (by omega)) p1 p2 (by omega) (by omega) (by omega) (by omega) (by rw [a1]; exact k5) (Nat.lt_of_le_of_lt (nw_mul_le _ _) (by omega)) hg0 (hKX.below h3) (hTX.below h3) dg kg).mono ?_
    rintro e w4 ⟨h4, h5, h6⟩
    rw [a2, a1, ← hD] at h5
    refine ⟨h4, ?_, h3.trans h6⟩
    have e3 : (decide (V < 0) && decide (0 < V.natAbs)) = decide (V < 0) := by
      by_cases hv : V < 0
      · rw [decide_eq_true hv, decide_eq_true (show 0 < V.natAbs by omega)]; rfl
      · rw [decide_eq_false hv, Bool.false_and]
    rw [e3] at h5
    exact h5)
  have HFR : Hid (∀ g w', RatP w' X.heap.size g (decide (V < 0)) (V.natAbs / Nat.gcd V.natAbs D) (D / Nat.gcd V.natAbs D) → Below X.heap.size X w' → Calls Tryz.prog 72 #[.pointer (some ⟨g, 0, none⟩)] w' fun e w4 => ∃ r1 r2, e = .returned (.agg #[.bool (decide (V < 0)), r1, r2]) ∧ IsS r1 ∧ IsS r2 ∧ RW w4 r1 (wds (V.natAbs / Nat.gcd V.natAbs D)) ∧ RW w4 r2 (wds (D / Nat.gcd V.natAbs D)) ∧ Below X.heap.size X w4) := Lib.hid (fun g w' h1 h2 => by
    have n1 : nw V.natAbs ≤ 100 := by rw [hV]; exact natAbs_nwSub b1 b2 _ _ _ _ (by omega) (by omega) (by omega)
    have n2 : nw D ≤ 100 := by rw [hD]; exact Nat.le_trans (nw_mul_le _ _) (by omega)
    refine (frac_any g X.heap.size (decide (V < 0)) _ _ w' h1 (gcd_div_pos hD0) (Nat.le_trans (nw_mono (Nat.div_le_self _ _)) (by omega)) (Nat.le_trans (nw_mono (Nat.div_le_self _ _)) (by omega))).mono ?_
    rintro e w4 ⟨r1, r2, h4, h5, h6, h7⟩
    refine ⟨r1, r2, ?_, h5.isS, h6.isS, h5, h6, bthen h2 h7⟩
    rw [h4, neg_div V hD0])
  rw [← hV, ← hD]
  clear hv1 hv2 hu1 hu2 hac hr1 hr2 hr3 hK hT hKX hTX dg kg k1 k2 k3 k4 l1 l2 l3 l4 l5 l6 l7 l8 p1 p2 hV hD
  obtain ⟨N1, hN1⟩ : ∃ N1, N1 = V.natAbs / Nat.gcd V.natAbs D := ⟨_, rfl⟩
  obtain ⟨N2, hN2⟩ : ∃ N2, N2 = D / Nat.gcd V.natAbs D := ⟨_, rfl⟩
  rw [← hN1, ← hN2] at HC HFR
  have HN := Lib.hid (And.intro hN1 hN2)
  obtain ⟨sg, hsg⟩ : ∃ sg, sg = decide (V < 0) := ⟨_, rfl⟩
  rw [← hsg] at HC HFR
  have HG := Lib.hid hsg
  clear hN1 hN2 hsg
  go_enter Tryz.func38, Tryz.ntmps38
  go_upto_region 1 with fail
  rw [← hX]
  clear hX
  first
    | (go_region_held3 (fun w' => Below w.heap.size w w' ∧ w'.cell? ⟨w.heap.size, 0, none⟩ = some (.bool b1) ∧ w'.cell? ⟨w.heap.size, 1, none⟩ = some v1 ∧ w'.cell? ⟨w.heap.size, 2, none⟩ = some u1 ∧ w'.cell? ⟨w.heap.size + 1, 0, none⟩ = some (.bool b2) ∧ w'.cell? ⟨w.heap.size + 1, 1, none⟩ = some v2 ∧ w'.cell? ⟨w.heap.size + 1, 2, none⟩ = some u2)
        ((first | (refine ksP2 HR1.out HR2.out hwX.out hXs ?_; (repeat (with_reducible first | assumption | refine Below.drew ?_ | refine ballc ?_ _)); done) | (refine ksP2S (by omega) (by omega) (by omega) (ksP2S (by omega) (by omega) (by omega) (ksP2S (by omega) (by omega) (by omega) (ksP2 HR1.out HR2.out hwX.out hXs ?_))); with_reducible assumption)))
        (first
          | (go_at_call 72; (with_reducible refine (HFR.out _ _ hrat hb5).mono ?_); rintro _ w6 ⟨r1, r2, rfl, hT1, hT2, hw1, hw2, hb6⟩; have W1 := Lib.hid hw1; have W2 := Lib.hid hw2; have HRw := Lib.hid (keep_row hb6 HR3.out); obtain ⟨z0, z1, z2, z3, z4, z5⟩ := row3 HRw.out; clear hw1 hw2)
          | (go_at_call 90; first
              | (with_reducible refine (HC.out _ _ _ _ hrU2 (Nat.le_refl _) G1.out G2.out hb4).mono ?_)
              | (with_reducible refine (HC.out _ _ _ _ hrV2 hz3 G1.out G2.out hb4).mono ?_)
              | (with_reducible refine (HC.out _ _ _ _ (heap_alloc_new w4 _) hz4 (G1.out.below (fbone _)) (G2.out.below (fbone _)) (ballc hb4 _)).mono ?_)
             rintro _ w5 ⟨rfl, hrat, hb5⟩)
          | (go_at_call 82; (with_reducible refine (HF2.out _ (by repeat (with_reducible first | assumption | refine Below.drew ?_ | refine ballc ?_ _))).mono ?_); rintro _ w4 ⟨g2, rfl, hG2, hb34⟩; have G1 := Lib.hid (show RatP w4 0 g1 (b1 && decide (0 < wv ns1)) (wv ns1) (wv ds1) from by first | exact hF1.below hb34 | exact (hF1.below (fbone _)).below hb34); have G2 := Lib.hid hG2; clear hF1 hG2; have hb4 : Below X.heap.size X w4 := bthen (by repeat (with_reducible first | assumption | refine Below.drew ?_ | refine ballc ?_ _)) hb34; have hz4 := hb4.size;
              (first | (have hrU2 := keep_row hb34 hrU) | (have hrV2 := box_row hb34) | skip))
          | (go_at_call 82; (with_reducible refine (HF1.out _ (by repeat (with_reducible first | assumption | refine Below.drew ?_ | refine ballc ?_ _))).mono ?_); rintro _ w3 ⟨g1, rfl, hF1, hb3'⟩; have hb3 : Below X.heap.size X w3 := bthen (by repeat (with_reducible first | assumption | refine Below.drew ?_ | refine ballc ?_ _)) hb3'; have hz3 := hb3.size;
              (first | (have hrU := box_rowD hb3') | skip))))
    | fail
  all_goals
    go_wp2
    obtain ⟨hx0, hx1, hx2, -, -, -⟩ := row3 (row3_set (x := .bool sg) (y := r1) (z := r2) HRw.out)
    refine bodyPost_ret (v := .agg #[.bool sg, r1, r2]) ?_ rfl ⟨_, rfl, ⟨r1, r2, by rw [HG.out], ?_, ?_⟩, bset (bset (bset (hwX.out.trans (hb6.mono hXs)) (by omega)) (by omega)) (by omega)⟩
    · simp [results, Tryz.results38, go_sem, hx0, hx1, hx2]
    · rw [← HN.out.1]; exact rw_row3 (x := .bool sg) (y := r1) (z := r2) W1.out IsS.nil IsS.nil HRw.out
    · rw [← HN.out.2]; exact rw_row3 (x := .bool sg) (y := r1) (z := r2) W2.out IsS.nil IsS.nil HRw.out
end Go.Proofs.YtbghmceglemppaaGreatDoor

/-
Int.mul of two boxes into a third; Rat.Mul of two fractions in boxes of their own. No condition but the thresholds.
-/
namespace Go.Proofs.YtbghmceglemppaaGreatDoor
open Go.RowKit

/-- What nat.mul does with a receiver and two factors. -/
def MlP (z x y : Value) (X Y B : Nat) : Prop := ∀ (pk : Option Addr) (zs : List Value) (w : World), Own w B 181 z zs → RO w x (wds X) → RO w y (wds Y) → B ≤ w.heap.size → KarW w →
  Calls Tryz.prog 194 #[z, .pointer pk, x, y] w fun e w' => ∃ r, e = .returned r ∧ NatR z r (X * Y) B w w'
theorem mlP_nil (x y : Value) (X Y B : Nat) (hk : nw X < 40 ∨ nw Y < 40) (hl : nw X ≤ 100000000) (hl2 : nw Y ≤ 100000000) : MlP (.slice none 0 0) x y X Y B := by
  intro pk zs w _ hx hy hB hK
  refine (nmul_any (pk := pk) x y X Y w hx hy hk hl hl2 hK).mono ?_
  rintro e w' ⟨r, he, ho, hb⟩
  exact ⟨r, he, ho.mono hB, hb.mono hB, Fr.ofBelow hb, fun hc => .inr (ho.lt hc).1⟩
set_option maxRecDepth 100000 in
set_option maxHeartbeats 3200000 in
theorem intMul_any {pk : Option Addr} (b o c p d t : Nat) (m n : Bool) (vz vx vy z0 : Value) (zs : List Value) (X Y B : Nat) (cb cc cd : Array Value) (Tb Tc Td : TypeId) (w : World)
    (hb : w.heap[b]? = some (.cells cb Tb (0, 0))) (hc : w.heap[c]? = some (.cells cc Tc (0, 0))) (hd : w.heap[d]? = some (.cells cd Td (0, 0))) (hTb : Tb ≠ 181) (hTc : Tc ≠ 181) (hTd : Td ≠ 181)
    (b0 : cb[o]? = some z0) (b1 : cb[o + 1]? = some vz) (c0 : cc[p]? = some (.bool m)) (c1 : cc[p + 1]? = some vx) (d0 : cd[t]? = some (.bool n)) (d1 : cd[t + 1]? = some vy)
    (hcd : c ≠ d) (hp : p ≠ o + 1) (ht : t ≠ o + 1) (ho : Own w B 181 vz zs) (hx : RO w vx (wds X)) (hy : RO w vy (wds Y)) (hm : MlP vz vx vy X Y B) (hB : B ≤ b) (hK : KarW w) :
    Calls Tryz.prog 143 #[.pointer (some ⟨b, o, none⟩), .pointer pk, .pointer (some ⟨c, p, none⟩), .pointer (some ⟨d, t, none⟩)] w fun e w' => e = .returned (.tuple #[]) ∧ IntRo b o cb Tb vz (decide (0 < X * Y) && (m != n)) (X * Y) B w w' := by
  have hSz := ho.isS
  have hSx := hx.rw.isS
  have hSy := hy.rw.isS
  have hbs := get_lt hb
  have hBs : B ≤ w.heap.size := Nat.le_trans hB (Nat.le_of_lt hbs)
  have heq := eqlI w (o := p) (q := t) hcd hc hd
  have x1 : w.cell? ⟨c, p + 1, none⟩ = some vx := (row_at hc c1).1
  have y1 : w.cell? ⟨d, t + 1, none⟩ = some vy := (row_at hd d1).1
  have z1 : w.cell? ⟨b, o + 1, none⟩ = some vz := (row_at hb b1).1
  have hneb : 0 < sCap vz → b ≠ sBlk vz := ho.neRow hb hTb
  obtain ⟨N, hN⟩ : ∃ N, N = X * Y := ⟨_, rfl⟩
  have HM : Hid (∀ k, Calls Tryz.prog 194 #[vz, .pointer pk, vx, vy] (w.drewN k) fun e w1 => ∃ r, e = .returned r ∧ IsS r ∧ sLen r = nw N ∧ (w1.cell? ⟨b, o + 1, none⟩ = some vz ∧ w1.frozen? ⟨b, o + 1, none⟩ = false) ∧
      ((w1.setCell ⟨b, o + 1, none⟩ r).cell? ⟨b, o, none⟩ = some z0 ∧ (w1.setCell ⟨b, o + 1, none⟩ r).frozen? ⟨b, o, none⟩ = false) ∧ (w1.setCell ⟨b, o + 1, none⟩ r).cell? ⟨b, o + 1, none⟩ = some r ∧ (w1.setCell ⟨b, o + 1, none⟩ r).cell? ⟨c, p, none⟩ = some (.bool m) ∧ (w1.setCell ⟨b, o + 1, none⟩ r).cell? ⟨d, t, none⟩ = some (.bool n) ∧
      ∀ (q : Bool) (j : Nat), IntRo b o cb Tb vz q N B w (((w1.setCell ⟨b, o + 1, none⟩ r).drewN j).setCell ⟨b, o, none⟩ (.bool q))) := Lib.hid (fun k => by
    refine (hm pk zs (w.drewN k) (ho.drewN k) (hx.below (undrewN' (Below.refl _ _))) (hy.below (undrewN' (Below.refl _ _))) hBs (hK.drewN k)).mono ?_
    rintro e w1 ⟨r, he, h⟩
    have h' : NatR vz r N B w w1 := by rw [hN]; exact ⟨h.own, undrewN h.below, fun t ht hn => h.fr t ht hn, h.at'⟩
    have rb := h'.fr.row hb hneb
    have rc := h'.fr.row hc (fun hz => ho.neRow hc hTc hz)
    have rd := h'.fr.row hd (fun hz => ho.neRow hd hTd hz)
    have rs := rowset (i := o + 1) r rb
    have lt1 : o + 1 < cb.size := (Array.getElem?_eq_some_iff.1 b1).1
    have oth : ∀ (e i : Nat) (ce : Array Value) (Te : TypeId) (u : Value), w1.heap[e]? = some (.cells ce Te (0, 0)) → ce[i]? = some u → i ≠ o + 1 → (w1.setCell ⟨b, o + 1, none⟩ r).cell? ⟨e, i, none⟩ = some u := fun e i ce Te u he hu hi => by
      by_cases heb : e = b
      · subst heb
        rw [rb] at he
        injection he with he; injection he with he _ _
        rw [cell_of_row _ e i _ _ _ rs, Array.getElem?_setIfInBounds, if_neg (Ne.symm hi), he]
        exact hu
      · exact (cell_other (by simpa using (Ne.symm heb))).trans ((cell_of_row _ e i _ _ _ he).trans hu)
    refine ⟨r, he, h'.own.isS, by rw [h'.own.len, cellsW_length, wds_length], row_at rb b1, ⟨oth b o cb Tb z0 rb b0 (by omega), frozen_of_row _ b o _ _ rs⟩, ?_, oth c p cc Tc _ rc c0 hp, oth d t cd Td _ rd d0 ht, fun q j => ?_⟩
    · rw [cell_of_row _ b (o + 1) _ _ _ rs, Array.getElem?_setIfInBounds, if_pos rfl, if_pos lt1]
    · have hi := IntRo.of (o := o) (neg := q) hb hTb hB hneb h'
      have e : ((w1.setCell ⟨b, o + 1, none⟩ r).drewN j).setCell ⟨b, o, none⟩ (.bool q) = ((w1.setCell ⟨b, o + 1, none⟩ r).setCell ⟨b, o, none⟩ (.bool q)).drewN j := rfl
      rw [e]
      obtain ⟨r0, i1, i2, i3⟩ := hi.row
      exact ⟨⟨r0, i1, i2.drewN j, i3⟩, undrewN' hi.below, hi.fr⟩)
  rw [← hN]
  rcases Nat.eq_zero_or_pos N with h0 | h0
  · have e1 : (decide (0 < N) && (m != n)) = false := by rw [h0]; rfl
    rw [e1]
    have hl0 : nw N = 0 := by rw [h0]; rfl
    rw [hl0] at HM
    clear hb hc hd b0 b1 c0 c1 d0 d1 ho hx hy hm hK hB hbs hBs hneb hN h0 hl0 e1
    go_enter Tryz.func143, Tryz.ntmps143
    go_upto_region 3 with fail
    (refine wp_region_hoist 14 (by kernel_rfl) (by kernel_rfl) ⟨fun _ _ _ h => (by first | exact (hQp _ _ _ h).elim | cases h.2.1 | (obtain ⟨_, h3, _⟩ := h.2; cases h3)), fun _ _ h => (by first | exact (hQo _ _ h).elim | cases h.1 | (obtain ⟨_, h3, _⟩ := h; cases h3))⟩ ?_; simp only [List.take_succ_cons, List.take_zero, List.drop_succ_cons, List.drop_zero]; (repeat (go_big_quiet_step (fail))); refine wpQuiet_nil ?_; rintro _ ⟨nq, rfl⟩)
    go_wp2_with fail
    refine (HM.out _).mono ?_
    rintro _ w1 ⟨r, rfl, hSr, hLr, ⟨a1, f1⟩, ⟨a0, f0⟩, a2, a3, a4, hQ⟩
    have HQ := Lib.hid hQ
    clear hQ
    go_wp2_with fail
    obtain ⟨w2, hw2⟩ : ∃ w2, w2 = w1.setCell ⟨b, o + 1, none⟩ r := ⟨_, rfl⟩
    rw [← hw2] at a0 f0 a2 a3 a4 HQ ⊢
    clear hw2 a1 f1
    (refine wp_region_hoist 20 (by kernel_rfl) (by kernel_rfl) ⟨fun _ _ _ h => (by first | exact (hQp _ _ _ h).elim | cases h.2.1 | (obtain ⟨_, h3, _⟩ := h.2; cases h3)), fun _ _ h => (by first | exact (hQo _ _ h).elim | cases h.1 | (obtain ⟨_, h3, _⟩ := h; cases h3))⟩ ?_; simp only [List.take_succ_cons, List.take_zero, List.drop_succ_cons, List.drop_zero]; (repeat (go_big_quiet_step (fail))); refine wpQuiet_nil ?_; rintro _ ⟨nq, rfl⟩)
    go_wp2
    go_end0
    exact ⟨rfl, HQ.out false _⟩
  · obtain ⟨l, hl⟩ : ∃ l, l = nw N := ⟨_, rfl⟩
    have hlp : 0 < l := by rw [hl]; exact nw_pos h0
    rw [← hl] at HM
    have tl : decide ((l : Int) > 0) = true := decide_eq_true (by omega)
    have tl' : decide (0 < l) = true := decide_eq_true hlp
    have e1 : (decide (0 < N) && (m != n)) = (m != n) := by rw [decide_eq_true h0]; rfl
    rw [e1]
    clear hb hc hd b0 b1 c0 c1 d0 d1 ho hx hy hm hK hB hbs hBs hneb hN h0 hl e1
    go_enter Tryz.func143, Tryz.ntmps143
    go_upto_region 3 with fail
    (refine wp_region_hoist 14 (by kernel_rfl) (by kernel_rfl) ⟨fun _ _ _ h => (by first | exact (hQp _ _ _ h).elim | cases h.2.1 | (obtain ⟨_, h3, _⟩ := h.2; cases h3)), fun _ _ h => (by first | exact (hQo _ _ h).elim | cases h.1 | (obtain ⟨_, h3, _⟩ := h; cases h3))⟩ ?_; simp only [List.take_succ_cons, List.take_zero, List.drop_succ_cons, List.drop_zero]; (repeat (go_big_quiet_step (fail))); refine wpQuiet_nil ?_; rintro _ ⟨nq, rfl⟩)
    go_wp2_with fail
    refine (HM.out _).mono ?_
    rintro _ w1 ⟨r, rfl, hSr, hLr, ⟨a1, f1⟩, ⟨a0, f0⟩, a2, a3, a4, hQ⟩
    have HQ := Lib.hid hQ
    clear hQ
    go_wp2_with fail
    obtain ⟨w2, hw2⟩ : ∃ w2, w2 = w1.setCell ⟨b, o + 1, none⟩ r := ⟨_, rfl⟩
    rw [← hw2] at a0 f0 a2 a3 a4 HQ ⊢
    clear hw2 a1 f1
    (refine wp_region_hoist 20 (by kernel_rfl) (by kernel_rfl) ⟨fun _ _ _ h => (by first | exact (hQp _ _ _ h).elim | cases h.2.1 | (obtain ⟨_, h3, _⟩ := h.2; cases h3)), fun _ _ h => (by first | exact (hQo _ _ h).elim | cases h.1 | (obtain ⟨_, h3, _⟩ := h; cases h3))⟩ ?_; simp only [List.take_succ_cons, List.take_zero, List.drop_succ_cons, List.drop_zero]; (repeat (go_big_quiet_step (fail))); refine wpQuiet_nil ?_; rintro _ ⟨nq, rfl⟩)
    go_wp2
    go_end0
    exact ⟨rfl, HQ.out _ _⟩
end Go.Proofs.YtbghmceglemppaaGreatDoor

/-
Rat.Mul of two fractions in boxes of their own. No condition but the thresholds.
-/
namespace Go.Proofs.YtbghmceglemppaaGreatDoor
open Go.RowKit

theorem eqlR (w : World) {b o c q : Nat} {cb cc : Array Value} {tb tc : TypeId} (hne : b ≠ c) (hb : w.heap[b]? = some (.cells cb tb (0, 0))) (hc : w.heap[c]? = some (.cells cc tc (0, 0))) :
    (binOp .eql 107 (.pointer (some ⟨b, o, none⟩)) (.pointer (some ⟨c, q, none⟩))).run Tryz.prog w = .ok (.bool false) w := by
  obtain ⟨j, hj, hz⟩ := info_size sizeR
  exact run_eql_ptr_other w Tryz.underlying107 hj (by omega) (by simp) hb hc
set_option maxRecDepth 100000 in
set_option maxHeartbeats 3200000 in
theorem ratMul_any (z x y B : Nat) (nz m n : Bool) (vz uz vx ux vy uy : Value) (zs us : List Value) (X1 X2 Y1 Y2 : Nat) (w : World)
    (hz : w.heap[z]? = some (.cells #[.bool nz, vz, .bool false, uz] 113 (0, 0))) (oz : Own w B 181 vz zs) (oz2 : Own w B 181 uz us) (sz : 0 < sCap vz → 0 < sCap uz → sBlk vz ≠ sBlk uz)
    (hx : w.heap[x]? = some (.cells #[.bool m, vx, .bool false, ux] 113 (0, 0))) (ox1 : RO w vx (wds X1)) (ox2 : RO w ux (wds X2))
    (hy : w.heap[y]? = some (.cells #[.bool n, vy, .bool false, uy] 113 (0, 0))) (oy1 : RO w vy (wds Y1)) (oy2 : RO w uy (wds Y2)) (hxy : x ≠ y)
    (dx : 0 < sCap vz → sBlk ux ≠ sBlk vz) (dy : 0 < sCap vz → sBlk uy ≠ sBlk vz) (hml : MlP vz vx vy X1 Y1 B) (hm : MdP uz ux uy X2 Y2 B) (p1 : 0 < X2) (p2 : 0 < Y2)
    (k5 : nw (X1 * Y1) < 40) (k6 : nw (X2 * Y2) < 40) (hB : B ≤ z) (hK : KarW w) (hT : DivW w) (dg : 4 < B) (kg : 3 < B) :
    Calls Tryz.prog 88 #[.pointer (some ⟨z, 0, none⟩), .pointer (some ⟨x, 0, none⟩), .pointer (some ⟨y, 0, none⟩)] w fun e w' => e = .returned (.pointer (some ⟨z, 0, none⟩)) ∧ RatP w' B z ((decide (0 < X1 * Y1) && (m != n)) && decide (0 < X1 * Y1)) (X1 * Y1 / Nat.gcd (X1 * Y1) (X2 * Y2)) (X2 * Y2 / Nat.gcd (X1 * Y1) (X2 * Y2)) ∧ Below B w w' := by
  have hSx := ox2.rw.isS
  have hSy := oy2.rw.isS
  have hSz2 := oz2.isS
  have hxl : x < w.heap.size := get_lt hx
  have hyl : y < w.heap.size := get_lt hy
  have hzl : z < w.heap.size := get_lt hz
  obtain ⟨S, hS⟩ : ∃ S, S = X1 * Y1 := ⟨_, rfl⟩
  obtain ⟨sg, hsg⟩ : ∃ sg, sg = (decide (0 < X1 * Y1) && (m != n)) := ⟨_, rfl⟩
  obtain ⟨s, hs⟩ : ∃ s, s = w.heap.size := ⟨_, rfl⟩
  obtain ⟨W, hW⟩ : ∃ W, W = w.alloc (.cells #[.pointer none] 226) := ⟨_, rfl⟩
  have hWz : W.heap.size = s + 1 := by rw [hW, hs]; simp
  have hbw : Below w.heap.size w W := by rw [hW]; exact fbone _
  have rs : W.heap[s]? = some (.cells #[.pointer none] 226 (0, 0)) := by rw [hW, hs]; exact heap_alloc_new _ _
  have rzW := keep_row hbw hz
  have rxW := keep_row hbw hx
  have ryW := keep_row hbw hy
  have heq := eqlR W (o := 0) (q := 0) hxy rxW ryW
  have HC : Hid (∀ k, Calls Tryz.prog 143 #[.pointer (some ⟨z, 0, none⟩), .pointer (some ⟨s, 0, none⟩), .pointer (some ⟨x, 0, none⟩), .pointer (some ⟨y, 0, none⟩)] (W.drewN k) (fun e w' => e = .returned (.tuple #[]) ∧ ∃ r1, SmW z s x y B S X2 Y2 sg r1 uz ux uy us w w')) := Lib.hid (fun k => by
    have hbk : Below w.heap.size w (W.drewN k) := undrewN' hbw
    have ozw := oz.below hbk
    refine (intMul_any z 0 x 0 y 0 m n vz vx vy _ zs X1 Y1 B _ _ _ _ _ _ (W.drewN k) rzW rxW ryW (by decide) (by decide) (by decide) rfl rfl rfl rfl rfl rfl hxy (by decide) (by decide) ozw (ox1.below hbk) (oy1.below hbk) hml hB (hK.below hbk)).mono ?_
    rintro e w' ⟨he, hi⟩
    obtain ⟨r, i1, i2, i3⟩ := hi.row
    have hwz : (W.drewN k).heap.size = s + 1 := hWz
    have ozs : ∀ j, j < w.heap.size → j ≠ z → (0 < sCap vz → j ≠ sBlk vz) → w'.heap[j]? = w.heap[j]? := fun j hj hne hv => (hi.fr j (by omega) hne hv).trans (hbk.block j hj)
    have i1' : w'.heap[z]? = some (.cells #[.bool sg, r, .bool false, uz] 113 (0, 0)) := by rw [hsg]; exact i1
    have hcell : ∀ (q : Nat) (a : Bool) (b c : Value), w.heap[q]? = some (.cells #[.bool a, b, .bool false, c] 113 (0, 0)) → w'.cell? ⟨q, 3, none⟩ = some c := fun q a b c hq => by
      by_cases hqz : q = z
      · subst hqz
        rw [hz] at hq
        injection hq with hq; injection hq with hq
        have : uz = c := by injection hq with hq; injection hq with _ hq; injection hq with _ hq; injection hq with _ hq; injection hq
        rw [← this]
        exact (row_at (i := 3) i1' rfl).1
      · exact (row_at (i := 3) ((ozs q (get_lt hq) hqz (fun hc => oz.neRow hq (by decide) hc)).trans hq) rfl).1
    have hro : ∀ {v : Value} {N : Nat}, RO w v (wds N) → (0 < sCap vz → sBlk v ≠ sBlk vz) → RO w' v (wds N) := fun {v N} hv hd => hv.same fun hl => by
      obtain ⟨c, hc⟩ := hv.row hl
      refine ozs _ (get_lt hc) (fun he => ?_) hd
      rw [he, hz] at hc
      injection hc with hc; injection hc with _ hc
      exact absurd hc (by decide)
    have hbz : Below B w w' := (hbk.mono (by omega)).trans hi.below
    refine ⟨he, r, i1', ?_, hcell x _ _ _ hx, hcell y _ _ _ hy, by rw [hS]; exact i2, oz2.same fun hc => ozs _ (oz2.lt hc).2 (fun he => oz2.neRow hz (by decide) hc he.symm) (fun a => (sz a hc).symm), fun a b he => ?_, hro ox2 dx, hro oy2 dy, hbz, ?_, hT.belowB hbz dg, hB, by omega, dg, kg⟩
    · exact (hi.fr s (by omega) (by omega) (fun hc => by have := (oz.lt hc).2; omega)).trans rs
    · rcases i3 a with ⟨p, q⟩ | p
      · exact sz p b (q.symm.trans he)
      · have := (oz2.lt b).2; omega
    · unfold KarW; rw [hbz.cell (p := ⟨3, 0, none⟩) kg]; exact hK)
  have HP := Lib.hid (And.intro hm (And.intro p1 (And.intro p2 (And.intro (show nw S < 40 by rw [hS]; exact k5) k6))))
  have hQo : ∀ w', (Ending.outgrown = Ending.returned (.pointer (some ⟨z, 0, none⟩)) ∧ RatP w' B z (sg && decide (0 < S)) (S / Nat.gcd S (X2 * Y2)) (X2 * Y2 / Nat.gcd S (X2 * Y2)) ∧ Below B w w') → False := fun _ h => by cases h.1
  rw [← hsg, ← hS]
  have HW' := Lib.hid hW
  have HSs := Lib.hid hs
  clear hz oz oz2 sz hx ox1 ox2 hy oy1 oy2 dx dy hml hm p1 p2 k5 k6 hB hK hT dg kg rs rzW rxW ryW hbw hWz hxl hyl hzl hS hsg hs hW hxy
  go_enter_defers Tryz.func88, Tryz.ntmps88
  go_wp2_with fail
  refine (getStack_any _).mono ?_
  rintro _ _ ⟨rfl, rfl⟩
  rw [← HW'.out, ← HSs.out]
  go_upto_region 10 with fail
  (refine wp_region_noPanic ?_; refine wp_region_hoist 10 (by kernel_rfl) (by kernel_rfl) ⟨fun _ _ _ h => h, fun _ w'' h => hQo w'' h⟩ ?_; simp only [List.take_succ_cons, List.take_zero, List.drop_succ_cons, List.drop_zero]; (repeat (go_big_quiet_step (fail))); refine wpQuiet_nil ?_; rintro _ ⟨nq, rfl⟩)
  go_wp2_with fail
  refine (HC.out _).mono ?_
  rintro _ w3 ⟨rfl, r1, hsm⟩
  have b1 := (row_at (i := 3) hsm.row rfl).1
  have b2 := hsm.c1
  have b3 := hsm.c2
  have HSM := Lib.hid hsm
  clear hsm
  go_wp2_with fail
  refine NoPanic.normal ?_
  go_upto_region 11 with fail
  (refine wp_region_noPanic ?_; refine wp_region_hoistP [0, 1, 2, 3, 4, 5, 7, 8, 9, 10, 12, 13, 14, 15] [6, 11, 16] [] [17, 18, 19, 20, 21] (by kernel_rfl) (by kernel_rfl) ⟨fun _ _ _ h => h, fun _ w'' h => hQo w'' h⟩ ?_; simp only [pickOps, List.flatMap_cons, List.flatMap_nil, Option.toList_some, List.cons_append, List.nil_append, List.getElem?_toArray, List.getElem?_cons_zero, List.getElem?_cons_succ]; (repeat (go_big_quiet_step (fail))); refine wpQuiet_nil ?_; (repeat (go_big_quiet_step (fail))); refine wpQuiet_nil ?_; rintro _ ⟨nq, rfl⟩; (repeat (go_big_quiet_step (fail))); refine wpQuiet_nil ?_)
  go_wp2_with fail
  refine ((HSM.out.drewN _).den HP.out.1 HP.out.2.1 HP.out.2.2.1 HP.out.2.2.2.1 HP.out.2.2.2.2).mono ?_
  rintro _ w4 ⟨r, rfl, hSr, hrow, hnm⟩
  have HNM := Lib.hid hnm
  obtain ⟨e1, e2⟩ := row_at (i := 3) hrow rfl
  clear hnm hrow
  go_wp2_with fail
  refine NoPanic.normal ?_
  go_wp2_with fail
  refine HNM.out.mono ?_
  rintro _ w5 ⟨rfl, hst, hrt, hbl⟩
  have HQ := Lib.hid (And.intro hrt hbl)
  clear hrt hbl
  go_wp2
  refine leaves_cons (f := 135) (args := #[.pointer (some ⟨s, 0, none⟩)]) (by simp) (by simp [go_sem]) ?_
  refine (free_d s _ _ hst).mono ?_
  rintro e u' w'' ⟨rfl, rfl, rfl⟩
  simp [Leaves, settle, results, Tryz.results88, go_sem]
  exact HQ.out
end Go.Proofs.YtbghmceglemppaaGreatDoor
