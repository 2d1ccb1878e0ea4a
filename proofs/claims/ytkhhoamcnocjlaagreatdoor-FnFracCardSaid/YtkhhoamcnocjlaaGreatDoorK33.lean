/-
Texts of this proof, joined: FrD. No condition.
-/
import Derived.Test.YtkhhoamcnocjlaaGreatDoorK03
import Derived.Test.YtkhhoamcnocjlaaGreatDoorK06
import Derived.Test.YtkhhoamcnocjlaaGreatDoorK18
import Derived.Test.YtkhhoamcnocjlaaGreatDoorK32
/-
The statement on a quotient of two integers. No condition but the thresholds.
-/
namespace Go.Proofs.YtkhhoamcnocjlaaGreatDoor
open Go.RowKit

theorem ks7F {W X : World} {k g p T U : Nat} {a b d e a' b' c' : Value} (h1 : W.heap[k]? = some (.cells #[a, b] T (0, 0))) (h2 : W.heap[g]? = some (.cells #[d, e] T (0, 0))) (h3 : W.heap[p]? = some (.cells #[a', b', c'] U (0, 0))) (h : Below W.heap.size W X) :
    Below W.heap.size W X ∧ X.cell? ⟨k, 0, none⟩ = some a ∧ X.cell? ⟨k, 1, none⟩ = some b ∧ X.cell? ⟨g, 0, none⟩ = some d ∧ X.cell? ⟨g, 1, none⟩ = some e ∧ X.cell? ⟨p, 0, none⟩ = some a' ∧ X.cell? ⟨p, 1, none⟩ = some b' ∧ X.cell? ⟨p, 2, none⟩ = some c' := by
  obtain ⟨x0, x1, x2, -, -, -⟩ := row3 (keep_row h h3)
  exact ⟨h, (ks4F h1 h2 h).2.1, (ks4F h1 h2 h).2.2.1, (ks4F h1 h2 h).2.2.2.1, (ks4F h1 h2 h).2.2.2.2, x0, x1, x2⟩
set_option maxRecDepth 100000 in
set_option maxHeartbeats 3200000 in
theorem lawFrac (b1 : Bool) (v1 : Value) (ns1 : List Nat) (b2 : Bool) (v2 : Value) (ns2 : List Nat) (w : World) (_hK : KarW w) (hT : DivW w) (hv1 : RW w v1 ns1) (hv2 : RW w v2 ns2) :
    Calls Tryz.prog 5 #[.agg #[.bool b1, v1], .agg #[.bool b2, v2]] w fun e w' => e = .returned (.bool true) ∧ Below w.heap.size w w' := by
  have hS1 := hv1.isS
  have hS2 := hv2.isS
  obtain ⟨W, hW⟩ : ∃ W, W = (w.alloc (.cells #[.bool b1, v1] 47)).alloc (.cells #[.bool b2, v2] 47) := ⟨_, rfl⟩
  have hbW : Below w.heap.size w W := by rw [hW]; exact ((Below.refl _ w).alloc (Nat.le_refl _) _).alloc (by simp) _
  have r0 : W.heap[w.heap.size]? = some (.cells #[.bool b1, v1] 47 (0, 0)) := by rw [hW]; exact keep_row (fbone _) (row_new _ _ _ _ rfl)
  have r1 : W.heap[w.heap.size + 1]? = some (.cells #[.bool b2, v2] 47 (0, 0)) := by rw [hW]; exact row_new _ _ _ _ (by simp)
  obtain ⟨-, x0, x1, y0, y1⟩ := ks4F r0 r1 (Below.refl _ _)
  have V1 := Lib.hid (hv1.below hbW)
  have V2 := Lib.hid (hv2.below hbW)
  have DW := Lib.hid (hT.below hbW)
  have R0 := Lib.hid r0
  have R1 := Lib.hid r1
  have hWs := hbW.size
  obtain ⟨f1, hf1⟩ : ∃ f, f = decide (ns1.length ≤ 2147483647) := ⟨_, rfl⟩
  obtain ⟨f2, hf2⟩ : ∃ f, f = decide (ns2.length ≤ 2147483647) := ⟨_, rfl⟩
  obtain ⟨g1, hg1⟩ : ∃ f, f = decide (20 < ns1.length) := ⟨_, rfl⟩
  obtain ⟨g2, hg2⟩ : ∃ f, f = decide (20 < ns2.length) := ⟨_, rfl⟩
  have HF1 := Lib.hid hf1
  have HF2 := Lib.hid hf2
  have HG1 := Lib.hid hg1
  have HG2 := Lib.hid hg2
  clear hv1 hv2 r0 r1 hT hf1 hf2 hg1 hg2
  go_enter Tryz.func5, Tryz.ntmps5
  go_upto_region 1 with fail
  rw [← hW]
  clear hW
  go_wp2_with fail
  refine (zzFits2_any b1 v1 ns1 W V1.out).mono ?_
  rintro _ w1 ⟨rfl, hb1⟩
  rw [← HF1.out]
  obtain ⟨-, p0, p1, q0, q1⟩ := ks4F R0.out R1.out hb1
  have bb1 := hbW.trans (hb1.mono hWs)
  cases f1 with
  | false =>
    go_wp2
    go_ret
    exact ⟨rfl, bb1⟩
  | true =>
  go_wp2_with fail
  refine (zzFits2_any b2 v2 ns2 w1 (V2.out.below hb1)).mono ?_
  rintro _ w2 ⟨rfl, hb2⟩
  rw [← HF2.out]
  have hb12 := bthen hb1 hb2
  obtain ⟨-, m0, m1, n0, n1⟩ := ks4F R0.out R1.out hb12
  have bb2 := hbW.trans (hb12.mono hWs)
  cases f2 with
  | false =>
    go_wp2
    go_ret
    exact ⟨rfl, bb2⟩
  | true =>
  clear x0 x1 y0 y1 p0 p1 q0 q1 hb1 hb2 bb1
  go_wp2_with fail
  refine (long_any v1 ns1 20 w2 (V1.out.below hb12)).mono ?_
  rintro _ _ ⟨rfl, rfl⟩
  rw [← HG1.out]
  cases g1 with
  | true =>
    go_wp2
    go_ret
    exact ⟨rfl, bb2⟩
  | false =>
  go_wp2_with fail
  refine (long_any v2 ns2 20 w2 (V2.out.below hb12)).mono ?_
  rintro _ _ ⟨rfl, rfl⟩
  rw [← HG2.out]
  cases g2 with
  | true =>
    go_wp2
    go_ret
    exact ⟨rfl, bb2⟩
  | false =>
  have L1 : ns1.length ≤ 20 := by have := of_decide_eq_false HG1.out.symm; omega
  have L3 : ns2.length ≤ 20 := by have := of_decide_eq_false HG2.out.symm; omega
  have t1 := nl_wv V1.out.lt
  have t3 := nl_wv V2.out.lt
  have z1 := nw_le (wv_lt V1.out.lt)
  have z3 := nw_le (wv_lt V2.out.lt)
  have HL := Lib.hid (And.intro L1 (And.intro L3 (And.intro t1 (And.intro t3 (And.intro z1 z3)))))
  have HB12 := Lib.hid hb12
  have BB2 := Lib.hid bb2
  have hbs2 := bb2.size
  clear L1 L3 t1 t3 z1 z3 hb12 bb2
  by_cases h0 : wv ns2 = 0
  · have HZ := Lib.hid (impFrac_zero b1 b2 v1 v2 ns1 ns2 w2 (V1.out.below HB12.out) (V2.out.below HB12.out) (by have := HL.out; omega) (by have := HL.out; omega) h0)
    have HO2 : Hid (∀ w', Below w2.heap.size w2 w' → Calls Tryz.prog 21 #[v2] w' fun e w5 => ∃ r, e = .returned r ∧ IsS r ∧ sLen r = 0 ∧ Below w2.heap.size w2 w5) := Lib.hid (fun w' h => by
      refine (spOf v2 ns2 w' ((V2.out.below HB12.out).below h) (by have := HL.out; omega)).mono ?_
      rintro e w5 ⟨r, h1, h2, h3⟩
      rw [h0] at h2
      exact ⟨r, h1, h2.isS, h2.len, bthen h h3⟩)
    have HO1 : Hid (∀ w', Below w2.heap.size w2 w' → Calls Tryz.prog 21 #[v1] w' fun e w5 => ∃ r, e = .returned r ∧ IsS r ∧ Below w2.heap.size w2 w5) := Lib.hid (fun w' h => by
      refine (spOf v1 ns1 w' ((V1.out.below HB12.out).below h) (by have := HL.out; omega)).mono ?_
      rintro e w5 ⟨r, h1, h2, h3⟩
      exact ⟨r, h1, h2.isS, bthen h h3⟩)
    go_wp2_with fail
    refine HZ.out.mono ?_
    rintro _ w5 ⟨rfl, hb5⟩
    have S0 := Lib.hid (keep_row HB12.out R0.out)
    have S1 := Lib.hid (keep_row HB12.out R1.out)
    go_upto_region 6 with fail
    have ha4 := (Below.refl w5.heap.size w5).alloc (Nat.le_refl _) (.cells #[.bool false, .slice none 0 0, .slice none 0 0] 51)
    have hcc := bthen hb5 ha4
    obtain ⟨X, hX⟩ : ∃ X, X = w5.alloc (.cells #[.bool false, .slice none 0 0, .slice none 0 0] 51) := ⟨_, rfl⟩
    rw [← hX] at hcc ⊢
    clear hX ha4 hb5 m0 m1 n0 n1
    obtain ⟨-, i0, i1, j0, j1⟩ := ks4F S0.out S1.out hcc
    first
      | (go_region_held3 (fun w' => Below w2.heap.size w2 w' ∧ w'.cell? ⟨w.heap.size, 0, none⟩ = some (.bool b1) ∧ w'.cell? ⟨w.heap.size, 1, none⟩ = some v1 ∧ w'.cell? ⟨w.heap.size + 1, 0, none⟩ = some (.bool b2) ∧ w'.cell? ⟨w.heap.size + 1, 1, none⟩ = some v2)
          ((refine ks4F S0.out S1.out ?_; first | assumption | exact Below.drew hcc))
          (first
            | (go_at_call 21; with_reducible refine (HO2.out _ hb6).mono ?_; rintro _ w7 ⟨rb, rfl, hSb, hLb, hb7⟩)
            | (go_at_call 21; with_reducible refine (HO1.out _ (And.left (by assumption))).mono ?_; rintro _ w6 ⟨ra, rfl, hSa, hb6⟩)))
      | fail
    all_goals
      go_wp2
      go_ret
      exact ⟨rfl, BB2.out.trans (hb7.mono hbs2)⟩
  · have p3 : 0 < wv ns2 := by omega
    obtain ⟨V, hV⟩ : ∃ V : Int, V = rI (b1 != b2) (wv ns1) := ⟨_, rfl⟩
    obtain ⟨D, hD⟩ : ∃ D : Nat, D = wv ns2 := ⟨_, rfl⟩
    have hD0 : 0 < D := by rw [hD]; exact p3
    have NV : nw V.natAbs ≤ 100 := by rw [hV, rI_abs]; have := HL.out; omega
    have ND : nw D ≤ 100 := by rw [hD]; have := HL.out; omega
    have HQ := Lib.hid (impFrac_ok b1 b2 v1 v2 ns1 ns2 w2 (V1.out.below HB12.out) (V2.out.below HB12.out) (by have := HL.out; omega) (by have := HL.out; omega) p3 (DW.out.below HB12.out))
    rw [← hV, ← hD] at HQ
    obtain ⟨ld, hld⟩ : ∃ l, l = nl D := ⟨_, rfl⟩
    have hld0 : 0 < ld := by rw [hld]; exact nl_pos hD0
    have tl : ((ld : Int) == 0) = false := by rw [beq_eq_false_iff_ne]; omega
    have tl' : decide (ld = 0) = false := decide_eq_false (by omega)
    have HO2 : Hid (∀ w', Below w2.heap.size w2 w' → Calls Tryz.prog 21 #[v2] w' fun e w5 => ∃ r, e = .returned r ∧ NatV w5 r D ∧ IsS r ∧ sLen r = ld ∧ Below w2.heap.size w2 w5 ∧ Below w'.heap.size w' w5) := Lib.hid (fun w' h => by
      refine (spOf v2 ns2 w' ((V2.out.below HB12.out).below h) (by have := HL.out; omega)).mono ?_
      rintro e w5 ⟨r, h1, h2, h3⟩
      rw [← hD] at h2
      exact ⟨r, h1, h2, h2.isS, by rw [h2.len, hld], bthen h h3, h3⟩)
    have HO1 : Hid (∀ w', Below w2.heap.size w2 w' → Calls Tryz.prog 21 #[v1] w' fun e w5 => ∃ r, e = .returned r ∧ NatV w5 r V.natAbs ∧ IsS r ∧ Below w'.heap.size w' w5) := Lib.hid (fun w' h => by
      refine (spOf v1 ns1 w' ((V1.out.below HB12.out).below h) (by have := HL.out; omega)).mono ?_
      rintro e w5 ⟨r, h1, h2, h3⟩
      exact ⟨r, h1, by rw [hV, rI_abs]; exact h2, h2.isS, h3⟩)
    have HOV : Hid (∀ w' q1 q2, NatV w' q1 V.natAbs → NatV w' q2 D → Calls Tryz.prog 23 #[.bool (!(b1 == b2)), q1, q2] w' fun e w4 => ∃ u, e = .returned u ∧ RtI w4 u V D ∧ Below w'.heap.size w' w4) := Lib.hid (fun w' q1 q2 h1 h2 => by
      have m1 := nl_nw V.natAbs
      have m2 := nl_nw D
      refine (over_any (b1 != b2) q1 q2 V.natAbs D w' h1 h2 (by omega) (by omega) hD0).mono ?_
      rintro e w4 ⟨q, r, g1, g2, g3, g4⟩
      have s2 : ((b1 != b2) && decide (0 < V.natAbs)) = decide (V < 0) := by rw [hV, rI_neg, rI_abs]
      rw [s2] at g1
      exact ⟨_, g1, ⟨q, r, rfl, g2, g3⟩, g4⟩)
    have HIS : Hid (∀ w' v u, FracV w' v V D → RtI w' u V D → Calls Tryz.prog 22 #[v, u] w' fun e w5 => e = .returned (.bool true) ∧ Below w'.heap.size w' w5) := Lib.hid (fun w' v u hf hr => isFracV_same hf hr hD0 NV ND)
    have S0 := Lib.hid (keep_row HB12.out R0.out)
    have S1 := Lib.hid (keep_row HB12.out R1.out)
    clear hV hD hD0 NV ND p3 h0 hld hld0
    go_wp2_with fail
    refine HQ.out.mono ?_
    rintro _ w5 ⟨_, rfl, ⟨r1, r2, rfl, hr1, hr2⟩, hb5⟩
    obtain ⟨q, hq⟩ : ∃ q, q = decide (V < 0) := ⟨_, rfl⟩
    rw [← hq]
    have hSr1 := hr1.isS
    have hSr2 := hr2.isS
    have ha4 := (Below.refl w5.heap.size w5).alloc (Nat.le_refl _) (.cells #[.bool q, r1, r2] 51)
    have hrY := box_row (Below.refl _ (w5.alloc (.cells #[.bool q, r1, r2] 51)))
    have hcc := bthen hb5 ha4
    have HrY := Lib.hid hrY
    have HF := Lib.hid (show FracV (w5.alloc (.cells #[.bool q, r1, r2] 51)) (.agg #[.bool q, r1, r2]) V D from ⟨r1, r2, by rw [hq], hr1.below ha4, hr2.below ha4⟩)
    clear hr1 hr2 hrY hq
    go_upto_region 6 with fail
    obtain ⟨X, hX⟩ : ∃ X, X = w5.alloc (.cells #[.bool q, r1, r2] 51) := ⟨_, rfl⟩
    rw [← hX] at hcc HrY HF ⊢
    clear hX ha4 hb5 m0 m1 n0 n1
    have Y0 := Lib.hid (keep_row hcc S0.out)
    have Y1 := Lib.hid (keep_row hcc S1.out)
    have HCC := Lib.hid hcc
    have hXX := Below.refl X.heap.size X
    first
      | (go_region_held3 (fun w' => Below X.heap.size X w' ∧ w'.cell? ⟨w.heap.size, 0, none⟩ = some (.bool b1) ∧ w'.cell? ⟨w.heap.size, 1, none⟩ = some v1 ∧ w'.cell? ⟨w.heap.size + 1, 0, none⟩ = some (.bool b2) ∧ w'.cell? ⟨w.heap.size + 1, 1, none⟩ = some v2)
          ((refine ks4F Y0.out Y1.out ?_; first | assumption | exact Below.drew hXX))
          (first
            | (go_at_call 21; with_reducible refine (HO2.out _ (bthen HCC.out hb6)).mono ?_; rintro _ w7 ⟨rb, rfl, hnb, hSb, hLb, -, hb67⟩; have hb7 := bthen hb6 hb67; have NB := Lib.hid hnb; have NA := Lib.hid (hna.below hb67); clear hna hnb hb67)
            | (go_at_call 21; with_reducible refine (HO1.out _ (bthen HCC.out (And.left (by assumption)))).mono ?_; rintro _ w6 ⟨ra, rfl, hna, hSa, hb6'⟩; have hb6 := bthen (And.left (by assumption)) hb6'; clear hb6')))
      | fail
    all_goals
      have Z0 := Lib.hid (keep_row hb7 Y0.out)
      have Z1 := Lib.hid (keep_row hb7 Y1.out)
      have Z2 := Lib.hid (keep_row hb7 HrY.out)
      have FV := Lib.hid (HF.out.below hb7)
      have hb7H := Lib.hid hb7
      have hYY := Below.refl w7.heap.size w7
      obtain ⟨-, k0, k1, l0, l1, o0, o1, o2⟩ := ks7F Z0.out Z1.out Z2.out hYY
      go_upto_region 9 with fail
      first
        | (go_region_held3 (fun w' => Below w7.heap.size w7 w' ∧ w'.cell? ⟨w.heap.size, 0, none⟩ = some (.bool b1) ∧ w'.cell? ⟨w.heap.size, 1, none⟩ = some v1 ∧ w'.cell? ⟨w.heap.size + 1, 0, none⟩ = some (.bool b2) ∧ w'.cell? ⟨w.heap.size + 1, 1, none⟩ = some v2 ∧ w'.cell? ⟨w5.heap.size, 0, none⟩ = some (.bool q) ∧ w'.cell? ⟨w5.heap.size, 1, none⟩ = some r1 ∧ w'.cell? ⟨w5.heap.size, 2, none⟩ = some r2)
            ((refine ks7F Z0.out Z1.out Z2.out ?_; first | assumption | exact Below.drew hYY))
            (first
              | (go_at_call 22; with_reducible refine (HIS.out _ _ _ FV2.out RI.out).mono ?_; rintro _ w9 ⟨rfl, hb9'⟩; have hb9 := bthen hb8 hb9')
              | (go_at_call 23; with_reducible refine (HOV.out _ _ _ (NA.out.below (And.left (by assumption))) (NB.out.below (And.left (by assumption)))).mono ?_; rintro _ w8 ⟨uu, rfl, hri, hb78⟩; have RI := Lib.hid hri; have hb8 := bthen (And.left (by assumption)) hb78; have FV2 := Lib.hid (FV.out.below hb8); clear hri)))
        | fail
      all_goals
        go_wp2
        go_ret
        exact ⟨rfl, BB2.out.trans ((bthen HCC.out (bthen hb7H.out hb9)).mono hbs2)⟩
end Go.Proofs.YtkhhoamcnocjlaaGreatDoor
