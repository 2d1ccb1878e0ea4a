/-
Texts of this proof, joined: RoZ. No condition.
-/
import Derived.Test.YtkhhoamcnocjlabGreatDoorK06
import Derived.Test.YtkhhoamcnocjlabGreatDoorK18
import Derived.Test.YtkhhoamcnocjlabGreatDoorK30
/-
The statement on the order of two fractions and the sign of their difference. No condition but the thresholds.
-/
namespace Go.Proofs.YtkhhoamcnocjlabGreatDoor
open Go.RowKit

theorem ks12G {W X : World} {k g p q T : Nat} {a b c d e f a' b' c' d' e' f' : Value} (h1 : W.heap[k]? = some (.cells #[a, b, c] T (0, 0))) (h2 : W.heap[g]? = some (.cells #[d, e, f] T (0, 0))) (h3 : W.heap[p]? = some (.cells #[a', b', c'] T (0, 0))) (h4 : W.heap[q]? = some (.cells #[d', e', f'] T (0, 0))) (h : Below W.heap.size W X) :
    Below W.heap.size W X ∧ X.cell? ⟨k, 0, none⟩ = some a ∧ X.cell? ⟨k, 1, none⟩ = some b ∧ X.cell? ⟨k, 2, none⟩ = some c ∧ X.cell? ⟨g, 0, none⟩ = some d ∧ X.cell? ⟨g, 1, none⟩ = some e ∧ X.cell? ⟨g, 2, none⟩ = some f ∧
    X.cell? ⟨p, 0, none⟩ = some a' ∧ X.cell? ⟨p, 1, none⟩ = some b' ∧ X.cell? ⟨p, 2, none⟩ = some c' ∧ X.cell? ⟨q, 0, none⟩ = some d' ∧ X.cell? ⟨q, 1, none⟩ = some e' ∧ X.cell? ⟨q, 2, none⟩ = some f' := by
  obtain ⟨x0, x1, x2, -, -, -⟩ := row3 (keep_row h h1)
  obtain ⟨y0, y1, y2, -, -, -⟩ := row3 (keep_row h h2)
  obtain ⟨z0, z1, z2, -, -, -⟩ := row3 (keep_row h h3)
  obtain ⟨q0, q1, q2, -, -, -⟩ := row3 (keep_row h h4)
  exact ⟨h, x0, x1, x2, y0, y1, y2, z0, z1, z2, q0, q1, q2⟩
/-- The sign of a whole number. -/
def sV (V : Int) : Int := if V < 0 then -1 else if V = 0 then 0 else 1
theorem cmpS_V (m n : Bool) (A C : Nat) (hm : m = true → 0 < A) (hn : n = true → 0 < C) : cmpS m A n C = sV (rI m A - rI n C) := by
  unfold cmpS sV rI cmpN
  cases m <;> cases n
  · simp; repeat' split
    all_goals omega
  · have := hn rfl
    simp; repeat' split
    all_goals omega
  · have := hm rfl
    simp; repeat' split
    all_goals omega
  · simp; repeat' split
    all_goals omega
theorem sg_V (V : Int) {D : Nat} (_hD : 0 < D) : sg (decide (V < 0)) (V.natAbs / Nat.gcd V.natAbs D) = sV V := by
  unfold sg sV
  rcases Nat.eq_zero_or_pos V.natAbs with h | h
  · have h0 : V = 0 := by omega
    subst h0
    simp
  · have h1 := Nat.div_pos (Nat.gcd_le_left D h) (Nat.gcd_pos_of_pos_left D h)
    rw [if_neg (by omega)]
    by_cases hv : V < 0
    · rw [if_pos hv, decide_eq_true hv]; rfl
    · rw [if_neg hv, decide_eq_false hv, if_neg (show ¬ V = 0 by omega)]; rfl
theorem rwW {w : World} {b n T : Nat} (h : w.heap[b]? = some (.cells #[.int .u64 (n : Int)] T (0, 0))) (hn : n < 18446744073709551616) : RW w (.slice (some ⟨b, 0, none⟩) 1 1) [n] := by
  have hc := (row_at (i := 0) h rfl).1
  refine ⟨⟨⟨fun _ => rfl, Nat.le_refl _⟩, rfl, fun i hi => ?_⟩, fun d hd => ?_⟩
  · rw [ints_length] at hi
    obtain rfl : i = 0 := by simp at hi; omega
    exact hc
  · rw [List.mem_singleton.1 hd]; exact hn
theorem ord_V (b1 b2 : Bool) (N1 N2 d1 d2 : Nat) (h1 : 0 < d1) (h2 : 0 < d2) : cmpS (b1 && decide (0 < N1)) (N1 * d2) (b2 && decide (0 < N2)) (N2 * d1) = sV (rI b1 (N1 * d2) + rI (!b2) (N2 * d1)) := by
  rw [cmpS_V]
  · rw [rI_and, rI_and]
    congr 1
    unfold rI
    cases b2 <;> simp <;> omega
  · intro h
    simp at h
    exact Nat.mul_pos h.2 h2
  · intro h
    simp at h
    exact Nat.mul_pos h.2 h1
set_option maxRecDepth 100000 in
set_option maxHeartbeats 3200000 in
theorem lawRatOrder (b1 : Bool) (v1 u1 : Value) (ns1 ds1 : List Nat) (b2 : Bool) (v2 u2 : Value) (ns2 ds2 : List Nat) (w : World) (hT : KarW w) (hDW : DivW w) (hv1 : RW w v1 ns1) (hu1 : RW w u1 ds1) (hv2 : RW w v2 ns2) (hu2 : RW w u2 ds2) :
    Calls Tryz.prog 7 #[.agg #[.bool b1, v1, u1], .agg #[.bool b2, v2, u2]] w fun e w' => e = .returned (.bool true) ∧ Below w.heap.size w w' := by
  have hS1 := hv1.isS
  have hS2 := hu1.isS
  have hS3 := hv2.isS
  have hS4 := hu2.isS
  obtain ⟨W, hW⟩ : ∃ W, W = (w.alloc (.cells #[.bool b1, v1, u1] 26)).alloc (.cells #[.bool b2, v2, u2] 26) := ⟨_, rfl⟩
  have hbW : Below w.heap.size w W := by rw [hW]; exact ((Below.refl _ w).alloc (Nat.le_refl _) _).alloc (by simp) _
  have r0 : W.heap[w.heap.size]? = some (.cells #[.bool b1, v1, u1] 26 (0, 0)) := by rw [hW]; exact keep_row (fbone _) (row_new _ _ _ _ rfl)
  have r1 : W.heap[w.heap.size + 1]? = some (.cells #[.bool b2, v2, u2] 26 (0, 0)) := by rw [hW]; exact row_new _ _ _ _ (by simp)
  obtain ⟨x0, x1, x2, -, -, -⟩ := row3 r0
  obtain ⟨y0, y1, y2, -, -, -⟩ := row3 r1
  have V1 := Lib.hid (hv1.below hbW)
  have U1 := Lib.hid (hu1.below hbW)
  have V2 := Lib.hid (hv2.below hbW)
  have U2 := Lib.hid (hu2.below hbW)
  have KW := Lib.hid (hT.below hbW)
  have DW := Lib.hid (hDW.below hbW)
  have R0 := Lib.hid r0
  have R1 := Lib.hid r1
  have hWs := hbW.size
  clear hv1 hu1 hv2 hu2 r0 r1 hT hDW
  go_enter Tryz.func7, Tryz.ntmps7
  go_upto_region 1 with fail
  rw [← hW]
  clear hW
  obtain ⟨f1, hf1⟩ : ∃ f, f = (decide (ns1.length ≤ 2147483647) && decide (ds1.length ≤ 2147483647)) := ⟨_, rfl⟩
  obtain ⟨f2, hf2⟩ : ∃ f, f = (decide (ns2.length ≤ 2147483647) && decide (ds2.length ≤ 2147483647)) := ⟨_, rfl⟩
  have HF1 := Lib.hid hf1
  have HF2 := Lib.hid hf2
  clear hf1 hf2
  go_wp2_with fail
  refine (zzFits3_any b1 v1 u1 ns1 ds1 W V1.out U1.out).mono ?_
  rintro _ w1 ⟨rfl, hb1⟩
  rw [← HF1.out]
  obtain ⟨p0, p1, p2, -, -, -⟩ := row3 (keep_row hb1 R0.out)
  obtain ⟨q0, q1, q2, -, -, -⟩ := row3 (keep_row hb1 R1.out)
  have bb1 := hbW.trans (hb1.mono hWs)
  cases f1 with
  | false =>
    go_wp2
    go_ret
    exact ⟨rfl, bb1⟩
  | true =>
  go_wp2_with fail
  refine (zzFits3_any b2 v2 u2 ns2 ds2 w1 (V2.out.below hb1) (U2.out.below hb1)).mono ?_
  rintro _ w2 ⟨rfl, hb2⟩
  rw [← HF2.out]
  have hb12 := bthen hb1 hb2
  obtain ⟨m0, m1, m2, -, -, -⟩ := row3 (keep_row hb12 R0.out)
  obtain ⟨n0, n1, n2, -, -, -⟩ := row3 (keep_row hb12 R1.out)
  have bb2 := hbW.trans (hb12.mono hWs)
  cases f2 with
  | false =>
    go_wp2
    go_ret
    exact ⟨rfl, bb2⟩
  | true =>
  go_wp2_with fail
  refine (pair_any b1 b2 v1 u1 v2 u2 16 ns1 ds1 ns2 ds2 w2 (V1.out.below hb12) (U1.out.below hb12) (V2.out.below hb12) (U2.out.below hb12) (by decide)).mono ?_
  rintro _ w3 ⟨_, rfl, x, a1, a2, y, c1, c2, ok, rfl, hA1, hA2, hC1, hC2, hb3, hok⟩
  have HOK := Lib.hid hok
  have hb13 := bthen hb12 hb3
  clear hok
  go_upto_region 4 with fail
  obtain ⟨X, hX⟩ : ∃ X, X = (w3.alloc (.cells #[.bool x, a1, a2] 31)).alloc (.cells #[.bool y, c1, c2] 31) := ⟨_, rfl⟩
  have hbX : Below w3.heap.size w3 X := by rw [hX]; exact ((Below.refl _ w3).alloc (Nat.le_refl _) _).alloc (by simp) _
  have g0 : X.heap[w3.heap.size]? = some (.cells #[.bool x, a1, a2] 31 (0, 0)) := by rw [hX]; exact keep_row (fbone _) (row_new _ _ _ _ rfl)
  have g1 : X.heap[w3.heap.size + 1]? = some (.cells #[.bool y, c1, c2] 31 (0, 0)) := by rw [hX]; exact row_new _ _ _ _ (by simp)
  rw [← hX]
  have hWX := bthen hb13 hbX
  have G0 := Lib.hid g0
  have G1 := Lib.hid g1
  have S0 := Lib.hid (keep_row hWX R0.out)
  have S1 := Lib.hid (keep_row hWX R1.out)
  have hwX : Hid (Below w.heap.size w X) := Lib.hid (hbW.trans (hWX.mono hWs))
  have hXs := hwX.out.size
  have hcc := Below.refl X.heap.size X
  obtain ⟨d0, d1, d2, -, -, -⟩ := row3 g0
  obtain ⟨e0, e1, e2, -, -, -⟩ := row3 g1
  obtain ⟨i0, i1, i2, -, -, -⟩ := row3 S0.out
  obtain ⟨j0, j1, j2, -, -, -⟩ := row3 S1.out
  clear hX g0 g1 x0 x1 x2 y0 y1 y2 p0 p1 p2 q0 q1 q2 m0 m1 m2 n0 n1 n2 bb1 bb2 hb1 hb2 hb3 hb12
  cases ok with
  | false =>
    go_wp2
    go_ret
    exact ⟨rfl, hwX.out⟩
  | true =>
    obtain ⟨k1, k2⟩ := HOK.out rfl
    have ex := k1.sign
    have ey := k2.sign
    subst ex ey
    have L1 := k1.l1
    have L2 := k1.l2
    have L3 := k2.l1
    have L4 := k2.l2
    have z1 := nw_le (wv_lt V1.out.lt)
    have z2 := nw_le (wv_lt U1.out.lt)
    have z3 := nw_le (wv_lt V2.out.lt)
    have z4 := nw_le (wv_lt U2.out.lt)
    obtain ⟨V, hV⟩ : ∃ V : Int, V = rI x (wv ns1 * wv ds2) + rI (!y) (wv ns2 * wv ds1) := ⟨_, rfl⟩
    obtain ⟨D, hD⟩ : ∃ D : Nat, D = wv ds1 * wv ds2 := ⟨_, rfl⟩
    have hD0 : 0 < D := by rw [hD]; exact Nat.mul_pos k1.pos k2.pos
    have NV : nw V.natAbs ≤ 100 := by rw [hV]; exact natAbs_nwSub x y _ (wv ds1) _ (wv ds2) (by omega) (by omega) (by omega)
    have ND : nw D ≤ 100 := by rw [hD]; exact Nat.le_trans (nw_mul_le _ _) (by omega)
    obtain ⟨Z, hZ⟩ : ∃ Z, Z = ((((((X.alloc (.cells #[.int .u64 1] 45)).alloc (.cells #[.int .u64 2] 45)).alloc (.cells #[.bool false, .slice (some ⟨X.heap.size, 0, none⟩) 1 1, .slice (some ⟨X.heap.size + 1, 0, none⟩) 1 1] 26)).alloc (.cells #[.int .u64 1] 45)).alloc (.cells #[.int .u64 3] 45)).alloc (.cells #[.bool false, .slice (some ⟨X.heap.size + 1 + 1 + 1, 0, none⟩) 1 1, .slice (some ⟨X.heap.size + 1 + 1 + 1 + 1, 0, none⟩) 1 1] 26)) := ⟨_, rfl⟩
    have hbZ : Below X.heap.size X Z := by
      rw [hZ]
      exact ((((((Below.refl _ X).alloc (Nat.le_refl _) _).alloc (by simp) _).alloc (by simp; omega) _).alloc (by simp; omega) _).alloc (by simp; omega) _).alloc (by simp; omega) _
    have e0 : Z.heap[X.heap.size]? = some (.cells #[.int .u64 1] 45 (0, 0)) := by
      rw [hZ]; exact keep_row (fbone _) (keep_row (fbone _) (keep_row (fbone _) (keep_row (fbone _) (keep_row (fbone _) (row_new _ _ _ _ rfl)))))
    have e1' : Z.heap[X.heap.size + 1]? = some (.cells #[.int .u64 2] 45 (0, 0)) := by
      rw [hZ]; exact keep_row (fbone _) (keep_row (fbone _) (keep_row (fbone _) (keep_row (fbone _) (row_new _ _ _ _ (by simp)))))
    have e2' : Z.heap[X.heap.size + 1 + 1]? = some (.cells #[.bool false, .slice (some ⟨X.heap.size, 0, none⟩) 1 1, .slice (some ⟨X.heap.size + 1, 0, none⟩) 1 1] 26 (0, 0)) := by
      rw [hZ]; exact keep_row (fbone _) (keep_row (fbone _) (keep_row (fbone _) (row_new _ _ _ _ (by simp))))
    have e3' : Z.heap[X.heap.size + 1 + 1 + 1]? = some (.cells #[.int .u64 1] 45 (0, 0)) := by
      rw [hZ]; exact keep_row (fbone _) (keep_row (fbone _) (row_new _ _ _ _ (by simp)))
    have e4' : Z.heap[X.heap.size + 1 + 1 + 1 + 1]? = some (.cells #[.int .u64 3] 45 (0, 0)) := by
      rw [hZ]; exact keep_row (fbone _) (row_new _ _ _ _ (by simp))
    have e5' : Z.heap[X.heap.size + 1 + 1 + 1 + 1 + 1]? = some (.cells #[.bool false, .slice (some ⟨X.heap.size + 1 + 1 + 1, 0, none⟩) 1 1, .slice (some ⟨X.heap.size + 1 + 1 + 1 + 1, 0, none⟩) 1 1] 26 (0, 0)) := by
      rw [hZ]; exact row_new _ _ _ _ (by simp)
    have hWZ := bthen hWX hbZ
    have HRC1 : Hid (∀ w', Below Z.heap.size Z w' → Calls Tryz.prog 25 #[.agg #[.bool false, .slice (some ⟨X.heap.size, 0, none⟩) 1 1, .slice (some ⟨X.heap.size + 1, 0, none⟩) 1 1], .agg #[.bool false, .slice (some ⟨X.heap.size + 1 + 1 + 1, 0, none⟩) 1 1, .slice (some ⟨X.heap.size + 1 + 1 + 1 + 1, 0, none⟩) 1 1]] w' fun e w5 => e = .returned (.int .i64 1) ∧ Below Z.heap.size Z w5) := Lib.hid (fun w' h => by
      refine (impRatCmp false false _ _ _ _ [1] [2] [1] [3] w' ((rwW (n := 1) e0 (by decide)).below h) ((rwW (n := 2) e1' (by decide)).below h) ((rwW (n := 1) e3' (by decide)).below h) ((rwW (n := 3) e4' (by decide)).below h) (by decide) (by decide) (by decide) (by decide) (by decide) (by decide) ((KW.out.below hWZ).below h)).mono ?_
      rintro e w5 ⟨h1, h2⟩
      have e9 : cmpS (false && decide (0 < wv [1])) (wv [1] * wv [3]) (false && decide (0 < wv [1])) (wv [1] * wv [2]) = 1 := by decide
      rw [e9] at h1
      exact ⟨h1, bthen h h2⟩)
    have HRC2 : Hid (∀ w', Below Z.heap.size Z w' → Calls Tryz.prog 25 #[.agg #[.bool x, v1, u1], .agg #[.bool y, v2, u2]] w' fun e w5 => e = .returned (.int .i64 (sV V)) ∧ Below Z.heap.size Z w5) := Lib.hid (fun w' h => by
      have hw := bthen hWZ h
      refine (impRatCmp x y v1 u1 v2 u2 ns1 ds1 ns2 ds2 w' (V1.out.below hw) (U1.out.below hw) (V2.out.below hw) (U2.out.below hw) (by omega) (by omega) (by omega) (by omega) k1.pos k2.pos (KW.out.below hw)).mono ?_
      rintro e w5 ⟨h1, h2⟩
      rw [ord_V x y _ _ _ _ k1.pos k2.pos, ← hV] at h1
      exact ⟨h1, bthen h h2⟩)
    have HSU : Hid (∀ w', Below Z.heap.size Z w' → Calls Tryz.prog 12 #[.agg #[.bool x, v1, u1], .agg #[.bool y, v2, u2]] w' fun e w5 => ∃ v, e = .returned v ∧ FracV w5 v V D ∧ Below Z.heap.size Z w5) := Lib.hid (fun w' h => by
      rw [hV, hD]
      have hw := bthen hWZ h
      refine (impRatSub x y v1 u1 v2 u2 ns1 ds1 ns2 ds2 w' (V1.out.below hw) (U1.out.below hw) (V2.out.below hw) (U2.out.below hw) (by omega) (by omega) (by omega) (by omega) (by omega) (by omega) (by omega) (by omega) k1.pos k2.pos (KW.out.below hw) (DW.out.below hw)).mono ?_
      rintro e w5 ⟨v, h1, h2, h3⟩
      exact ⟨v, h1, h2, bthen h h3⟩)
    have HSG : Hid (∀ w' v, Below Z.heap.size Z w' → FracV w' v V D → Calls Tryz.prog 26 #[v] w' fun e w5 => e = .returned (.int .i64 (sV V)) ∧ Below Z.heap.size Z w5) := Lib.hid (fun w' v h hf => by
      obtain ⟨r1, r2, rfl, h1, h2⟩ := hf
      have m1 : nw (V.natAbs / Nat.gcd V.natAbs D) ≤ 100 := Nat.le_trans (nw_mono (Nat.div_le_self _ _)) NV
      have m2 : nw (D / Nat.gcd V.natAbs D) ≤ 100 := Nat.le_trans (nw_mono (Nat.div_le_self _ _)) ND
      refine (impSign _ r1 r2 _ _ w' h1 h2 (by rw [wds_length]; omega) (by rw [wds_length]; omega)).mono ?_
      rintro e w5 ⟨h3, h4⟩
      rw [wv_wds, sg_V V hD0] at h3
      exact ⟨h3, bthen h h4⟩)
    obtain ⟨sv, hsv⟩ : ∃ s, s = sV V := ⟨_, rfl⟩
    rw [← hsv] at HRC2 HSG
    have Y0 := Lib.hid (keep_row hbZ S0.out)
    have Y1 := Lib.hid (keep_row hbZ S1.out)
    have Y2 := Lib.hid e2'
    have Y3 := Lib.hid e5'
    have hwZ := Lib.hid (hwX.out.trans (hbZ.mono hXs))
    have hZs := hwZ.out.size
    have hcc := Below.refl Z.heap.size Z
    clear hV hD k1 k2 L1 L2 L3 L4 HOK z1 z2 z3 z4 NV ND hD0 hbZ e0 e1' e2' e3' e4' e5' hWZ hsv hWX hbX
    go_upto_region 8 with fail
    rw [← hZ]
    clear hZ d0 d1 d2 e0 e1 e2 i0 i1 i2 j0 j1 j2
    first
      | (go_region_held3 (fun w' => Below Z.heap.size Z w' ∧ w'.cell? ⟨w.heap.size, 0, none⟩ = some (.bool x) ∧ w'.cell? ⟨w.heap.size, 1, none⟩ = some (v1) ∧ w'.cell? ⟨w.heap.size, 2, none⟩ = some (u1) ∧ w'.cell? ⟨w.heap.size + 1, 0, none⟩ = some (.bool y) ∧ w'.cell? ⟨w.heap.size + 1, 1, none⟩ = some (v2) ∧ w'.cell? ⟨w.heap.size + 1, 2, none⟩ = some (u2) ∧ w'.cell? ⟨X.heap.size + 1 + 1, 0, none⟩ = some (.bool false) ∧ w'.cell? ⟨X.heap.size + 1 + 1, 1, none⟩ = some (.slice (some ⟨X.heap.size, 0, none⟩) 1 1) ∧ w'.cell? ⟨X.heap.size + 1 + 1, 2, none⟩ = some (.slice (some ⟨X.heap.size + 1, 0, none⟩) 1 1) ∧ w'.cell? ⟨X.heap.size + 1 + 1 + 1 + 1 + 1, 0, none⟩ = some (.bool false) ∧ w'.cell? ⟨X.heap.size + 1 + 1 + 1 + 1 + 1, 1, none⟩ = some (.slice (some ⟨X.heap.size + 1 + 1 + 1, 0, none⟩) 1 1) ∧ w'.cell? ⟨X.heap.size + 1 + 1 + 1 + 1 + 1, 2, none⟩ = some (.slice (some ⟨X.heap.size + 1 + 1 + 1 + 1, 0, none⟩) 1 1))
          ((refine ks12G Y0.out Y1.out Y2.out Y3.out ?_; first | assumption | exact Below.drew hcc))
          (first
            | (go_at_call 26; with_reducible refine (HSG.out _ _ hb7 FV.out).mono ?_; rintro _ w8 ⟨rfl, hb8⟩)
            | (go_at_call 12; with_reducible refine (HSU.out _ hb6).mono ?_; rintro _ w7 ⟨vf, rfl, hfv, hb7⟩; have FV := Lib.hid hfv; clear hfv)
            | (go_at_call 25; with_reducible refine (HRC2.out _ hb5).mono ?_; rintro _ w6 ⟨rfl, hb6⟩)
            | (go_at_call 25; with_reducible refine (HRC1.out _ (And.left (by assumption))).mono ?_; rintro _ w5 ⟨rfl, hb5⟩)))
      | fail
    all_goals
      go_wp2
      go_ret
      exact ⟨rfl, hwZ.out.trans (hb8.mono hZs)⟩
end Go.Proofs.YtkhhoamcnocjlabGreatDoor
