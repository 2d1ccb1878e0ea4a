/-
The statement on the order of two floats. No condition.
-/
import Derived.Test.YtniingblgkghgaaFlX
namespace Go.Proofs.Ytniingblgkghgaa
open Go.RowKit

def dyN (f : Nat) (n : Bool) : Bool := if f = 1 then n else false
def dyM (f M : Nat) : Nat := if f = 1 then M else 0
def dyE (f : Nat) (e : Int) : Int := if f = 1 then e else 0
theorem ofReal_any (P E p m f : Nat) (e : Int) (neg : Bool) (v : Value) (ws : List Nat) (w : World) (hv : RW w v ws) (ho : RealOk P E p m f ws e) :
    Calls Try.prog 21 #[.agg #[.int .u64 p, .int .i64 m, .int .i64 f, .bool neg, v, .int .i64 e]] w fun e' w' => ∃ r, e' = .returned r ∧ DyV w' r (dyN f neg) (dyM f (wv ws)) (dyE f e) ∧ Below w.heap.size w w' := by
  by_cases hf : f = 1
  · subst hf
    obtain ⟨-, -, -, h | h | h⟩ := ho
    · exact absurd h (by decide)
    · exact absurd h (by decide)
    · exact ofReal_one p m e neg v ws w hv h.2.2.2.1
  · rw [dyN, dyM, dyE, if_neg hf, if_neg hf, if_neg hf]
    exact ofReal_other p m f e neg v w hv.isS hf
theorem dy_nl {P E p m f : Nat} {e : Int} {ws : List Nat} (ho : RealOk P E p m f ws e) (hP : P ≤ 64000) : bl (dyM f (wv ws)) ≤ P ∧ -(E : Int) ≤ dyE f e ∧ dyE f e ≤ E := by
  obtain ⟨h1, h2, -, h⟩ := ho
  by_cases hf : f = 1
  · subst hf
    rw [dyM, dyE, if_pos rfl, if_pos rfl]
    rcases h with h | h | h
    · exact absurd h (by decide)
    · exact absurd h (by decide)
    · exact ⟨Nat.le_trans h.2.2.1 h2, h.2.2.2.2.1, h.2.2.2.2.2⟩
  · rw [dyM, dyE, if_neg hf, if_neg hf, bl_zero]; omega
theorem bl_two (x n : Nat) : bl (x * 2 ^ n) ≤ bl x + n := bl_le (by
  rw [Nat.pow_add]; exact Nat.mul_lt_mul_of_pos_right (lt_bl x) (Nat.two_pow_pos n))
theorem nl_of_bl {n k : Nat} (h : bl n ≤ k) : nl n ≤ k := nl_bl (by omega)
/-- Order of the values of two reals. -/
theorem order_real (P E f1 f2 : Nat) (n1 n2 : Bool) (a b : Value) (e1 e2 : Int) (x y : Nat) (w : World) (ha : NatV w a x) (hb : NatV w b y)
    (hx : bl x ≤ P) (g1 : -(E : Int) ≤ e1) (g2 : e1 ≤ E) (hy : bl y ≤ P) (g3 : -(E : Int) ≤ e2) (g4 : e2 ≤ E) (hP : P ≤ 64000) (hE : E ≤ 100000000) :
    Calls Try.prog 20 #[.agg #[.bool n1, a, .int .i64 e1], .agg #[.bool n2, b, .int .i64 e2]] w fun e' w' =>
      e' = .returned (.int .i64 (cmpI (sI n1 (x * 2 ^ (e1 - min e1 e2).toNat)) (sI n2 (y * 2 ^ (e2 - min e1 e2).toNat)))) ∧ Below w.heap.size w w' := by
  have k1 := bl_two x (e1 - min e1 e2).toNat
  have k2 := bl_two y (e2 - min e1 e2).toNat
  exact dOrder n1 n2 a b e1 e2 (min e1 e2) x y (e1 - min e1 e2).toNat (e2 - min e1 e2).toNat w ha hb rfl (by omega) (by omega) (by omega) (by omega) (by omega) (by omega) (by omega)
    (nl_of_bl (by omega)) (nl_of_bl (by omega)) (by omega) (by omega) (nl_of_bl (by omega)) (nl_of_bl (by omega))
/-- What is asked of Cmp's answer. -/
def wantC (f1 : Nat) (n1 : Bool) (M1 : Nat) (e1 : Int) (f2 : Nat) (n2 : Bool) (M2 : Nat) (e2 : Int) : Int :=
  cmpI (sI (dyN f1 n1) (dyM f1 M1 * 2 ^ (dyE f1 e1 - min (dyE f1 e1) (dyE f2 e2)).toNat)) (sI (dyN f2 n2) (dyM f2 M2 * 2 ^ (dyE f2 e2 - min (dyE f1 e1) (dyE f2 e2)).toNat))
theorem wantC_eq {f1 f2 M1 M2 : Nat} {n1 n2 : Bool} {e1 e2 : Int} (hf1 : f1 ≤ 1) (hf2 : f2 ≤ 1) (h1 : f1 = 1 → 0 < M1) (h2 : f2 = 1 → 0 < M2) :
    cmpRV f1 n1 M1 e1 f2 n2 M2 e2 = wantC f1 n1 M1 e1 f2 n2 M2 e2 := by
  rw [cmpRV_law (a := (dyE f1 e1 - min (dyE f1 e1) (dyE f2 e2)).toNat) (b := (dyE f2 e2 - min (dyE f1 e1) (dyE f2 e2)).toNat) (e := min (dyE f1 e1) (dyE f2 e2)) hf1 hf2
    (fun h => ⟨h1 h, by subst h; simp only [dyE, if_true]; split <;> omega⟩) (fun h => ⟨h2 h, by subst h; simp only [dyE, if_true]; split <;> omega⟩)]
  unfold wantC
  rcases (by omega : f1 = 0 ∨ f1 = 1) with rfl | rfl <;> rcases (by omega : f2 = 0 ∨ f2 = 1) with rfl | rfl <;> simp [dyN, dyM, dyE, sI]
theorem cmpRV_lt {f1 f2 M1 M2 : Nat} {n1 n2 : Bool} {e1 e2 : Int} (hf1 : f1 ≤ 2) (hf2 : f2 ≤ 2) (h : endV f1 n1 < endV f2 n2) : cmpRV f1 n1 M1 e1 f2 n2 M2 e2 = -1 := by
  unfold cmpRV cmpFV
  rw [if_pos]
  unfold endV at h; unfold ordV
  split at h <;> split at h <;> cases n1 <;> cases n2 <;> simp_all <;> omega
theorem cmpRV_gt {f1 f2 M1 M2 : Nat} {n1 n2 : Bool} {e1 e2 : Int} (hf1 : f1 ≤ 2) (hf2 : f2 ≤ 2) (h : endV f2 n2 < endV f1 n1) : cmpRV f1 n1 M1 e1 f2 n2 M2 e2 = 1 := by
  unfold cmpRV cmpFV
  have : ordV f2 n2 < ordV f1 n1 := by
    unfold endV at h; unfold ordV
    split at h <;> split at h <;> cases n1 <;> cases n2 <;> simp_all <;> omega
  rw [if_neg (by omega), if_pos this]
theorem cmpRV_eq {f1 f2 M1 M2 : Nat} {n1 n2 : Bool} {e1 e2 : Int} (hf1 : f1 ≤ 2) (hf2 : f2 ≤ 2) (h : endV f1 n1 = endV f2 n2) (h0 : endV f1 n1 ≠ 0) : cmpRV f1 n1 M1 e1 f2 n2 M2 e2 = 0 := by
  have h2 : f1 = 2 := by
    refine Classical.byContradiction fun hc => h0 ?_
    unfold endV; rw [if_neg hc]
  have h3 : f2 = 2 := by
    refine Classical.byContradiction fun hc => h0 ?_
    rw [h]; unfold endV; rw [if_neg hc]
  subst h2; subst h3
  have : n1 = n2 := by cases n1 <;> cases n2 <;> simp_all [endV]
  subst this
  unfold cmpRV cmpFV
  cases n1 <;> simp [ordV]
theorem end0 {f : Nat} {n : Bool} (hf : f ≤ 2) (h : endV f n = 0) : f ≤ 1 := by
  refine Classical.byContradiction fun hc => ?_
  have : f = 2 := by omega
  subst this
  cases n <;> simp [endV] at h
theorem RealOk.pos {P E p m f : Nat} {ws : List Nat} {e : Int} (h : RealOk P E p m f ws e) (hf : f = 1) : 0 < wv ws := by
  subst hf
  obtain ⟨-, -, -, h | h | h⟩ := h
  · exact absurd h (by decide)
  · exact absurd h (by decide)
  · exact h.2.1
set_option maxRecDepth 100000 in
set_option maxHeartbeats 3200000 in
theorem lawCmp (p1 : Nat) (m1 f1 : Int) (n1 : Bool) (v1 : Value) (e1 : Int) (xs : List Nat) (p2 : Nat) (m2 f2 : Int) (n2 : Bool) (v2 : Value) (e2 : Int) (ys : List Nat) (w : World) (hv1 : RW w v1 xs)
    (hg1 : p1 ≤ 18446744073709551615 ∧ (-9223372036854775808 ≤ m1 ∧ m1 ≤ 9223372036854775807) ∧ (-9223372036854775808 ≤ f1 ∧ f1 ≤ 9223372036854775807) ∧ (-9223372036854775808 ≤ e1 ∧ e1 ≤ 9223372036854775807)) (hv2 : RW w v2 ys)
    (hg2 : p2 ≤ 18446744073709551615 ∧ (-9223372036854775808 ≤ m2 ∧ m2 ≤ 9223372036854775807) ∧ (-9223372036854775808 ≤ f2 ∧ f2 ≤ 9223372036854775807) ∧ (-9223372036854775808 ≤ e2 ∧ e2 ≤ 9223372036854775807)) :
    Calls Try.prog 5 #[.agg #[.int .u64 p1, .int .i64 m1, .int .i64 f1, .bool n1, v1, .int .i64 e1], .agg #[.int .u64 p2, .int .i64 m2, .int .i64 f2, .bool n2, v2, .int .i64 e2]] w fun e' w' => e' = .returned (.bool true) ∧ Below w.heap.size w w' := by
  have hS1 := hv1.isS
  have hS2 := hv2.isS
  clear hg1 hg2
  have hab := (Below.refl w.heap.size w).alloc (Nat.le_refl _) (.cells #[.int .u64 p1, .int .i64 m1, .int .i64 f1, .bool n1, v1, .int .i64 e1] 27)
  have hac := hab.alloc hab.size (.cells #[.int .u64 p2, .int .i64 m2, .int .i64 f2, .bool n2, v2, .int .i64 e2] 27)
  obtain ⟨X, hX⟩ : ∃ X, X = (w.alloc (.cells #[.int .u64 p1, .int .i64 m1, .int .i64 f1, .bool n1, v1, .int .i64 e1] 27)).alloc (.cells #[.int .u64 p2, .int .i64 m2, .int .i64 f2, .bool n2, v2, .int .i64 e2] 27) := ⟨_, rfl⟩
  have hr1 : X.heap[w.heap.size]? = some (.cells #[.int .u64 p1, .int .i64 m1, .int .i64 f1, .bool n1, v1, .int .i64 e1] 27 (0, 0)) := by
    rw [hX]; exact keep_row (fbone _) (box_row (Below.refl _ _))
  have hr2 : X.heap[w.heap.size + 1]? = some (.cells #[.int .u64 p2, .int .i64 m2, .int .i64 f2, .bool n2, v2, .int .i64 e2] 27 (0, 0)) := by
    rw [hX]
    have := box_row (Below.refl _ ((w.alloc (.cells #[.int .u64 p1, .int .i64 m1, .int .i64 f1, .bool n1, v1, .int .i64 e1] 27)).alloc (.cells #[.int .u64 p2, .int .i64 m2, .int .i64 f2, .bool n2, v2, .int .i64 e2] 27)))
    simpa using this
  rw [← hX] at hac
  obtain ⟨-, ⟨x0, x1, x2, x3, x4, x5⟩, y0, y1, y2, y3, y4, y5⟩ := ks24 hr1 hr2 (Below.refl _ _)
  have HR1 := Lib.hid hr1
  have HR2 := Lib.hid hr2
  have V1 := Lib.hid (hv1.below hac)
  have V2 := Lib.hid (hv2.below hac)
  have hXs := hac.size
  have HW := Lib.hid hac
  clear hr1 hr2 hv1 hv2 hab hac
  go_enter Try.func5, Try.ntmps5
  go_upto_region 1 with fail
  rw [← hX]
  clear hX
  go_wp2_with fail
  refine (zzFits1_any p1 m1 f1 e1 n1 v1 xs X V1.out).mono ?_
  rintro _ w1 ⟨rfl, hb1⟩
  obtain ⟨fits, hfits⟩ : ∃ f, f = decide (xs.length ≤ 2147483647) := ⟨_, rfl⟩
  rw [← hfits]
  clear hfits x0 x1 x2 x3 x4 x5 y0 y1 y2 y3 y4 y5
  obtain ⟨-, ⟨x0, x1, x2, x3, x4, x5⟩, y0, y1, y2, y3, y4, y5⟩ := ks24 HR1.out HR2.out hb1
  have HB := Lib.hid hb1
  clear hb1
  cases fits with
  | false =>
    go_wp2
    go_ret
    exact ⟨rfl, HW.out.trans (HB.out.mono hXs)⟩
  | true =>
  go_wp2_with fail
  refine (zzFits1_any p2 m2 f2 e2 n2 v2 ys w1 (V2.out.below HB.out)).mono ?_
  rintro _ w2 ⟨rfl, hb1⟩
  obtain ⟨fits, hfits⟩ : ∃ f, f = decide (ys.length ≤ 2147483647) := ⟨_, rfl⟩
  rw [← hfits]
  have hb1 := bthen HB.out hb1
  clear hfits HB x0 x1 x2 x3 x4 x5 y0 y1 y2 y3 y4 y5
  obtain ⟨-, ⟨x0, x1, x2, x3, x4, x5⟩, y0, y1, y2, y3, y4, y5⟩ := ks24 HR1.out HR2.out hb1
  have HB := Lib.hid hb1
  clear hb1
  cases fits with
  | false =>
    go_wp2
    go_ret
    exact ⟨rfl, HW.out.trans (HB.out.mono hXs)⟩
  | true =>
  go_wp2_with fail
  refine (real_any 300 1000 p1 m1 f1 e1 n1 v1 xs w2 (V1.out.below HB.out) (by decide) (by decide)).mono ?_
  rintro _ w3 ⟨ok, rfl, hok, hb1⟩
  have hb1 := bthen HB.out hb1
  have HO1 := Lib.hid hok
  clear HB x0 x1 x2 x3 x4 x5 y0 y1 y2 y3 y4 y5 hok
  obtain ⟨-, ⟨x0, x1, x2, x3, x4, x5⟩, y0, y1, y2, y3, y4, y5⟩ := ks24 HR1.out HR2.out hb1
  have HB := Lib.hid hb1
  clear hb1
  cases ok with
  | false =>
    go_wp2
    go_ret
    exact ⟨rfl, HW.out.trans (HB.out.mono hXs)⟩
  | true =>
  obtain ⟨p', m', f', hp', rfl, rfl, hR1⟩ := HO1.out rfl
  have hpp : p' = p1 := by omega
  subst hpp
  have R1 := Lib.hid hR1
  clear HO1 hp' hR1
  go_wp2_with fail
  refine (real_any 300 1000 p2 m2 f2 e2 n2 v2 ys w3 (V2.out.below HB.out) (by decide) (by decide)).mono ?_
  rintro _ w4 ⟨ok, rfl, hok, hb1⟩
  have hb1 := bthen HB.out hb1
  have HO2 := Lib.hid hok
  clear HB x0 x1 x2 x3 x4 x5 y0 y1 y2 y3 y4 y5 hok
  obtain ⟨-, ⟨x0, x1, x2, x3, x4, x5⟩, y0, y1, y2, y3, y4, y5⟩ := ks24 HR1.out HR2.out hb1
  have HB := Lib.hid hb1
  clear hb1
  cases ok with
  | false =>
    go_wp2
    go_ret
    exact ⟨rfl, HW.out.trans (HB.out.mono hXs)⟩
  | true =>
  obtain ⟨p'', m'', f'', hp'', rfl, rfl, hR2⟩ := HO2.out rfl
  have hpp : p'' = p2 := by omega
  subst hpp
  have R2 := Lib.hid hR2
  clear HO2 hp'' hR2
  go_wp2_with fail
  refine (impCmpF 300 1000 p' m' f' p'' m'' f'' n1 n2 v1 v2 e1 e2 xs ys w4 (V1.out.below HB.out) (V2.out.below HB.out) R1.out R2.out (by decide) (by decide)).mono ?_
  rintro _ w5 ⟨rfl, hb1⟩
  have hb1 := bthen HB.out hb1
  clear HB x0 x1 x2 x3 x4 x5 y0 y1 y2 y3 y4 y5
  have hV1 := V1.out.below hb1
  have hV2 := V2.out.below hb1
  have hr1 := keep_row hb1 HR1.out
  have hr2 := keep_row hb1 HR2.out
  have HB := Lib.hid hb1
  clear V1 V2 HR1 HR2 hb1
  have V1 := Lib.hid hV1
  have V2 := Lib.hid hV2
  have HR1 := Lib.hid hr1
  have HR2 := Lib.hid hr2
  have hcc := Below.refl w5.heap.size w5
  have HWt := Lib.hid (HW.out.trans (HB.out.mono hXs))
  have hWs := HWt.out.size
  clear hV1 hV2 hr1 hr2 HB HW
  obtain ⟨got, hgot⟩ : ∃ g, g = cmpRV f' n1 (wv xs) e1 f'' n2 (wv ys) e2 := ⟨_, rfl⟩
  rw [← hgot]
  have HG := Lib.hid hgot
  clear hgot
  go_wp2_with fail
  first
    | (go_region_held3 (fun w' => Below w5.heap.size w5 w' ∧ (w'.cell? ⟨w.heap.size, 0, none⟩ = some (.int .u64 (p' : Int)) ∧ w'.cell? ⟨w.heap.size, 1, none⟩ = some (.int .i64 (m' : Int)) ∧ w'.cell? ⟨w.heap.size, 2, none⟩ = some (.int .i64 (f' : Int)) ∧ w'.cell? ⟨w.heap.size, 3, none⟩ = some (.bool n1) ∧ w'.cell? ⟨w.heap.size, 4, none⟩ = some v1 ∧ w'.cell? ⟨w.heap.size, 5, none⟩ = some (.int .i64 e1)) ∧ w'.cell? ⟨w.heap.size + 1, 0, none⟩ = some (.int .u64 (p'' : Int)) ∧ w'.cell? ⟨w.heap.size + 1, 1, none⟩ = some (.int .i64 (m'' : Int)) ∧ w'.cell? ⟨w.heap.size + 1, 2, none⟩ = some (.int .i64 (f'' : Int)) ∧ w'.cell? ⟨w.heap.size + 1, 3, none⟩ = some (.bool n2) ∧ w'.cell? ⟨w.heap.size + 1, 4, none⟩ = some v2 ∧ w'.cell? ⟨w.heap.size + 1, 5, none⟩ = some (.int .i64 e2))
        ((refine ks24 HR1.out HR2.out ?_; first | assumption | exact Below.drew hcc))
        (first
          | (go_at_call 19; refine (end_any p'' m'' f'' e2 n2 v2 _ hS2).mono ?_; rintro _ w7 ⟨rfl, hb7⟩; have hb7 := bthen hb6 hb7)
          | (go_at_call 19; refine (end_any p' m' f' e1 n1 v1 _ hS1).mono ?_; rintro _ w6 ⟨rfl, hb6⟩; have hb6 := bthenL hb6 (by assumption))))
    | fail
  all_goals
    go_wp2_with fail
    · go_ret
      exact ⟨congrArg (fun b => Ending.returned (.bool b)) (by rw [HG.out, cmpRV_lt R1.out.form R2.out.form (by assumption)]; rfl), HWt.out.trans (hb7.mono hWs)⟩
    · go_ret
      exact ⟨congrArg (fun b => Ending.returned (.bool b)) (by rw [HG.out, cmpRV_gt R1.out.form R2.out.form (by assumption)]; rfl), HWt.out.trans (hb7.mono hWs)⟩
    · go_ret
      exact ⟨congrArg (fun b => Ending.returned (.bool b)) (by rw [HG.out, cmpRV_eq R1.out.form R2.out.form (by omega) (by simpa using (by assumption : (endV f' n1 != 0) = true))]; rfl), HWt.out.trans (hb7.mono hWs)⟩
    have hc1 : endV f'' n2 ≤ endV f' n1 := by assumption
    have hc2 : endV f' n1 ≤ endV f'' n2 := by assumption
    have hc3 : (endV f' n1 != 0) = false := by assumption
    have hc3' : endV f' n1 = 0 := by simpa using hc3
    have HG2 : Hid (got = wantC f' n1 (wv xs) e1 f'' n2 (wv ys) e2) :=
      Lib.hid (by rw [HG.out]; exact wantC_eq (end0 R1.out.form hc3') (end0 (n := n2) R2.out.form (by omega)) R1.out.pos R2.out.pos)
    have hr1 := keep_row hb7 HR1.out
    have hr2 := keep_row hb7 HR2.out
    have HR1' := Lib.hid hr1
    have HR2' := Lib.hid hr2
    have V1' := Lib.hid (V1.out.below hb7)
    have V2' := Lib.hid (V2.out.below hb7)
    have hcc7 := Below.refl w7.heap.size w7
    have HW7 := Lib.hid (HWt.out.trans (hb7.mono hWs))
    have hs7 := HW7.out.size
    clear hc1 hc2 hc3 hc3' hr1 hr2 HG
    first
      | (go_region_held3 (fun w' => Below w7.heap.size w7 w' ∧ (w'.cell? ⟨w.heap.size, 0, none⟩ = some (.int .u64 (p' : Int)) ∧ w'.cell? ⟨w.heap.size, 1, none⟩ = some (.int .i64 (m' : Int)) ∧ w'.cell? ⟨w.heap.size, 2, none⟩ = some (.int .i64 (f' : Int)) ∧ w'.cell? ⟨w.heap.size, 3, none⟩ = some (.bool n1) ∧ w'.cell? ⟨w.heap.size, 4, none⟩ = some v1 ∧ w'.cell? ⟨w.heap.size, 5, none⟩ = some (.int .i64 e1)) ∧ w'.cell? ⟨w.heap.size + 1, 0, none⟩ = some (.int .u64 (p'' : Int)) ∧ w'.cell? ⟨w.heap.size + 1, 1, none⟩ = some (.int .i64 (m'' : Int)) ∧ w'.cell? ⟨w.heap.size + 1, 2, none⟩ = some (.int .i64 (f'' : Int)) ∧ w'.cell? ⟨w.heap.size + 1, 3, none⟩ = some (.bool n2) ∧ w'.cell? ⟨w.heap.size + 1, 4, none⟩ = some v2 ∧ w'.cell? ⟨w.heap.size + 1, 5, none⟩ = some (.int .i64 e2))
          ((refine ks24 HR1'.out HR2'.out ?_; first | assumption | exact Below.drew hcc7))
          (first
            | (go_at_call 21; refine (ofReal_any 300 1000 p'' m'' f'' e2 n2 v2 ys _ (V2'.out.below hb8) R2.out).mono ?_; rintro _ w9 ⟨_, rfl, ⟨b2, rfl, hd2⟩, hb9⟩; have hd1 := hd1.below hb9; have hT1 := hd1.isS; have hT2 := hd2.isS; have hb9 := bthen hb8 hb9; have D1 := Lib.hid hd1; have D2 := Lib.hid hd2; clear hd1 hd2)
            | (go_at_call 21; refine (ofReal_any 300 1000 p' m' f' e1 n1 v1 xs _ (V1'.out.below (And.left (by assumption))) R1.out).mono ?_; rintro _ w8 ⟨_, rfl, ⟨b1, rfl, hd1⟩, hb8⟩; have hT1 := hd1.isS; have hb8 := bthenL hb8 (by assumption))
            | (go_at_call 20; refine (order_real 300 1000 f' f'' (dyN f' n1) (dyN f'' n2) b1 b2 (dyE f' e1) (dyE f'' e2) (dyM f' (wv xs)) (dyM f'' (wv ys)) _ D1.out D2.out (dy_nl R1.out (by decide)).1 (dy_nl R1.out (by decide)).2.1 (dy_nl R1.out (by decide)).2.2 (dy_nl R2.out (by decide)).1 (dy_nl R2.out (by decide)).2.1 (dy_nl R2.out (by decide)).2.2 (by decide) (by decide)).mono ?_; rintro _ w10 ⟨rfl, hb10⟩; have hb10 := bthen hb9 hb10)))
      | fail
    all_goals
      go_wp2
      go_ret
      exact ⟨congrArg (fun b => Ending.returned (.bool b)) (by rw [HG2.out]; exact beq_self_eq_true _), HW7.out.trans (hb10.mono hs7)⟩
end Go.Proofs.Ytniingblgkghgaa
