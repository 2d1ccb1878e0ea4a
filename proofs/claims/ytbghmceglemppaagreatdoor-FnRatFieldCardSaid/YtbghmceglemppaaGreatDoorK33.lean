/-
Texts of this proof, joined: RmB InO InP RqA InQ InR InS AnQ RqB RqC RcG. No condition.
-/
import Derived.Test.YtbghmceglemppaaGreatDoorK15
import Derived.Test.YtbghmceglemppaaGreatDoorK31
import Derived.Test.YtbghmceglemppaaGreatDoorK32
import Derived.Defers
import Derived.Recover
import Derived.Laws.Pointers
import Derived.Deep.RegionHeld2
/-
impl.RatMul. No condition but the thresholds.
-/
namespace Go.Proofs.YtbghmceglemppaaGreatDoor
open Go.RowKit

theorem natAbs_nwMul (b1 b2 : Bool) (X1 X2 Y1 Y2 : Nat) (_h1 : nw X1 + nw Y2 ≤ 37) (_h2 : nw Y1 + nw X2 ≤ 37) (h3 : nw X1 + nw Y1 ≤ 37) : nw (rI (b1 != b2) (X1 * Y1)).natAbs ≤ 100 := by
  rw [rI_abs]; exact Nat.le_trans (nw_mul_le _ _) (by omega)
set_option maxRecDepth 100000 in
set_option maxHeartbeats 3200000 in
theorem impRatMul (b1 b2 : Bool) (v1 u1 v2 u2 : Value) (ns1 ds1 ns2 ds2 : List Nat) (w : World) (hv1 : RW w v1 ns1) (hu1 : RW w u1 ds1) (hv2 : RW w v2 ns2) (hu2 : RW w u2 ds2)
    (l1 : ns1.length ≤ 30) (l2 : ds1.length ≤ 30) (l3 : ns2.length ≤ 30) (l4 : ds2.length ≤ 30) (l5 : ns1.length + ds2.length ≤ 37) (l6 : ns2.length + ds1.length ≤ 37) (l7 : ds1.length + ds2.length ≤ 37) (l8 : ns1.length + ns2.length ≤ 37) (p1 : 0 < wv ds1) (p2 : 0 < wv ds2) (hK : KarW w) (hT : DivW w) :
    Calls Tryz.prog 36 #[.agg #[.bool b1, v1, u1], .agg #[.bool b2, v2, u2]] w fun e w' => ∃ v, e = .returned v ∧ FracV w' v (rI (b1 != b2) (wv ns1 * wv ns2)) (wv ds1 * wv ds2) ∧ Below w.heap.size w w' := by
  have hS1 := hv1.isS
  have hS2 := hv2.isS
  have hS3 := hu1.isS
  have hS4 := hu2.isS
  obtain ⟨V, hV⟩ : ∃ V : Int, V = rI (b1 != b2) (wv ns1 * wv ns2) := ⟨_, rfl⟩
  obtain ⟨D, hD⟩ : ∃ D : Nat, D = wv ds1 * wv ds2 := ⟨_, rfl⟩
  have hD0 : 0 < D := by rw [hD]; exact Nat.mul_pos p1 p2
  obtain ⟨X, hX⟩ : ∃ X, X = ((w.alloc (.cells #[.bool b1, v1, u1] 43)).alloc (.cells #[.bool b2, v2, u2] 43)).alloc (.cells #[.bool false, .slice none 0 0, .slice none 0 0] 43) := ⟨_, rfl⟩
  have hac : Below w.heap.size w X := by rw [hX]; exact (((Below.refl _ w).alloc (Nat.le_refl _) _).alloc (by simp) _).alloc (by simp; omega) _
  have hr1 : X.heap[w.heap.size]? = some (.cells #[.bool b1, v1, u1] 43 (0, 0)) := by
    rw [hX]; exact keep_row (fbone _) (keep_row (fbone _) (box_row (Below.refl _ _)))
  have hr2 : X.heap[w.heap.size + 1]? = some (.cells #[.bool b2, v2, u2] 43 (0, 0)) := by
    have e : (w.alloc (.cells #[.bool b1, v1, u1] 43)).heap.size = w.heap.size + 1 := by simp
    rw [hX, ← e]; exact keep_row (fbone _) (heap_alloc_new _ _)
  have hr3 : X.heap[w.heap.size + 1 + 1]? = some (.cells #[.bool false, .slice none 0 0, .slice none 0 0] 43 (0, 0)) := by
    have e : ((w.alloc (.cells #[.bool b1, v1, u1] 43)).alloc (.cells #[.bool b2, v2, u2] 43)).heap.size = w.heap.size + 1 + 1 := by simp
    rw [hX, ← e]; exact heap_alloc_new _ _
  have hKX := hK.below hac
  have hTX := hT.below hac
  have dg : 4 < X.heap.size := World.block_lt_of_cell? X _ hTX
  have kg : 3 < X.heap.size := World.block_lt_of_cell? X _ hKX
  have k1 := nw_le (wv_lt hv1.lt)
  have k2 := nw_le (wv_lt hu1.lt)
  have k3 := nw_le (wv_lt hv2.lt)
  have k4 := nw_le (wv_lt hu2.lt)
  have V1 := Lib.hid (hv1.below hac)
  have V2 := Lib.hid (hv2.below hac)
  have U1 := Lib.hid (hu1.below hac)
  have U2 := Lib.hid (hu2.below hac)
  have HR1 := Lib.hid hr1
  have HR2 := Lib.hid hr2
  have HR3 := Lib.hid hr3
  have hwX := Lib.hid hac
  have hcc := Below.refl X.heap.size X
  have hXs := hac.size
  have HF1 : Hid (∀ w', Below X.heap.size X w' → Calls Tryz.prog 82 #[.agg #[.bool b1, v1, u1]] w' fun e w3 => ∃ g, e = .returned (.pointer (some ⟨g, 0, none⟩)) ∧ RatP w3 0 g (b1 && decide (0 < wv ns1)) (wv ns1) (wv ds1) ∧ Below w'.heap.size w' w3) := Lib.hid (fun w' h => by
    refine (rat_any b1 v1 u1 ns1 ds1 w' (V1.out.below h) (U1.out.below h) (by omega) (by omega)).mono ?_
    rintro e w3 ⟨g, h1, h2, h3⟩
    exact ⟨g, h1, h2.mono (Nat.zero_le _), h3⟩)
  have HF2 : Hid (∀ w', Below X.heap.size X w' → Calls Tryz.prog 82 #[.agg #[.bool b2, v2, u2]] w' fun e w3 => ∃ g, e = .returned (.pointer (some ⟨g, 0, none⟩)) ∧ RatP w3 0 g (b2 && decide (0 < wv ns2)) (wv ns2) (wv ds2) ∧ Below w'.heap.size w' w3 ∧ w'.heap.size ≤ g) := Lib.hid (fun w' h => by
    refine (rat_any b2 v2 u2 ns2 ds2 w' (V2.out.below h) (U2.out.below h) (by omega) (by omega)).mono ?_
    rintro e w3 ⟨g, h1, h2, h3⟩
    exact ⟨g, h1, h2.mono (Nat.zero_le _), h3, by obtain ⟨_, _, hb, _⟩ := h2; exact hb⟩)
  have HC : Hid (∀ g g1 g2 w', w'.heap[g]? = some (.cells #[.bool false, .slice none 0 0, .bool false, .slice none 0 0] 113 (0, 0)) → X.heap.size ≤ g → RatP w' 0 g1 (b1 && decide (0 < wv ns1)) (wv ns1) (wv ds1) → RatP w' 0 g2 (b2 && decide (0 < wv ns2)) (wv ns2) (wv ds2) → g1 ≠ g2 → Below X.heap.size X w' →
      Calls Tryz.prog 88 #[.pointer (some ⟨g, 0, none⟩), .pointer (some ⟨g1, 0, none⟩), .pointer (some ⟨g2, 0, none⟩)] w' fun e w4 => e = .returned (.pointer (some ⟨g, 0, none⟩)) ∧ RatP w4 X.heap.size g (decide (V < 0)) (V.natAbs / Nat.gcd V.natAbs D) (D / Nat.gcd V.natAbs D) ∧ Below X.heap.size X w4) := Lib.hid (fun g g1 g2 w' hg hg0 h1 h2 hgg h3 => by
    obtain ⟨vx, ux, -, rx, ox1, ox2⟩ := h1
    obtain ⟨vy, uy, -, ry, oy1, oy2⟩ := h2
    have e0 : ((b1 && decide (0 < wv ns1)) != (b2 && decide (0 < wv ns2)) && decide (0 < wv ns1 * wv ns2)) = decide (V < 0) := by
      rw [hV, rI_neg]
      rcases Nat.eq_zero_or_pos (wv ns1) with h | h
      · rw [h, Nat.zero_mul]; simp
      · rcases Nat.eq_zero_or_pos (wv ns2) with h' | h'
        · rw [h', Nat.mul_zero]; simp
        · rw [decide_eq_true h, decide_eq_true h', Bool.and_true, Bool.and_true]
    have a1 : wv ns1 * wv ns2 = V.natAbs := by rw [hV, rI_abs]
    have k5 : nw (wv ns1 * wv ns2) < 40 := Nat.lt_of_le_of_lt (nw_mul_le _ _) (by omega)
    refine (ratMul_any g g1 g2 X.heap.size false _ _ (.slice none 0 0) (.slice none 0 0) vx ux vy uy [] [] (wv ns1) (wv ds1) (wv ns2) (wv ds2) w' hg (Own.nil _ _ _) (Own.nil _ _ _) (fun h => absurd h nil_cap) rx (ox1.ro (fun d hd => wds_lt hd)) (ox2.ro (fun d hd => wds_lt hd)) ry (oy1.ro (fun d hd => wds_lt hd)) (oy2.ro (fun d hd => wds_lt hd)) hgg (fun h => absurd h nil_cap) (fun h => absurd h nil_cap)
      (mlP_nil vx vy _ _ _ (.inl (by omega)) (by omega) (by omega)) (mulDenom_nil ux uy _ _ _ p1 p2 (by omega) (by omega)) p1 p2 k5 (Nat.lt_of_le_of_lt (nw_mul_le _ _) (by omega)) hg0 (hKX.below h3) (hTX.below h3) dg kg).mono ?_
    rintro e w4 ⟨h4, h5, h6⟩
    have e1 : ((decide (0 < wv ns1 * wv ns2) && ((b1 && decide (0 < wv ns1)) != (b2 && decide (0 < wv ns2)))) && decide (0 < wv ns1 * wv ns2)) = decide (V < 0) := by
      rw [← e0, Bool.and_comm (decide (0 < wv ns1 * wv ns2)), Bool.and_assoc, Bool.and_self]
    rw [e1, a1, ← hD] at h5
    exact ⟨h4, h5, h3.trans h6⟩)
  have HFR : Hid (∀ g w', RatP w' X.heap.size g (decide (V < 0)) (V.natAbs / Nat.gcd V.natAbs D) (D / Nat.gcd V.natAbs D) → Below X.heap.size X w' → Calls Tryz.prog 72 #[.pointer (some ⟨g, 0, none⟩)] w' fun e w4 => ∃ r1 r2, e = .returned (.agg #[.bool (decide (V < 0)), r1, r2]) ∧ IsS r1 ∧ IsS r2 ∧ RW w4 r1 (wds (V.natAbs / Nat.gcd V.natAbs D)) ∧ RW w4 r2 (wds (D / Nat.gcd V.natAbs D)) ∧ Below X.heap.size X w4) := Lib.hid (fun g w' h1 h2 => by
    have n1 : nw V.natAbs ≤ 100 := by rw [hV]; exact natAbs_nwMul b1 b2 _ (wv ds1) _ (wv ds2) (by omega) (by omega) (by omega)
    have n2 : nw D ≤ 100 := by rw [hD]; exact Nat.le_trans (nw_mul_le _ _) (by omega)
    refine (frac_any g X.heap.size (decide (V < 0)) _ _ w' h1 (gcd_div_pos hD0) (Nat.le_trans (nw_mono (Nat.div_le_self _ _)) (by omega)) (Nat.le_trans (nw_mono (Nat.div_le_self _ _)) (by omega))).mono ?_
    rintro e w4 ⟨r1, r2, h4, h5, h6, h7⟩
    refine ⟨r1, r2, ?_, h5.isS, h6.isS, h5, h6, bthen h2 h7⟩
    rw [h4, neg_div V hD0])
  rw [← hV, ← hD]
  clear hv1 hv2 hu1 hu2 hac hr1 hr2 hr3 hK hT hKX hTX dg kg k1 k2 k3 k4 l1 l2 l3 l4 l5 l6 l7 l8 p1 p2 hV hD
  obtain ⟨N1, hN1⟩ : ∃ N1, N1 = V.natAbs / Nat.gcd V.natAbs D := ⟨_, rfl⟩
  obtain ⟨N2, hN2⟩ : ∃ N2, N2 = D / Nat.gcd V.natAbs D := ⟨_, rfl⟩
  rw [← hN1, ← hN2] at HC HFR
  have HN := Lib.hid (And.intro hN1 hN2)
  obtain ⟨sg, hsg⟩ : ∃ sg, sg = decide (V < 0) := ⟨_, rfl⟩
  rw [← hsg] at HC HFR
  have HG := Lib.hid hsg
  clear hN1 hN2 hsg
  go_enter Tryz.func36, Tryz.ntmps36
  go_upto_region 1 with fail
  rw [← hX]
  clear hX
  first
    | (go_region_held3 (fun w' => Below w.heap.size w w' ∧ w'.cell? ⟨w.heap.size, 0, none⟩ = some (.bool b1) ∧ w'.cell? ⟨w.heap.size, 1, none⟩ = some v1 ∧ w'.cell? ⟨w.heap.size, 2, none⟩ = some u1 ∧ w'.cell? ⟨w.heap.size + 1, 0, none⟩ = some (.bool b2) ∧ w'.cell? ⟨w.heap.size + 1, 1, none⟩ = some v2 ∧ w'.cell? ⟨w.heap.size + 1, 2, none⟩ = some u2)
        ((first | (refine ksP2 HR1.out HR2.out hwX.out hXs ?_; (repeat (with_reducible first | assumption | refine Below.drew ?_ | refine ballc ?_ _)); done) | (refine ksP2S (by omega) (by omega) (by omega) (ksP2S (by omega) (by omega) (by omega) (ksP2S (by omega) (by omega) (by omega) (ksP2 HR1.out HR2.out hwX.out hXs ?_))); with_reducible assumption)))
        (first
          | (go_at_call 72; (with_reducible refine (HFR.out _ _ hrat hb5).mono ?_); rintro _ w6 ⟨r1, r2, rfl, hT1, hT2, hw1, hw2, hb6⟩; have W1 := Lib.hid hw1; have W2 := Lib.hid hw2; have HRw := Lib.hid (keep_row hb6 HR3.out); obtain ⟨z0, z1, z2, z3, z4, z5⟩ := row3 HRw.out; clear hw1 hw2)
          | (go_at_call 88; first
              | (with_reducible refine (HC.out _ _ _ _ hrU2 (Nat.le_refl _) G1.out G2.out hg12 hb4).mono ?_)
              | (with_reducible refine (HC.out _ _ _ _ hrV2 hz3 G1.out G2.out hg12 hb4).mono ?_)
              | (with_reducible refine (HC.out _ _ _ _ (heap_alloc_new w4 _) hz4 (G1.out.below (fbone _)) (G2.out.below (fbone _)) hg12 (ballc hb4 _)).mono ?_)
             rintro _ w5 ⟨rfl, hrat, hb5⟩)
          | (go_at_call 82; (with_reducible refine (HF2.out _ (by repeat (with_reducible first | assumption | refine Below.drew ?_ | refine ballc ?_ _))).mono ?_); rintro _ w4 ⟨g2, rfl, hG2, hb34, hbase⟩; have hg12 : g1 ≠ g2 := Nat.ne_of_lt (Nat.lt_of_lt_of_le (by first | exact hF1.lt | exact (hF1.below (fbone _)).lt) hbase); have G1 := Lib.hid (show RatP w4 0 g1 (b1 && decide (0 < wv ns1)) (wv ns1) (wv ds1) from by first | exact hF1.below hb34 | exact (hF1.below (fbone _)).below hb34); have G2 := Lib.hid hG2; clear hF1 hG2; have hb4 : Below X.heap.size X w4 := bthen (by repeat (with_reducible first | assumption | refine Below.drew ?_ | refine ballc ?_ _)) hb34; have hz4 := hb4.size;
              (first | (have hrU2 := keep_row hb34 hrU) | (have hrV2 := box_row hb34) | skip))
          | (go_at_call 82; (with_reducible refine (HF1.out _ (by repeat (with_reducible first | assumption | refine Below.drew ?_ | refine ballc ?_ _))).mono ?_); rintro _ w3 ⟨g1, rfl, hF1, hb3'⟩; have hb3 : Below X.heap.size X w3 := bthen (by repeat (with_reducible first | assumption | refine Below.drew ?_ | refine ballc ?_ _)) hb3'; have hz3 := hb3.size;
              (first | (have hrU := box_rowD hb3') | skip))))
    | fail
  all_goals
    go_wp2
    obtain ⟨hx0, hx1, hx2, -, -, -⟩ := row3 (row3_set (x := .bool sg) (y := r1) (z := r2) HRw.out)
    refine bodyPost_ret (v := .agg #[.bool sg, r1, r2]) ?_ rfl ⟨_, rfl, ⟨r1, r2, by rw [HG.out], ?_, ?_⟩, bset (bset (bset (hwX.out.trans (hb6.mono hXs)) (by omega)) (by omega)) (by omega)⟩
    · simp [results, Tryz.results36, go_sem, hx0, hx1, hx2]
    · rw [← HN.out.1]; exact rw_row3 (x := .bool sg) (y := r1) (z := r2) W1.out IsS.nil IsS.nil HRw.out
    · rw [← HN.out.2]; exact rw_row3 (x := .bool sg) (y := r1) (z := r2) W2.out IsS.nil IsS.nil HRw.out
end Go.Proofs.YtbghmceglemppaaGreatDoor

/-
The statements on a fraction's magnitude and on a fraction with its sign turned. No condition.
-/
namespace Go.Proofs.YtbghmceglemppaaGreatDoor
open Go.RowKit

theorem isFrac_same (x neg : Bool) (n d : Nat) (h : x = (neg && decide (0 < n))) : isFrac x (wds n) (wds d) neg n d = true := by
  unfold isFrac isNum; rw [h]; simp
end Go.Proofs.YtbghmceglemppaaGreatDoor

/-
The package's fractions: Inv; what calls it and tells of a panic. No condition.
-/
namespace Go.Proofs.YtbghmceglemppaaGreatDoor
open Go.RowKit

/-- The panic's text: division by zero. -/
def divZero : List PanicEntry := [{ v := .iface 9 (.string ⟨#[100, 105, 118, 105, 115, 105, 111, 110, 32, 98, 121, 32, 122, 101, 114, 111]⟩), recovered := false }]
end Go.Proofs.YtbghmceglemppaaGreatDoor

/-
Rat.Quo into a new fraction. No condition but the thresholds.
-/
namespace Go.Proofs.YtbghmceglemppaaGreatDoor
open Go.RowKit

set_option maxRecDepth 100000 in
set_option maxHeartbeats 3200000 in
theorem ratQuo_zero (z x y Y2 : Nat) (n : Bool) (w : World) (hy : RatP w 0 y n 0 Y2) :
    Calls Tryz.prog 93 #[.pointer (some ⟨z, 0, none⟩), .pointer (some ⟨x, 0, none⟩), .pointer (some ⟨y, 0, none⟩)] w fun e w' => e = .panicked divZero ∧ Below w.heap.size w w' := by
  obtain ⟨vy, uy, -, ry, oy1, oy2⟩ := hy
  have hS := oy1.isS
  have hL : sLen vy = 0 := oy1.len
  obtain ⟨W, hW⟩ : ∃ W, W = w.alloc (.cells #[.pointer none] 226) := ⟨_, rfl⟩
  have hbw : Below w.heap.size w W := by rw [hW]; exact fbone _
  have c1 : W.cell? ⟨y, 1, none⟩ = some vy := (row_at (i := 1) (keep_row hbw ry) rfl).1
  have hst : W.cell? ⟨w.heap.size, 0, none⟩ = some (.pointer none) := by rw [hW]; exact (row_at (i := 0) (heap_alloc_new w (.cells #[.pointer none] 226)) rfl).1
  have HW := Lib.hid hW
  clear ry oy1 oy2 hW
  go_enter_defers Tryz.func93, Tryz.ntmps93
  go_wp2_with fail
  refine (getStack_any _).mono ?_
  rintro _ _ ⟨rfl, rfl⟩
  rw [← HW.out]
  go_wp2
  refine leaves_cons (f := 135) (args := #[.pointer (some ⟨w.heap.size, 0, none⟩)]) (by simp) (by simp [go_sem]) ?_
  refine (free_d w.heap.size _ _ hst).mono ?_
  rintro e u' w'' ⟨rfl, rfl, rfl⟩
  simp [Leaves, settle, go_sem, divZero]
  exact hbw
set_option maxRecDepth 100000 in
set_option maxHeartbeats 3200000 in
theorem ratQuo_any (z x y B : Nat) (m n : Bool) (X1 X2 Y1 Y2 : Nat) (w : World)
    (hz : w.heap[z]? = some (.cells #[.bool false, .slice none 0 0, .bool false, .slice none 0 0] 113 (0, 0)))
    (hx : RatP w 0 x m X1 X2) (hy : RatP w 0 y n Y1 Y2) (p1 : 0 < X2) (p2 : 0 < Y2) (p3 : 0 < Y1) (k1 : nw X1 < 40) (k2 : nw X2 < 40) (k3 : nw Y1 < 40) (k4 : nw Y2 < 40)
    (k5 : nw (X1 * Y2) < 40) (k6 : nw (Y1 * X2) < 40) (hB : B ≤ z) (hK : KarW w) (hT : DivW w) (dg : 4 < B) :
    Calls Tryz.prog 93 #[.pointer (some ⟨z, 0, none⟩), .pointer (some ⟨x, 0, none⟩), .pointer (some ⟨y, 0, none⟩)] w fun e w' => e = .returned (.pointer (some ⟨z, 0, none⟩)) ∧ RatP w' B z ((m != n) && decide (0 < X1 * Y2)) (X1 * Y2 / Nat.gcd (X1 * Y2) (Y1 * X2)) (Y1 * X2 / Nat.gcd (X1 * Y2) (Y1 * X2)) ∧ Below B w w' := by
  obtain ⟨vx, ux, -, rx, ox1, ox2⟩ := hx
  obtain ⟨vy, uy, -, ry, oy1, oy2⟩ := hy
  have hSx := ox2.isS
  have hSy := oy2.isS
  have hSy1 := oy1.isS
  have hxl : x < w.heap.size := get_lt rx
  have hyl : y < w.heap.size := get_lt ry
  have hzl : z < w.heap.size := get_lt hz
  obtain ⟨l, hl⟩ : ∃ l, l = nw Y1 := ⟨_, rfl⟩
  have hLy : sLen vy = l := by rw [oy1.len, cellsW_length, wds_length, hl]
  have hl0 : 0 < l := by rw [hl]; exact nw_pos p3
  have t0 : ((l : Int) == 0) = false := by rw [beq_eq_false_iff_ne]; omega
  have t1 : decide (l = 0) = false := decide_eq_false (by omega)
  obtain ⟨s, hs⟩ : ∃ s, s = w.heap.size := ⟨_, rfl⟩
  obtain ⟨W0, hW0⟩ : ∃ W, W = w.alloc (.cells #[.pointer none] 226) := ⟨_, rfl⟩
  obtain ⟨W, hW⟩ : ∃ W, W = (W0.alloc (.cells #[.bool false, .slice none 0 0] 111)).alloc (.cells #[.bool false, .slice none 0 0] 111) := ⟨_, rfl⟩
  have hW0z : W0.heap.size = s + 1 := by rw [hW0, hs]; simp
  have hWz : W.heap.size = s + 3 := by rw [hW]; simp [hW0z]
  have hbW0 : Below s w W0 := by rw [hW0, hs]; exact fbone _
  have hb0 : Below w.heap.size w W0 := by rw [hW0]; exact fbone _
  have hbW : Below s w W := by rw [hW]; exact (hbW0.alloc (by omega) _).alloc (by simp [hW0z]; omega) _
  have rs : W.heap[s]? = some (.cells #[.pointer none] 226 (0, 0)) := by rw [hW]; exact keep_row (fbone _) (keep_row (fbone _) (by rw [hW0, hs]; exact heap_alloc_new _ _))
  have ra : W.heap[s + 1]? = some (.cells #[.bool false, .slice none 0 0] 111 (0, 0)) := by
    rw [hW, ← hW0z]; exact keep_row (fbone _) (heap_alloc_new _ _)
  have rb : W.heap[s + 2]? = some (.cells #[.bool false, .slice none 0 0] 111 (0, 0)) := by
    have e : (W0.alloc (.cells #[.bool false, .slice none 0 0] 111)).heap.size = s + 2 := by simp [hW0z]
    rw [hW, ← e]; exact heap_alloc_new _ _
  have rzW := hbW.block z (by omega) |>.trans hz
  have rxW := hbW.block x (by omega) |>.trans rx
  have ryW := hbW.block y (by omega) |>.trans ry
  have hbw : Below w.heap.size w W := by rw [← hs]; exact hbW
  have HA : Hid (∀ w0, Below W.heap.size W w0 → Calls Tryz.prog 138 #[.pointer (some ⟨s + 1, 0, none⟩), .pointer (some ⟨s, 0, none⟩), .pointer (some ⟨x, 0, none⟩), uy] w0 fun e w' => e = .returned (.tuple #[]) ∧ ScP (s + 1) m (X1 * Y2) W w') := Lib.hid (fun w0 h0 => by
    refine (scale_any (s + 1) x m vx uy X1 Y2 _ _ w0 (keep_row h0 ra) (keep_row h0 rxW) rfl rfl (by omega) (((ox1.ro (fun d hd => wds_lt hd)).below hbw).below h0) (((oy2.ro (fun d hd => wds_lt hd)).below hbw).below h0) p2 (by omega) (by omega) ((hK.below hbw).below h0)).mono ?_
    rintro e w' ⟨h1, h2⟩
    exact ⟨h1, h2.pre h0 (by omega)⟩)
  have HB : Hid (∀ w1, ScP (s + 1) m (X1 * Y2) W w1 → ∀ w0, Below w1.heap.size w1 w0 → Calls Tryz.prog 138 #[.pointer (some ⟨s + 2, 0, none⟩), .pointer (some ⟨s, 0, none⟩), .pointer (some ⟨y, 0, none⟩), ux] w0 fun e w' => e = .returned (.tuple #[]) ∧ ScP (s + 2) n (Y1 * X2) w1 w') := Lib.hid (fun w1 hsc w0 h0 => by
    have hz1 := hsc.below.size
    have hw1 : Below w.heap.size w w1 := by rw [← hs]; exact hbW.trans (hsc.below.mono (by omega))
    have g1 := (hsc.only (s + 2) (by omega) (by omega)).trans rb
    have g2 := (hsc.only y (by omega) (by omega)).trans ryW
    refine (scale_any (s + 2) y n vy ux Y1 X2 _ _ w0 (keep_row h0 g1) (keep_row h0 g2) rfl rfl (by omega) (((oy1.ro (fun d hd => wds_lt hd)).below hw1).below h0) (((ox2.ro (fun d hd => wds_lt hd)).below hw1).below h0) p1 (by omega) (by omega) ((hK.below hw1).below h0)).mono ?_
    rintro e w' ⟨h1, h2⟩
    exact ⟨h1, h2.pre h0 (by omega)⟩)
  have HC : Hid (∀ w1, ScP (s + 1) m (X1 * Y2) W w1 → ∀ w2, ScP (s + 2) n (Y1 * X2) w1 w2 → ∃ r1 r2, IsS r1 ∧ IsS r2 ∧ w2.heap[s + 1]? = some (.cells #[.bool m, r1] 111 (0, 0)) ∧ w2.heap[s + 2]? = some (.cells #[.bool n, r2] 111 (0, 0)) ∧ w2.heap[z]? = some (.cells #[.bool false, .slice none 0 0, .bool false, .slice none 0 0] 113 (0, 0)) ∧
      Calls Tryz.prog 124 #[.pointer (some ⟨z, 0, none⟩)] (((w2.setCell ⟨z, 1, none⟩ r1).setCell ⟨z, 3, none⟩ r2).setCell ⟨z, 0, none⟩ (.bool (!(m == n)))) fun e w' => e = .returned (.pointer (some ⟨z, 0, none⟩)) ∧ w'.cell? ⟨s, 0, none⟩ = some (.pointer none) ∧ RatP w' B z ((m != n) && decide (0 < X1 * Y2)) (X1 * Y2 / Nat.gcd (X1 * Y2) (Y1 * X2)) (Y1 * X2 / Nat.gcd (X1 * Y2) (Y1 * X2)) ∧ Below B w w') := Lib.hid (fun w1 h1 w2 h2 => by
    obtain ⟨r1, g1, o1⟩ := h1.row
    obtain ⟨r2, g2, o2⟩ := h2.row
    have hz1 := h1.below.size
    have hz2 := h2.below.size
    have g1' := (h2.only (s + 1) (by omega) (by omega)).trans g1
    have o1' : Own w2 W.heap.size 181 r1 (cellsW (wds (X1 * Y2))) := o1.same fun hc => h2.only _ (o1.lt hc).2 (by have := (o1.lt hc).1; omega)
    have hbw2 : Below w.heap.size w w2 := by rw [← hs]; exact (hbW.trans (h1.below.mono (by omega))).trans (h2.below.mono (by omega))
    have rz2 : w2.heap[z]? = some (.cells #[.bool false, .slice none 0 0, .bool false, .slice none 0 0] 113 (0, 0)) := keep_row hbw2 hz
    have rs2 : w2.heap[s]? = some (.cells #[.pointer none] 226 (0, 0)) := ((h2.only s (by omega) (by omega)).trans (h1.only s (by omega) (by omega))).trans rs
    have q1 := rowset (i := 1) r1 rz2
    have q2 := rowset (i := 3) r2 q1
    have q3 := rowset (i := 0) (.bool (!(m == n))) q2
    have oa := (((o1'.mono (show B ≤ W.heap.size by omega)).away rz2 (by decide) 1 r1).away q1 (by decide) 3 r2).away q2 (by decide) 0 (.bool (!(m == n)))
    have ob := (((o2.mono (show B ≤ w1.heap.size by omega)).away rz2 (by decide) 1 r1).away q1 (by decide) 3 r2).away q2 (by decide) 0 (.bool (!(m == n)))
    have hbz : Below B w (((w2.setCell ⟨z, 1, none⟩ r1).setCell ⟨z, 3, none⟩ r2).setCell ⟨z, 0, none⟩ (.bool (!(m == n)))) := bset (bset (bset (hbw2.mono (by omega)) hB) hB) hB
    have rs3 : (((w2.setCell ⟨z, 1, none⟩ r1).setCell ⟨z, 3, none⟩ r2).setCell ⟨z, 0, none⟩ (.bool (!(m == n)))).heap[s]? = some (.cells #[.pointer none] 226 (0, 0)) := by
      rw [heap_setCell_other _ _ _ _ (by simp only; omega), heap_setCell_other _ _ _ _ (by simp only; omega), heap_setCell_other _ _ _ _ (by simp only; omega)]
      exact rs2
    refine ⟨r1, r2, o1.isS, o2.isS, g1', g2, rz2, (norm_full z B (X1 * Y2) (Y1 * X2) _ r1 r2 _ q3 oa ob (fun a b => ?_) (Nat.mul_pos p3 p1) k5 k6 hB (hT.belowB hbz dg) dg).mono ?_⟩
    · have e1 := (o1'.lt a).1
      have e2 := (o1.lt a).2
      have e3 := (o2.lt b).1
      omega
    · rintro e w' ⟨he, hn⟩
      refine ⟨he, ?_, hn.rat, hbz.trans hn.bl⟩
      have h5 := hn.fr s (get_lt rs3) (by omega) (fun hc => oa.neRow rs3 (by decide) hc) (fun hc => ob.neRow rs3 (by decide) hc)
      exact (row_at (i := 0) (h5.trans rs3) rfl).1)
  have HX : Hid (∀ w1, ScP (s + 1) m (X1 * Y2) W w1 → w1.cell? ⟨x, 3, none⟩ = some ux) := Lib.hid (fun w1 h1 => (row_at (i := 3) ((h1.only x (by omega) (by omega)).trans rxW) rfl).1)
  have c1 : W0.cell? ⟨y, 1, none⟩ = some vy := (row_at (i := 1) (keep_row hb0 ry) rfl).1
  have c3 := (row_at (i := 3) ryW rfl).1
  have hQo : ∀ w', (Ending.outgrown = Ending.returned (.pointer (some ⟨z, 0, none⟩)) ∧ RatP w' B z ((m != n) && decide (0 < X1 * Y2)) (X1 * Y2 / Nat.gcd (X1 * Y2) (Y1 * X2)) (Y1 * X2 / Nat.gcd (X1 * Y2) (Y1 * X2)) ∧ Below B w w') → False := fun _ h => by cases h.1
  have HW' := Lib.hid hW
  have HW0 := Lib.hid hW0
  have HWZ := Lib.hid hW0z
  have HSs := Lib.hid hs
  clear hz rx ox1 ox2 ry oy1 oy2 p1 p2 p3 k1 k2 k3 k4 k5 k6 hB hK hT dg ra rb rs rzW rxW ryW hbw hbW hWz hxl hyl hzl hs hW hW0 hW0z hbW0 hb0 hl hl0
  go_enter_defers Tryz.func93, Tryz.ntmps93
  go_wp2_with fail
  refine (getStack_any _).mono ?_
  rintro _ _ ⟨rfl, rfl⟩
  rw [← HW0.out, ← HSs.out]
  go_upto_region 6 with fail
  rw [← HW'.out]
  simp only [HWZ.out, Nat.add_assoc, Nat.reduceAdd]
  (refine wp_region_noPanic ?_; refine wp_region_hoist 9 (by kernel_rfl) (by kernel_rfl) ⟨fun _ _ _ h => h, fun _ w'' h => hQo w'' h⟩ ?_; simp only [List.take_succ_cons, List.take_zero, List.drop_succ_cons, List.drop_zero]; (repeat (go_big_quiet_step (fail))); refine wpQuiet_nil ?_; rintro _ ⟨nq, rfl⟩)
  go_wp2_with fail
  refine (HA.out _ (undrewN' (Below.refl _ _))).mono ?_
  rintro _ w1 ⟨rfl, hsc⟩
  have HS1 := Lib.hid hsc
  have d3 := HX.out w1 hsc
  clear hsc
  go_wp2_with fail
  refine NoPanic.normal ?_
  go_upto_region 7 with fail
  (refine wp_region_noPanic ?_; refine wp_region_hoist 9 (by kernel_rfl) (by kernel_rfl) ⟨fun _ _ _ h => h, fun _ w'' h => hQo w'' h⟩ ?_; simp only [List.take_succ_cons, List.take_zero, List.drop_succ_cons, List.drop_zero]; (repeat (go_big_quiet_step (fail))); refine wpQuiet_nil ?_; rintro _ ⟨nq, rfl⟩)
  go_wp2_with fail
  refine (HB.out w1 HS1.out _ (undrewN' (Below.refl _ _))).mono ?_
  rintro _ w2 ⟨rfl, hsd⟩
  obtain ⟨r1, r2, hSr1, hSr2, g1, g2, g3, hcc⟩ := HC.out w1 HS1.out w2 hsd
  have HCC := Lib.hid hcc
  clear hsd hcc c3 d3
  go_wp2_with fail
  refine NoPanic.normal ?_
  have q1 := rowset (i := 1) r1 g3
  have q2 := rowset (i := 3) r2 q1
  have hne1 : s + 1 ≠ z := fun hc => by rw [hc, g3] at g1; injection g1 with g1; injection g1 with _ g1; exact absurd g1 (by decide)
  have hne2 : s + 2 ≠ z := fun hc => by rw [hc, g3] at g2; injection g2 with g2; injection g2 with _ g2; exact absurd g2 (by decide)
  obtain ⟨a0, -⟩ := row_at (i := 0) g1 rfl
  obtain ⟨a1, -⟩ := row_at (i := 1) g1 rfl
  obtain ⟨z1, y1⟩ := row_at (i := 1) g3 rfl
  have b1 : (w2.setCell ⟨z, 1, none⟩ r1).cell? ⟨s + 2, 1, none⟩ = some r2 := (cell_other (by simpa using Ne.symm hne2)).trans (row_at (i := 1) g2 rfl).1
  obtain ⟨z3, y3⟩ := row_at (i := 3) q1 rfl
  have b0 : ((w2.setCell ⟨z, 1, none⟩ r1).setCell ⟨z, 3, none⟩ r2).cell? ⟨s + 2, 0, none⟩ = some (.bool n) := (cell_other (by simpa using Ne.symm hne2)).trans ((cell_other (by simpa using Ne.symm hne2)).trans (row_at (i := 0) g2 rfl).1)
  have b2 : ((w2.setCell ⟨z, 1, none⟩ r1).setCell ⟨z, 3, none⟩ r2).cell? ⟨s + 1, 0, none⟩ = some (.bool m) := (cell_other (by simpa using Ne.symm hne1)).trans ((cell_other (by simpa using Ne.symm hne1)).trans a0)
  obtain ⟨z0, y0⟩ := row_at (i := 0) q2 rfl
  clear g1 g2 g3 q1 q2 hne1 hne2 a0
  go_wp2_with fail
  refine HCC.out.mono ?_
  rintro _ w5 ⟨rfl, hst, hrt, hbl⟩
  have HQ := Lib.hid (And.intro hrt hbl)
  clear hrt hbl
  go_wp2
  refine leaves_cons (f := 135) (args := #[.pointer (some ⟨s, 0, none⟩)]) (by simp) (by simp [go_sem]) ?_
  refine (free_d s _ _ hst).mono ?_
  rintro e u' w'' ⟨rfl, rfl, rfl⟩
  simp [Leaves, settle, results, Tryz.results93, go_sem]
  exact HQ.out
end Go.Proofs.YtbghmceglemppaaGreatDoor

/-
What calls Inv and tells of a panic: RatInv's closures, guarded, answered. No condition.
-/
namespace Go.Proofs.YtbghmceglemppaaGreatDoor
open Go.RowKit

/-- A box of a closure. -/
theorem rowF {w : World} {k T : Nat} {a : Value} (h : w.heap[k]? = some (.cells #[a] T (0, 0))) : w.cell? ⟨k, 0, none⟩ = some a ∧ w.frozen? ⟨k, 0, none⟩ = false :=
  ⟨by rw [cell_of_row w k 0 _ _ _ h]; rfl, frozen_of_row w k 0 _ _ h⟩
end Go.Proofs.YtbghmceglemppaaGreatDoor

/-
guarded, answered. No condition.
-/
namespace Go.Proofs.YtbghmceglemppaaGreatDoor
open Go.RowKit

/-- Words are as they were where a box of one Bool is written. -/
theorem RW.awayB {w : World} {g T : Nat} {v : Value} {ds : List Nat} {a : Bool} {u : Value} (hv : RW w v ds) (h : w.heap[g]? = some (.cells #[.bool a] T (0, 0))) : RW (w.setCell ⟨g, 0, none⟩ u) v ds := by
  refine ⟨⟨hv.ri.isS, hv.ri.len, fun i hi => ?_⟩, hv.lt⟩
  have hcell := hv.ri.cell i hi
  have hne : sBlk v ≠ g := by
    intro he
    rw [he, cell_of_row w g _ _ _ _ h] at hcell
    rcases Nat.lt_or_ge (sOff v + i) 1 with h3 | h3
    · rw [show sOff v + i = 0 by omega] at hcell; simp at hcell
    · rw [Array.getElem?_eq_none (by simpa using h3)] at hcell; cases hcell
  exact (World.cell?_of_block (heap_setCell_other _ _ _ _ (by simpa using hne))).trans hcell
theorem catch_panicking (p : Addr) (x : Bool) (u : TypeId) (pv : Value) (older : List PanicEntry) (w : World) (hc : w.cell? p = some (.bool x)) (hz : w.frozen? p = false) :
    CallsD Tryz.prog 201 #[.pointer (some p)] (.panicking ({ v := .iface u pv, recovered := false } :: older)) w fun e u' w' =>
      e = .returned (.tuple #[]) ∧ u' = .panicking ({ v := .iface u pv, recovered := true } :: older) ∧ w' = w.setCell p (.bool true) := by
  refine callsD_of_wpS Tryz.func201 rfl fun c₀ cs hu => ?_
  apply wpS_region
  simp [wpOpsS, go_sem, recoverD, hu, Tryz.ntmps201, hc, hz, bodyPostS, results, Tryz.results201]
theorem catch_idle (p : Addr) (x : Bool) (w : World) (hc : w.cell? p = some (.bool x)) (hz : w.frozen? p = false) :
    CallsD Tryz.prog 201 #[.pointer (some p)] .returning w fun e u' w' => e = .returned (.tuple #[]) ∧ u' = .returning ∧ w' = w.setCell p (.bool false) := by
  refine callsD_of_wpS Tryz.func201 rfl fun c₀ cs hu => ?_
  apply wpS_region
  simp [wpOpsS, go_sem, recoverD, hu, Tryz.ntmps201, hc, hz]
  cases c₀
  simp_all [bodyPostS, results, Tryz.results201]
end Go.Proofs.YtbghmceglemppaaGreatDoor

/-
answered, RatInv, Upside. No condition.
-/
namespace Go.Proofs.YtbghmceglemppaaGreatDoor
open Go.RowKit

theorem rows3 (w : World) (o1 o2 o3 : Obj) : ((w.alloc o1).alloc o2).alloc o3 = ((w.alloc o1).alloc o2).alloc o3 ∧ True := ⟨rfl, trivial⟩
theorem heap_new0 (w : World) {cs : Array Value} {T : TypeId} {W : World} (hb : Below (w.alloc (.cells cs T)).heap.size (w.alloc (.cells cs T)) W) {k : Nat} (hk : k = w.heap.size) : W.heap[k]? = some (.cells cs T (0, 0)) := by subst hk; exact box_row hb
theorem bone {W : World} (o : Obj) : Below W.heap.size W (W.alloc o) := (Below.refl _ _).alloc (Nat.le_refl _) _
theorem RW.awayR {w : World} {g T : Nat} {v : Value} {ds : List Nat} {a : Bool} {b c : Value} {x y z : Value} (hv : RW w v ds) (hb : IsS b) (hc : IsS c) (h : w.heap[g]? = some (.cells #[.bool a, b, c] T (0, 0))) : RW (((w.setCell ⟨g, 0, none⟩ x).setCell ⟨g, 1, none⟩ y).setCell ⟨g, 2, none⟩ z) v ds := rw_row3 hv hb hc h
end Go.Proofs.YtbghmceglemppaaGreatDoor

/-
answered over whatever closure, by what the closure does. No condition.
-/
namespace Go.Proofs.YtbghmceglemppaaGreatDoor
open Go.RowKit

/-- The closure panics, for a division by zero. -/
def ClZQ (k k9 : Nat) (w : World) : Prop := ∀ w', Below w.heap.size w w' → Calls Tryz.prog 92 #[.pointer (some ⟨k, 0, none⟩), .pointer (some ⟨k9, 0, none⟩)] w' fun e w2 => e = .panicked divZero ∧ Below w'.heap.size w' w2
/-- The closure tells a fraction. -/
def ClOQ (k k9 : Nat) (neg : Bool) (N D : Nat) (w : World) : Prop := ∀ w', Below w.heap.size w w' → Calls Tryz.prog 92 #[.pointer (some ⟨k, 0, none⟩), .pointer (some ⟨k9, 0, none⟩)] w' fun e w2 => ∃ g, e = .returned (.pointer (some ⟨g, 0, none⟩)) ∧ RatP w2 w'.heap.size g neg N D ∧ Below w'.heap.size w' w2
theorem ClZQ.below {k k9 : Nat} {w w1 : World} (h : ClZQ k k9 w) (hb : Below w.heap.size w w1) : ClZQ k k9 w1 := fun w' h' => h w' (bthen hb h')
theorem ClOQ.below {k k9 N D : Nat} {neg : Bool} {w w1 : World} (h : ClOQ k k9 neg N D w) (hb : Below w.heap.size w w1) : ClOQ k k9 neg N D w1 := fun w' h' => h w' (bthen hb h')
set_option maxRecDepth 100000 in
set_option maxHeartbeats 800000 in
theorem ansGQ_zero (k k9 k1 k4 : Nat) (w : World) (hk1 : w.heap[k1]? = some (.cells #[.func (.func 92) #[] #[.pointer (some ⟨k, 0, none⟩), .pointer (some ⟨k9, 0, none⟩)]] 137 (0, 0))) (hc : ClZQ k k9 w) :
    Calls Tryz.prog 146 #[.pointer (some ⟨k1, 0, none⟩), .pointer (some ⟨k4, 0, none⟩)] w fun e w' => e = .panicked divZero ∧ Below w.heap.size w w' := by
  obtain ⟨c1, -⟩ := rowF hk1
  have HC := Lib.hid (hc w (Below.refl _ _))
  clear hk1 hc
  go_enter Tryz.func146, Tryz.ntmps146
  go_wp2_with fail
  refine HC.out.mono ?_
  rintro _ w1 ⟨rfl, hb1⟩
  go_wp2
  exact ⟨rfl, rfl, hb1⟩
set_option maxRecDepth 100000 in
set_option maxHeartbeats 800000 in
theorem ansGQ_ok (k k9 k1 k4 B N D : Nat) (neg : Bool) (w : World) (hk1 : w.heap[k1]? = some (.cells #[.func (.func 92) #[] #[.pointer (some ⟨k, 0, none⟩), .pointer (some ⟨k9, 0, none⟩)]] 137 (0, 0)))
    (hk4 : w.heap[k4]? = some (.cells #[.bool false, .slice none 0 0, .slice none 0 0] 43 (0, 0))) (hB : B ≤ k4) (hc : ClOQ k k9 neg N D w) (hD : 0 < D) (hn : nw N ≤ 100000000) (hd : nw D ≤ 100000000) :
    Calls Tryz.prog 146 #[.pointer (some ⟨k1, 0, none⟩), .pointer (some ⟨k4, 0, none⟩)] w fun e w' => e = .returned (.tuple #[]) ∧ ∃ r1 r2, w'.heap[k4]? = some (.cells #[.bool (neg && decide (0 < N)), r1, r2] 43 (0, 0)) ∧ IsS r1 ∧ IsS r2 ∧ RW w' r1 (wds N) ∧ RW w' r2 (wds D) ∧ Below B w w' ∧ Only k4 w w' := by
  obtain ⟨c1, -⟩ := rowF hk1
  have hk4lt : k4 < w.heap.size := (heap_alloc_lt (o := .cells #[] 0) hk4).2
  have HK4 := Lib.hid hk4
  have HC := Lib.hid (hc w (Below.refl _ _))
  have HH := Lib.hid (And.intro hD (And.intro hn hd))
  clear hk1 hk4 hc hD hn hd
  go_enter Tryz.func146, Tryz.ntmps146
  go_wp2_with fail
  refine HC.out.mono ?_
  rintro _ w1 ⟨g, rfl, hR, hb1⟩
  have HR := Lib.hid hR
  have HB1 := Lib.hid hb1
  clear hR hb1
  go_wp2_with fail
  refine (frac_any g w.heap.size _ _ _ w1 HR.out HH.out.1 HH.out.2.1 HH.out.2.2).mono ?_
  rintro _ w2 ⟨r1, r2, rfl, hr1, hr2, hb2⟩
  have hSr1 := hr1.isS
  have hSr2 := hr2.isS
  have hbb := bthen HB1.out hb2
  have hrw := keep_row hbb HK4.out
  obtain ⟨k0, k1', k2, f0, f1, f2⟩ := row3 hrw
  obtain ⟨x, hx⟩ : ∃ x, x = (neg && decide (0 < N)) := ⟨_, rfl⟩
  rw [← hx]
  have q3 := row3_set (x := .bool x) (y := r1) (z := r2) hrw
  have a1 := rw_row3 (x := .bool x) (y := r1) (z := r2) hr1 IsS.nil IsS.nil hrw
  have a2 := rw_row3 (x := .bool x) (y := r1) (z := r2) hr2 IsS.nil IsS.nil hrw
  have on : Only k4 w (((w2.setCell ⟨k4, 0, none⟩ (.bool x)).setCell ⟨k4, 1, none⟩ r1).setCell ⟨k4, 2, none⟩ r2) := fun j hj hne => by
    rw [heap_setCell_other _ _ _ _ (by simpa using hne), heap_setCell_other _ _ _ _ (by simpa using hne), heap_setCell_other _ _ _ _ (by simpa using hne)]
    exact hbb.block j hj
  have ON := Lib.hid on
  have Q3 := Lib.hid q3
  have A1 := Lib.hid a1
  have A2 := Lib.hid a2
  have HX := Lib.hid hx
  have HBB := Lib.hid (bset (i := 2) (u := r2) (bset (i := 1) (u := r1) (bset (i := 0) (u := .bool x) (hbb.mono (show B ≤ w.heap.size by omega)) hB) hB) hB)
  clear hr1 hr2 hb2 hbb hrw q3 a1 a2 on hx
  go_wp2
  go_end0
  refine ⟨rfl, r1, r2, ?_, hSr1, hSr2, A1.out, A2.out, HBB.out, ON.out⟩
  rw [← HX.out]; exact Q3.out
set_option maxRecDepth 100000 in
set_option maxHeartbeats 800000 in
theorem guardGQ_zero (k k9 k1 k4 : Nat) (w : World) (hk1 : w.heap[k1]? = some (.cells #[.func (.func 92) #[] #[.pointer (some ⟨k, 0, none⟩), .pointer (some ⟨k9, 0, none⟩)]] 137 (0, 0))) (hc : ClZQ k k9 w) :
    Calls Tryz.prog 145 #[.func (.func 146) #[] #[.pointer (some ⟨k1, 0, none⟩), .pointer (some ⟨k4, 0, none⟩)]] w fun e w' => e = .returned (.bool true) ∧ Below w.heap.size w w' := by
  have hmf : ∀ (fn : Fn) (first cap : Array Value) (w : World), (Instr.makeFunc fn first cap).run Tryz.prog w = .ok (.func fn first cap) w := fun _ _ _ _ => rfl
  have hab := (Below.refl w.heap.size w).alloc (Nat.le_refl _) (.cells #[.bool false] 4)
  have HA := Lib.hid (box_row (Below.refl _ (w.alloc (.cells #[.bool false] 4))))
  have HK1 := Lib.hid (keep_row hab hk1)
  have HC := Lib.hid (hc.below hab)
  clear hk1 hc
  go_enter_defers Tryz.func145, Tryz.ntmps145
  go_wp2_with fail
  refine (ansGQ_zero k k9 k1 k4 _ HK1.out HC.out).mono ?_
  rintro _ w1 ⟨rfl, hb1⟩
  obtain ⟨c0, f0⟩ := rowF (keep_row hb1 HA.out)
  have bb := bthen hab hb1
  go_wp2
  refine leaves_cons (f := 201) (args := #[.pointer (some ⟨w.heap.size, 0, none⟩)]) (by simp) (by simp [go_sem]) ?_
  refine (catch_panicking ⟨w.heap.size, 0, none⟩ false _ _ [] _ c0 f0).mono ?_
  rintro e u' w'' ⟨rfl, rfl, rfl⟩
  simp [Leaves, settle, results, Tryz.results145, go_sem, c0]
  exact bset bb (Nat.le_refl _)
set_option maxRecDepth 100000 in
set_option maxHeartbeats 800000 in
theorem guardGQ_ok (k k9 k1 k4 B N D : Nat) (neg : Bool) (w : World) (hk1 : w.heap[k1]? = some (.cells #[.func (.func 92) #[] #[.pointer (some ⟨k, 0, none⟩), .pointer (some ⟨k9, 0, none⟩)]] 137 (0, 0)))
    (hk4 : w.heap[k4]? = some (.cells #[.bool false, .slice none 0 0, .slice none 0 0] 43 (0, 0))) (hB : B ≤ k4) (hc : ClOQ k k9 neg N D w) (hD : 0 < D) (hn : nw N ≤ 100000000) (hd : nw D ≤ 100000000) :
    Calls Tryz.prog 145 #[.func (.func 146) #[] #[.pointer (some ⟨k1, 0, none⟩), .pointer (some ⟨k4, 0, none⟩)]] w fun e w' => e = .returned (.bool false) ∧ ∃ r1 r2, w'.heap[k4]? = some (.cells #[.bool (neg && decide (0 < N)), r1, r2] 43 (0, 0)) ∧ IsS r1 ∧ IsS r2 ∧ RW w' r1 (wds N) ∧ RW w' r2 (wds D) ∧ Below B w w' ∧ Only k4 w w' := by
  have hmf : ∀ (fn : Fn) (first cap : Array Value) (w : World), (Instr.makeFunc fn first cap).run Tryz.prog w = .ok (.func fn first cap) w := fun _ _ _ _ => rfl
  have hk4lt : k4 < w.heap.size := (heap_alloc_lt (o := .cells #[] 0) hk4).2
  have hab := (Below.refl w.heap.size w).alloc (Nat.le_refl _) (.cells #[.bool false] 4)
  have HA := Lib.hid (box_row (Below.refl _ (w.alloc (.cells #[.bool false] 4))))
  have HK1 := Lib.hid (keep_row hab hk1)
  have HK4 := Lib.hid (keep_row hab hk4)
  have HC := Lib.hid (hc.below hab)
  have hsz : k4 < w.heap.size := hk4lt
  clear hk1 hk4 hc
  obtain ⟨W, hW⟩ : ∃ W, W = w.alloc (.cells #[.bool false] 4) := ⟨_, rfl⟩
  rw [← hW] at hab HA HK1 HK4 HC
  have HG := Lib.hid (ansGQ_ok k k9 k1 k4 B N D neg W HK1.out HK4.out hB HC.out hD hn hd)
  obtain ⟨x, hx⟩ : ∃ x, x = (neg && decide (0 < N)) := ⟨_, rfl⟩
  rw [← hx] at HG ⊢
  clear hD hn hd hx
  go_enter_defers Tryz.func145, Tryz.ntmps145
  go_wp2_with fail
  rw [← hW]
  clear hW
  refine HG.out.mono ?_
  rintro _ w1 ⟨rfl, r1, r2, hr, hS1, hS2, hr1, hr2, hb1, hon⟩
  have hWs := hab.size
  have hglt : w.heap.size < W.heap.size := (heap_alloc_lt (o := .cells #[] 0) HA.out).2
  have hrg := (hon _ hglt (by omega)).trans HA.out
  obtain ⟨c0, f0⟩ := rowF hrg
  have hrg1 := rowset (i := 0) (.bool false) hrg
  obtain ⟨c1, f1⟩ := rowF hrg1
  have hrg2 := rowset (i := 0) (.bool false) hrg1
  obtain ⟨c2, f2⟩ := rowF hrg2
  have fin : ∃ r1 r2, ((w1.setCell ⟨w.heap.size, 0, none⟩ (.bool false)).setCell ⟨w.heap.size, 0, none⟩ (.bool false)).heap[k4]? = some (.cells #[.bool x, r1, r2] 43 (0, 0)) ∧ IsS r1 ∧ IsS r2 ∧ RW ((w1.setCell ⟨w.heap.size, 0, none⟩ (.bool false)).setCell ⟨w.heap.size, 0, none⟩ (.bool false)) r1 (wds N) ∧ RW ((w1.setCell ⟨w.heap.size, 0, none⟩ (.bool false)).setCell ⟨w.heap.size, 0, none⟩ (.bool false)) r2 (wds D) ∧ Below B w ((w1.setCell ⟨w.heap.size, 0, none⟩ (.bool false)).setCell ⟨w.heap.size, 0, none⟩ (.bool false)) ∧ Only k4 w ((w1.setCell ⟨w.heap.size, 0, none⟩ (.bool false)).setCell ⟨w.heap.size, 0, none⟩ (.bool false)) := by
    refine ⟨r1, r2, rowoth _ (rowoth _ hr (by omega)) (by omega), hS1, hS2, (hr1.awayB hrg).awayB hrg1, (hr2.awayB hrg).awayB hrg1, bset (bset ((hab.mono (show B ≤ w.heap.size by omega)).trans hb1) (by omega)) (by omega), fun j hj hne => ?_⟩
    rw [heap_setCell_other _ _ _ _ (by simp only; omega), heap_setCell_other _ _ _ _ (by simp only; omega)]
    exact (hon j (by omega) hne).trans (hab.block j hj)
  have Fin := Lib.hid fin
  clear fin hr hr1 hr2 hb1 hon hrg hrg1 hrg2
  go_wp2
  refine leaves_cons (f := 201) (args := #[.pointer (some ⟨w.heap.size, 0, none⟩)]) (by simp) (by simp [go_sem]) ?_
  refine (catch_idle ⟨w.heap.size, 0, none⟩ false _ c1 f1).mono ?_
  rintro e u' w'' ⟨rfl, rfl, rfl⟩
  simp [Leaves, settle, results, Tryz.results145, go_sem, c2]
  exact Fin.out
/-- The memory that answered has made when it calls. -/
def AnsWGQ (k k9 : Nat) (w W : World) : Prop :=
  W = ((w.alloc (.cells #[.func (.func 92) #[] #[.pointer (some ⟨k, 0, none⟩), .pointer (some ⟨k9, 0, none⟩)]] 137)).alloc (.cells #[.bool false, .slice none 0 0, .slice none 0 0] 43)).alloc (.cells #[.bool false, .slice none 0 0, .slice none 0 0] 43)
theorem AnsWGQ.facts {k k9 : Nat} {w W : World} (h : AnsWGQ k k9 w W) : Below w.heap.size w W ∧ W.heap.size = w.heap.size + 3 ∧
    W.heap[w.heap.size]? = some (.cells #[.func (.func 92) #[] #[.pointer (some ⟨k, 0, none⟩), .pointer (some ⟨k9, 0, none⟩)]] 137 (0, 0)) ∧
    W.heap[w.heap.size + 1]? = some (.cells #[.bool false, .slice none 0 0, .slice none 0 0] 43 (0, 0)) ∧
    W.heap[w.heap.size + 2]? = some (.cells #[.bool false, .slice none 0 0, .slice none 0 0] 43 (0, 0)) := by
  unfold AnsWGQ at h
  subst h
  refine ⟨bthen (bthen (bone _) (bone _)) (bone _), by simp, heap_new0 w (bthen (bone _) (bone _)) rfl, heap_new0 _ (bone _) (by simp), heap_new0 _ (Below.refl _ _) (by simp)⟩
set_option maxRecDepth 100000 in
set_option maxHeartbeats 800000 in
theorem answerGQ_zero (k k9 : Nat) (w : World) (hc : ClZQ k k9 w) :
    Calls Tryz.prog 91 #[.func (.func 92) #[] #[.pointer (some ⟨k, 0, none⟩), .pointer (some ⟨k9, 0, none⟩)]] w fun e w' => e = .returned (.tuple #[.agg #[.bool false, .slice none 0 0, .slice none 0 0], .int .i64 2]) ∧ Below w.heap.size w w' := by
  have hmf : ∀ (fn : Fn) (first cap : Array Value) (w : World), (Instr.makeFunc fn first cap).run Tryz.prog w = .ok (.func fn first cap) w := fun _ _ _ _ => rfl
  obtain ⟨W, hW⟩ : ∃ W, AnsWGQ k k9 w W := ⟨_, rfl⟩
  obtain ⟨hab, hsz, hr0, hr1, hr2⟩ := hW.facts
  have HG := Lib.hid (guardGQ_zero k k9 w.heap.size (w.heap.size + 2) W hr0 (hc.below hab))
  have HR1 := Lib.hid hr1
  have HS := Lib.hid hsz
  clear hr0 hr1 hr2 hsz hc
  unfold AnsWGQ at hW
  go_enter Tryz.func91, Tryz.ntmps91
  go_wp2_with fail
  rw [← hW]
  clear hW
  refine HG.out.mono ?_
  rintro _ w1 ⟨rfl, hb1⟩
  have hrow := keep_row hb1 HR1.out
  obtain ⟨c0, c1, c2, f0, f1, f2⟩ := row3 hrow
  obtain ⟨e0, e1, e2, -, -, -⟩ := row3 (row3_set (x := .bool false) (y := .slice none 0 0) (z := .slice none 0 0) hrow)
  have bb := bset3 (a := .bool false) (b := .slice none 0 0) (c := .slice none 0 0) (bthen hab hb1) (show w.heap.size ≤ w.heap.size + 1 by omega)
  clear hrow
  go_wp2
  refine bodyPost_ret (v := .tuple #[.agg #[.bool false, .slice none 0 0, .slice none 0 0], .int .i64 2]) ?_ rfl ⟨rfl, bb⟩
  simp [results, Tryz.results91, go_sem, e0, e1, e2]
set_option maxRecDepth 100000 in
set_option maxHeartbeats 800000 in
theorem answerGQ_ok (k k9 N D : Nat) (neg : Bool) (w : World) (hc : ClOQ k k9 neg N D w) (hD : 0 < D) (hn : nw N ≤ 100000000) (hd : nw D ≤ 100000000) :
    Calls Tryz.prog 91 #[.func (.func 92) #[] #[.pointer (some ⟨k, 0, none⟩), .pointer (some ⟨k9, 0, none⟩)]] w fun e w' => ∃ r1 r2, e = .returned (.tuple #[.agg #[.bool (neg && decide (0 < N)), r1, r2], .int .i64 0]) ∧ RW w' r1 (wds N) ∧ RW w' r2 (wds D) ∧ Below w.heap.size w w' := by
  have hmf : ∀ (fn : Fn) (first cap : Array Value) (w : World), (Instr.makeFunc fn first cap).run Tryz.prog w = .ok (.func fn first cap) w := fun _ _ _ _ => rfl
  obtain ⟨W, hW⟩ : ∃ W, AnsWGQ k k9 w W := ⟨_, rfl⟩
  obtain ⟨hab, hsz, hr0, hr1, hr2⟩ := hW.facts
  have HG := Lib.hid (guardGQ_ok k k9 w.heap.size (w.heap.size + 2) w.heap.size N D neg W hr0 hr2 (by omega) (hc.below hab) hD hn hd)
  have HR1 := Lib.hid hr1
  have HS := Lib.hid hsz
  obtain ⟨x, hx⟩ : ∃ x, x = (neg && decide (0 < N)) := ⟨_, rfl⟩
  rw [← hx] at HG ⊢
  clear hr0 hr1 hr2 hsz hc hx
  unfold AnsWGQ at hW
  go_enter Tryz.func91, Tryz.ntmps91
  go_wp2_with fail
  rw [← hW]
  clear hW
  refine HG.out.mono ?_
  rintro _ w1 ⟨rfl, r1, r2, hr4, hS1, hS2, hq1, hq2, hb1, hon⟩
  have hrow := (hon (w.heap.size + 1) (by have := HS.out; omega) (by omega)).trans HR1.out
  obtain ⟨c0, c1, c2, f0, f1, f2⟩ := row3 hrow
  obtain ⟨d0, d1, d2, -, -, -⟩ := row3 hr4
  obtain ⟨e0, e1, e2, -, -, -⟩ := row3 (row3_set (x := .bool x) (y := r1) (z := r2) hrow)
  have bb := bset3 (a := .bool x) (b := r1) (c := r2) (hab.trans hb1) (show w.heap.size ≤ w.heap.size + 1 by omega)
  have A1 := Lib.hid (rw_row3 (x := .bool x) (y := r1) (z := r2) hq1 IsS.nil IsS.nil hrow)
  have A2 := Lib.hid (rw_row3 (x := .bool x) (y := r1) (z := r2) hq2 IsS.nil IsS.nil hrow)
  clear hrow hr4 hq1 hq2 hon
  go_wp2
  refine bodyPost_ret (v := .tuple #[.agg #[.bool x, r1, r2], .int .i64 0]) ?_ rfl ⟨r1, r2, rfl, A1.out, A2.out, bb⟩
  simp [results, Tryz.results91, go_sem, e0, e1, e2]
end Go.Proofs.YtbghmceglemppaaGreatDoor

/-
The closure of impl.RatQuo. No condition but the thresholds.
-/
namespace Go.Proofs.YtbghmceglemppaaGreatDoor
open Go.RowKit

set_option maxRecDepth 100000 in
set_option maxHeartbeats 3200000 in
theorem quoC_ok (k k9 : Nat) (b1 b2 : Bool) (v1 u1 v2 u2 : Value) (ns1 ds1 ns2 ds2 : List Nat) (w : World) (hk : w.heap[k]? = some (.cells #[.bool b1, v1, u1] 43 (0, 0))) (hk9 : w.heap[k9]? = some (.cells #[.bool b2, v2, u2] 43 (0, 0)))
    (hv1 : RW w v1 ns1) (hu1 : RW w u1 ds1) (hv2 : RW w v2 ns2) (hu2 : RW w u2 ds2)
    (l1 : ns1.length ≤ 30) (l2 : ds1.length ≤ 30) (l3 : ns2.length ≤ 30) (l4 : ds2.length ≤ 30) (l5 : ns1.length + ds2.length ≤ 37) (l6 : ns2.length + ds1.length ≤ 37) (p1 : 0 < wv ds1) (p2 : 0 < wv ds2) (p3 : 0 < wv ns2) (hK : KarW w) (hT : DivW w) :
    ClOQ k k9 (decide (rI (b1 != b2) (wv ns1 * wv ds2) < 0)) ((rI (b1 != b2) (wv ns1 * wv ds2)).natAbs / Nat.gcd (rI (b1 != b2) (wv ns1 * wv ds2)).natAbs (wv ns2 * wv ds1)) (wv ns2 * wv ds1 / Nat.gcd (rI (b1 != b2) (wv ns1 * wv ds2)).natAbs (wv ns2 * wv ds1)) w := by
  intro X hwX0
  have hS1 := hv1.isS
  have hS2 := hv2.isS
  have hS3 := hu1.isS
  have hS4 := hu2.isS
  obtain ⟨V, hV⟩ : ∃ V : Int, V = rI (b1 != b2) (wv ns1 * wv ds2) := ⟨_, rfl⟩
  obtain ⟨D, hD⟩ : ∃ D : Nat, D = wv ns2 * wv ds1 := ⟨_, rfl⟩
  have hr1 := keep_row hwX0 hk
  have hr2 := keep_row hwX0 hk9
  have hKX := hK.below hwX0
  have hTX := hT.below hwX0
  have dg : 4 < X.heap.size := World.block_lt_of_cell? X _ hTX
  have k1 := nw_le (wv_lt hv1.lt)
  have k2 := nw_le (wv_lt hu1.lt)
  have k3 := nw_le (wv_lt hv2.lt)
  have k4 := nw_le (wv_lt hu2.lt)
  have V1 := Lib.hid (hv1.below hwX0)
  have V2 := Lib.hid (hv2.below hwX0)
  have U1 := Lib.hid (hu1.below hwX0)
  have U2 := Lib.hid (hu2.below hwX0)
  have HR1 := Lib.hid hr1
  have HR2 := Lib.hid hr2
  have hcc := Below.refl X.heap.size X
  have HF1 : Hid (∀ w', Below X.heap.size X w' → Calls Tryz.prog 82 #[.agg #[.bool b1, v1, u1]] w' fun e w3 => ∃ g, e = .returned (.pointer (some ⟨g, 0, none⟩)) ∧ RatP w3 0 g (b1 && decide (0 < wv ns1)) (wv ns1) (wv ds1) ∧ Below w'.heap.size w' w3) := Lib.hid (fun w' h => by
    refine (rat_any b1 v1 u1 ns1 ds1 w' (V1.out.below h) (U1.out.below h) (by omega) (by omega)).mono ?_
    rintro e w3 ⟨g, h1, h2, h3⟩
    exact ⟨g, h1, h2.mono (Nat.zero_le _), h3⟩)
  have HF2 : Hid (∀ w', Below X.heap.size X w' → Calls Tryz.prog 82 #[.agg #[.bool b2, v2, u2]] w' fun e w3 => ∃ g, e = .returned (.pointer (some ⟨g, 0, none⟩)) ∧ RatP w3 0 g (b2 && decide (0 < wv ns2)) (wv ns2) (wv ds2) ∧ Below w'.heap.size w' w3) := Lib.hid (fun w' h => by
    refine (rat_any b2 v2 u2 ns2 ds2 w' (V2.out.below h) (U2.out.below h) (by omega) (by omega)).mono ?_
    rintro e w3 ⟨g, h1, h2, h3⟩
    exact ⟨g, h1, h2.mono (Nat.zero_le _), h3⟩)
  have HC : Hid (∀ g g1 g2 w', w'.heap[g]? = some (.cells #[.bool false, .slice none 0 0, .bool false, .slice none 0 0] 113 (0, 0)) → X.heap.size ≤ g → RatP w' 0 g1 (b1 && decide (0 < wv ns1)) (wv ns1) (wv ds1) → RatP w' 0 g2 (b2 && decide (0 < wv ns2)) (wv ns2) (wv ds2) → Below X.heap.size X w' →
      Calls Tryz.prog 93 #[.pointer (some ⟨g, 0, none⟩), .pointer (some ⟨g1, 0, none⟩), .pointer (some ⟨g2, 0, none⟩)] w' fun e w4 => e = .returned (.pointer (some ⟨g, 0, none⟩)) ∧ RatP w4 X.heap.size g (decide (V < 0)) (V.natAbs / Nat.gcd V.natAbs D) (D / Nat.gcd V.natAbs D) ∧ Below X.heap.size X w4) := Lib.hid (fun g g1 g2 w' hg hg0 h1 h2 h3 => by
    have a1 : wv ns1 * wv ds2 = V.natAbs := by rw [hV, rI_abs]
    have e0 : ((b1 && decide (0 < wv ns1)) != (b2 && decide (0 < wv ns2)) && decide (0 < wv ns1 * wv ds2)) = decide (V < 0) := by
      rw [hV, rI_neg]
      rcases Nat.eq_zero_or_pos (wv ns1) with h | h
      · rw [h, Nat.zero_mul]; simp
      · rw [decide_eq_true h, decide_eq_true p3, Bool.and_true, Bool.and_true]
    refine (ratQuo_any g g1 g2 X.heap.size _ _ (wv ns1) (wv ds1) (wv ns2) (wv ds2) w' hg h1 h2 p1 p2 p3 (by omega) (by omega) (by omega) (by omega) (Nat.lt_of_le_of_lt (nw_mul_le _ _) (by omega)) (Nat.lt_of_le_of_lt (nw_mul_le _ _) (by omega)) hg0 (hKX.below h3) (hTX.below h3) dg).mono ?_
    rintro e w4 ⟨h4, h5, h6⟩
    rw [e0, a1, ← hD] at h5
    exact ⟨h4, h5, h3.trans h6⟩)
  rw [← hV, ← hD]
  have HK9 := Lib.hid (And.intro (get_lt hr1) (get_lt hr2))
  clear hv1 hv2 hu1 hu2 hr1 hr2 hk hk9 hK hT hKX hTX dg k1 k2 k3 k4 l1 l2 l3 l4 l5 l6 p1 p2 p3 hV hD hwX0
  obtain ⟨N1, hN1⟩ : ∃ N1, N1 = V.natAbs / Nat.gcd V.natAbs D := ⟨_, rfl⟩
  obtain ⟨N2, hN2⟩ : ∃ N2, N2 = D / Nat.gcd V.natAbs D := ⟨_, rfl⟩
  obtain ⟨sg, hsg⟩ : ∃ sg, sg = decide (V < 0) := ⟨_, rfl⟩
  rw [← hN1, ← hN2, ← hsg] at HC ⊢
  clear hN1 hN2 hsg
  go_enter Tryz.func92, Tryz.ntmps92
  go_upto_region 1 with fail
  first
    | (go_region_held3 (fun w' => Below X.heap.size X w' ∧ w'.cell? ⟨k, 0, none⟩ = some (.bool b1) ∧ w'.cell? ⟨k, 1, none⟩ = some v1 ∧ w'.cell? ⟨k, 2, none⟩ = some u1 ∧ w'.cell? ⟨k9, 0, none⟩ = some (.bool b2) ∧ w'.cell? ⟨k9, 1, none⟩ = some v2 ∧ w'.cell? ⟨k9, 2, none⟩ = some u2)
        ((refine ks6F HR1.out HR2.out ?_; (repeat (with_reducible first | assumption | refine Below.drew ?_ | refine ballc ?_ _))))
        (first
          | (go_at_call 93; first
              | (with_reducible refine (HC.out _ _ _ _ hrU2 (Nat.le_refl _) G1.out G2.out hb4).mono ?_)
              | (with_reducible refine (HC.out _ _ _ _ hrV2 hz3 G1.out G2.out hb4).mono ?_)
              | (with_reducible refine (HC.out _ _ _ _ (heap_alloc_new w4 _) hz4 (G1.out.below (fbone _)) (G2.out.below (fbone _)) (ballc hb4 _)).mono ?_)
             rintro _ w5 ⟨rfl, hrat, hb5⟩)
          | (go_at_call 82; (with_reducible refine (HF2.out _ (by repeat (with_reducible first | assumption | refine Below.drew ?_ | refine ballc ?_ _))).mono ?_); rintro _ w4 ⟨g2, rfl, hG2, hb34⟩; have G1 := Lib.hid (show RatP w4 0 g1 (b1 && decide (0 < wv ns1)) (wv ns1) (wv ds1) from by first | exact hF1.below hb34 | exact (hF1.below (fbone _)).below hb34); have G2 := Lib.hid hG2; clear hF1 hG2; have hb4 : Below X.heap.size X w4 := bthen (by repeat (with_reducible first | assumption | refine Below.drew ?_ | refine ballc ?_ _)) hb34; have hz4 := hb4.size;
              (first | (have hrU2 := keep_row hb34 hrU) | (have hrV2 := box_row hb34) | skip))
          | (go_at_call 82; (with_reducible refine (HF1.out _ (by repeat (with_reducible first | assumption | refine Below.drew ?_ | refine ballc ?_ _))).mono ?_); rintro _ w3 ⟨g1, rfl, hF1, hb3'⟩; have hb3 : Below X.heap.size X w3 := bthen (by repeat (with_reducible first | assumption | refine Below.drew ?_ | refine ballc ?_ _)) hb3'; have hz3 := hb3.size;
              (first | (have hrU := box_rowD hb3') | skip))))
    | fail
  all_goals
    go_wp2
    go_ret
    exact ⟨_, rfl, hrat, hb5⟩
set_option maxRecDepth 100000 in
set_option maxHeartbeats 3200000 in
theorem quoC_zero (k k9 : Nat) (b1 b2 : Bool) (v1 u1 v2 u2 : Value) (ns1 ds1 ns2 ds2 : List Nat) (w : World) (hk : w.heap[k]? = some (.cells #[.bool b1, v1, u1] 43 (0, 0))) (hk9 : w.heap[k9]? = some (.cells #[.bool b2, v2, u2] 43 (0, 0)))
    (hv1 : RW w v1 ns1) (hu1 : RW w u1 ds1) (hv2 : RW w v2 ns2) (hu2 : RW w u2 ds2)
    (l1 : ns1.length ≤ 30) (l2 : ds1.length ≤ 30) (l3 : ns2.length ≤ 30) (l4 : ds2.length ≤ 30) (p3 : wv ns2 = 0) : ClZQ k k9 w := by
  intro X hwX0
  have hS1 := hv1.isS
  have hS2 := hv2.isS
  have hS3 := hu1.isS
  have hS4 := hu2.isS
  have hr1 := keep_row hwX0 hk
  have hr2 := keep_row hwX0 hk9
  have V1 := Lib.hid (hv1.below hwX0)
  have V2 := Lib.hid (hv2.below hwX0)
  have U1 := Lib.hid (hu1.below hwX0)
  have U2 := Lib.hid (hu2.below hwX0)
  have HR1 := Lib.hid hr1
  have HR2 := Lib.hid hr2
  have hcc := Below.refl X.heap.size X
  have HF1 : Hid (∀ w', Below X.heap.size X w' → Calls Tryz.prog 82 #[.agg #[.bool b1, v1, u1]] w' fun e w3 => ∃ g, e = .returned (.pointer (some ⟨g, 0, none⟩)) ∧ Below X.heap.size X w3) := Lib.hid (fun w' h => by
    refine (rat_any b1 v1 u1 ns1 ds1 w' (V1.out.below h) (U1.out.below h) (by omega) (by omega)).mono ?_
    rintro e w3 ⟨g, h1, h2, h3⟩
    exact ⟨g, h1, bthen h h3⟩)
  have HF2 : Hid (∀ w', Below X.heap.size X w' → Calls Tryz.prog 82 #[.agg #[.bool b2, v2, u2]] w' fun e w3 => ∃ g, e = .returned (.pointer (some ⟨g, 0, none⟩)) ∧ RatP w3 0 g (b2 && decide (0 < 0)) 0 (wv ds2) ∧ Below X.heap.size X w3) := Lib.hid (fun w' h => by
    refine (rat_any b2 v2 u2 ns2 ds2 w' (V2.out.below h) (U2.out.below h) (by omega) (by omega)).mono ?_
    rintro e w3 ⟨g, h1, h2, h3⟩
    rw [p3] at h2
    exact ⟨g, h1, h2.mono (Nat.zero_le _), bthen h h3⟩)
  have HC : Hid (∀ g g1 g2 w', RatP w' 0 g2 (b2 && decide (0 < 0)) 0 (wv ds2) → Below X.heap.size X w' →
      Calls Tryz.prog 93 #[.pointer (some ⟨g, 0, none⟩), .pointer (some ⟨g1, 0, none⟩), .pointer (some ⟨g2, 0, none⟩)] w' fun e w4 => e = .panicked divZero ∧ Below X.heap.size X w4) := Lib.hid (fun g g1 g2 w' h2 h3 => by
    refine (ratQuo_zero g g1 g2 (wv ds2) _ w' h2).mono ?_
    rintro e w4 ⟨h4, h5⟩
    exact ⟨h4, bthen h3 h5⟩)
  clear hv1 hv2 hu1 hu2 hr1 hr2 hk hk9 l1 l2 l3 l4 hwX0 p3
  go_enter Tryz.func92, Tryz.ntmps92
  go_upto_region 1 with fail
  first
    | (go_region_held2 (fun w' => Below X.heap.size X w' ∧ w'.cell? ⟨k, 0, none⟩ = some (.bool b1) ∧ w'.cell? ⟨k, 1, none⟩ = some v1 ∧ w'.cell? ⟨k, 2, none⟩ = some u1 ∧ w'.cell? ⟨k9, 0, none⟩ = some (.bool b2) ∧ w'.cell? ⟨k9, 1, none⟩ = some v2 ∧ w'.cell? ⟨k9, 2, none⟩ = some u2)
        ((first | exact absurd h5 (by intro h; cases h) | (refine ks6F HR1.out HR2.out ?_; (repeat (with_reducible first | assumption | refine Below.drew ?_ | refine ballc ?_ _)))))
        (first
          | (go_at_call 93; first
              | (with_reducible refine (HC.out _ _ _ _ hG2 hb4).mono ?_)
              | (with_reducible refine (HC.out _ _ _ _ (hG2.below (fbone _)) (ballc hb4 _)).mono ?_)
             rintro e5 w5 ⟨h5, hb5⟩
             rcases e5 with v5 | c5 | _
             rotate_left
             (cases h5; exact ⟨rfl, rfl, hb5⟩)
             (cases h5))
          | (go_at_call 82; (with_reducible refine (HF2.out _ (by repeat (with_reducible first | assumption | refine Below.drew ?_ | refine ballc ?_ _))).mono ?_); rintro _ w4 ⟨g2, rfl, hG2, hb4⟩)
          | (go_at_call 82; (with_reducible refine (HF1.out _ (by repeat (with_reducible first | assumption | refine Below.drew ?_ | refine ballc ?_ _))).mono ?_); rintro _ w3 ⟨g1, rfl, hb3⟩)))
    | fail
  all_goals exact absurd h5 (by intro h; cases h)
end Go.Proofs.YtbghmceglemppaaGreatDoor

/-
impl.RatQuo. No condition but the thresholds.
-/
namespace Go.Proofs.YtbghmceglemppaaGreatDoor
open Go.RowKit

/-- The memory that RatQuo has made when it calls. -/
def QuoW (b1 b2 : Bool) (v1 u1 v2 u2 : Value) (w W : World) : Prop :=
  W = ((w.alloc (.cells #[.bool b1, v1, u1] 43)).alloc (.cells #[.bool b2, v2, u2] 43)).alloc (.cells #[.bool false, .slice none 0 0, .slice none 0 0] 43)
theorem QuoW.facts {b1 b2 : Bool} {v1 u1 v2 u2 : Value} {w W : World} (h : QuoW b1 b2 v1 u1 v2 u2 w W) : Below w.heap.size w W ∧ W.heap.size = w.heap.size + 3 ∧
    W.heap[w.heap.size]? = some (.cells #[.bool b1, v1, u1] 43 (0, 0)) ∧ W.heap[w.heap.size + 1]? = some (.cells #[.bool b2, v2, u2] 43 (0, 0)) ∧ W.heap[w.heap.size + 1 + 1]? = some (.cells #[.bool false, .slice none 0 0, .slice none 0 0] 43 (0, 0)) := by
  unfold QuoW at h
  subst h
  exact ⟨bthen (bthen (bone _) (bone _)) (bone _), by simp, heap_new0 w (bthen (bone _) (bone _)) rfl, heap_new0 _ (bone _) (by simp), heap_new0 _ (Below.refl _ _) (by simp)⟩
set_option maxRecDepth 100000 in
set_option maxHeartbeats 800000 in
theorem impQuo_zero (b1 b2 : Bool) (v1 u1 v2 u2 : Value) (ns1 ds1 ns2 ds2 : List Nat) (w : World) (hv1 : RW w v1 ns1) (hu1 : RW w u1 ds1) (hv2 : RW w v2 ns2) (hu2 : RW w u2 ds2)
    (l1 : ns1.length ≤ 30) (l2 : ds1.length ≤ 30) (l3 : ns2.length ≤ 30) (l4 : ds2.length ≤ 30) (p3 : wv ns2 = 0) :
    Calls Tryz.prog 40 #[.agg #[.bool b1, v1, u1], .agg #[.bool b2, v2, u2]] w fun e w' => e = .returned (.tuple #[.agg #[.bool false, .slice none 0 0, .slice none 0 0], .int .i64 2]) ∧ Below w.heap.size w w' := by
  have hmf : ∀ (fn : Fn) (first cap : Array Value) (w : World), (Instr.makeFunc fn first cap).run Tryz.prog w = .ok (.func fn first cap) w := fun _ _ _ _ => rfl
  have hS1 := hv1.isS
  have hS2 := hu1.isS
  have hS3 := hv2.isS
  have hS4 := hu2.isS
  obtain ⟨W, hW⟩ : ∃ W, QuoW b1 b2 v1 u1 v2 u2 w W := ⟨_, rfl⟩
  obtain ⟨hab, hsz, hr0, hr1, hr2⟩ := hW.facts
  have HA := Lib.hid (answerGQ_zero w.heap.size (w.heap.size + 1) W (quoC_zero w.heap.size (w.heap.size + 1) b1 b2 v1 u1 v2 u2 ns1 ds1 ns2 ds2 W hr0 hr1 (hv1.below hab) (hu1.below hab) (hv2.below hab) (hu2.below hab) l1 l2 l3 l4 p3))
  have HR2 := Lib.hid hr2
  clear hv1 hu1 hv2 hu2 hr0 hr1 hr2 hsz l1 l2 l3 l4 p3
  unfold QuoW at hW
  go_enter Tryz.func40, Tryz.ntmps40
  go_wp2_with fail
  rw [← hW]
  clear hW
  refine HA.out.mono ?_
  rintro _ w1 ⟨rfl, hb1⟩
  have hrow := keep_row hb1 HR2.out
  obtain ⟨c0, c1, c2, f0, f1, f2⟩ := row3 hrow
  obtain ⟨e0, e1, e2, -, -, -⟩ := row3 (row3_set (x := .bool false) (y := .slice none 0 0) (z := .slice none 0 0) hrow)
  have bb := bset3 (a := .bool false) (b := .slice none 0 0) (c := .slice none 0 0) (bthen hab hb1) (show w.heap.size ≤ w.heap.size + 1 + 1 by omega)
  clear hrow
  go_wp2
  refine bodyPost_ret (v := .tuple #[.agg #[.bool false, .slice none 0 0, .slice none 0 0], .int .i64 2]) ?_ rfl ⟨rfl, bb⟩
  simp [results, Tryz.results40, go_sem, e0, e1, e2]
set_option maxRecDepth 100000 in
set_option maxHeartbeats 800000 in
theorem impQuo_ok (b1 b2 : Bool) (v1 u1 v2 u2 : Value) (ns1 ds1 ns2 ds2 : List Nat) (w : World) (hv1 : RW w v1 ns1) (hu1 : RW w u1 ds1) (hv2 : RW w v2 ns2) (hu2 : RW w u2 ds2)
    (l1 : ns1.length ≤ 30) (l2 : ds1.length ≤ 30) (l3 : ns2.length ≤ 30) (l4 : ds2.length ≤ 30) (l5 : ns1.length + ds2.length ≤ 37) (l6 : ns2.length + ds1.length ≤ 37) (p1 : 0 < wv ds1) (p2 : 0 < wv ds2) (p3 : 0 < wv ns2) (hK : KarW w) (hT : DivW w) :
    Calls Tryz.prog 40 #[.agg #[.bool b1, v1, u1], .agg #[.bool b2, v2, u2]] w fun e w' => ∃ v, e = .returned (.tuple #[v, .int .i64 0]) ∧ FracV w' v (rI (b1 != b2) (wv ns1 * wv ds2)) (wv ns2 * wv ds1) ∧ Below w.heap.size w w' := by
  have hmf : ∀ (fn : Fn) (first cap : Array Value) (w : World), (Instr.makeFunc fn first cap).run Tryz.prog w = .ok (.func fn first cap) w := fun _ _ _ _ => rfl
  have hS1 := hv1.isS
  have hS2 := hu1.isS
  have hS3 := hv2.isS
  have hS4 := hu2.isS
  obtain ⟨V, hV⟩ : ∃ V : Int, V = rI (b1 != b2) (wv ns1 * wv ds2) := ⟨_, rfl⟩
  obtain ⟨D, hD⟩ : ∃ D : Nat, D = wv ns2 * wv ds1 := ⟨_, rfl⟩
  have hD0 : 0 < D := by rw [hD]; exact Nat.mul_pos p3 p1
  have z1 := nw_le (wv_lt hv1.lt)
  have z2 := nw_le (wv_lt hu1.lt)
  have z3 := nw_le (wv_lt hv2.lt)
  have z4 := nw_le (wv_lt hu2.lt)
  have NV : nw V.natAbs ≤ 100 := by rw [hV, rI_abs]; exact Nat.le_trans (nw_mul_le _ _) (by omega)
  have ND : nw D ≤ 100 := by rw [hD]; exact Nat.le_trans (nw_mul_le _ _) (by omega)
  obtain ⟨W, hW⟩ : ∃ W, QuoW b1 b2 v1 u1 v2 u2 w W := ⟨_, rfl⟩
  obtain ⟨hab, hsz, hr0, hr1, hr2⟩ := hW.facts
  have hcl := quoC_ok w.heap.size (w.heap.size + 1) b1 b2 v1 u1 v2 u2 ns1 ds1 ns2 ds2 W hr0 hr1 (hv1.below hab) (hu1.below hab) (hv2.below hab) (hu2.below hab) l1 l2 l3 l4 l5 l6 p1 p2 p3 (hK.below hab) (hT.below hab)
  rw [← hV, ← hD] at hcl
  have HA := Lib.hid (answerGQ_ok w.heap.size (w.heap.size + 1) (V.natAbs / Nat.gcd V.natAbs D) (D / Nat.gcd V.natAbs D) (decide (V < 0)) W hcl (gcd_div_pos hD0) (Nat.le_trans (nw_mono (Nat.div_le_self _ _)) (by omega)) (Nat.le_trans (nw_mono (Nat.div_le_self _ _)) (by omega)))
  rw [neg_div V hD0] at HA
  have HR2 := Lib.hid hr2
  rw [← hV, ← hD]
  obtain ⟨x, hx⟩ : ∃ x, x = decide (V < 0) := ⟨_, rfl⟩
  rw [← hx] at HA
  have HX := Lib.hid hx
  clear hv1 hu1 hv2 hu2 hr0 hr1 hr2 hsz l1 l2 l3 l4 l5 l6 p1 p2 p3 hK hT hcl hV hD hD0 z1 z2 z3 z4 NV ND hx
  unfold QuoW at hW
  go_enter Tryz.func40, Tryz.ntmps40
  go_wp2_with fail
  rw [← hW]
  clear hW
  refine HA.out.mono ?_
  rintro _ w1 ⟨r1, r2, rfl, hq1, hq2, hb1⟩
  have hSr1 := hq1.isS
  have hSr2 := hq2.isS
  have hrow := keep_row hb1 HR2.out
  obtain ⟨c0, c1, c2, f0, f1, f2⟩ := row3 hrow
  obtain ⟨e0, e1, e2, -, -, -⟩ := row3 (row3_set (x := .bool x) (y := r1) (z := r2) hrow)
  have bb := bset3 (a := .bool x) (b := r1) (c := r2) (bthen hab hb1) (show w.heap.size ≤ w.heap.size + 1 + 1 by omega)
  have A1 := Lib.hid (rw_row3 (x := .bool x) (y := r1) (z := r2) hq1 IsS.nil IsS.nil hrow)
  have A2 := Lib.hid (rw_row3 (x := .bool x) (y := r1) (z := r2) hq2 IsS.nil IsS.nil hrow)
  clear hrow hq1 hq2
  go_wp2
  refine bodyPost_ret (v := .tuple #[.agg #[.bool x, r1, r2], .int .i64 0]) ?_ rfl ⟨_, rfl, ⟨r1, r2, by rw [HX.out], A1.out, A2.out⟩, bb⟩
  simp [results, Tryz.results40, go_sem, e0, e1, e2]
end Go.Proofs.YtbghmceglemppaaGreatDoor

/-
The order of two fractions, as the reference tells it: Compare. No condition.
-/
namespace Go.Proofs.YtbghmceglemppaaGreatDoor
open Go.RowKit

theorem cmp_law (b c : Bool) (N1 N2 A C : Nat) (hA : A = 0 ↔ N1 = 0) (hC : C = 0 ↔ N2 = 0) :
    cmpS (b && decide (0 < N1)) A (c && decide (0 < N2)) C = sg (plS b A (!c && decide (0 < N2)) C) (plN b A (!c && decide (0 < N2)) C) := by
  have e1 : decide (0 < N1) = decide (0 < A) := by rw [decide_eq_decide]; omega
  have e2 : decide (0 < N2) = decide (0 < C) := by rw [decide_eq_decide]; omega
  rw [e1, e2]
  clear hA hC e1 e2
  unfold cmpS sg plS plN cmpN
  rcases Nat.eq_zero_or_pos A with ha | ha <;> rcases Nat.eq_zero_or_pos C with hc | hc
  all_goals
    first
      | (subst ha; subst hc)
      | (subst ha; have hc' : decide (0 < C) = true := decide_eq_true hc)
      | (subst hc; have ha' : decide (0 < A) = true := decide_eq_true ha)
      | (have hc' : decide (0 < C) = true := decide_eq_true hc; have ha' : decide (0 < A) = true := decide_eq_true ha)
    cases b <;> cases c <;> simp (config := { decide := true }) [*] <;> (repeat' split) <;> omega
theorem sg_div (neg : Bool) (N D : Nat) (_hD : 0 < D) : sg (neg && decide (0 < N)) (N / Nat.gcd N D) = sg neg N := by
  rcases Nat.eq_zero_or_pos N with h | h
  · subst h; unfold sg; simp
  · have h1 : 0 < N / Nat.gcd N D := Nat.div_pos (Nat.gcd_le_left D h) (Nat.gcd_pos_of_pos_left D h)
    have h2 : ¬ N / Nat.gcd N D = 0 := by omega
    have h3 : ¬ N = 0 := by omega
    rw [decide_eq_true h, Bool.and_true]
    unfold sg
    rw [if_neg h2, if_neg h3]
end Go.Proofs.YtbghmceglemppaaGreatDoor
