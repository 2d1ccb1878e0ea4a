/-
Texts of this proof, joined: RiL RiM NvD RcH. No condition.
-/
import Derived.Test.YtllhnjpnkmjopaaGreatDoorK05
import Derived.Test.YtllhnjpnkmjopaaGreatDoorK06
import Derived.Test.YtllhnjpnkmjopaaGreatDoorK13
import Derived.Test.YtllhnjpnkmjopaaGreatDoorK34
import Derived.RegionTactic
import Derived.BigRegion
namespace Go.Proofs.YtllhnjpnkmjopaaGreatDoor
open Go.RowKit

theorem RatQ.mono {w : World} {B C b : Nat} {neg : Bool} {n d : Nat} (h : RatQ w B b neg n d) (hC : C ≤ B) : RatQ w C b neg n d := by
  obtain ⟨v1, v2, h1, h2, h3, h4, h5⟩ := h
  exact ⟨v1, v2, Nat.le_trans hC h1, h2, h3.mono hC, h4.mono hC, h5⟩
theorem TwoQ.below {w w' : World} {B x y X1 X2 Y1 Y2 : Nat} {m n : Bool} {vx ux vy uy : Value} (h : TwoQ w B x y m n X1 X2 Y1 Y2 vx ux vy uy) (hb : Below w.heap.size w w') : TwoQ w' B x y m n X1 X2 Y1 Y2 vx ux vy uy :=
  ⟨h.bx, keep_row hb h.rx, h.x1.below hb, h.x2.below hb, h.xx, h.bY, keep_row hb h.ry, h.y1.below hb, h.y2.below hb, h.yy, h.ne, h.c11, h.c12, h.c21, h.c22⟩
set_option maxRecDepth 100000 in
set_option maxHeartbeats 3200000 in
theorem ratInto_x (k : Int) (b1 b2 : Bool) (v1 u1 v2 u2 : Value) (ns1 ds1 ns2 ds2 : List Nat) (V : Int) (D : Nat) (w : World) (hv1 : RW w v1 ns1) (hu1 : RW w u1 ds1) (hv2 : RW w v2 ns2) (hu2 : RW w u2 ds2)
    (l1 : ns1.length ≤ 30) (l2 : ds1.length ≤ 30) (l3 : ns2.length ≤ 30) (l4 : ds2.length ≤ 30)
    (HR : ∀ (g1 g2 : Nat) (W : World), (∃ vx ux vy uy, TwoQ W w.heap.size g1 g2 (b1 && decide (0 < wv ns1)) (b2 && decide (0 < wv ns2)) (wv ns1) (wv ds1) (wv ns2) (wv ds2) vx ux vy uy) → Below w.heap.size w W →
      Calls Tryz.prog 44 #[.int .i64 k, .pointer (some ⟨g1, 0, none⟩), .pointer (some ⟨g1, 0, none⟩), .pointer (some ⟨g2, 0, none⟩)] W fun e w' => ∃ v, e = .returned (.tuple #[v, .bool true]) ∧ FracV w' v V D ∧ Below w.heap.size W w' ∧ FrK W w') :
    Calls Tryz.prog 16 #[.int .i64 k, .int .i64 0, .agg #[.bool b1, v1, u1], .agg #[.bool b2, v2, u2]] w fun e w' => ∃ v, e = .returned v ∧ FracV w' v V D ∧ Below w.heap.size w w' := by
  have hS1 := hv1.isS
  have hS2 := hv2.isS
  have hS3 := hu1.isS
  have hS4 := hu2.isS
  obtain ⟨X, hX⟩ : ∃ X, X = ((w.alloc (.cells #[.bool b1, v1, u1] 26)).alloc (.cells #[.bool b2, v2, u2] 26)).alloc (.cells #[.bool false, .slice none 0 0, .slice none 0 0] 26) := ⟨_, rfl⟩
  have hac : Below w.heap.size w X := by rw [hX]; exact (((Below.refl _ w).alloc (Nat.le_refl _) _).alloc (by simp) _).alloc (by simp; omega) _
  have hr1 : X.heap[w.heap.size]? = some (.cells #[.bool b1, v1, u1] 26 (0, 0)) := by
    rw [hX]; exact keep_row (fbone _) (keep_row (fbone _) (box_row (Below.refl _ _)))
  have hr2 : X.heap[w.heap.size + 1]? = some (.cells #[.bool b2, v2, u2] 26 (0, 0)) := by
    have e : (w.alloc (.cells #[.bool b1, v1, u1] 26)).heap.size = w.heap.size + 1 := by simp
    rw [hX, ← e]; exact keep_row (fbone _) (heap_alloc_new _ _)
  have hr3 : X.heap[w.heap.size + 1 + 1]? = some (.cells #[.bool false, .slice none 0 0, .slice none 0 0] 26 (0, 0)) := by
    have e : ((w.alloc (.cells #[.bool b1, v1, u1] 26)).alloc (.cells #[.bool b2, v2, u2] 26)).heap.size = w.heap.size + 1 + 1 := by simp
    rw [hX, ← e]; exact heap_alloc_new _ _
  have V1 := Lib.hid (hv1.below hac)
  have V2 := Lib.hid (hv2.below hac)
  have U1 := Lib.hid (hu1.below hac)
  have U2 := Lib.hid (hu2.below hac)
  have HR1 := Lib.hid hr1
  have HR2 := Lib.hid hr2
  have HR3 := Lib.hid hr3
  have hwX := Lib.hid hac
  have hcc := Below.refl X.heap.size X
  have hXs := hac.size
  have HRO := Lib.hid HR
  have HF1 : Hid (∀ w', Below X.heap.size X w' → Calls Tryz.prog 43 #[.agg #[.bool b1, v1, u1]] w' fun e w3 => ∃ g, e = .returned (.pointer (some ⟨g, 0, none⟩)) ∧ RatQ w3 w.heap.size g (b1 && decide (0 < wv ns1)) (wv ns1) (wv ds1) ∧ Below X.heap.size X w3) := Lib.hid (fun w' h => by
    refine (rat_sep b1 v1 u1 ns1 ds1 w' (V1.out.below h) (U1.out.below h) (by omega) (by omega)).mono ?_
    rintro e w3 ⟨g, h1, h2, h3⟩
    exact ⟨g, h1, h2.mono (Nat.le_trans hXs h.size), bthen h h3⟩)
  have HF2 : Hid (∀ w' g1, Below X.heap.size X w' → RatQ w' w.heap.size g1 (b1 && decide (0 < wv ns1)) (wv ns1) (wv ds1) → Calls Tryz.prog 43 #[.agg #[.bool b2, v2, u2]] w' fun e w3 => ∃ g, e = .returned (.pointer (some ⟨g, 0, none⟩)) ∧ (∃ vx ux vy uy, TwoQ w3 w.heap.size g1 g (b1 && decide (0 < wv ns1)) (b2 && decide (0 < wv ns2)) (wv ns1) (wv ds1) (wv ns2) (wv ds2) vx ux vy uy) ∧ Below X.heap.size X w3) := Lib.hid (fun w' g1 h hq => by
    refine (rat_sep b2 v2 u2 ns2 ds2 w' (V2.out.below h) (U2.out.below h) (by omega) (by omega)).mono ?_
    rintro e w3 ⟨g, h1, h2, h3⟩
    exact ⟨g, h1, TwoQ.of hq h3 h2 (Nat.le_trans hXs h.size), bthen h h3⟩)
  clear hv1 hv2 hu1 hu2 hac hr1 hr2 hr3 l1 l2 l3 l4 HR
  go_enter Tryz.func16, Tryz.ntmps16
  go_upto_region 1 with fail
  rw [← hX]
  clear hX
  first
    | (go_region_held3 (fun w' => Below X.heap.size X w' ∧ w'.cell? ⟨w.heap.size, 0, none⟩ = some (.bool b1) ∧ w'.cell? ⟨w.heap.size, 1, none⟩ = some v1 ∧ w'.cell? ⟨w.heap.size, 2, none⟩ = some u1 ∧ w'.cell? ⟨w.heap.size + 1, 0, none⟩ = some (.bool b2) ∧ w'.cell? ⟨w.heap.size + 1, 1, none⟩ = some v2 ∧ w'.cell? ⟨w.heap.size + 1, 2, none⟩ = some u2)
        ((refine ks6F HR1.out HR2.out ?_; first | assumption | exact Below.drew hcc))
        (first
          | (go_at_call 43; with_reducible refine (HF2.out _ _ hb3 hF1).mono ?_; rintro _ w4 ⟨g2, rfl, hTQ, hb4⟩; have TQ := Lib.hid hTQ; clear hF1 hTQ)
          | (go_at_call 43; with_reducible refine (HF1.out _ (And.left (by assumption))).mono ?_; rintro _ w3 ⟨g1, rfl, hF1, hb3⟩)))
    | fail
  all_goals
    go_upto_region 3 with fail
    obtain ⟨Y, hY⟩ : ∃ Y, Y = w4.alloc (.cells #[.bool false, .slice none 0 0, .slice none 0 0] 26) := ⟨_, rfl⟩
    have hbY : Below w4.heap.size w4 Y := by rw [hY]; exact fbone _
    have hgr : Y.heap[w4.heap.size]? = some (.cells #[.bool false, .slice none 0 0, .slice none 0 0] 26 (0, 0)) := by rw [hY]; exact heap_alloc_new _ _
    rw [← hY]
    have hXY := bthen hb4 hbY
    have HB := Lib.hid (hwX.out.trans (hXY.mono hXs))
    have HO := Lib.hid (HRO.out g1 g2 Y (by obtain ⟨vx, ux, vy, uy, h⟩ := TQ.out; exact ⟨_, _, _, _, h.below hbY⟩) HB.out)
    have GR := Lib.hid hgr
    have RR := Lib.hid (keep_row hXY HR3.out)
    have hne : w.heap.size + 1 + 1 < w4.heap.size := Nat.lt_of_lt_of_le (get_lt HR3.out) hb4.size
    clear hY hbY hgr hXY hb3 hb4 TQ HF1 HF2 HRO
    go_wp2_with fail
    refine HO.out.mono ?_
    rintro _ w5 ⟨_, rfl, ⟨r1, r2, rfl, hr1, hr2⟩, hb5, hk5⟩
    obtain ⟨sg, hsg⟩ : ∃ b, b = decide (V < 0) := ⟨_, rfl⟩
    rw [← hsg]
    have HG := Lib.hid hsg
    have hT1 := hr1.isS
    have hT2 := hr2.isS
    have hg5 := (hk5 _ _ GR.out).trans GR.out
    have hR5 := (hk5 _ _ RR.out).trans RR.out
    obtain ⟨z0, z1, z2, f0, f1, f2⟩ := row3 hg5
    have G5 := Lib.hid hg5
    have R5 := Lib.hid hR5
    have W1 := Lib.hid hr1
    have W2 := Lib.hid hr2
    have HB5 := Lib.hid (HB.out.trans hb5)
    clear hsg hg5 hR5 hr1 hr2 hb5 hk5
    go_upto_region 10 with fail
    obtain ⟨Y2, hY2⟩ : ∃ Y2, Y2 = ((w5.setCell ⟨w4.heap.size, 0, none⟩ (.bool sg)).setCell ⟨w4.heap.size, 1, none⟩ r1).setCell ⟨w4.heap.size, 2, none⟩ r2 := ⟨_, rfl⟩
    have hg6 : Y2.heap[w4.heap.size]? = some (.cells #[.bool sg, r1, r2] 26 (0, 0)) := by rw [hY2]; exact row3_set G5.out
    have hR6 : Y2.heap[w.heap.size + 1 + 1]? = some (.cells #[.bool false, .slice none 0 0, .slice none 0 0] 26 (0, 0)) := by
      rw [hY2, heap_setCell_other _ _ _ _ (by simp only; omega), heap_setCell_other _ _ _ _ (by simp only; omega), heap_setCell_other _ _ _ _ (by simp only; omega)]; exact R5.out
    have X1 : Hid (RW Y2 r1 (wds (V.natAbs / Nat.gcd V.natAbs D))) := Lib.hid (by rw [hY2]; exact rw_row3 W1.out IsS.nil IsS.nil G5.out)
    have X2 : Hid (RW Y2 r2 (wds (D / Nat.gcd V.natAbs D))) := Lib.hid (by rw [hY2]; exact rw_row3 W2.out IsS.nil IsS.nil G5.out)
    have HB6 : Hid (Below w.heap.size w Y2) := Lib.hid (by rw [hY2]; exact bset (bset (bset HB5.out (by omega)) (by omega)) (by omega))
    rw [← hY2]
    clear hY2 z0 z1 z2 f0 f1 f2
    obtain ⟨z0, z1, z2, -, -, -⟩ := row3 hg6
    obtain ⟨i0, i1, i2, f0, f1, f2⟩ := row3 hR6
    have R6 := Lib.hid hR6
    clear hg6 hR6
    go_wp2
    obtain ⟨hx0, hx1, hx2, -, -, -⟩ := row3 (row3_set (x := .bool sg) (y := r1) (z := r2) R6.out)
    refine bodyPost_ret (v := .agg #[.bool sg, r1, r2]) ?_ rfl ⟨_, rfl, ⟨r1, r2, by rw [HG.out], ?_, ?_⟩, bset (bset (bset HB6.out (by omega)) (by omega)) (by omega)⟩
    · simp [results, Tryz.results16, go_sem, hx0, hx1, hx2]
    · exact rw_row3 (x := .bool sg) (y := r1) (z := r2) X1.out IsS.nil IsS.nil R6.out
    · exact rw_row3 (x := .bool sg) (y := r1) (z := r2) X2.out IsS.nil IsS.nil R6.out
set_option maxRecDepth 100000 in
set_option maxHeartbeats 3200000 in
theorem ratInto_y (k : Int) (b1 b2 : Bool) (v1 u1 v2 u2 : Value) (ns1 ds1 ns2 ds2 : List Nat) (V : Int) (D : Nat) (w : World) (hv1 : RW w v1 ns1) (hu1 : RW w u1 ds1) (hv2 : RW w v2 ns2) (hu2 : RW w u2 ds2)
    (l1 : ns1.length ≤ 30) (l2 : ds1.length ≤ 30) (l3 : ns2.length ≤ 30) (l4 : ds2.length ≤ 30)
    (HR : ∀ (g1 g2 : Nat) (W : World), (∃ vx ux vy uy, TwoQ W w.heap.size g1 g2 (b1 && decide (0 < wv ns1)) (b2 && decide (0 < wv ns2)) (wv ns1) (wv ds1) (wv ns2) (wv ds2) vx ux vy uy) → Below w.heap.size w W →
      Calls Tryz.prog 44 #[.int .i64 k, .pointer (some ⟨g2, 0, none⟩), .pointer (some ⟨g1, 0, none⟩), .pointer (some ⟨g2, 0, none⟩)] W fun e w' => ∃ v, e = .returned (.tuple #[v, .bool true]) ∧ FracV w' v V D ∧ Below w.heap.size W w' ∧ FrK W w') :
    Calls Tryz.prog 16 #[.int .i64 k, .int .i64 1, .agg #[.bool b1, v1, u1], .agg #[.bool b2, v2, u2]] w fun e w' => ∃ v, e = .returned v ∧ FracV w' v V D ∧ Below w.heap.size w w' := by
  have hS1 := hv1.isS
  have hS2 := hv2.isS
  have hS3 := hu1.isS
  have hS4 := hu2.isS
  obtain ⟨X, hX⟩ : ∃ X, X = ((w.alloc (.cells #[.bool b1, v1, u1] 26)).alloc (.cells #[.bool b2, v2, u2] 26)).alloc (.cells #[.bool false, .slice none 0 0, .slice none 0 0] 26) := ⟨_, rfl⟩
  have hac : Below w.heap.size w X := by rw [hX]; exact (((Below.refl _ w).alloc (Nat.le_refl _) _).alloc (by simp) _).alloc (by simp; omega) _
  have hr1 : X.heap[w.heap.size]? = some (.cells #[.bool b1, v1, u1] 26 (0, 0)) := by
    rw [hX]; exact keep_row (fbone _) (keep_row (fbone _) (box_row (Below.refl _ _)))
  have hr2 : X.heap[w.heap.size + 1]? = some (.cells #[.bool b2, v2, u2] 26 (0, 0)) := by
    have e : (w.alloc (.cells #[.bool b1, v1, u1] 26)).heap.size = w.heap.size + 1 := by simp
    rw [hX, ← e]; exact keep_row (fbone _) (heap_alloc_new _ _)
  have hr3 : X.heap[w.heap.size + 1 + 1]? = some (.cells #[.bool false, .slice none 0 0, .slice none 0 0] 26 (0, 0)) := by
    have e : ((w.alloc (.cells #[.bool b1, v1, u1] 26)).alloc (.cells #[.bool b2, v2, u2] 26)).heap.size = w.heap.size + 1 + 1 := by simp
    rw [hX, ← e]; exact heap_alloc_new _ _
  have V1 := Lib.hid (hv1.below hac)
  have V2 := Lib.hid (hv2.below hac)
  have U1 := Lib.hid (hu1.below hac)
  have U2 := Lib.hid (hu2.below hac)
  have HR1 := Lib.hid hr1
  have HR2 := Lib.hid hr2
  have HR3 := Lib.hid hr3
  have hwX := Lib.hid hac
  have hcc := Below.refl X.heap.size X
  have hXs := hac.size
  have HRO := Lib.hid HR
  have HF1 : Hid (∀ w', Below X.heap.size X w' → Calls Tryz.prog 43 #[.agg #[.bool b1, v1, u1]] w' fun e w3 => ∃ g, e = .returned (.pointer (some ⟨g, 0, none⟩)) ∧ RatQ w3 w.heap.size g (b1 && decide (0 < wv ns1)) (wv ns1) (wv ds1) ∧ Below X.heap.size X w3) := Lib.hid (fun w' h => by
    refine (rat_sep b1 v1 u1 ns1 ds1 w' (V1.out.below h) (U1.out.below h) (by omega) (by omega)).mono ?_
    rintro e w3 ⟨g, h1, h2, h3⟩
    exact ⟨g, h1, h2.mono (Nat.le_trans hXs h.size), bthen h h3⟩)
  have HF2 : Hid (∀ w' g1, Below X.heap.size X w' → RatQ w' w.heap.size g1 (b1 && decide (0 < wv ns1)) (wv ns1) (wv ds1) → Calls Tryz.prog 43 #[.agg #[.bool b2, v2, u2]] w' fun e w3 => ∃ g, e = .returned (.pointer (some ⟨g, 0, none⟩)) ∧ (∃ vx ux vy uy, TwoQ w3 w.heap.size g1 g (b1 && decide (0 < wv ns1)) (b2 && decide (0 < wv ns2)) (wv ns1) (wv ds1) (wv ns2) (wv ds2) vx ux vy uy) ∧ Below X.heap.size X w3) := Lib.hid (fun w' g1 h hq => by
    refine (rat_sep b2 v2 u2 ns2 ds2 w' (V2.out.below h) (U2.out.below h) (by omega) (by omega)).mono ?_
    rintro e w3 ⟨g, h1, h2, h3⟩
    exact ⟨g, h1, TwoQ.of hq h3 h2 (Nat.le_trans hXs h.size), bthen h h3⟩)
  clear hv1 hv2 hu1 hu2 hac hr1 hr2 hr3 l1 l2 l3 l4 HR
  go_enter Tryz.func16, Tryz.ntmps16
  go_upto_region 1 with fail
  rw [← hX]
  clear hX
  first
    | (go_region_held3 (fun w' => Below X.heap.size X w' ∧ w'.cell? ⟨w.heap.size, 0, none⟩ = some (.bool b1) ∧ w'.cell? ⟨w.heap.size, 1, none⟩ = some v1 ∧ w'.cell? ⟨w.heap.size, 2, none⟩ = some u1 ∧ w'.cell? ⟨w.heap.size + 1, 0, none⟩ = some (.bool b2) ∧ w'.cell? ⟨w.heap.size + 1, 1, none⟩ = some v2 ∧ w'.cell? ⟨w.heap.size + 1, 2, none⟩ = some u2)
        ((refine ks6F HR1.out HR2.out ?_; first | assumption | exact Below.drew hcc))
        (first
          | (go_at_call 43; with_reducible refine (HF2.out _ _ hb3 hF1).mono ?_; rintro _ w4 ⟨g2, rfl, hTQ, hb4⟩; have TQ := Lib.hid hTQ; clear hF1 hTQ)
          | (go_at_call 43; with_reducible refine (HF1.out _ (And.left (by assumption))).mono ?_; rintro _ w3 ⟨g1, rfl, hF1, hb3⟩)))
    | fail
  all_goals
    go_upto_region 3 with fail
    obtain ⟨Y, hY⟩ : ∃ Y, Y = w4.alloc (.cells #[.bool false, .slice none 0 0, .slice none 0 0] 26) := ⟨_, rfl⟩
    have hbY : Below w4.heap.size w4 Y := by rw [hY]; exact fbone _
    have hgr : Y.heap[w4.heap.size]? = some (.cells #[.bool false, .slice none 0 0, .slice none 0 0] 26 (0, 0)) := by rw [hY]; exact heap_alloc_new _ _
    rw [← hY]
    have hXY := bthen hb4 hbY
    have HB := Lib.hid (hwX.out.trans (hXY.mono hXs))
    have HO := Lib.hid (HRO.out g1 g2 Y (by obtain ⟨vx, ux, vy, uy, h⟩ := TQ.out; exact ⟨_, _, _, _, h.below hbY⟩) HB.out)
    have GR := Lib.hid hgr
    have RR := Lib.hid (keep_row hXY HR3.out)
    have hne : w.heap.size + 1 + 1 < w4.heap.size := Nat.lt_of_lt_of_le (get_lt HR3.out) hb4.size
    clear hY hbY hgr hXY hb3 hb4 TQ HF1 HF2 HRO
    go_wp2_with fail
    refine HO.out.mono ?_
    rintro _ w5 ⟨_, rfl, ⟨r1, r2, rfl, hr1, hr2⟩, hb5, hk5⟩
    obtain ⟨sg, hsg⟩ : ∃ b, b = decide (V < 0) := ⟨_, rfl⟩
    rw [← hsg]
    have HG := Lib.hid hsg
    have hT1 := hr1.isS
    have hT2 := hr2.isS
    have hg5 := (hk5 _ _ GR.out).trans GR.out
    have hR5 := (hk5 _ _ RR.out).trans RR.out
    obtain ⟨z0, z1, z2, f0, f1, f2⟩ := row3 hg5
    have G5 := Lib.hid hg5
    have R5 := Lib.hid hR5
    have W1 := Lib.hid hr1
    have W2 := Lib.hid hr2
    have HB5 := Lib.hid (HB.out.trans hb5)
    clear hsg hg5 hR5 hr1 hr2 hb5 hk5
    go_upto_region 10 with fail
    obtain ⟨Y2, hY2⟩ : ∃ Y2, Y2 = ((w5.setCell ⟨w4.heap.size, 0, none⟩ (.bool sg)).setCell ⟨w4.heap.size, 1, none⟩ r1).setCell ⟨w4.heap.size, 2, none⟩ r2 := ⟨_, rfl⟩
    have hg6 : Y2.heap[w4.heap.size]? = some (.cells #[.bool sg, r1, r2] 26 (0, 0)) := by rw [hY2]; exact row3_set G5.out
    have hR6 : Y2.heap[w.heap.size + 1 + 1]? = some (.cells #[.bool false, .slice none 0 0, .slice none 0 0] 26 (0, 0)) := by
      rw [hY2, heap_setCell_other _ _ _ _ (by simp only; omega), heap_setCell_other _ _ _ _ (by simp only; omega), heap_setCell_other _ _ _ _ (by simp only; omega)]; exact R5.out
    have X1 : Hid (RW Y2 r1 (wds (V.natAbs / Nat.gcd V.natAbs D))) := Lib.hid (by rw [hY2]; exact rw_row3 W1.out IsS.nil IsS.nil G5.out)
    have X2 : Hid (RW Y2 r2 (wds (D / Nat.gcd V.natAbs D))) := Lib.hid (by rw [hY2]; exact rw_row3 W2.out IsS.nil IsS.nil G5.out)
    have HB6 : Hid (Below w.heap.size w Y2) := Lib.hid (by rw [hY2]; exact bset (bset (bset HB5.out (by omega)) (by omega)) (by omega))
    rw [← hY2]
    clear hY2 z0 z1 z2 f0 f1 f2
    obtain ⟨z0, z1, z2, -, -, -⟩ := row3 hg6
    obtain ⟨i0, i1, i2, f0, f1, f2⟩ := row3 hR6
    have R6 := Lib.hid hR6
    clear hg6 hR6
    go_wp2
    obtain ⟨hx0, hx1, hx2, -, -, -⟩ := row3 (row3_set (x := .bool sg) (y := r1) (z := r2) R6.out)
    refine bodyPost_ret (v := .agg #[.bool sg, r1, r2]) ?_ rfl ⟨_, rfl, ⟨r1, r2, by rw [HG.out], ?_, ?_⟩, bset (bset (bset HB6.out (by omega)) (by omega)) (by omega)⟩
    · simp [results, Tryz.results16, go_sem, hx0, hx1, hx2]
    · exact rw_row3 (x := .bool sg) (y := r1) (z := r2) X1.out IsS.nil IsS.nil R6.out
    · exact rw_row3 (x := .bool sg) (y := r1) (z := r2) X2.out IsS.nil IsS.nil R6.out
set_option maxRecDepth 100000 in
set_option maxHeartbeats 3200000 in
theorem ratInto_s (k : Int) (b1 b2 : Bool) (v1 u1 v2 u2 : Value) (ns1 ds1 ns2 ds2 : List Nat) (V : Int) (D : Nat) (w : World) (hv1 : RW w v1 ns1) (hu1 : RW w u1 ds1) (hv2 : RW w v2 ns2) (hu2 : RW w u2 ds2)
    (l1 : ns1.length ≤ 30) (l2 : ds1.length ≤ 30) (l3 : ns2.length ≤ 30) (l4 : ds2.length ≤ 30)
    (HR : ∀ (g1 g2 : Nat) (W : World), (∃ vx ux vy uy, TwoQ W w.heap.size g1 g2 (b1 && decide (0 < wv ns1)) (b2 && decide (0 < wv ns2)) (wv ns1) (wv ds1) (wv ns2) (wv ds2) vx ux vy uy) → Below w.heap.size w W →
      Calls Tryz.prog 44 #[.int .i64 k, .pointer (some ⟨g1, 0, none⟩), .pointer (some ⟨g1, 0, none⟩), .pointer (some ⟨g1, 0, none⟩)] W fun e w' => ∃ v, e = .returned (.tuple #[v, .bool true]) ∧ FracV w' v V D ∧ Below w.heap.size W w' ∧ FrK W w') :
    Calls Tryz.prog 16 #[.int .i64 k, .int .i64 2, .agg #[.bool b1, v1, u1], .agg #[.bool b2, v2, u2]] w fun e w' => ∃ v, e = .returned v ∧ FracV w' v V D ∧ Below w.heap.size w w' := by
  have hS1 := hv1.isS
  have hS2 := hv2.isS
  have hS3 := hu1.isS
  have hS4 := hu2.isS
  obtain ⟨X, hX⟩ : ∃ X, X = ((w.alloc (.cells #[.bool b1, v1, u1] 26)).alloc (.cells #[.bool b2, v2, u2] 26)).alloc (.cells #[.bool false, .slice none 0 0, .slice none 0 0] 26) := ⟨_, rfl⟩
  have hac : Below w.heap.size w X := by rw [hX]; exact (((Below.refl _ w).alloc (Nat.le_refl _) _).alloc (by simp) _).alloc (by simp; omega) _
  have hr1 : X.heap[w.heap.size]? = some (.cells #[.bool b1, v1, u1] 26 (0, 0)) := by
    rw [hX]; exact keep_row (fbone _) (keep_row (fbone _) (box_row (Below.refl _ _)))
  have hr2 : X.heap[w.heap.size + 1]? = some (.cells #[.bool b2, v2, u2] 26 (0, 0)) := by
    have e : (w.alloc (.cells #[.bool b1, v1, u1] 26)).heap.size = w.heap.size + 1 := by simp
    rw [hX, ← e]; exact keep_row (fbone _) (heap_alloc_new _ _)
  have hr3 : X.heap[w.heap.size + 1 + 1]? = some (.cells #[.bool false, .slice none 0 0, .slice none 0 0] 26 (0, 0)) := by
    have e : ((w.alloc (.cells #[.bool b1, v1, u1] 26)).alloc (.cells #[.bool b2, v2, u2] 26)).heap.size = w.heap.size + 1 + 1 := by simp
    rw [hX, ← e]; exact heap_alloc_new _ _
  have V1 := Lib.hid (hv1.below hac)
  have V2 := Lib.hid (hv2.below hac)
  have U1 := Lib.hid (hu1.below hac)
  have U2 := Lib.hid (hu2.below hac)
  have HR1 := Lib.hid hr1
  have HR2 := Lib.hid hr2
  have HR3 := Lib.hid hr3
  have hwX := Lib.hid hac
  have hcc := Below.refl X.heap.size X
  have hXs := hac.size
  have HRO := Lib.hid HR
  have HF1 : Hid (∀ w', Below X.heap.size X w' → Calls Tryz.prog 43 #[.agg #[.bool b1, v1, u1]] w' fun e w3 => ∃ g, e = .returned (.pointer (some ⟨g, 0, none⟩)) ∧ RatQ w3 w.heap.size g (b1 && decide (0 < wv ns1)) (wv ns1) (wv ds1) ∧ Below X.heap.size X w3) := Lib.hid (fun w' h => by
    refine (rat_sep b1 v1 u1 ns1 ds1 w' (V1.out.below h) (U1.out.below h) (by omega) (by omega)).mono ?_
    rintro e w3 ⟨g, h1, h2, h3⟩
    exact ⟨g, h1, h2.mono (Nat.le_trans hXs h.size), bthen h h3⟩)
  have HF2 : Hid (∀ w' g1, Below X.heap.size X w' → RatQ w' w.heap.size g1 (b1 && decide (0 < wv ns1)) (wv ns1) (wv ds1) → Calls Tryz.prog 43 #[.agg #[.bool b2, v2, u2]] w' fun e w3 => ∃ g, e = .returned (.pointer (some ⟨g, 0, none⟩)) ∧ (∃ vx ux vy uy, TwoQ w3 w.heap.size g1 g (b1 && decide (0 < wv ns1)) (b2 && decide (0 < wv ns2)) (wv ns1) (wv ds1) (wv ns2) (wv ds2) vx ux vy uy) ∧ Below X.heap.size X w3) := Lib.hid (fun w' g1 h hq => by
    refine (rat_sep b2 v2 u2 ns2 ds2 w' (V2.out.below h) (U2.out.below h) (by omega) (by omega)).mono ?_
    rintro e w3 ⟨g, h1, h2, h3⟩
    exact ⟨g, h1, TwoQ.of hq h3 h2 (Nat.le_trans hXs h.size), bthen h h3⟩)
  clear hv1 hv2 hu1 hu2 hac hr1 hr2 hr3 l1 l2 l3 l4 HR
  go_enter Tryz.func16, Tryz.ntmps16
  go_upto_region 1 with fail
  rw [← hX]
  clear hX
  first
    | (go_region_held3 (fun w' => Below X.heap.size X w' ∧ w'.cell? ⟨w.heap.size, 0, none⟩ = some (.bool b1) ∧ w'.cell? ⟨w.heap.size, 1, none⟩ = some v1 ∧ w'.cell? ⟨w.heap.size, 2, none⟩ = some u1 ∧ w'.cell? ⟨w.heap.size + 1, 0, none⟩ = some (.bool b2) ∧ w'.cell? ⟨w.heap.size + 1, 1, none⟩ = some v2 ∧ w'.cell? ⟨w.heap.size + 1, 2, none⟩ = some u2)
        ((refine ks6F HR1.out HR2.out ?_; first | assumption | exact Below.drew hcc))
        (first
          | (go_at_call 43; with_reducible refine (HF2.out _ _ hb3 hF1).mono ?_; rintro _ w4 ⟨g2, rfl, hTQ, hb4⟩; have TQ := Lib.hid hTQ; clear hF1 hTQ)
          | (go_at_call 43; with_reducible refine (HF1.out _ (And.left (by assumption))).mono ?_; rintro _ w3 ⟨g1, rfl, hF1, hb3⟩)))
    | fail
  all_goals
    go_upto_region 3 with fail
    obtain ⟨Y, hY⟩ : ∃ Y, Y = w4.alloc (.cells #[.bool false, .slice none 0 0, .slice none 0 0] 26) := ⟨_, rfl⟩
    have hbY : Below w4.heap.size w4 Y := by rw [hY]; exact fbone _
    have hgr : Y.heap[w4.heap.size]? = some (.cells #[.bool false, .slice none 0 0, .slice none 0 0] 26 (0, 0)) := by rw [hY]; exact heap_alloc_new _ _
    rw [← hY]
    have hXY := bthen hb4 hbY
    have HB := Lib.hid (hwX.out.trans (hXY.mono hXs))
    have HO := Lib.hid (HRO.out g1 g2 Y (by obtain ⟨vx, ux, vy, uy, h⟩ := TQ.out; exact ⟨_, _, _, _, h.below hbY⟩) HB.out)
    have GR := Lib.hid hgr
    have RR := Lib.hid (keep_row hXY HR3.out)
    have hne : w.heap.size + 1 + 1 < w4.heap.size := Nat.lt_of_lt_of_le (get_lt HR3.out) hb4.size
    clear hY hbY hgr hXY hb3 hb4 TQ HF1 HF2 HRO
    go_wp2_with fail
    refine HO.out.mono ?_
    rintro _ w5 ⟨_, rfl, ⟨r1, r2, rfl, hr1, hr2⟩, hb5, hk5⟩
    obtain ⟨sg, hsg⟩ : ∃ b, b = decide (V < 0) := ⟨_, rfl⟩
    rw [← hsg]
    have HG := Lib.hid hsg
    have hT1 := hr1.isS
    have hT2 := hr2.isS
    have hg5 := (hk5 _ _ GR.out).trans GR.out
    have hR5 := (hk5 _ _ RR.out).trans RR.out
    obtain ⟨z0, z1, z2, f0, f1, f2⟩ := row3 hg5
    have G5 := Lib.hid hg5
    have R5 := Lib.hid hR5
    have W1 := Lib.hid hr1
    have W2 := Lib.hid hr2
    have HB5 := Lib.hid (HB.out.trans hb5)
    clear hsg hg5 hR5 hr1 hr2 hb5 hk5
    go_upto_region 10 with fail
    obtain ⟨Y2, hY2⟩ : ∃ Y2, Y2 = ((w5.setCell ⟨w4.heap.size, 0, none⟩ (.bool sg)).setCell ⟨w4.heap.size, 1, none⟩ r1).setCell ⟨w4.heap.size, 2, none⟩ r2 := ⟨_, rfl⟩
    have hg6 : Y2.heap[w4.heap.size]? = some (.cells #[.bool sg, r1, r2] 26 (0, 0)) := by rw [hY2]; exact row3_set G5.out
    have hR6 : Y2.heap[w.heap.size + 1 + 1]? = some (.cells #[.bool false, .slice none 0 0, .slice none 0 0] 26 (0, 0)) := by
      rw [hY2, heap_setCell_other _ _ _ _ (by simp only; omega), heap_setCell_other _ _ _ _ (by simp only; omega), heap_setCell_other _ _ _ _ (by simp only; omega)]; exact R5.out
    have X1 : Hid (RW Y2 r1 (wds (V.natAbs / Nat.gcd V.natAbs D))) := Lib.hid (by rw [hY2]; exact rw_row3 W1.out IsS.nil IsS.nil G5.out)
    have X2 : Hid (RW Y2 r2 (wds (D / Nat.gcd V.natAbs D))) := Lib.hid (by rw [hY2]; exact rw_row3 W2.out IsS.nil IsS.nil G5.out)
    have HB6 : Hid (Below w.heap.size w Y2) := Lib.hid (by rw [hY2]; exact bset (bset (bset HB5.out (by omega)) (by omega)) (by omega))
    rw [← hY2]
    clear hY2 z0 z1 z2 f0 f1 f2
    obtain ⟨z0, z1, z2, -, -, -⟩ := row3 hg6
    obtain ⟨i0, i1, i2, f0, f1, f2⟩ := row3 hR6
    have R6 := Lib.hid hR6
    clear hg6 hR6
    go_wp2
    obtain ⟨hx0, hx1, hx2, -, -, -⟩ := row3 (row3_set (x := .bool sg) (y := r1) (z := r2) R6.out)
    refine bodyPost_ret (v := .agg #[.bool sg, r1, r2]) ?_ rfl ⟨_, rfl, ⟨r1, r2, by rw [HG.out], ?_, ?_⟩, bset (bset (bset HB6.out (by omega)) (by omega)) (by omega)⟩
    · simp [results, Tryz.results16, go_sem, hx0, hx1, hx2]
    · exact rw_row3 (x := .bool sg) (y := r1) (z := r2) X1.out IsS.nil IsS.nil R6.out
    · exact rw_row3 (x := .bool sg) (y := r1) (z := r2) X2.out IsS.nil IsS.nil R6.out
theorem frac_sign {b : Bool} {ns ds : List Nat} {n d : Nat} (h : isFrac b ns ds b n d = true) : (b && decide (0 < n)) = b := by
  unfold isFrac isNum at h
  rw [Bool.and_eq_true, Bool.and_eq_true] at h
  exact (beq_iff_eq.1 h.1.1).symm

theorem ks9G {W X : World} {k g p T U : Nat} {a b c d e f a' b' c' : Value} (h1 : W.heap[k]? = some (.cells #[a, b, c] T (0, 0))) (h2 : W.heap[g]? = some (.cells #[d, e, f] T (0, 0))) (h3 : W.heap[p]? = some (.cells #[a', b', c'] U (0, 0))) (h : Below W.heap.size W X) :
    Below W.heap.size W X ∧ (X.cell? ⟨k, 0, none⟩ = some a ∧ X.cell? ⟨k, 1, none⟩ = some b ∧ X.cell? ⟨k, 2, none⟩ = some c ∧ X.cell? ⟨g, 0, none⟩ = some d ∧ X.cell? ⟨g, 1, none⟩ = some e ∧ X.cell? ⟨g, 2, none⟩ = some f) ∧
    X.cell? ⟨p, 0, none⟩ = some a' ∧ X.cell? ⟨p, 1, none⟩ = some b' ∧ X.cell? ⟨p, 2, none⟩ = some c' := by
  obtain ⟨x0, x1, x2, -, -, -⟩ := row3 (keep_row h h3)
  exact ⟨h, (ks6F h1 h2 h).2, x0, x1, x2⟩
theorem into_add_x (b1 b2 : Bool) (v1 u1 v2 u2 : Value) (ns1 ds1 ns2 ds2 : List Nat) (w : World) (hv1 : RW w v1 ns1) (hu1 : RW w u1 ds1) (hv2 : RW w v2 ns2) (hu2 : RW w u2 ds2) (hx1 : (b1 && decide (0 < wv ns1)) = b1) (hx2 : (b2 && decide (0 < wv ns2)) = b2)
    (l1 : ns1.length ≤ 16) (l2 : ds1.length ≤ 16) (l3 : ns2.length ≤ 16) (l4 : ds2.length ≤ 16) (p1 : 0 < wv ds1) (p2 : 0 < wv ds2) (hK : KarW w) (hT : DivW w) :
    Calls Tryz.prog 16 #[.int .i64 0, .int .i64 0, .agg #[.bool b1, v1, u1], .agg #[.bool b2, v2, u2]] w fun e w' => ∃ v, e = .returned v ∧ FracV w' v (rI b1 (wv ns1 * wv ds2) + rI b2 (wv ns2 * wv ds1)) (wv ds1 * wv ds2) ∧ Below w.heap.size w w' := by
  have dg : 4 < w.heap.size := World.block_lt_of_cell? w _ hT
  have kg : 3 < w.heap.size := World.block_lt_of_cell? w _ hK
  have k1 := nw_le (wv_lt hv1.lt)
  have k2 := nw_le (wv_lt hu1.lt)
  have k3 := nw_le (wv_lt hv2.lt)
  have k4 := nw_le (wv_lt hu2.lt)
  have n1 : nw (rI b1 (wv ns1 * wv ds2) + rI b2 (wv ns2 * wv ds1)).natAbs < 40 := by
    exact Nat.lt_of_le_of_lt (nw_sumAdd b1 b2 _ _ _ _ (a := 32) (b := 32) (Nat.le_trans (nw_mul_le _ _) (by omega)) (Nat.le_trans (nw_mul_le _ _) (by omega))) (by decide)
  have n2 : nw (wv ds1 * wv ds2) < 40 := Nat.lt_of_le_of_lt (nw_mul_le _ _) (by omega)
  refine ratInto_x 0 b1 b2 v1 u1 v2 u2 ns1 ds1 ns2 ds2 _ _ w hv1 hu1 hv2 hu2 (by omega) (by omega) (by omega) (by omega) (fun g1 g2 W hq hb => ?_)
  obtain ⟨vx, ux, vy, uy, hq⟩ := hq
  rw [hx1, hx2] at hq
  refine ratOf_add _ _ _ w.heap.size _ _ W hb.size (Nat.mul_pos p1 p2) (by omega) (by omega) (fun W' hb' => ?_)
  have hbw := hb.trans (hb'.mono hb.size)
  exact (hq.below hb').add ((hq.rcvL p1 p2).below hb') p1 p2 (by omega) (by omega) (by omega) (by omega) n1 n2 (hK.below hbw) (hT.below hbw) dg kg
theorem into_add_y (b1 b2 : Bool) (v1 u1 v2 u2 : Value) (ns1 ds1 ns2 ds2 : List Nat) (w : World) (hv1 : RW w v1 ns1) (hu1 : RW w u1 ds1) (hv2 : RW w v2 ns2) (hu2 : RW w u2 ds2) (hx1 : (b1 && decide (0 < wv ns1)) = b1) (hx2 : (b2 && decide (0 < wv ns2)) = b2)
    (l1 : ns1.length ≤ 16) (l2 : ds1.length ≤ 16) (l3 : ns2.length ≤ 16) (l4 : ds2.length ≤ 16) (p1 : 0 < wv ds1) (p2 : 0 < wv ds2) (hK : KarW w) (hT : DivW w) :
    Calls Tryz.prog 16 #[.int .i64 0, .int .i64 1, .agg #[.bool b1, v1, u1], .agg #[.bool b2, v2, u2]] w fun e w' => ∃ v, e = .returned v ∧ FracV w' v (rI b1 (wv ns1 * wv ds2) + rI b2 (wv ns2 * wv ds1)) (wv ds1 * wv ds2) ∧ Below w.heap.size w w' := by
  have dg : 4 < w.heap.size := World.block_lt_of_cell? w _ hT
  have kg : 3 < w.heap.size := World.block_lt_of_cell? w _ hK
  have k1 := nw_le (wv_lt hv1.lt)
  have k2 := nw_le (wv_lt hu1.lt)
  have k3 := nw_le (wv_lt hv2.lt)
  have k4 := nw_le (wv_lt hu2.lt)
  have n1 : nw (rI b1 (wv ns1 * wv ds2) + rI b2 (wv ns2 * wv ds1)).natAbs < 40 := by
    exact Nat.lt_of_le_of_lt (nw_sumAdd b1 b2 _ _ _ _ (a := 32) (b := 32) (Nat.le_trans (nw_mul_le _ _) (by omega)) (Nat.le_trans (nw_mul_le _ _) (by omega))) (by decide)
  have n2 : nw (wv ds1 * wv ds2) < 40 := Nat.lt_of_le_of_lt (nw_mul_le _ _) (by omega)
  refine ratInto_y 0 b1 b2 v1 u1 v2 u2 ns1 ds1 ns2 ds2 _ _ w hv1 hu1 hv2 hu2 (by omega) (by omega) (by omega) (by omega) (fun g1 g2 W hq hb => ?_)
  obtain ⟨vx, ux, vy, uy, hq⟩ := hq
  rw [hx1, hx2] at hq
  refine ratOf_add _ _ _ w.heap.size _ _ W hb.size (Nat.mul_pos p1 p2) (by omega) (by omega) (fun W' hb' => ?_)
  have hbw := hb.trans (hb'.mono hb.size)
  exact (hq.below hb').add ((hq.rcvR p1 p2).below hb') p1 p2 (by omega) (by omega) (by omega) (by omega) n1 n2 (hK.below hbw) (hT.below hbw) dg kg
theorem into_add_s (b1 b2 : Bool) (v1 u1 v2 u2 : Value) (ns1 ds1 ns2 ds2 : List Nat) (w : World) (hv1 : RW w v1 ns1) (hu1 : RW w u1 ds1) (hv2 : RW w v2 ns2) (hu2 : RW w u2 ds2) (hx1 : (b1 && decide (0 < wv ns1)) = b1) (hx2 : (b2 && decide (0 < wv ns2)) = b2)
    (l1 : ns1.length ≤ 16) (l2 : ds1.length ≤ 16) (l3 : ns2.length ≤ 16) (l4 : ds2.length ≤ 16) (p1 : 0 < wv ds1) (_p2 : 0 < wv ds2) (hK : KarW w) (hT : DivW w) :
    Calls Tryz.prog 16 #[.int .i64 0, .int .i64 2, .agg #[.bool b1, v1, u1], .agg #[.bool b2, v2, u2]] w fun e w' => ∃ v, e = .returned v ∧ FracV w' v (rI b1 (wv ns1 * wv ds1) + rI b1 (wv ns1 * wv ds1)) (wv ds1 * wv ds1) ∧ Below w.heap.size w w' := by
  have dg : 4 < w.heap.size := World.block_lt_of_cell? w _ hT
  have kg : 3 < w.heap.size := World.block_lt_of_cell? w _ hK
  have k1 := nw_le (wv_lt hv1.lt)
  have k2 := nw_le (wv_lt hu1.lt)
  have k3 := nw_le (wv_lt hv2.lt)
  have k4 := nw_le (wv_lt hu2.lt)
  have n1 : nw (rI b1 (wv ns1 * wv ds1) + rI b1 (wv ns1 * wv ds1)).natAbs < 40 := by
    exact Nat.lt_of_le_of_lt (nw_sumAdd b1 b1 _ _ _ _ (a := 32) (b := 32) (Nat.le_trans (nw_mul_le _ _) (by omega)) (Nat.le_trans (nw_mul_le _ _) (by omega))) (by decide)
  have n2 : nw (wv ds1 * wv ds1) < 40 := Nat.lt_of_le_of_lt (nw_mul_le _ _) (by omega)
  refine ratInto_s 0 b1 b2 v1 u1 v2 u2 ns1 ds1 ns2 ds2 _ _ w hv1 hu1 hv2 hu2 (by omega) (by omega) (by omega) (by omega) (fun g1 g2 W hq hb => ?_)
  obtain ⟨vx, ux, vy, uy, hq⟩ := hq
  rw [hx1, hx2] at hq
  refine ratOf_add _ _ _ w.heap.size _ _ W hb.size (Nat.mul_pos p1 p1) (by omega) (by omega) (fun W' hb' => ?_)
  have hbw := hb.trans (hb'.mono hb.size)
  exact (RatQ.below ⟨vx, ux, hq.bx, hq.rx, hq.x1, hq.x2, hq.xx⟩ hb').add3 p1 (by omega) (by omega) n1 n2 (hK.below hbw) (hT.below hbw) dg kg
theorem into_sub_x (b1 b2 : Bool) (v1 u1 v2 u2 : Value) (ns1 ds1 ns2 ds2 : List Nat) (w : World) (hv1 : RW w v1 ns1) (hu1 : RW w u1 ds1) (hv2 : RW w v2 ns2) (hu2 : RW w u2 ds2) (hx1 : (b1 && decide (0 < wv ns1)) = b1) (hx2 : (b2 && decide (0 < wv ns2)) = b2)
    (l1 : ns1.length ≤ 16) (l2 : ds1.length ≤ 16) (l3 : ns2.length ≤ 16) (l4 : ds2.length ≤ 16) (p1 : 0 < wv ds1) (p2 : 0 < wv ds2) (hK : KarW w) (hT : DivW w) :
    Calls Tryz.prog 16 #[.int .i64 1, .int .i64 0, .agg #[.bool b1, v1, u1], .agg #[.bool b2, v2, u2]] w fun e w' => ∃ v, e = .returned v ∧ FracV w' v (rI b1 (wv ns1 * wv ds2) + rI (!b2) (wv ns2 * wv ds1)) (wv ds1 * wv ds2) ∧ Below w.heap.size w w' := by
  have dg : 4 < w.heap.size := World.block_lt_of_cell? w _ hT
  have kg : 3 < w.heap.size := World.block_lt_of_cell? w _ hK
  have k1 := nw_le (wv_lt hv1.lt)
  have k2 := nw_le (wv_lt hu1.lt)
  have k3 := nw_le (wv_lt hv2.lt)
  have k4 := nw_le (wv_lt hu2.lt)
  have n1 : nw (rI b1 (wv ns1 * wv ds2) + rI (!b2) (wv ns2 * wv ds1)).natAbs < 40 := by
    exact Nat.lt_of_le_of_lt (nw_sumSub b1 b2 _ _ _ _ (a := 32) (b := 32) (Nat.le_trans (nw_mul_le _ _) (by omega)) (Nat.le_trans (nw_mul_le _ _) (by omega))) (by decide)
  have n2 : nw (wv ds1 * wv ds2) < 40 := Nat.lt_of_le_of_lt (nw_mul_le _ _) (by omega)
  refine ratInto_x 1 b1 b2 v1 u1 v2 u2 ns1 ds1 ns2 ds2 _ _ w hv1 hu1 hv2 hu2 (by omega) (by omega) (by omega) (by omega) (fun g1 g2 W hq hb => ?_)
  obtain ⟨vx, ux, vy, uy, hq⟩ := hq
  rw [hx1, hx2] at hq
  refine ratOf_sub _ _ _ w.heap.size _ _ W hb.size (Nat.mul_pos p1 p2) (by omega) (by omega) (fun W' hb' => ?_)
  have hbw := hb.trans (hb'.mono hb.size)
  exact (hq.below hb').sub ((hq.rcvL p1 p2).below hb') p1 p2 (by omega) (by omega) (by omega) (by omega) n1 n2 (hK.below hbw) (hT.below hbw) dg kg
theorem into_sub_y (b1 b2 : Bool) (v1 u1 v2 u2 : Value) (ns1 ds1 ns2 ds2 : List Nat) (w : World) (hv1 : RW w v1 ns1) (hu1 : RW w u1 ds1) (hv2 : RW w v2 ns2) (hu2 : RW w u2 ds2) (hx1 : (b1 && decide (0 < wv ns1)) = b1) (hx2 : (b2 && decide (0 < wv ns2)) = b2)
    (l1 : ns1.length ≤ 16) (l2 : ds1.length ≤ 16) (l3 : ns2.length ≤ 16) (l4 : ds2.length ≤ 16) (p1 : 0 < wv ds1) (p2 : 0 < wv ds2) (hK : KarW w) (hT : DivW w) :
    Calls Tryz.prog 16 #[.int .i64 1, .int .i64 1, .agg #[.bool b1, v1, u1], .agg #[.bool b2, v2, u2]] w fun e w' => ∃ v, e = .returned v ∧ FracV w' v (rI b1 (wv ns1 * wv ds2) + rI (!b2) (wv ns2 * wv ds1)) (wv ds1 * wv ds2) ∧ Below w.heap.size w w' := by
  have dg : 4 < w.heap.size := World.block_lt_of_cell? w _ hT
  have kg : 3 < w.heap.size := World.block_lt_of_cell? w _ hK
  have k1 := nw_le (wv_lt hv1.lt)
  have k2 := nw_le (wv_lt hu1.lt)
  have k3 := nw_le (wv_lt hv2.lt)
  have k4 := nw_le (wv_lt hu2.lt)
  have n1 : nw (rI b1 (wv ns1 * wv ds2) + rI (!b2) (wv ns2 * wv ds1)).natAbs < 40 := by
    exact Nat.lt_of_le_of_lt (nw_sumSub b1 b2 _ _ _ _ (a := 32) (b := 32) (Nat.le_trans (nw_mul_le _ _) (by omega)) (Nat.le_trans (nw_mul_le _ _) (by omega))) (by decide)
  have n2 : nw (wv ds1 * wv ds2) < 40 := Nat.lt_of_le_of_lt (nw_mul_le _ _) (by omega)
  refine ratInto_y 1 b1 b2 v1 u1 v2 u2 ns1 ds1 ns2 ds2 _ _ w hv1 hu1 hv2 hu2 (by omega) (by omega) (by omega) (by omega) (fun g1 g2 W hq hb => ?_)
  obtain ⟨vx, ux, vy, uy, hq⟩ := hq
  rw [hx1, hx2] at hq
  refine ratOf_sub _ _ _ w.heap.size _ _ W hb.size (Nat.mul_pos p1 p2) (by omega) (by omega) (fun W' hb' => ?_)
  have hbw := hb.trans (hb'.mono hb.size)
  exact (hq.below hb').sub ((hq.rcvR p1 p2).below hb') p1 p2 (by omega) (by omega) (by omega) (by omega) n1 n2 (hK.below hbw) (hT.below hbw) dg kg
theorem into_sub_s (b1 b2 : Bool) (v1 u1 v2 u2 : Value) (ns1 ds1 ns2 ds2 : List Nat) (w : World) (hv1 : RW w v1 ns1) (hu1 : RW w u1 ds1) (hv2 : RW w v2 ns2) (hu2 : RW w u2 ds2) (hx1 : (b1 && decide (0 < wv ns1)) = b1) (hx2 : (b2 && decide (0 < wv ns2)) = b2)
    (l1 : ns1.length ≤ 16) (l2 : ds1.length ≤ 16) (l3 : ns2.length ≤ 16) (l4 : ds2.length ≤ 16) (p1 : 0 < wv ds1) (_p2 : 0 < wv ds2) (hK : KarW w) (hT : DivW w) :
    Calls Tryz.prog 16 #[.int .i64 1, .int .i64 2, .agg #[.bool b1, v1, u1], .agg #[.bool b2, v2, u2]] w fun e w' => ∃ v, e = .returned v ∧ FracV w' v (rI b1 (wv ns1 * wv ds1) + rI (!b1) (wv ns1 * wv ds1)) (wv ds1 * wv ds1) ∧ Below w.heap.size w w' := by
  have dg : 4 < w.heap.size := World.block_lt_of_cell? w _ hT
  have kg : 3 < w.heap.size := World.block_lt_of_cell? w _ hK
  have k1 := nw_le (wv_lt hv1.lt)
  have k2 := nw_le (wv_lt hu1.lt)
  have k3 := nw_le (wv_lt hv2.lt)
  have k4 := nw_le (wv_lt hu2.lt)
  have n1 : nw (rI b1 (wv ns1 * wv ds1) + rI (!b1) (wv ns1 * wv ds1)).natAbs < 40 := by
    exact Nat.lt_of_le_of_lt (nw_sumSub b1 b1 _ _ _ _ (a := 32) (b := 32) (Nat.le_trans (nw_mul_le _ _) (by omega)) (Nat.le_trans (nw_mul_le _ _) (by omega))) (by decide)
  have n2 : nw (wv ds1 * wv ds1) < 40 := Nat.lt_of_le_of_lt (nw_mul_le _ _) (by omega)
  refine ratInto_s 1 b1 b2 v1 u1 v2 u2 ns1 ds1 ns2 ds2 _ _ w hv1 hu1 hv2 hu2 (by omega) (by omega) (by omega) (by omega) (fun g1 g2 W hq hb => ?_)
  obtain ⟨vx, ux, vy, uy, hq⟩ := hq
  rw [hx1, hx2] at hq
  refine ratOf_sub _ _ _ w.heap.size _ _ W hb.size (Nat.mul_pos p1 p1) (by omega) (by omega) (fun W' hb' => ?_)
  have hbw := hb.trans (hb'.mono hb.size)
  exact (RatQ.below ⟨vx, ux, hq.bx, hq.rx, hq.x1, hq.x2, hq.xx⟩ hb').sub3 p1 (by omega) (by omega) n1 n2 (hK.below hbw) (hT.below hbw) dg kg
theorem into_mul_x (b1 b2 : Bool) (v1 u1 v2 u2 : Value) (ns1 ds1 ns2 ds2 : List Nat) (w : World) (hv1 : RW w v1 ns1) (hu1 : RW w u1 ds1) (hv2 : RW w v2 ns2) (hu2 : RW w u2 ds2) (hx1 : (b1 && decide (0 < wv ns1)) = b1) (hx2 : (b2 && decide (0 < wv ns2)) = b2)
    (l1 : ns1.length ≤ 16) (l2 : ds1.length ≤ 16) (l3 : ns2.length ≤ 16) (l4 : ds2.length ≤ 16) (p1 : 0 < wv ds1) (p2 : 0 < wv ds2) (hK : KarW w) (hT : DivW w) :
    Calls Tryz.prog 16 #[.int .i64 2, .int .i64 0, .agg #[.bool b1, v1, u1], .agg #[.bool b2, v2, u2]] w fun e w' => ∃ v, e = .returned v ∧ FracV w' v (rI (b1 != b2) (wv ns1 * wv ns2)) (wv ds1 * wv ds2) ∧ Below w.heap.size w w' := by
  have dg : 4 < w.heap.size := World.block_lt_of_cell? w _ hT
  have kg : 3 < w.heap.size := World.block_lt_of_cell? w _ hK
  have k1 := nw_le (wv_lt hv1.lt)
  have k2 := nw_le (wv_lt hu1.lt)
  have k3 := nw_le (wv_lt hv2.lt)
  have k4 := nw_le (wv_lt hu2.lt)
  have n1 : nw (rI (b1 != b2) (wv ns1 * wv ns2)).natAbs < 40 := by
    rw [rI_abs]; exact Nat.lt_of_le_of_lt (nw_mul_le _ _) (by omega)
  have n2 : nw (wv ds1 * wv ds2) < 40 := Nat.lt_of_le_of_lt (nw_mul_le _ _) (by omega)
  refine ratInto_x 2 b1 b2 v1 u1 v2 u2 ns1 ds1 ns2 ds2 _ _ w hv1 hu1 hv2 hu2 (by omega) (by omega) (by omega) (by omega) (fun g1 g2 W hq hb => ?_)
  obtain ⟨vx, ux, vy, uy, hq⟩ := hq
  rw [hx1, hx2] at hq
  refine ratOf_mul _ _ _ w.heap.size _ _ W hb.size (Nat.mul_pos p1 p2) (by omega) (by omega) (fun W' hb' => ?_)
  have hbw := hb.trans (hb'.mono hb.size)
  exact (hq.below hb').mul ((hq.rcvL p1 p2).below hb') p1 p2 (by omega) (by omega) (by omega) (by omega) (by rw [rI_abs] at n1; exact n1) n2 (hK.below hbw) (hT.below hbw) dg kg
theorem into_mul_y (b1 b2 : Bool) (v1 u1 v2 u2 : Value) (ns1 ds1 ns2 ds2 : List Nat) (w : World) (hv1 : RW w v1 ns1) (hu1 : RW w u1 ds1) (hv2 : RW w v2 ns2) (hu2 : RW w u2 ds2) (hx1 : (b1 && decide (0 < wv ns1)) = b1) (hx2 : (b2 && decide (0 < wv ns2)) = b2)
    (l1 : ns1.length ≤ 16) (l2 : ds1.length ≤ 16) (l3 : ns2.length ≤ 16) (l4 : ds2.length ≤ 16) (p1 : 0 < wv ds1) (p2 : 0 < wv ds2) (hK : KarW w) (hT : DivW w) :
    Calls Tryz.prog 16 #[.int .i64 2, .int .i64 1, .agg #[.bool b1, v1, u1], .agg #[.bool b2, v2, u2]] w fun e w' => ∃ v, e = .returned v ∧ FracV w' v (rI (b1 != b2) (wv ns1 * wv ns2)) (wv ds1 * wv ds2) ∧ Below w.heap.size w w' := by
  have dg : 4 < w.heap.size := World.block_lt_of_cell? w _ hT
  have kg : 3 < w.heap.size := World.block_lt_of_cell? w _ hK
  have k1 := nw_le (wv_lt hv1.lt)
  have k2 := nw_le (wv_lt hu1.lt)
  have k3 := nw_le (wv_lt hv2.lt)
  have k4 := nw_le (wv_lt hu2.lt)
  have n1 : nw (rI (b1 != b2) (wv ns1 * wv ns2)).natAbs < 40 := by
    rw [rI_abs]; exact Nat.lt_of_le_of_lt (nw_mul_le _ _) (by omega)
  have n2 : nw (wv ds1 * wv ds2) < 40 := Nat.lt_of_le_of_lt (nw_mul_le _ _) (by omega)
  refine ratInto_y 2 b1 b2 v1 u1 v2 u2 ns1 ds1 ns2 ds2 _ _ w hv1 hu1 hv2 hu2 (by omega) (by omega) (by omega) (by omega) (fun g1 g2 W hq hb => ?_)
  obtain ⟨vx, ux, vy, uy, hq⟩ := hq
  rw [hx1, hx2] at hq
  refine ratOf_mul _ _ _ w.heap.size _ _ W hb.size (Nat.mul_pos p1 p2) (by omega) (by omega) (fun W' hb' => ?_)
  have hbw := hb.trans (hb'.mono hb.size)
  exact (hq.below hb').mul ((hq.rcvR p1 p2).below hb') p1 p2 (by omega) (by omega) (by omega) (by omega) (by rw [rI_abs] at n1; exact n1) n2 (hK.below hbw) (hT.below hbw) dg kg
theorem into_mul_s (b1 b2 : Bool) (v1 u1 v2 u2 : Value) (ns1 ds1 ns2 ds2 : List Nat) (w : World) (hv1 : RW w v1 ns1) (hu1 : RW w u1 ds1) (hv2 : RW w v2 ns2) (hu2 : RW w u2 ds2) (hx1 : (b1 && decide (0 < wv ns1)) = b1) (hx2 : (b2 && decide (0 < wv ns2)) = b2)
    (l1 : ns1.length ≤ 16) (l2 : ds1.length ≤ 16) (l3 : ns2.length ≤ 16) (l4 : ds2.length ≤ 16) (p1 : 0 < wv ds1) (_p2 : 0 < wv ds2) (hg : Nat.gcd (wv ns1) (wv ds1) = 1) (hS : SqrW w) (hK : KarW w) (hT : DivW w) :
    Calls Tryz.prog 16 #[.int .i64 2, .int .i64 2, .agg #[.bool b1, v1, u1], .agg #[.bool b2, v2, u2]] w fun e w' => ∃ v, e = .returned v ∧ FracV w' v (rI (b1 != b1) (wv ns1 * wv ns1)) (wv ds1 * wv ds1) ∧ Below w.heap.size w w' := by
  have dg : 4 < w.heap.size := World.block_lt_of_cell? w _ hT
  have kg : 3 < w.heap.size := World.block_lt_of_cell? w _ hK
  have k1 := nw_le (wv_lt hv1.lt)
  have k2 := nw_le (wv_lt hu1.lt)
  have k3 := nw_le (wv_lt hv2.lt)
  have k4 := nw_le (wv_lt hu2.lt)
  have n1 : nw (rI (b1 != b1) (wv ns1 * wv ns1)).natAbs < 40 := by
    rw [rI_abs]; exact Nat.lt_of_le_of_lt (nw_mul_le _ _) (by omega)
  have n2 : nw (wv ds1 * wv ds1) < 40 := Nat.lt_of_le_of_lt (nw_mul_le _ _) (by omega)
  refine ratInto_s 2 b1 b2 v1 u1 v2 u2 ns1 ds1 ns2 ds2 _ _ w hv1 hu1 hv2 hu2 (by omega) (by omega) (by omega) (by omega) (fun g1 g2 W hq hb => ?_)
  obtain ⟨vx, ux, vy, uy, hq⟩ := hq
  rw [hx1, hx2] at hq
  refine ratOf_mul _ _ _ w.heap.size _ _ W hb.size (Nat.mul_pos p1 p1) (by omega) (by omega) (fun W' hb' => ?_)
  have hbw := hb.trans (hb'.mono hb.size)
  exact (RatQ.below ⟨vx, ux, hq.bx, hq.rx, hq.x1, hq.x2, hq.xx⟩ hb').mul3 hg p1 (by omega) (by omega) hbw.size (hS.below hbw) (World.block_lt_of_cell? w _ hS.1) (World.block_lt_of_cell? w _ hS.2)
theorem into_quo_x (b1 b2 : Bool) (v1 u1 v2 u2 : Value) (ns1 ds1 ns2 ds2 : List Nat) (w : World) (hv1 : RW w v1 ns1) (hu1 : RW w u1 ds1) (hv2 : RW w v2 ns2) (hu2 : RW w u2 ds2) (hx1 : (b1 && decide (0 < wv ns1)) = b1) (hx2 : (b2 && decide (0 < wv ns2)) = b2)
    (l1 : ns1.length ≤ 16) (l2 : ds1.length ≤ 16) (l3 : ns2.length ≤ 16) (l4 : ds2.length ≤ 16) (p1 : 0 < wv ds1) (p2 : 0 < wv ds2) (p3 : 0 < wv ns2) (hK : KarW w) (hT : DivW w) :
    Calls Tryz.prog 16 #[.int .i64 3, .int .i64 0, .agg #[.bool b1, v1, u1], .agg #[.bool b2, v2, u2]] w fun e w' => ∃ v, e = .returned v ∧ FracV w' v (rI (b1 != b2) (wv ns1 * wv ds2)) (wv ns2 * wv ds1) ∧ Below w.heap.size w w' := by
  have dg : 4 < w.heap.size := World.block_lt_of_cell? w _ hT
  have kg : 3 < w.heap.size := World.block_lt_of_cell? w _ hK
  have k1 := nw_le (wv_lt hv1.lt)
  have k2 := nw_le (wv_lt hu1.lt)
  have k3 := nw_le (wv_lt hv2.lt)
  have k4 := nw_le (wv_lt hu2.lt)
  have n1 : nw (rI (b1 != b2) (wv ns1 * wv ds2)).natAbs < 40 := by
    rw [rI_abs]; exact Nat.lt_of_le_of_lt (nw_mul_le _ _) (by omega)
  have n2 : nw (wv ns2 * wv ds1) < 40 := Nat.lt_of_le_of_lt (nw_mul_le _ _) (by omega)
  refine ratInto_x 3 b1 b2 v1 u1 v2 u2 ns1 ds1 ns2 ds2 _ _ w hv1 hu1 hv2 hu2 (by omega) (by omega) (by omega) (by omega) (fun g1 g2 W hq hb => ?_)
  obtain ⟨vx, ux, vy, uy, hq⟩ := hq
  rw [hx1, hx2] at hq
  refine ratOf_quo _ _ _ w.heap.size _ _ W hb.size (Nat.mul_pos p3 p1) (by omega) (by omega) (fun W' hb' => ?_)
  have hbw := hb.trans (hb'.mono hb.size)
  exact (hq.below hb').quo ((hq.rcvL p1 p2).below hb') p1 p2 p3 (by omega) (by omega) (by omega) (by omega) (by rw [rI_abs] at n1; exact n1) n2 (hK.below hbw) (hT.below hbw) dg
theorem into_quo_y (b1 b2 : Bool) (v1 u1 v2 u2 : Value) (ns1 ds1 ns2 ds2 : List Nat) (w : World) (hv1 : RW w v1 ns1) (hu1 : RW w u1 ds1) (hv2 : RW w v2 ns2) (hu2 : RW w u2 ds2) (hx1 : (b1 && decide (0 < wv ns1)) = b1) (hx2 : (b2 && decide (0 < wv ns2)) = b2)
    (l1 : ns1.length ≤ 16) (l2 : ds1.length ≤ 16) (l3 : ns2.length ≤ 16) (l4 : ds2.length ≤ 16) (p1 : 0 < wv ds1) (p2 : 0 < wv ds2) (p3 : 0 < wv ns2) (hK : KarW w) (hT : DivW w) :
    Calls Tryz.prog 16 #[.int .i64 3, .int .i64 1, .agg #[.bool b1, v1, u1], .agg #[.bool b2, v2, u2]] w fun e w' => ∃ v, e = .returned v ∧ FracV w' v (rI (b1 != b2) (wv ns1 * wv ds2)) (wv ns2 * wv ds1) ∧ Below w.heap.size w w' := by
  have dg : 4 < w.heap.size := World.block_lt_of_cell? w _ hT
  have kg : 3 < w.heap.size := World.block_lt_of_cell? w _ hK
  have k1 := nw_le (wv_lt hv1.lt)
  have k2 := nw_le (wv_lt hu1.lt)
  have k3 := nw_le (wv_lt hv2.lt)
  have k4 := nw_le (wv_lt hu2.lt)
  have n1 : nw (rI (b1 != b2) (wv ns1 * wv ds2)).natAbs < 40 := by
    rw [rI_abs]; exact Nat.lt_of_le_of_lt (nw_mul_le _ _) (by omega)
  have n2 : nw (wv ns2 * wv ds1) < 40 := Nat.lt_of_le_of_lt (nw_mul_le _ _) (by omega)
  refine ratInto_y 3 b1 b2 v1 u1 v2 u2 ns1 ds1 ns2 ds2 _ _ w hv1 hu1 hv2 hu2 (by omega) (by omega) (by omega) (by omega) (fun g1 g2 W hq hb => ?_)
  obtain ⟨vx, ux, vy, uy, hq⟩ := hq
  rw [hx1, hx2] at hq
  refine ratOf_quo _ _ _ w.heap.size _ _ W hb.size (Nat.mul_pos p3 p1) (by omega) (by omega) (fun W' hb' => ?_)
  have hbw := hb.trans (hb'.mono hb.size)
  exact (hq.below hb').quo ((hq.rcvR p1 p2).below hb') p1 p2 p3 (by omega) (by omega) (by omega) (by omega) (by rw [rI_abs] at n1; exact n1) n2 (hK.below hbw) (hT.below hbw) dg
theorem into_quo_s (b1 b2 : Bool) (v1 u1 v2 u2 : Value) (ns1 ds1 ns2 ds2 : List Nat) (w : World) (hv1 : RW w v1 ns1) (hu1 : RW w u1 ds1) (hv2 : RW w v2 ns2) (hu2 : RW w u2 ds2) (hx1 : (b1 && decide (0 < wv ns1)) = b1) (hx2 : (b2 && decide (0 < wv ns2)) = b2)
    (l1 : ns1.length ≤ 16) (l2 : ds1.length ≤ 16) (l3 : ns2.length ≤ 16) (l4 : ds2.length ≤ 16) (p1 : 0 < wv ds1) (_p2 : 0 < wv ds2) (p3 : 0 < wv ns1) (hK : KarW w) (hT : DivW w) :
    Calls Tryz.prog 16 #[.int .i64 3, .int .i64 2, .agg #[.bool b1, v1, u1], .agg #[.bool b2, v2, u2]] w fun e w' => ∃ v, e = .returned v ∧ FracV w' v (rI (b1 != b1) (wv ns1 * wv ds1)) (wv ns1 * wv ds1) ∧ Below w.heap.size w w' := by
  have dg : 4 < w.heap.size := World.block_lt_of_cell? w _ hT
  have kg : 3 < w.heap.size := World.block_lt_of_cell? w _ hK
  have k1 := nw_le (wv_lt hv1.lt)
  have k2 := nw_le (wv_lt hu1.lt)
  have k3 := nw_le (wv_lt hv2.lt)
  have k4 := nw_le (wv_lt hu2.lt)
  have n1 : nw (rI (b1 != b1) (wv ns1 * wv ds1)).natAbs < 40 := by
    rw [rI_abs]; exact Nat.lt_of_le_of_lt (nw_mul_le _ _) (by omega)
  have n2 : nw (wv ns1 * wv ds1) < 40 := Nat.lt_of_le_of_lt (nw_mul_le _ _) (by omega)
  refine ratInto_s 3 b1 b2 v1 u1 v2 u2 ns1 ds1 ns2 ds2 _ _ w hv1 hu1 hv2 hu2 (by omega) (by omega) (by omega) (by omega) (fun g1 g2 W hq hb => ?_)
  obtain ⟨vx, ux, vy, uy, hq⟩ := hq
  rw [hx1, hx2] at hq
  refine ratOf_quo _ _ _ w.heap.size _ _ W hb.size (Nat.mul_pos p3 p1) (by omega) (by omega) (fun W' hb' => ?_)
  have hbw := hb.trans (hb'.mono hb.size)
  exact (RatQ.below ⟨vx, ux, hq.bx, hq.rx, hq.x1, hq.x2, hq.xx⟩ hb').quo3 p1 p3 (by omega) (by omega) n2 (hK.below hbw) (hT.below hbw) dg
theorem row_new (w : World) (cs : Array Value) (T k : Nat) (hk : w.heap.size = k) : (w.alloc (.cells cs T)).heap[k]? = some (.cells cs T (0, 0)) := by
  subst hk; exact box_row (Below.refl _ _)
structure FrOk (n : Nat) (b bb : Bool) (ns ds : List Nat) (a1 a2 : Value) (w : World) : Prop where
  sign : bb = b
  l1 : ns.length ≤ n
  l2 : ds.length ≤ n
  pos : 0 < wv ds
  v1 : NatV w a1 (wv ns)
  v2 : NatV w a2 (wv ds)
  low : isFrac b ns ds b (wv ns) (wv ds) = true
  cop : Nat.gcd (wv ns) (wv ds) = 1
theorem FrOk.below {n : Nat} {b bb : Bool} {ns ds : List Nat} {a1 a2 : Value} {w w' : World} (h : FrOk n b bb ns ds a1 a2 w) (hb : Below w.heap.size w w') : FrOk n b bb ns ds a1 a2 w' := ⟨h.sign, h.l1, h.l2, h.pos, h.v1.below hb, h.v2.below hb, h.low, h.cop⟩
def PrPost (n : Nat) (b1 b2 : Bool) (ns1 ds1 ns2 ds2 : List Nat) (w : World) (v : Value) (w' : World) : Prop :=
  ∃ x a1 a2 y c1 c2 ok, v = .tuple #[.agg #[.bool x, a1, a2], .agg #[.bool y, c1, c2], .bool ok] ∧ IsS a1 ∧ IsS a2 ∧ IsS c1 ∧ IsS c2 ∧ Below w.heap.size w w' ∧
    (ok = true → FrOk n b1 x ns1 ds1 a1 a2 w' ∧ FrOk n b2 y ns2 ds2 c1 c2 w')
set_option maxRecDepth 100000 in
set_option maxHeartbeats 3200000 in
theorem pair_any (b1 b2 : Bool) (v1 u1 v2 u2 : Value) (n : Nat) (ns1 ds1 ns2 ds2 : List Nat) (w : World) (hv1 : RW w v1 ns1) (hu1 : RW w u1 ds1) (hv2 : RW w v2 ns2) (hu2 : RW w u2 ds2) (hn : n ≤ 100000) :
    Calls Tryz.prog 9 #[.agg #[.bool b1, v1, u1], .agg #[.bool b2, v2, u2], .int .i64 n] w fun e w' => ∃ v, e = .returned v ∧ PrPost n b1 b2 ns1 ds1 ns2 ds2 w v w' := by
  have hS1 := hv1.isS
  have hS2 := hu1.isS
  have hS3 := hv2.isS
  have hS4 := hu2.isS
  obtain ⟨W, hW⟩ : ∃ W, W = (((w.alloc (.cells #[.bool b1, v1, u1] 26)).alloc (.cells #[.bool b2, v2, u2] 26)).alloc (.cells #[.bool false, .slice none 0 0, .slice none 0 0] 31)).alloc (.cells #[.bool false, .slice none 0 0, .slice none 0 0] 31) := ⟨_, rfl⟩
  have hbW : Below w.heap.size w W := by rw [hW]; exact ((((Below.refl _ w).alloc (Nat.le_refl _) _).alloc (by simp) _).alloc (by simp; omega) _).alloc (by simp; omega) _
  have r0 : W.heap[w.heap.size]? = some (.cells #[.bool b1, v1, u1] 26 (0, 0)) := by rw [hW]; exact keep_row (fbone _) (keep_row (fbone _) (keep_row (fbone _) (row_new _ _ _ _ rfl)))
  have r1 : W.heap[w.heap.size + 1]? = some (.cells #[.bool b2, v2, u2] 26 (0, 0)) := by rw [hW]; exact keep_row (fbone _) (keep_row (fbone _) (row_new _ _ _ _ (by simp)))
  have r2 : W.heap[w.heap.size + 1 + 1]? = some (.cells #[.bool false, .slice none 0 0, .slice none 0 0] 31 (0, 0)) := by rw [hW]; exact keep_row (fbone _) (row_new _ _ _ _ (by simp))
  have r3 : W.heap[w.heap.size + 1 + 1 + 1]? = some (.cells #[.bool false, .slice none 0 0, .slice none 0 0] 31 (0, 0)) := by rw [hW]; exact row_new _ _ _ _ (by simp)
  have hWz : W.heap.size = w.heap.size + 1 + 1 + 1 + 1 := by rw [hW]; simp
  obtain ⟨x0, x1, x2, -, -, -⟩ := row3 r0
  have V1 := Lib.hid (hv1.below hbW)
  have U1 := Lib.hid (hu1.below hbW)
  have V2 := Lib.hid (hv2.below hbW)
  have U2 := Lib.hid (hu2.below hbW)
  have R1 := Lib.hid r1
  have R2 := Lib.hid r2
  have R3 := Lib.hid r3
  have HWZ := Lib.hid hWz
  clear hv1 hu1 hv2 hu2 r0 r1 r2 r3 hWz
  go_enter Tryz.func9, Tryz.ntmps9
  go_upto_region 1 with fail
  rw [← hW]
  clear hW
  go_wp2_with fail
  refine (fraction_any b1 v1 u1 n ns1 ds1 W V1.out U1.out hn).mono ?_
  rintro _ w1 ⟨_, rfl, x, a1, a2, ok1, rfl, hA1, hA2, hb1, hok1⟩
  go_upto_region 2 with fail
  obtain ⟨X1, hX1⟩ : ∃ X, X = w1.alloc (.cells #[.bool x, a1, a2] 31) := ⟨_, rfl⟩
  have g1 : X1.heap[w1.heap.size]? = some (.cells #[.bool x, a1, a2] 31 (0, 0)) := by rw [hX1]; exact row_new _ _ _ _ rfl
  have hbX1 : Below w1.heap.size w1 X1 := by rw [hX1]; exact fbone _
  have hWX1 := bthen hb1 hbX1
  have hz1 := hWX1.size
  obtain ⟨y0, y1, y2, -, -, -⟩ := row3 (keep_row hWX1 R1.out)
  have hz2 := hb1.size
  rw [← hX1]
  have OK1 := Lib.hid (fun h => (⟨(hok1 h).1, (hok1 h).2.1, (hok1 h).2.2.1, (hok1 h).2.2.2.1, (hok1 h).2.2.2.2.2.2.1, (hok1 h).2.2.2.2.2.2.2, (hok1 h).2.2.2.2.1, (hok1 h).2.2.2.2.2.1⟩ : FrOk n b1 x ns1 ds1 a1 a2 w1).below hbX1)
  have G1 := Lib.hid g1
  obtain ⟨p1, hp1⟩ : ∃ p, p = w1.heap.size := ⟨_, rfl⟩
  rw [← hp1] at G1 ⊢
  have HP1 := Lib.hid hp1
  clear hX1 g1 hok1 x0 x1 x2 hp1
  go_wp2_with fail
  refine (fraction_any b2 v2 u2 n ns2 ds2 X1 (V2.out.below hWX1) (U2.out.below hWX1) hn).mono ?_
  rintro _ w2 ⟨_, rfl, y, c1, c2, ok2, rfl, hC1, hC2, hb2, hok2⟩
  go_upto_region 3 with fail
  obtain ⟨X2, hX2⟩ : ∃ X, X = w2.alloc (.cells #[.bool y, c1, c2] 31) := ⟨_, rfl⟩
  have g2 : X2.heap[w2.heap.size]? = some (.cells #[.bool y, c1, c2] 31 (0, 0)) := by rw [hX2]; exact row_new _ _ _ _ rfl
  have hbX2 : Below w2.heap.size w2 X2 := by rw [hX2]; exact fbone _
  have hX12 := bthen hb2 hbX2
  have hWX2 := bthen hWX1 hX12
  rw [← hX2]
  have OK2 := Lib.hid (fun h => (⟨(hok2 h).1, (hok2 h).2.1, (hok2 h).2.2.1, (hok2 h).2.2.2.1, (hok2 h).2.2.2.2.2.2.1, (hok2 h).2.2.2.2.2.2.2, (hok2 h).2.2.2.2.1, (hok2 h).2.2.2.2.2.1⟩ : FrOk n b2 y ns2 ds2 c1 c2 w2).below hbX2)
  have OK1' := Lib.hid (fun h => (OK1.out h).below hX12)
  obtain ⟨m0, m1, m2, -, -, -⟩ := row3 (keep_row hX12 G1.out)
  obtain ⟨n0, n1, n2, -, -, -⟩ := row3 g2
  have k2 := keep_row hWX2 R2.out
  have k3 := keep_row hWX2 R3.out
  obtain ⟨d0, d1, d2, f0, f1, f2⟩ := row3 k2
  obtain ⟨e0, e1, e2, i0, i1, i2⟩ := row3 k3
  have hz3 := hX12.size
  have hz4 := hb2.size
  have hz5 := hbX1.size
  have q1 := HWZ.out
  have q2 := HP1.out
  have nA1 : w.heap.size + 1 + 1 ≠ p1 := by omega
  have nA2 : w.heap.size + 1 + 1 ≠ w2.heap.size := by omega
  have nB1 : w.heap.size + 1 + 1 + 1 ≠ p1 := by omega
  have nB2 : w.heap.size + 1 + 1 + 1 ≠ w2.heap.size := by omega
  have hB3 : ¬ (w.heap.size + 1 + 1 + 1 = w.heap.size + 1 + 1) := by omega
  have hB4 : ¬ (w.heap.size + 1 + 1 = w.heap.size + 1 + 1 + 1) := by omega
  have HBB := Lib.hid (hbW.trans (hWX2.mono hbW.size))
  have K2 := Lib.hid k2
  have K3 := Lib.hid k3
  have hcc := Below.refl X2.heap.size X2
  clear q1 q2 hz3 hz4 hz5 hz1 hz2 hX2 g2 hok2 hWX1 hbX1 hbX2 hb1 hb2 k2 k3 y0 y1 y2
  have Z1r := row3_set (x := .bool x) (y := a1) (z := a2) K2.out
  have K3' := ((heap_setCell_other (((X2.setCell ⟨w.heap.size + 1 + 1, 0, none⟩ (.bool x)).setCell ⟨w.heap.size + 1 + 1, 1, none⟩ a1)) ⟨w.heap.size + 1 + 1, 2, none⟩ (w.heap.size + 1 + 1 + 1) a2 (by simp only; omega)).trans ((heap_setCell_other (X2.setCell ⟨w.heap.size + 1 + 1, 0, none⟩ (.bool x)) ⟨w.heap.size + 1 + 1, 1, none⟩ (w.heap.size + 1 + 1 + 1) a1 (by simp only; omega)).trans (heap_setCell_other X2 ⟨w.heap.size + 1 + 1, 0, none⟩ (w.heap.size + 1 + 1 + 1) (.bool x) (by simp only; omega)))).trans K3.out
  have Z2r := row3_set (x := .bool y) (y := c1) (z := c2) K3'
  obtain ⟨Z1, hZ1⟩ : ∃ Z, Z = (((X2.setCell ⟨w.heap.size + 1 + 1, 0, none⟩ (.bool x)).setCell ⟨w.heap.size + 1 + 1, 1, none⟩ a1).setCell ⟨w.heap.size + 1 + 1, 2, none⟩ a2) := ⟨_, rfl⟩
  rw [← hZ1] at Z1r K3' Z2r
  have Z2s := (heap_setCell_other ((Z1.setCell ⟨w.heap.size + 1 + 1 + 1, 0, none⟩ (.bool y)).setCell ⟨w.heap.size + 1 + 1 + 1, 1, none⟩ c1) ⟨w.heap.size + 1 + 1 + 1, 2, none⟩ (w.heap.size + 1 + 1) c2 (by simp only; omega)).trans ((heap_setCell_other (Z1.setCell ⟨w.heap.size + 1 + 1 + 1, 0, none⟩ (.bool y)) ⟨w.heap.size + 1 + 1 + 1, 1, none⟩ (w.heap.size + 1 + 1) c1 (by simp only; omega)).trans ((heap_setCell_other Z1 ⟨w.heap.size + 1 + 1 + 1, 0, none⟩ (w.heap.size + 1 + 1) (.bool y) (by simp only; omega)).trans Z1r))
  obtain ⟨t0, t1, t2, -, -, -⟩ := row3 Z2s
  obtain ⟨t3, t4, t5, -, -, -⟩ := row3 Z2r
  have HF1 : Hid (ok1 = true → FrOk n b1 x ns1 ds1 a1 a2 (((Z1.setCell ⟨w.heap.size + 1 + 1 + 1, 0, none⟩ (.bool y)).setCell ⟨w.heap.size + 1 + 1 + 1, 1, none⟩ c1).setCell ⟨w.heap.size + 1 + 1 + 1, 2, none⟩ c2)) := Lib.hid (fun h => by
    have k := OK1'.out h
    have k1 := natv_row3 (x := .bool x) (y := a1) (z := a2) IsS.nil IsS.nil k.v1 K2.out
    have k2 := natv_row3 (x := .bool x) (y := a1) (z := a2) IsS.nil IsS.nil k.v2 K2.out
    rw [← hZ1] at k1 k2
    exact ⟨k.sign, k.l1, k.l2, k.pos, natv_row3 IsS.nil IsS.nil k1 K3', natv_row3 IsS.nil IsS.nil k2 K3', k.low, k.cop⟩)
  have HF2 : Hid (ok2 = true → FrOk n b2 y ns2 ds2 c1 c2 (((Z1.setCell ⟨w.heap.size + 1 + 1 + 1, 0, none⟩ (.bool y)).setCell ⟨w.heap.size + 1 + 1 + 1, 1, none⟩ c1).setCell ⟨w.heap.size + 1 + 1 + 1, 2, none⟩ c2)) := Lib.hid (fun h => by
    have k := OK2.out h
    have k1 := natv_row3 (x := .bool x) (y := a1) (z := a2) IsS.nil IsS.nil k.v1 K2.out
    have k2 := natv_row3 (x := .bool x) (y := a1) (z := a2) IsS.nil IsS.nil k.v2 K2.out
    rw [← hZ1] at k1 k2
    exact ⟨k.sign, k.l1, k.l2, k.pos, natv_row3 IsS.nil IsS.nil k1 K3', natv_row3 IsS.nil IsS.nil k2 K3', k.low, k.cop⟩)
  have HZB : Hid (Below w.heap.size w (((Z1.setCell ⟨w.heap.size + 1 + 1 + 1, 0, none⟩ (.bool y)).setCell ⟨w.heap.size + 1 + 1 + 1, 1, none⟩ c1).setCell ⟨w.heap.size + 1 + 1 + 1, 2, none⟩ c2)) := Lib.hid (by
    have e1 : w.heap.size ≤ w.heap.size + 1 + 1 := by omega
    have e2 : w.heap.size ≤ w.heap.size + 1 + 1 + 1 := by omega
    have hb : Below w.heap.size w Z1 := by rw [hZ1]; exact bset (bset (bset HBB.out e1) e1) e1
    exact bset (bset (bset hb e2) e2) e2)
  clear Z1r K3' Z2r Z2s
  cases ok1
  · go_region
    go_wp2
    rw [← hZ1]
    refine bodyPost_ret (v := .tuple #[.agg #[.bool x, a1, a2], .agg #[.bool y, c1, c2], .bool false]) ?_ rfl ⟨_, rfl, x, a1, a2, y, c1, c2, false, rfl, hA1, hA2, hC1, hC2, Below.drew HZB.out, fun h => absurd h (by decide)⟩
    simp [results, Tryz.results9, go_sem, t0, t1, t2, t3, t4, t5]
  · go_region
    go_wp2
    rw [← hZ1]
    refine bodyPost_ret (v := .tuple #[.agg #[.bool x, a1, a2], .agg #[.bool y, c1, c2], .bool ok2]) ?_ rfl ⟨_, rfl, x, a1, a2, y, c1, c2, ok2, rfl, hA1, hA2, hC1, hC2, Below.drew HZB.out, fun h => ⟨(HF1.out (by trivial)).below (Below.drew (Below.refl _ _)), (HF2.out h).below (Below.drew (Below.refl _ _))⟩⟩
    simp [results, Tryz.results9, go_sem, t0, t1, t2, t3, t4, t5]
end Go.Proofs.YtllhnjpnkmjopaaGreatDoor
