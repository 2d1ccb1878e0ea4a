/-
Texts of this proof, joined: TzE SrA SrB NvD SrC SrD SrE. No condition.
-/
import Derived.Test.YtdepidpgbgfjlaaGreatDoorK49
import Derived.Test.YtdepidpgbgfjlaaGreatDoorK50
import Derived.Test.YtdepidpgbgfjlaaGreatDoorK51
import Derived.Test.YtdepidpgbgfjlaaGreatDoorK52
import Derived.Test.YtdepidpgbgfjlaaGreatDoorK53
import Derived.Test.YtdepidpgbgfjlaaGreatDoorK61
import Derived.Test.YtdepidpgbgfjlaaGreatDoorK63
namespace Go.Proofs.YtdepidpgbgfjlaaGreatDoor
open Go.RowKit

theorem row6_set {w : World} {k T : Nat} {a b c d e f x y z x' y' z' : Value} (h : w.heap[k]? = some (.cells #[a, b, c, d, e, f] T (0, 0))) :
    ((((((w.setCell ⟨k, 0, none⟩ x).setCell ⟨k, 1, none⟩ y).setCell ⟨k, 2, none⟩ z).setCell ⟨k, 3, none⟩ x').setCell ⟨k, 4, none⟩ y').setCell ⟨k, 5, none⟩ z').heap[k]? = some (.cells #[x, y, z, x', y', z'] T (0, 0)) :=
  rowset (i := 5) z' (rowset (i := 4) y' (rowset (i := 3) x' (rowset (i := 2) z (rowset (i := 1) y (rowset (i := 0) x h)))))
theorem row6 {w : World} {k T : Nat} {a b c d e f : Value} (h : w.heap[k]? = some (.cells #[a, b, c, d, e, f] T (0, 0))) :
    (w.cell? ⟨k, 0, none⟩ = some a ∧ w.cell? ⟨k, 1, none⟩ = some b ∧ w.cell? ⟨k, 2, none⟩ = some c ∧ w.cell? ⟨k, 3, none⟩ = some d ∧ w.cell? ⟨k, 4, none⟩ = some e ∧ w.cell? ⟨k, 5, none⟩ = some f) ∧
    (w.frozen? ⟨k, 0, none⟩ = false ∧ w.frozen? ⟨k, 1, none⟩ = false ∧ w.frozen? ⟨k, 2, none⟩ = false ∧ w.frozen? ⟨k, 3, none⟩ = false ∧ w.frozen? ⟨k, 4, none⟩ = false ∧ w.frozen? ⟨k, 5, none⟩ = false) :=
  ⟨⟨(row_at (i := 0) h rfl).1, (row_at (i := 1) h rfl).1, (row_at (i := 2) h rfl).1, (row_at (i := 3) h rfl).1, (row_at (i := 4) h rfl).1, (row_at (i := 5) h rfl).1⟩,
   ⟨(row_at (i := 0) h rfl).2, (row_at (i := 1) h rfl).2, (row_at (i := 2) h rfl).2, (row_at (i := 3) h rfl).2, (row_at (i := 4) h rfl).2, (row_at (i := 5) h rfl).2⟩⟩
theorem bset6 {W w : World} {B k : Nat} {x y z x' y' z' : Value} (h : Below B W w) (hk : B ≤ k) :
    Below B W ((((((w.setCell ⟨k, 0, none⟩ x).setCell ⟨k, 1, none⟩ y).setCell ⟨k, 2, none⟩ z).setCell ⟨k, 3, none⟩ x').setCell ⟨k, 4, none⟩ y').setCell ⟨k, 5, none⟩ z') :=
  bset (bset (bset (bset (bset (bset h hk) hk) hk) hk) hk) hk
theorem RW.nil (w : World) : RW w (.slice none 0 0) [] := ⟨⟨IsS.nil, rfl, fun i hi => by simp [ints] at hi⟩, fun d hd => by cases hd⟩
theorem heap6_other {w : World} {k j : Nat} {x y z x' y' z' : Value} (h : j ≠ k) :
    ((((((w.setCell ⟨k, 0, none⟩ x).setCell ⟨k, 1, none⟩ y).setCell ⟨k, 2, none⟩ z).setCell ⟨k, 3, none⟩ x').setCell ⟨k, 4, none⟩ y').setCell ⟨k, 5, none⟩ z').heap[j]? = w.heap[j]? := by
  rw [heap_setCell_other _ _ _ _ (by simpa using h), heap_setCell_other _ _ _ _ (by simpa using h), heap_setCell_other _ _ _ _ (by simpa using h), heap_setCell_other _ _ _ _ (by simpa using h), heap_setCell_other _ _ _ _ (by simpa using h), heap_setCell_other _ _ _ _ (by simpa using h)]
theorem realV_other (w : World) (p m f : Nat) (neg : Bool) (M : Nat) (X : Int) (hf : f ≠ 1) : RealV w (.agg #[.int .u64 p, .int .i64 m, .int .i64 f, .bool neg, .slice none 0 0, .int .i64 0]) p m f neg M X :=
  ⟨.slice none 0 0, 0, [], 0, rfl, Own.nil _ _ _, (fun d hd => by cases hd), fun _ => ⟨rfl, rfl⟩, fun h => absurd h hf⟩
set_option maxRecDepth 100000 in
set_option maxHeartbeats 3200000 in
theorem real_other (b p m f : Nat) (a e : Int) (neg : Bool) (v : Value) (w : World) (h : FltR w b p m a f neg v e) (hf : f = 0 ∨ f = 2) (hp : p ≤ 64000000) (hm : m ≤ 255) (M : Nat) (X : Int) :
    Calls Tryz.prog 94 #[.pointer (some ⟨b, 0, none⟩)] w fun e' w' => ∃ z, e' = .returned z ∧ RealV w' z p m f neg M X ∧ Below w.heap.size w w' := by
  have hab := (Below.refl w.heap.size w).alloc (Nat.le_refl _) (.cells #[.int .u64 0, .int .i64 0, .int .i64 0, .bool false, .slice none 0 0, .int .i64 0] 39)
  obtain ⟨Y, hY⟩ : ∃ Y, Y = w.alloc (.cells #[.int .u64 0, .int .i64 0, .int .i64 0, .bool false, .slice none 0 0, .int .i64 0] 39) := ⟨_, rfl⟩
  have hr1 : Y.heap[w.heap.size]? = some (.cells #[.int .u64 0, .int .i64 0, .int .i64 0, .bool false, .slice none 0 0, .int .i64 0] 39 (0, 0)) := by rw [hY]; exact box_row (Below.refl _ _)
  rw [← hY] at hab
  have hF := Lib.hid (h.below hab)
  have HR1 := Lib.hid hr1
  have HAB := Lib.hid hab
  have hYs : Y.heap.size = w.heap.size + 1 := by rw [hY]; simp
  have hlt := h.lt
  clear h hr1 hab
  go_enter Tryz.func94, Tryz.ntmps94
  go_upto_region 1 with fail
  rw [← hY]
  clear hY
  go_wp2_with fail
  refine (fPrec hF.out hp).mono ?_
  rintro _ _ ⟨rfl, rfl⟩
  go_wp2_with fail
  refine (fMode hF.out).mono ?_
  rintro _ _ ⟨rfl, rfl⟩
  go_wp2_with fail
  refine (fSignbit b p m f a e neg v Y hF.out).mono ?_
  rintro _ _ ⟨rfl, rfl⟩
  obtain ⟨Z, hZ⟩ : ∃ Z, Z = Y.alloc (.cells #[.int .u64 p, .int .i64 m, .int .i64 0, .bool neg, .slice none 0 0, .int .i64 0] 39) := ⟨_, rfl⟩
  have hb2 : Below Y.heap.size Y Z := by rw [hZ]; exact fbone _
  have hr2 : Z.heap[Y.heap.size]? = some (.cells #[.int .u64 p, .int .i64 m, .int .i64 0, .bool neg, .slice none 0 0, .int .i64 0] 39 (0, 0)) := by rw [hZ]; exact box_row (Below.refl _ _)
  have hFZ := Lib.hid (hF.out.below hb2)
  have hr1 := keep_row hb2 HR1.out
  have HB2 := Lib.hid (HAB.out.trans (hb2.mono HAB.out.size))
  go_upto_region 2 with fail
  rw [← hZ]
  clear hZ hb2
  obtain ⟨⟨x0, x1, x2, x3, x4, x5⟩, g0, g1, g2, g3, g4, g5⟩ := row6 hr1
  obtain ⟨⟨y0, y1, y2, y3, y4, y5⟩, k0, k1, k2, k3, k4, k5⟩ := row6 hr2
  have HZ1 := Lib.hid hr1
  have HZ2 := Lib.hid hr2
  clear hr1 hr2
  rw [hYs] at y0 y1 y2 y3 y4 y5 k0 k1 k2 k3 k4 k5 HZ2
  go_wp2_with fail
  refine (fIsInf hFZ.out).mono ?_
  rintro _ _ ⟨rfl, rfl⟩
  rcases hf with rfl | rfl
  · dsimp only
    rw [show decide (0 = 2) = false from rfl]
    go_wp2_with fail
    refine (fSign b p m 0 a e neg v Z hFZ.out).mono ?_
    rintro _ _ ⟨rfl, rfl⟩
    rw [show sgF 0 neg = 0 from rfl]
    go_wp2_with fail
    have HS := row6_set (x := .int .u64 (p : Int)) (y := .int .i64 (m : Int)) (z := .int .i64 0) (x' := .bool neg) (y' := .slice none 0 0) (z' := .int .i64 0) HZ1.out
    have HB := bset6 (x := .int .u64 (p : Int)) (y := .int .i64 (m : Int)) (z := .int .i64 0) (x' := .bool neg) (y' := .slice none 0 0) (z' := .int .i64 0) HB2.out (Nat.le_refl _)
    obtain ⟨⟨a0, a1, a2, a3, a4, a5⟩, -⟩ := row6 HS
    refine bodyPost_ret (v := .agg #[.int .u64 p, .int .i64 m, .int .i64 0, .bool neg, .slice none 0 0, .int .i64 0]) ?_ rfl ⟨_, rfl, realV_other _ p m _ neg M X (by decide), HB⟩
    simp [results, Tryz.results94, go_sem, a0, a1, a2, a3, a4, a5]
  · dsimp only
    rw [show decide (2 = 2) = true from rfl]
    have hq2 := rowset (i := 2) (.int .i64 2) HZ2.out
    have hq2' : (Z.setCell ⟨w.heap.size + 1, 2, none⟩ (.int .i64 2)).heap[w.heap.size + 1]? = some (.cells #[.int .u64 p, .int .i64 m, .int .i64 2, .bool neg, .slice none 0 0, .int .i64 0] 39 (0, 0)) := hq2
    have hq1 : (Z.setCell ⟨w.heap.size + 1, 2, none⟩ (.int .i64 2)).heap[w.heap.size]? = _ := (heap_setCell_other _ _ _ _ (by simp)).trans HZ1.out
    obtain ⟨⟨z0, z1, z2, z3, z4, z5⟩, -⟩ := row6 hq2'
    obtain ⟨⟨v0, v1, v2, v3, v4, v5⟩, h0, h1, h2, h3, h4, h5⟩ := row6 hq1
    have HQ1 := Lib.hid hq1
    have HBB := Lib.hid (bset (i := 2) (u := .int .i64 2) HB2.out (Nat.le_succ _))
    clear hq1 hq2 hq2'
    go_wp2_with fail
    have HS := row6_set (x := .int .u64 (p : Int)) (y := .int .i64 (m : Int)) (z := .int .i64 2) (x' := .bool neg) (y' := .slice none 0 0) (z' := .int .i64 0) HQ1.out
    have HB := bset6 (x := .int .u64 (p : Int)) (y := .int .i64 (m : Int)) (z := .int .i64 2) (x' := .bool neg) (y' := .slice none 0 0) (z' := .int .i64 0) HBB.out (Nat.le_refl _)
    obtain ⟨⟨a0, a1, a2, a3, a4, a5⟩, -⟩ := row6 HS
    refine bodyPost_ret (v := .agg #[.int .u64 p, .int .i64 m, .int .i64 2, .bool neg, .slice none 0 0, .int .i64 0]) ?_ rfl ⟨_, rfl, realV_other _ p m _ neg M X (by decide), HB⟩
    simp [results, Tryz.results94, go_sem, a0, a1, a2, a3, a4, a5]
set_option maxRecDepth 100000 in
set_option maxHeartbeats 6400000 in
theorem real_one (b p m : Nat) (a e : Int) (neg : Bool) (v : Value) (ws : List Nat) (w : World) {Bx : Nat} (h : FltR w b p m a 1 neg v e) (ho : Own w Bx 164 v (cellsW ws)) (hg : Good ws p) (hp0 : 0 < p) (hp : p ≤ 64000000) (hm : m ≤ 255) (M : Nat) (X : Int) (hM : 0 < M)
    (hq : deq (wv ws) (e - 64 * (ws.length : Int)) M X) (he1 : -2147000000 ≤ e) (he2 : e ≤ 2147000000) (hT : TabW w) :
    Calls Tryz.prog 94 #[.pointer (some ⟨b, 0, none⟩)] w fun e' w' => ∃ z, e' = .returned z ∧ RealV w' z p m 1 neg M X ∧ Below w.heap.size w w' := by
  have hab := (Below.refl w.heap.size w).alloc (Nat.le_refl _) (.cells #[.int .u64 0, .int .i64 0, .int .i64 0, .bool false, .slice none 0 0, .int .i64 0] 39)
  obtain ⟨Y, hY⟩ : ∃ Y, Y = w.alloc (.cells #[.int .u64 0, .int .i64 0, .int .i64 0, .bool false, .slice none 0 0, .int .i64 0] 39) := ⟨_, rfl⟩
  have hr1 : Y.heap[w.heap.size]? = some (.cells #[.int .u64 0, .int .i64 0, .int .i64 0, .bool false, .slice none 0 0, .int .i64 0] 39 (0, 0)) := by rw [hY]; exact box_row (Below.refl _ _)
  rw [← hY] at hab
  have hF := Lib.hid (h.below hab)
  have HR1 := Lib.hid hr1
  have HAB := Lib.hid hab
  have hYs : Y.heap.size = w.heap.size + 1 := by rw [hY]; simp
  have hlt := h.lt
  have hbl := hg.bl
  obtain ⟨hl0, hl, hd, htop, hfit⟩ := hg
  have hw0 := hq.symm.pos hM
  have hod := hq.od hw0
  have hbo := bl_od hw0
  have HO := Lib.hid (ho.below hab)
  have HT := Lib.hid (hT.below hab)
  have HD := Lib.hid hd
  have HF := Lib.hid hfit
  have HBL := Lib.hid hbl
  obtain ⟨N, hN⟩ : ∃ N, N = wv ws := ⟨_, rfl⟩
  obtain ⟨P, hP⟩ : ∃ P, P = bl (od (wv ws)) := ⟨_, rfl⟩
  obtain ⟨L, hL⟩ : ∃ L, L = ws.length := ⟨_, rfl⟩
  have hP0 : 0 < P := by rw [hP]; exact bl_pos (od_pos hw0)
  have hPL : P ≤ 64 * L := by rw [hP, hL, ← hbl]; omega
  have HE : Hid (e - (P : Int) = X + (tz M : Nat)) := Lib.hid (by have := hod.2; rw [hbl] at hbo; omega)
  have HOD : Hid (wv ws / 2 ^ (64 * ws.length - P) = od M) := Lib.hid (by
    rw [← hod.1, show 64 * ws.length - P = tz (wv ws) by rw [hbl] at hbo; omega]; rfl)
  have HW0 := Lib.hid hw0
  have HP := Lib.hid hP
  have HL := Lib.hid hL
  rw [← hL] at hl0 hl
  have hPb : P ≤ 64000000 := by omega
  clear h hr1 hab ho hT hd htop hfit hq hbl hod hbo hN hP hL hw0
  go_enter Tryz.func94, Tryz.ntmps94
  go_upto_region 1 with fail
  rw [← hY]
  clear hY
  go_wp2_with fail
  refine (fPrec hF.out hp).mono ?_
  rintro _ _ ⟨rfl, rfl⟩
  go_wp2_with fail
  refine (fMode hF.out).mono ?_
  rintro _ _ ⟨rfl, rfl⟩
  go_wp2_with fail
  refine (fSignbit b p m 1 a e neg v Y hF.out).mono ?_
  rintro _ _ ⟨rfl, rfl⟩
  obtain ⟨Z, hZ⟩ : ∃ Z, Z = Y.alloc (.cells #[.int .u64 p, .int .i64 m, .int .i64 0, .bool neg, .slice none 0 0, .int .i64 0] 39) := ⟨_, rfl⟩
  have hb2 : Below Y.heap.size Y Z := by rw [hZ]; exact fbone _
  have hr2 : Z.heap[Y.heap.size]? = some (.cells #[.int .u64 p, .int .i64 m, .int .i64 0, .bool neg, .slice none 0 0, .int .i64 0] 39 (0, 0)) := by rw [hZ]; exact box_row (Below.refl _ _)
  have hFZ := Lib.hid (hF.out.below hb2)
  have HZ1 := Lib.hid (keep_row hb2 HR1.out)
  have HB2 := Lib.hid (HAB.out.trans (hb2.mono HAB.out.size))
  have HO2 := Lib.hid (HO.out.below hb2)
  have HT2 := Lib.hid (HT.out.below hb2)
  go_upto_region 2 with fail
  rw [← hZ]
  rw [hYs] at hr2
  have HZ2 := Lib.hid hr2
  have hZs : w.heap.size + 2 ≤ Z.heap.size := by rw [hZ]; simp; omega
  clear hZ hb2 hr2 HO HT HR1 hF HAB
  go_wp2_with fail
  refine (fIsInf hFZ.out).mono ?_
  rintro _ _ ⟨rfl, rfl⟩
  dsimp only
  rw [show decide (1 = 2) = false from rfl]
  go_wp2_with fail
  refine (fSign b p m 1 a e neg v Z hFZ.out).mono ?_
  rintro _ _ ⟨rfl, rfl⟩
  obtain ⟨sg, hsg⟩ : ∃ s, s = sgF 1 neg := ⟨_, rfl⟩
  have q1 : (sg != 0) = true := by rw [hsg]; cases neg <;> rfl
  rw [← hsg]
  clear hsg
  have hb3 : Below Z.heap.size Z (Z.alloc newF) := fbone _
  have HF3 := Lib.hid (hFZ.out.below hb3)
  have HO3 := Lib.hid (HO2.out.below hb3)
  have HT3 := Lib.hid (HT2.out.below hb3)
  have HN3 := Lib.hid (newF_row Z)
  have HB3 := Lib.hid hb3
  have hne3 : Z.heap.size ≠ b := by have := hFZ.out.lt; omega
  clear hb3
  go_wp2_with fail
  refine (mantExp_one Z.heap.size Z.heap.size b 0 0 0 p m 0 0 a e false neg v ws (Z.alloc newF) HN3.out (Nat.le_refl _) HF3.out hne3 HO3.out HD.out (by rw [← HL.out]; exact hl) (by omega) (by omega)).mono ?_
  rintro _ W4 ⟨rfl, r4, h4, o4, b4⟩
  have hb4 := HB3.out.trans b4
  have HF4 := Lib.hid (hFZ.out.below hb4)
  have HT4 := Lib.hid (HT2.out.below hb4)
  have HV4 := Lib.hid ((HO2.out.below hb4).rw' HD.out)
  have H4 := Lib.hid h4
  have O4 := Lib.hid o4
  have HB4 := Lib.hid hb4
  clear h4 o4 b4 hb4
  go_wp2_with fail
  refine (minPrec_one b p m a e neg v ws W4 HF4.out HV4.out HW0.out (by rw [← HL.out]; exact hl) HBL.out HT4.out).mono ?_
  rintro _ _ ⟨rfl, n5, rfl⟩
  rw [← HP.out]
  have H5 : FltR (W4.drewN n5) Z.heap.size p m a 1 neg r4 0 := H4.out
  have O5 : Own (W4.drewN n5) Z.heap.size 164 r4 (cellsW ws) := O4.out.drewN n5
  have B5 : Below Z.heap.size Z (W4.drewN n5) := undrewN' HB4.out
  have T5 : TabW (W4.drewN n5) := HT4.out
  obtain ⟨W5, hW5⟩ : ∃ W5, W5 = W4.drewN n5 := ⟨_, rfl⟩
  rw [← hW5] at H5 O5 B5 T5
  dsimp only
  rw [← hW5]
  clear hW5 H4 O4 HB4 HT4 HF4 HV4
  have b6 : Below W5.heap.size W5 (W5.alloc newF) := fbone _
  have H6 := Lib.hid (H5.below b6)
  have O6 := Lib.hid (O5.below b6)
  have B6 := Lib.hid (B5.trans (b6.mono B5.size))
  have T5h := Lib.hid T5
  have B5h := Lib.hid B5
  have N6 := Lib.hid (newF_row W5)
  have hne6 : W5.heap.size ≠ Z.heap.size := by have := H5.lt; omega
  have hs5 := B5.size
  clear H5 O5 B5 T5 b6
  go_wp2_with fail
  refine (setMantExp_exact W5.heap.size W5.heap.size Z.heap.size 0 0 0 p m 0 0 a 0 (P : Int) false neg r4 ws (W5.alloc newF) N6.out (Nat.le_refl _) H6.out hne6 O6.out HD.out HF.out (by rw [← HL.out]; exact hl0) (by rw [← HL.out]; exact hl) hp0 hp (by omega) (by omega) (by omega) (by omega)).mono ?_
  rintro _ W7 ⟨rfl, r7, h7, o7, b7⟩
  rw [Int.zero_add] at h7
  have b57 : Below W5.heap.size W5 W7 := (fbone (W := W5) newF).trans b7
  have H7 := Lib.hid h7
  have V7 := Lib.hid (o7.rw' HD.out)
  have T7 := Lib.hid (T5h.out.below b57)
  have B7 := Lib.hid (B5h.out.trans (b57.mono hs5))
  clear h7 o7 b7 b57
  go_wp2_with fail
  refine (floatInt_le W5.heap.size p m P 0 neg r7 ws W7 H7.out V7.out HW0.out (by rw [← HL.out]; exact hl) HBL.out T7.out hP0 (by rw [← HL.out]; exact hPL)).mono ?_
  rintro _ W8 ⟨g, rfl, hI, b8⟩
  rw [HOD.out] at hI
  obtain ⟨v8, hg8, row8, o8⟩ := hI
  have d1 : W8.cell? ⟨g, 0 + 1, none⟩ = some v8 := (row_at (i := 1) row8 rfl).1
  have V8 := Lib.hid (o8.rw' (wds_all _))
  have B8 := Lib.hid (B7.out.trans (b8.mono B7.out.size))
  have hN8 : Hid ((wds (od M)).length ≤ 100000000) := Lib.hid (by
    rw [wds_length, nw_bl (od_pos hM)]
    have h1 := HOD.out
    have h2 : bl (od M) ≤ bl (wv ws) := by rw [← h1]; exact bl_mono (Nat.div_le_self _ _)
    have := HBL.out; have := HL.out; omega)
  clear hg8 row8 o8 b8
  go_wp2_with fail
  refine (wordsOf_any g 0 v8 (wds (od M)) W8 d1 V8.out hN8.out).mono ?_
  rintro _ W9 ⟨r9, rfl, o9, b9⟩
  have hS9 := o9.isS
  have B9 := Lib.hid (B8.out.trans (b9.mono B8.out.size))
  have q1 := keep_row B9.out HZ1.out
  have q2 := keep_row B9.out HZ2.out
  have O9 := Lib.hid o9
  have BW9 := Lib.hid (HB2.out.trans (B9.out.mono (by omega)))
  obtain ⟨⟨x0, x1, x2, x3, x4, x5⟩, g0, g1, g2, g3, g4, g5⟩ := row6 q1
  obtain ⟨⟨y0, y1, y2, y3, y4, y5⟩, k0, k1, k2, k3, k4, k5⟩ := row6 q2
  have S2 := rowset (i := 5) (.int .i64 (e - (P : Int))) (rowset (i := 4) r9 (rowset (i := 2) (.int .i64 1) q2))
  have S2' : (((W9.setCell ⟨w.heap.size + 1, 2, none⟩ (.int .i64 1)).setCell ⟨w.heap.size + 1, 4, none⟩ r9).setCell ⟨w.heap.size + 1, 5, none⟩ (.int .i64 (e - (P : Int)))).heap[w.heap.size + 1]? = some (.cells #[.int .u64 p, .int .i64 m, .int .i64 1, .bool neg, r9, .int .i64 (e - (P : Int))] 39 (0, 0)) := S2
  have S1 : (((W9.setCell ⟨w.heap.size + 1, 2, none⟩ (.int .i64 1)).setCell ⟨w.heap.size + 1, 4, none⟩ r9).setCell ⟨w.heap.size + 1, 5, none⟩ (.int .i64 (e - (P : Int)))).heap[w.heap.size]? = some (.cells #[.int .u64 0, .int .i64 0, .int .i64 0, .bool false, .slice none 0 0, .int .i64 0] 39 (0, 0)) := by
    rw [heap_setCell_other _ _ _ _ (by simp), heap_setCell_other _ _ _ _ (by simp), heap_setCell_other _ _ _ _ (by simp)]; exact q1
  have OS : Own (((W9.setCell ⟨w.heap.size + 1, 2, none⟩ (.int .i64 1)).setCell ⟨w.heap.size + 1, 4, none⟩ r9).setCell ⟨w.heap.size + 1, 5, none⟩ (.int .i64 (e - (P : Int)))) W8.heap.size 35 r9 (cellsW (wds (od M))) :=
    ((o9.away q2 (by decide) 2 _).away (rowset (i := 2) (.int .i64 1) q2) (by decide) 4 _).away (rowset (i := 4) r9 (rowset (i := 2) (.int .i64 1) q2)) (by decide) 5 _
  have BS : Below w.heap.size w (((W9.setCell ⟨w.heap.size + 1, 2, none⟩ (.int .i64 1)).setCell ⟨w.heap.size + 1, 4, none⟩ r9).setCell ⟨w.heap.size + 1, 5, none⟩ (.int .i64 (e - (P : Int)))) := bset (bset (bset BW9.out (Nat.le_succ _)) (Nat.le_succ _)) (Nat.le_succ _)
  obtain ⟨E, hE⟩ : ∃ E, E = e - (P : Int) := ⟨_, rfl⟩
  rw [← hE] at S2' S1 OS BS
  have hE2 : e - (P : Int) = E := hE.symm
  have HEE := Lib.hid hE
  obtain ⟨⟨z0, z1, z2, z3, z4, z5⟩, -⟩ := row6 S2'
  obtain ⟨⟨v0, v1, v2, v3, v4, v5⟩, h0, h1, h2, h3, h4, h5⟩ := row6 S1
  have HS1 := Lib.hid S1
  have HOS := Lib.hid OS
  have HBS := Lib.hid BS
  clear S1 S2 S2' OS BS q1 q2 hE o9 b9 d1
  go_wp2_with fail
  have HS := row6_set (x := .int .u64 (p : Int)) (y := .int .i64 (m : Int)) (z := .int .i64 1) (x' := .bool neg) (y' := r9) (z' := .int .i64 E) HS1.out
  have HB := bset6 (x := .int .u64 (p : Int)) (y := .int .i64 (m : Int)) (z := .int .i64 1) (x' := .bool neg) (y' := r9) (z' := .int .i64 E) HBS.out (Nat.le_refl _)
  obtain ⟨⟨a0, a1, a2, a3, a4, a5⟩, -⟩ := row6 HS
  refine bodyPost_ret (v := .agg #[.int .u64 p, .int .i64 m, .int .i64 1, .bool neg, r9, .int .i64 E]) ?_ rfl ⟨_, rfl, ⟨_, _, _, W8.heap.size, rfl, ?_, wds_all _, fun h => absurd rfl h, fun _ => ⟨rfl, by rw [HEE.out, HE.out]⟩⟩, HB⟩
  · simp [results, Tryz.results94, go_sem, a0, a1, a2, a3, a4, a5]
  · exact HOS.out.same fun hc => by
      have hne : sBlk r9 ≠ w.heap.size := HOS.out.ne_row HS1.out (by decide) hc
      exact heap6_other hne
theorem bit_dig (x i : Nat) : x / 2 ^ i % 2 = dig x (i / 16) / 2 ^ (i % 16) % 2 := by
  unfold dig
  have h1 : (2 : Nat) ^ i = 65536 ^ (i / 16) * 2 ^ (i % 16) := two_split i
  rw [h1, ← Nat.div_div_eq_div_mul]
  have h2 : (65536 : Nat) = 2 ^ (i % 16) * (2 * 2 ^ (15 - i % 16)) := by
    rw [← Nat.pow_succ', ← Nat.pow_add, show i % 16 + (15 - i % 16).succ = 16 by omega]
  generalize x / 65536 ^ (i / 16) = X
  conv => rhs; rw [h2, Nat.mod_mul_right_div_self, Nat.mod_mul_right_mod]
theorem and1_i64 (x : Nat) (_h : x < 65536) : bits .and .i64 (x : Int) 1 = ((x % 2 : Nat) : Int) := by
  have h1 : (BitVec.ofInt 64 1).toNat = 2 ^ 1 - 1 := by decide
  have key : (BitVec.ofInt 64 (x : Int) &&& BitVec.ofInt 64 1).toNat = ((x : Int) % ((2 ^ 64 : Nat) : Int)).toNat % 2 ^ 1 := by
    rw [BitVec.toNat_and, BitVec.toNat_ofInt, h1, Nat.and_two_pow_sub_one_eq_mod]
  show IntKind.i64.wrap ((BitVec.ofInt 64 (x : Int) &&& BitVec.ofInt 64 1).toNat : Nat) = _
  rw [key, IntKind.wrap_i64]
  omega
set_option maxRecDepth 100000 in
set_option maxHeartbeats 800000 in
theorem spHas (a : Value) (x i : Nat) (w : World) (ha : NatV w a x) (_hx : nl x ≤ 1000000000) (hi : i ≤ 16000000000) :
    Calls Tryz.prog 157 #[a, .int .i64 i] w fun e w' => e = .returned (.bool (decide (x / 2 ^ i % 2 = 1))) ∧ w = w' := by
  have hSa := ha.isS
  have hLa := ha.len
  obtain ⟨L, hL⟩ : ∃ L, L = nl x := ⟨_, rfl⟩
  rw [← hL] at hLa _hx
  have e1 : (i : Int) / 16 = ((i / 16 : Nat) : Int) := by omega
  have e2 : (i : Int) % 16 = ((i % 16 : Nat) : Int) := by omega
  have hbd := bit_dig x i
  obtain ⟨q, hq⟩ : ∃ q, q = i / 16 := ⟨_, rfl⟩
  obtain ⟨s, hs⟩ : ∃ s, s = i % 16 := ⟨_, rfl⟩
  rw [← hq, ← hs] at hbd
  rw [← hq] at e1
  rw [← hs] at e2
  have hs16 : s < 16 := by omega
  have hql : q ≤ 1000000000 := by omega
  by_cases hqL : q < L
  · have c := ha.cell q (by rw [← hL]; exact hqL)
    have hdl := dig_lt x q
    obtain ⟨d, hd⟩ : ∃ d, d = dig x q := ⟨_, rfl⟩
    rw [← hd] at c hdl hbd
    have hS2 : (2 : Int) ^ s = ((2 ^ s : Nat) : Int) := by simp
    obtain ⟨S, hS⟩ : ∃ S, S = 2 ^ s := ⟨_, rfl⟩
    rw [← hS] at hS2 hbd
    have hdq : (d : Int) / (S : Int) = ((d / S : Nat) : Int) := by simp
    have hdl2 : d / S < 65536 := Nat.lt_of_le_of_lt (Nat.div_le_self _ _) hdl
    have han := and1_i64 (d / S) hdl2
    obtain ⟨t, ht⟩ : ∃ t, t = d / S := ⟨_, rfl⟩
    rw [← ht] at hdq han hdl2 hbd
    have hf : (((t % 2 : Nat) : Int) == 1) = decide (x / 2 ^ i % 2 = 1) := by
      rw [hbd]
      rcases (by omega : t % 2 = 0 ∨ t % 2 = 1) with h | h <;> rw [h] <;> rfl
    obtain ⟨u, hu⟩ : ∃ u, u = t % 2 := ⟨_, rfl⟩
    rw [← hu] at han hf
    obtain ⟨B, hB⟩ : ∃ B, B = decide (x / 2 ^ i % 2 = 1) := ⟨_, rfl⟩
    rw [← hB] at hf ⊢
    have t1 : decide ((q : Int) < L) = true := decide_eq_true (by omega)
    clear hd hS ht hu hB hbd ha hL hq hs
    go_enter Tryz.func157, Tryz.ntmps157
    go_wp2
    go_ret
    exact ⟨rfl, rfl⟩
  · have t1 : decide ((q : Int) < L) = false := decide_eq_false (by omega)
    have hf : decide (x / 2 ^ i % 2 = 1) = false := by
      rw [hbd, dig_ge (by rw [← hL]; omega)]; simp
    rw [hf]
    clear hf hbd ha hL hq hs
    go_enter Tryz.func157, Tryz.ntmps157
    go_wp2
    go_ret
    exact ⟨rfl, rfl⟩
theorem dig_shr (x n k : Nat) : (dig x (n / 16 + k) + 65536 * dig x (n / 16 + k + 1)) / 2 ^ (n % 16) % 65536 = dig (x / 2 ^ n) k := by
  have hs : n % 16 < 16 := Nat.mod_lt _ (by decide)
  have h1 : (2 : Nat) ^ n = 65536 ^ (n / 16) * 2 ^ (n % 16) := two_split n
  unfold dig
  rw [h1, Nat.div_div_eq_div_mul]
  have e0 : 65536 ^ (n / 16) * 2 ^ (n % 16) * 65536 ^ k = 65536 ^ (n / 16 + k) * 2 ^ (n % 16) := by rw [Nat.pow_add]; simp only [Nat.mul_comm, Nat.mul_left_comm]
  rw [e0, ← Nat.div_div_eq_div_mul, Nat.pow_succ, ← Nat.div_div_eq_div_mul]
  generalize x / 65536 ^ (n / 16 + k) = X
  generalize n % 16 = s at *
  have h2 : X % 65536 + 65536 * (X / 65536 % 65536) = X % (65536 * 65536) := by rw [Nat.mod_mul]
  rw [h2]
  have h3 : (65536 : Nat) * 65536 = 2 ^ s * (65536 * 2 ^ (16 - s)) := by
    rw [show (65536 : Nat) = 2 ^ 16 from rfl, ← Nat.pow_add, ← Nat.pow_add, ← Nat.pow_add]; congr 1; omega
  rw [h3, Nat.mod_mul_right_div_self, Nat.mod_mul_right_mod]
def ShrRel (Y B k : Nat) (w : World) (v : Value) (wr : World) : Prop :=
  ∃ ds : List Nat, Own wr B 3 v (cellsN ds) ∧ (∀ d ∈ ds, d < 65536) ∧ ds.length = k ∧ val ds = Y % 65536 ^ k ∧ Below B w wr
theorem ShrRel.step {Y B k r : Nat} {w w1 : World} {v1 : Value} {ds : List Nat} (hd : ∀ d ∈ ds, d < 65536) (hdl : ds.length = k) (hv : val ds = Y % 65536 ^ k) (hr : r = dig Y k)
    (ho : Own w1 B 3 v1 (cellsN ds ++ [.int .i64 (r : Int)])) (hb : Below B w w1) : ShrRel Y B (k + 1) w v1 w1 := by
  rw [cellsN_snoc] at ho
  refine ⟨_, ho, ?_, by simp [hdl], ?_, hb⟩
  · intro z hz
    rcases List.mem_append.1 hz with h | h
    · exact hd z h
    · rw [List.mem_singleton.1 h, hr]; exact dig_lt _ _
  · rw [val_snoc, hdl, mod_succ, hv, hr]
set_option maxRecDepth 100000 in
set_option maxHeartbeats 800000 in
theorem spShr (a : Value) (x n : Nat) (w : World) (ha : NatV w a x) (hx : nl x ≤ 1000000000) (hn : n ≤ 16000000000) :
    Calls Tryz.prog 97 #[a, .int .i64 n] w fun e w' => ∃ r, e = .returned r ∧ NPost (x / 2 ^ n) w r w' := by
  have hSa := ha.isS
  have hLa := ha.len
  obtain ⟨L, hL⟩ : ∃ L, L = nl x := ⟨_, rfl⟩
  rw [← hL] at hLa hx
  have e1 : (n : Int) / 16 = ((n / 16 : Nat) : Int) := by omega
  have e2 : (n : Int) % 16 = ((n % 16 : Nat) : Int) := by omega
  have hdg := dig_shr x n
  have hx2 : x < 65536 ^ L := by rw [hL]; exact lt_nl x
  have h2n : (2 : Nat) ^ n = 65536 ^ (n / 16) * 2 ^ (n % 16) := two_split n
  obtain ⟨q, hq⟩ : ∃ q, q = n / 16 := ⟨_, rfl⟩
  obtain ⟨s, hs⟩ : ∃ s, s = n % 16 := ⟨_, rfl⟩
  rw [← hq, ← hs] at hdg h2n
  rw [← hq] at e1
  rw [← hs] at e2
  have hs16 : s < 16 := by omega
  have hql : q ≤ 1000000000 := by omega
  have hfin : ∀ k, L ≤ q + k → x / 2 ^ n % 65536 ^ k = x / 2 ^ n := fun k hk => by
    refine Nat.mod_eq_of_lt (Nat.div_lt_of_lt_mul ?_)
    rw [h2n]
    have h3 : x < 65536 ^ (q + k) := Nat.lt_of_lt_of_le hx2 (Nat.pow_le_pow_right (by decide) hk)
    rw [Nat.pow_add] at h3
    have h4 := Nat.two_pow_pos s
    calc x < 65536 ^ q * 65536 ^ k := h3
      _ ≤ 65536 ^ q * 2 ^ s * 65536 ^ k := Nat.mul_le_mul_right _ (Nat.le_mul_of_pos_right _ h4)
  obtain ⟨Y, hY⟩ : ∃ Y, Y = x / 2 ^ n := ⟨_, rfl⟩
  rw [← hY] at hfin hdg ⊢
  have hS2 : (2 : Int) ^ s = ((2 ^ s : Nat) : Int) := by simp
  obtain ⟨S, hS⟩ : ∃ S, S = 2 ^ s := ⟨_, rfl⟩
  rw [← hS] at hS2 hdg
  have HL := Lib.hid hL
  have HA := Lib.hid ha
  have HF := Lib.hid hfin
  have HG := Lib.hid hdg
  clear hL ha hfin hdg hx2 h2n hq hs hY hS
  go_enter Tryz.func97, Tryz.ntmps97
  go_wp2
  go_loopw [5, 6] (fun v i wr => ∃ k : Nat, (k = 0 ∨ q + k ≤ L) ∧ i = .int .i64 ((q + k : Nat) : Int) ∧ ShrRel Y w.heap.size k w v wr) (fun _ i _ => L - (intOf i).toNat)
  case atStart => exact ⟨0, .inl rfl, rfl, [], Own.zero _ _ _ _ _, by simp, rfl, by simp [val, Nat.mod_one], (Below.refl _ _).alloc (Nat.le_refl _) _⟩
  case round =>
    obtain ⟨k, hk, rfl, ds, ho, hd, hdl, hv, hbl⟩ := hrel
    have Hd := Lib.hid hd
    have Hdl := Lib.hid hdl
    have Hv := Lib.hid hv
    have hbz := hbl.size
    have Hcl := Lib.hid (cellsN_length ds)
    have hkk : k ≤ 1000000000 := by omega
    clear hd hdl hv
    obtain ⟨j, hj⟩ : ∃ j, j = q + k := ⟨_, rfl⟩
    have hjl : j ≤ 2000000000 := by omega
    rw [← hj]
    by_cases hka : j < L
    · have ca := (HA.out.below hbl).cell j (by rw [← HL.out]; exact hka)
      have cb : j + 1 < L → _ := fun h => (HA.out.below hbl).cell (j + 1) (by rw [← HL.out]; exact h)
      have g1 := dig_lt x j
      have g2 := dig_lt x (j + 1)
      have hyz : ¬ j + 1 < L → dig x (j + 1) = 0 := fun h => dig_ge (by rw [← HL.out]; omega)
      have hG := HG.out k
      rw [← hj] at hG
      obtain ⟨d, hdd⟩ : ∃ d, d = dig x j := ⟨_, rfl⟩
      obtain ⟨c, hcc⟩ : ∃ c, c = dig x (j + 1) := ⟨_, rfl⟩
      rw [← hdd] at ca g1 hG
      rw [← hcc] at cb hyz g2 hG
      have t0 : decide (j < L) = true := decide_eq_true hka
      obtain ⟨u, hu⟩ : ∃ u, u = d + 65536 * c := ⟨_, rfl⟩
      rw [← hu] at hG
      have hq1 : (u : Int) / (S : Int) = ((u / S : Nat) : Int) := by simp
      have hul : u / S ≤ u := Nat.div_le_self _ _
      obtain ⟨z, hz⟩ : ∃ z, z = u / S := ⟨_, rfl⟩
      rw [← hz] at hq1 hul hG
      have hr2 : (z : Int) % 65536 = ((z % 65536 : Nat) : Int) := by simp
      obtain ⟨r, hr⟩ : ∃ r, r = z % 65536 := ⟨_, rfl⟩
      rw [← hr] at hr2 hG
      have Hg := Lib.hid hG
      have fin : ∀ (v1 : Value) (w1 : World), Own w1 w.heap.size 3 v1 (cellsN ds ++ [.int .i64 (r : Int)]) → Below w.heap.size w w1 → ShrRel Y w.heap.size (k + 1) w v1 w1 :=
        fun v1 w1 h3 h4 => ShrRel.step Hd.out Hdl.out Hv.out Hg.out h3 h4
      have Fin := Lib.hid fin
      have hdlk : ds.length ≤ 1000000000 := by have := Hdl.out; omega
      have Hj := Lib.hid hj
      clear fin hG hr hz hcc hdd hj
      rcases (by omega : j + 1 < L ∨ ¬ j + 1 < L) with h | h
      case' inl =>
        have cb' := cb h
        have t1 : decide (j + 1 < L) = true := decide_eq_true h
        have eu : (d : Int) + 65536 * (c : Int) = (u : Int) := by omega
      case' inr =>
        have cb' := hyz h
        have t1 : decide (j + 1 < L) = false := decide_eq_false h
        have eu : d = u := by omega
        subst eu
        clear cb'
      all_goals
        clear hu hyz cb
        go_wp2_with (at_builtin; refine wpList_append_O rfl _ _ _ _ rfl elemN w.heap.size _ _ rfl (ho.alloc _) _ rfl 1 [.int .i64 _] (srcOne Tryz.underlying30 wr _ _) ?_ ?_ ?_ ?_)
        · rw [Hcl.out]; unfold maxLen; omega
        · rw [Hcl.out]; omega
        · simp; omega
        · intro v1 w1 ho1 hb1 _ _ _
          have hs := Fin.out v1 w1 ho1 ((hbl.alloc hbz _).trans hb1)
          have Hs := Lib.hid hs
          clear hs ho1
          go_wp2
          refine ⟨⟨k + 1, .inr (by have := Hj.out; omega), ?_, Hs.out⟩, by simp [intOf]; omega⟩
          have := Hj.out
          exact congrArg (Value.int .i64) (by omega)
    · have t0 : decide (j < L) = false := decide_eq_false hka
      have Hj := Lib.hid hj
      clear hj
      go_wp2_with fail
      refine (spTrim _ ds wr ho.rl Hd.out (by have := Hdl.out; omega)).mono ?_
      rintro _ _ ⟨r, rfl, hr, rfl⟩
      have Hr := Lib.hid hr
      clear hr
      go_wp2
      go_ret
      refine ⟨_, rfl, ?_, hbl⟩
      have := HF.out k (by have := Hj.out; omega)
      rw [← this, ← Hv.out]
      exact Hr.out
theorem low_sub (x n : Nat) : x - x / 2 ^ n * 2 ^ n = x % 2 ^ n := by have := Nat.div_add_mod x (2 ^ n); rw [Nat.mul_comm] at this; omega
theorem lef_cmp {R D : Nat} (h : R ≠ 0) : 2 + cmpN (R + R) D = ((lef R D 0 : Nat) : Int) := by
  unfold lef
  rw [if_neg (by omega)]
  rcases Nat.lt_trichotomy (2 * R) D with c | c | c
  · rw [if_pos c, cmpN_lt (by omega)]; rfl
  · rw [if_neg (by omega), if_pos ⟨c, rfl⟩, show R + R = D by omega, cmpN_eq]; rfl
  · rw [if_neg (by omega), if_neg (by omega), cmpN_gt (by omega)]; rfl
set_option maxRecDepth 100000 in
set_option maxHeartbeats 1600000 in
theorem spSplit (a : Value) (x n : Nat) (w : World) (ha : NatV w a x) (hx : nl x ≤ 100000000) (hn : n ≤ 1600000000) :
    Calls Tryz.prog 175 #[a, .int .i64 n] w fun e w' => ∃ r, e = .returned (.tuple #[r, .int .i64 ((lef (x % 2 ^ n) (2 ^ n) 0 : Nat) : Int)]) ∧ NPost (x / 2 ^ n) w r w' := by
  have hSa := ha.isS
  have Ha := Lib.hid ha
  have hq : nl (x / 2 ^ n) ≤ 1000000000 := Nat.le_trans (nl_mono (Nat.div_le_self x _)) (by omega)
  have hq2 : nl (x / 2 ^ n * 2 ^ n) ≤ 1000000000 := Nat.le_trans (nl_mono (Nat.div_mul_le_self x _)) (by omega)
  have hle : x / 2 ^ n * 2 ^ n ≤ x := Nat.div_mul_le_self x _
  have hlow := low_sub x n
  have hrl : x % 2 ^ n ≤ x := Nat.mod_le _ _
  have hnr : nl (x % 2 ^ n) ≤ 100000000 := Nat.le_trans (nl_mono hrl) hx
  have hnD : nl (2 ^ n) ≤ 1000000000 := by rw [nl_two]; omega
  obtain ⟨D, hD⟩ : ∃ D, D = 2 ^ n := ⟨_, rfl⟩
  have hB : ∀ W : World, Calls Tryz.prog 37 #[.int .i64 n] W fun e w' => ∃ r, e = .returned r ∧ NPost D W r w' := fun W => by rw [hD]; exact spBit n W (by omega)
  have hSh : ∀ (W : World) (v : Value), NatV W v (x / D) → Calls Tryz.prog 36 #[v, .int .i64 n] W fun e w' => ∃ r, e = .returned r ∧ NPost (x / D * D) W r w' := fun W v h => by rw [hD] at h ⊢; exact spShl v _ n W h hq (by omega)
  rw [← hD] at hq2 hle hlow hnr hnD hrl hq ⊢
  have HSr : Hid (Calls Tryz.prog 97 #[a, .int .i64 n] w fun e w' => ∃ r, e = .returned r ∧ NPost (x / D) w r w') := Lib.hid (by rw [hD]; exact spShr a x n w Ha.out (by omega) (by omega))
  have HBit := Lib.hid hB
  have HShl := Lib.hid hSh
  have HLow := Lib.hid hlow
  have hR2 : nl (x % D + x % D) ≤ 1000000000 := by
    have h1 : x % D + x % D < 65536 ^ (nl (x % D) + 1) := by have := lt_nl (x % D); rw [Nat.pow_succ]; omega
    have := nl_le h1; omega
  obtain ⟨R, hR⟩ : ∃ R, R = x % D := ⟨_, rfl⟩
  obtain ⟨q, hqq⟩ : ∃ q, q = x / D := ⟨_, rfl⟩
  rw [← hR] at HLow hnr hR2 ⊢
  rw [← hqq] at HSr HShl HLow hq hq2 hle ⊢
  have HLe := Lib.hid hle
  clear hD hB hSh hlow hR hqq ha hrl hle
  go_enter Tryz.func175, Tryz.ntmps175
  go_wp2_with fail
  refine HSr.out.mono ?_
  rintro _ w1 ⟨r1, rfl, hn1, hb1⟩
  have HN1 := Lib.hid hn1
  have hS1 := hn1.isS
  have HB1 := Lib.hid hb1
  clear hn1 hb1
  go_wp2_with fail
  refine (HShl.out w1 r1 HN1.out).mono ?_
  rintro _ w2 ⟨r2, rfl, hn2, hb2⟩
  have HN2 := Lib.hid hn2
  have hS2 := hn2.isS
  have HB2 := Lib.hid (bthen HB1.out hb2)
  have hx2 : nl x ≤ 1000000000 := by omega
  have HN12 := Lib.hid (HN1.out.below hb2)
  clear hn2 hb2
  go_wp2_with fail
  refine (spSub a r2 x (q * D) w2 (Ha.out.below HB2.out) HN2.out hx2 HLe.out).mono ?_
  rintro _ w3 ⟨r3, rfl, hn3, hb3⟩
  rw [HLow.out] at hn3
  have hS3 := hn3.isS
  have hL3 := hn3.len
  have HN3 := Lib.hid hn3
  have HB3 := Lib.hid (bthen HB2.out hb3)
  have HN13 := Lib.hid (HN12.out.below hb3)
  clear hn3 hb3
  by_cases hR0 : R = 0
  · have t0 : ((nl R : Int) == 0) = true := by rw [hR0]; rfl
    have HLZ : Hid (((lef R D 0 : Nat) : Int) = 0) := Lib.hid (by rw [hR0, lef_exact]; rfl)
    have h0 : nl R = 0 := by rw [hR0]; rfl
    rw [h0] at hL3
    clear hR0 t0 h0
    go_wp2
    go_ret2
    refine ⟨r1, ?_, HN13.out, HB3.out⟩
    rw [HLZ.out]; rfl
  · have hp := nl_pos (Nat.pos_of_ne_zero hR0)
    have t0 : ((nl R : Int) == 0) = false := by rw [beq_eq_false_iff_ne]; omega
    have HLC := Lib.hid (lef_cmp (D := D) hR0)
    clear hR0 hp
    go_wp2_with fail
    refine (spAdd r3 r3 R R w3 HN3.out HN3.out (by omega) (by omega)).mono ?_
    rintro _ w4 ⟨r4, rfl, hn4, hb4⟩
    have HN4 := Lib.hid hn4
    have hS4 := hn4.isS
    have HB4 := Lib.hid (bthen HB3.out hb4)
    have HN14 := Lib.hid (HN13.out.below hb4)
    clear hn4 hb4
    go_wp2_with fail
    refine (HBit.out w4).mono ?_
    rintro _ w5 ⟨r5, rfl, hn5, hb5⟩
    have HN5 := Lib.hid hn5
    have hS5 := hn5.isS
    have HB5 := Lib.hid (bthen HB4.out hb5)
    have HN15 := Lib.hid (HN14.out.below hb5)
    have HN45 := Lib.hid (HN4.out.below hb5)
    clear hn5 hb5
    go_wp2_with fail
    refine (spCmp r4 r5 (R + R) D w5 HN45.out HN5.out hR2 hnD).mono ?_
    rintro _ w6 ⟨rfl, hb6⟩
    have HB6 := Lib.hid (bthen HB5.out hb6)
    have HN16 := Lib.hid (HN15.out.below hb6)
    have hcb := cmpN_bd (R + R) D
    have hlc := HLC.out
    obtain ⟨c, hc⟩ : ∃ c, c = cmpN (R + R) D := ⟨_, rfl⟩
    rw [← hc] at hcb hlc ⊢
    have HC := Lib.hid hlc
    clear hb6 hc hlc
    go_wp2
    go_ret2
    refine ⟨r1, ?_, HN16.out, HB6.out⟩
    rw [← HC.out]; rfl
theorem odd_low {x k : Nat} (h : 0 < x) (hk : k < tz x) : x / 2 ^ k % 2 = 0 := by
  have h1 := tz_low h (show k + 1 ≤ tz x by omega)
  have h2 := Nat.mod_pow_succ (x := x) (b := 2) (k := k)
  rw [h1] at h2
  have h3 := Nat.two_pow_pos k
  have h4 : 2 ^ k * (x / 2 ^ k % 2) = 0 := by omega
  exact (Nat.mul_eq_zero.1 h4).resolve_left (by omega)
theorem odd_top {x : Nat} (h : 0 < x) : x / 2 ^ tz x % 2 = 1 := (od_tz h).2
set_option maxRecDepth 100000 in
set_option maxHeartbeats 800000 in
theorem spOdd (a : Value) (x : Nat) (w : World) (ha : NatV w a x) (hx : nl x ≤ 100000000) (h0 : 0 < x) :
    Calls Tryz.prog 98 #[a] w fun e w' => ∃ r, e = .returned (.tuple #[r, .int .i64 (tz x : Nat)]) ∧ NPost (od x) w r w' := by
  have hSa := ha.isS
  have Ha := Lib.hid ha
  have H0 := Lib.hid h0
  have htl : tz x ≤ 1600000000 := by have := tz_le h0; have := bl_nl x; omega
  obtain ⟨t, ht⟩ : ∃ t, t = tz x := ⟨_, rfl⟩
  rw [← ht] at htl ⊢
  have HT := Lib.hid ht
  have hx2 : nl x ≤ 1000000000 := by omega
  clear ha ht
  go_enter Tryz.func98, Tryz.ntmps98
  go_wp2
  go_loopw [4] (fun i wr => ∃ k : Nat, k ≤ t ∧ i = .int .i64 k ∧ w = wr) (fun i _ => t - (intOf i).toNat)
  case atStart => exact ⟨0, Nat.zero_le _, rfl, rfl⟩
  case round =>
    obtain ⟨k, hk, rfl, rfl⟩ := hrel
    go_wp2_with fail
    refine (spHas a x k w Ha.out hx2 (by omega)).mono ?_
    rintro _ _ ⟨rfl, rfl⟩
    by_cases hkt : k < t
    · rw [show decide (x / 2 ^ k % 2 = 1) = false by rw [odd_low H0.out (by rw [← HT.out]; exact hkt)]; rfl]
      go_wp2
      exact ⟨⟨k + 1, by omega, by simp, trivial⟩, by simp [intOf]; omega⟩
    · have hkk : k = t := by omega
      subst hkk
      rw [show decide (x / 2 ^ k % 2 = 1) = true by rw [HT.out, odd_top H0.out]; rfl]
      go_wp2_with fail
      refine (spShr a x k w Ha.out hx2 (by omega)).mono ?_
      rintro _ w1 ⟨r1, rfl, hn1, hb1⟩
      have hS1 := hn1.isS
      have HN := Lib.hid hn1
      have HB := Lib.hid hb1
      clear hn1 hb1
      go_wp2
      go_ret2
      refine ⟨_, rfl, ?_, HB.out⟩
      have := HN.out
      rw [HT.out] at this
      exact this
set_option maxRecDepth 100000 in
set_option maxHeartbeats 3200000 in
theorem spAway (neg odd : Bool) (left mode : Nat) (w : World) (hl : left ≤ 3) (hm : mode ≤ 5) :
    Calls Tryz.prog 176 #[.bool neg, .bool odd, .int .i64 left, .int .i64 mode] w fun e w' => e = .returned (.bool (awy neg odd left mode)) ∧ w = w' := by
  rcases (by omega : left = 0 ∨ left = 1 ∨ left = 2 ∨ left = 3) with rfl | rfl | rfl | rfl <;> rcases (by omega : mode = 0 ∨ mode = 1 ∨ mode = 2 ∨ mode = 3 ∨ mode = 4 ∨ mode = 5) with rfl | rfl | rfl | rfl | rfl | rfl <;> cases neg <;> cases odd <;>
    (go_enter Tryz.func176, Tryz.ntmps176) <;> go_wp2 <;> go_ret <;> first | exact ⟨rfl, rfl⟩ | exact ⟨rfl, trivial⟩ | exact ⟨trivial, trivial⟩ | trivial
theorem natv_dyad {w : World} {k T n : Nat} {a : Bool} {b x y z v : Value} (hb : IsS b) (hv : NatV w v n) (h : w.heap[k]? = some (.cells #[.bool a, b, .int .i64 0] T (0, 0))) :
    NatV (((w.setCell ⟨k, 0, none⟩ x).setCell ⟨k, 1, none⟩ y).setCell ⟨k, 2, none⟩ z) v n := by
  refine ⟨hv.isS, hv.len, fun i hi => ?_⟩
  have hne : sBlk v ≠ k := by
    intro he
    have ht := hv.cell (nl n - 1) (by omega)
    rw [he, cell_of_row w k _ _ _ _ h] at ht
    obtain ⟨b1, b2, b3, rfl⟩ := hb.form
    have hd : dig n (nl n - 1) ≠ 0 := dig_last (Nat.pos_of_ne_zero fun h0 => by rw [h0] at hi; rw [nl_zero] at hi; omega)
    rcases Nat.lt_or_ge (sOff v + (nl n - 1)) 3 with h3 | h3
    · rcases (by omega : sOff v + (nl n - 1) = 0 ∨ sOff v + (nl n - 1) = 1 ∨ sOff v + (nl n - 1) = 2) with e | e | e <;> rw [e] at ht <;> simp at ht
      exact hd (by omega)
    · rw [Array.getElem?_eq_none (by simpa using h3)] at ht; cases ht
  have hh : (((w.setCell ⟨k, 0, none⟩ x).setCell ⟨k, 1, none⟩ y).setCell ⟨k, 2, none⟩ z).heap[sBlk v]? = w.heap[sBlk v]? := by
    rw [heap_setCell_other _ _ _ _ (by simpa using hne), heap_setCell_other _ _ _ _ (by simpa using hne), heap_setCell_other _ _ _ _ (by simpa using hne)]
  exact (World.cell?_of_block hh).trans (hv.cell i hi)
theorem bl_two (x n : Nat) : bl (x * 2 ^ n) ≤ bl x + n := bl_le (by
  rw [Nat.pow_add]; exact Nat.mul_lt_mul_of_pos_right (lt_bl x) (Nat.two_pow_pos n))
theorem nl_of_bl {n k : Nat} (h : bl n ≤ k) : nl n ≤ k := nl_bl (by omega)
theorem wrap_i64_id {a : Int} (h1 : -9223372036854775808 ≤ a) (h2 : a ≤ 9223372036854775807) : IntKind.i64.wrap a = a := by rw [IntKind.wrap_i64]; omega
theorem row_new (w : World) (cs : Array Value) (T k : Nat) (hk : w.heap.size = k) : (w.alloc (.cells cs T)).heap[k]? = some (.cells cs T (0, 0)) := by
  subst hk; exact box_row (Below.refl _ _)
def ctU (m : Nat) (neg : Bool) (x k : Nat) : Bool := awy neg (decide (x / 2 ^ k % 2 = 1)) (lef (x % 2 ^ k) (2 ^ k) 0) m
def ctQ (m : Nat) (neg : Bool) (x k : Nat) : Nat := x / 2 ^ k + if ctU m neg x k then 1 else 0
def ctA (m : Nat) (neg : Bool) (x k : Nat) : Int := if lef (x % 2 ^ k) (2 ^ k) 0 = 0 then 0 else if ctU m neg x k != neg then 1 else -1
theorem lef_le (R D s : Nat) : lef R D s ≤ 3 := by unfold lef; repeat' split
                                                   all_goals omega
set_option maxRecDepth 100000 in
set_option maxHeartbeats 1600000 in
theorem spCut_pos (neg : Bool) (a : Value) (x k m : Nat) (w : World) (ha : NatV w a x) (hx : nl x ≤ 10000000) (hk0 : 0 < k) (hk : k ≤ 160000000) (hm : m ≤ 5) :
    Calls Tryz.prog 114 #[.bool neg, a, .int .i64 k, .int .i64 m] w fun e w' => ∃ r, e = .returned (.tuple #[r, .int .i64 (ctA m neg x k)]) ∧ NPost (ctQ m neg x k) w r w' := by
  have hSa := ha.isS
  have Hs := Lib.hid (spSplit a x k w ha (by omega) (by omega))
  have hq : nl (x / 2 ^ k) ≤ 100000000 := Nat.le_trans (nl_mono (Nat.div_le_self x _)) (by omega)
  have t0 : decide ((k : Int) ≤ 0) = false := decide_eq_false (by omega)
  have hl3 := lef_le (x % 2 ^ k) (2 ^ k) 0
  obtain ⟨U, hU⟩ : ∃ U, U = ctU m neg x k := ⟨_, rfl⟩
  obtain ⟨l, hl⟩ : ∃ l, l = lef (x % 2 ^ k) (2 ^ k) 0 := ⟨_, rfl⟩
  obtain ⟨q, hqq⟩ : ∃ q, q = x / 2 ^ k := ⟨_, rfl⟩
  have hU2 : U = awy neg (decide (q / 2 ^ 0 % 2 = 1)) l m := by rw [hU, hl, hqq, Nat.pow_zero, Nat.div_one]; rfl
  have HA : Hid (ctA m neg x k = if l = 0 then 0 else if U != neg then 1 else -1) := Lib.hid (by rw [hU, hl]; rfl)
  have HQ : Hid (ctQ m neg x k = q + if U then 1 else 0) := Lib.hid (by rw [hU, hqq]; rfl)
  rw [← hl, ← hqq] at Hs
  rw [← hl] at hl3
  rw [← hqq] at hq
  have HU := Lib.hid hU2
  have HL := Lib.hid hl
  have HUU := Lib.hid hU
  clear hU hU2 hl hqq ha
  go_enter Tryz.func114, Tryz.ntmps114
  go_wp2_with fail
  refine Hs.out.mono ?_
  rintro _ w1 ⟨r1, rfl, hn1, hb1⟩
  have hS1 := hn1.isS
  have HN := Lib.hid hn1
  have HB := Lib.hid hb1
  clear hn1 hb1
  by_cases hl0 : l = 0
  · have t1 : ((l : Int) == 0) = true := by rw [hl0]; rfl
    have HL0 := Lib.hid hl0
    clear hl0
    go_wp2
    go_ret2
    have hu : U = false := by rw [HU.out, HL0.out]; exact awy_zero _ _ _
    refine ⟨r1, ?_, ?_, HB.out⟩
    · rw [HA.out, if_pos HL0.out]; rfl
    · rw [HQ.out, hu]; exact HN.out
  · have t1 : ((l : Int) == 0) = false := by rw [beq_eq_false_iff_ne]; omega
    have HL0 := Lib.hid hl0
    clear hl0
    have hq2 : nl q ≤ 1000000000 := by omega
    have hH := spHas r1 q 0 w1 HN.out hq2 (by omega)
    rw [show ((0 : Nat) : Int) = 0 from rfl] at hH
    have HH := Lib.hid hH
    clear hH
    go_wp2_with fail
    refine HH.out.mono ?_
    rintro _ _ ⟨rfl, rfl⟩
    obtain ⟨od, hod⟩ : ∃ o, o = decide (q / 2 ^ 0 % 2 = 1) := ⟨_, rfl⟩
    have hU3 := HU.out
    rw [← hod] at hU3 ⊢
    have HU3 := Lib.hid hU3
    clear hod hU3
    go_wp2_with fail
    refine (spAway neg od l m w1 hl3 hm).mono ?_
    rintro _ _ ⟨rfl, rfl⟩
    rw [← HU3.out]
    cases U with
    | false =>
      cases neg with
      | false =>
        go_wp2
        go_ret2
        refine ⟨r1, ?_, ?_, HB.out⟩
        · rw [HA.out, if_neg HL0.out]; rfl
        · rw [HQ.out]; exact HN.out
      | true =>
        go_wp2
        go_ret2
        refine ⟨r1, ?_, ?_, HB.out⟩
        · rw [HA.out, if_neg HL0.out]; rfl
        · rw [HQ.out]; exact HN.out
    | true =>
      have hSm := spSmall 1 w1 (by decide)
      rw [show ((1 : Nat) : Int) = 1 from rfl] at hSm
      have HSm := Lib.hid hSm
      clear hSm
      go_wp2_with fail
      refine HSm.out.mono ?_
      rintro _ w2 ⟨r2, rfl, hn2, hb2⟩
      have hS2 := hn2.isS
      have HN2 := Lib.hid hn2
      have HN12 := Lib.hid (HN.out.below hb2)
      have HB2 := Lib.hid (bthen HB.out hb2)
      clear hn2 hb2
      go_wp2_with fail
      refine (spAdd r1 r2 q 1 w2 HN12.out HN2.out hq2 (by decide)).mono ?_
      rintro _ w3 ⟨r3, rfl, hn3, hb3⟩
      have hS3 := hn3.isS
      have HN3 := Lib.hid hn3
      have HB3 := Lib.hid (bthen HB2.out hb3)
      clear hn3 hb3
      cases neg with
      | false =>
        go_wp2
        go_ret2
        refine ⟨r3, ?_, ?_, HB3.out⟩
        · rw [HA.out, if_neg HL0.out]; rfl
        · rw [HQ.out]; exact HN3.out
      | true =>
        go_wp2
        go_ret2
        refine ⟨r3, ?_, ?_, HB3.out⟩
        · rw [HA.out, if_neg HL0.out]; rfl
        · rw [HQ.out]; exact HN3.out
set_option maxRecDepth 100000 in
theorem spCut_neg (neg : Bool) (a : Value) (x k : Nat) (n m : Int) (w : World) (ha : NatV w a x) (hx : nl x ≤ 10000000) (hn : n = -(k : Int)) (hk : k ≤ 160000000) :
    Calls Tryz.prog 114 #[.bool neg, a, .int .i64 n, .int .i64 m] w fun e w' => ∃ r, e = .returned (.tuple #[r, .int .i64 0]) ∧ NPost (x * 2 ^ k) w r w' := by
  have hSa := ha.isS
  have t0 : decide (n ≤ 0) = true := decide_eq_true (by omega)
  have e1 : -n = (k : Int) := by omega
  have g1 : -160000000 ≤ n := by omega
  have g2 : n ≤ 0 := by omega
  have HS := Lib.hid (spShl a x k w ha (by omega) (by omega))
  clear hn ha
  go_enter Tryz.func114, Tryz.ntmps114
  go_wp2_with fail
  refine HS.out.mono ?_
  rintro _ w1 ⟨r1, rfl, hn1, hb1⟩
  have hS1 := hn1.isS
  have HN := Lib.hid hn1
  have HB := Lib.hid hb1
  clear hn1 hb1
  go_wp2
  go_ret2
  exact ⟨r1, rfl, HN.out, HB.out⟩
theorem ctQ_zero (m : Nat) (neg : Bool) (x : Nat) : ctQ m neg x 0 = x ∧ ctA m neg x 0 = 0 := by
  have h : lef (x % 2 ^ 0) (2 ^ 0) 0 = 0 := by rw [Nat.pow_zero, Nat.mod_one]; exact lef_exact _
  refine ⟨?_, by unfold ctA; rw [if_pos h]⟩
  unfold ctQ ctU; rw [h, awy_zero]; simp
theorem spCut_any (neg : Bool) (a : Value) (x k m : Nat) (w : World) (ha : NatV w a x) (hx : nl x ≤ 10000000) (hk : k ≤ 160000000) (hm : m ≤ 5) :
    Calls Tryz.prog 114 #[.bool neg, a, .int .i64 k, .int .i64 m] w fun e w' => ∃ r, e = .returned (.tuple #[r, .int .i64 (ctA m neg x k)]) ∧ NPost (ctQ m neg x k) w r w' := by
  rcases Nat.eq_zero_or_pos k with rfl | h
  · rw [(ctQ_zero m neg x).1, (ctQ_zero m neg x).2]
    have := spCut_neg neg a x 0 ((0 : Nat) : Int) (m : Int) w ha hx rfl (by decide)
    rw [Nat.pow_zero, Nat.mul_one] at this
    exact this
  · exact spCut_pos neg a x k m w ha hx h hk hm
set_option maxRecDepth 100000 in
set_option maxHeartbeats 1600000 in
theorem spRound (neg : Bool) (a : Value) (e : Int) (x p m : Nat) (w : World) (ha : NatV w a x) (hx : bl x ≤ 10000000) (hp : p ≤ 100000000) (hm : m ≤ 5) (he1 : -4000000000 ≤ e) (he2 : e ≤ 4000000000) :
    Calls Tryz.prog 68 #[.agg #[.bool neg, a, .int .i64 e], .int .i64 p, .int .i64 m] w fun e' w' => ∃ r, e' = .returned (.tuple #[.agg #[.bool neg, r, .int .i64 (e + (rk p x : Nat))], .int .i64 (rA p m neg 0 x)]) ∧ NPost (rQ p m neg 0 x) w r w' := by
  have hSa := ha.isS
  have hnl : nl x ≤ 10000000 := nl_bl (by omega)
  have hab := (Below.refl w.heap.size w).alloc (Nat.le_refl _) (.cells #[.bool neg, a, .int .i64 e] 44)
  have hac := hab.alloc hab.size (.cells #[.bool false, .slice none 0 0, .int .i64 0] 44)
  obtain ⟨X, hX⟩ : ∃ X, X = (w.alloc (.cells #[.bool neg, a, .int .i64 e] 44)).alloc (.cells #[.bool false, .slice none 0 0, .int .i64 0] 44) := ⟨_, rfl⟩
  have hr1 : X.heap[w.heap.size]? = some (.cells #[.bool neg, a, .int .i64 e] 44 (0, 0)) := by
    rw [hX]; exact keep_row (fbone _) (box_row (Below.refl _ _))
  have hr2 : X.heap[w.heap.size + 1]? = some (.cells #[.bool false, .slice none 0 0, .int .i64 0] 44 (0, 0)) := by
    rw [hX]
    have := box_row (Below.refl _ ((w.alloc (.cells #[.bool neg, a, .int .i64 e] 44)).alloc (.cells #[.bool false, .slice none 0 0, .int .i64 0] 44)))
    simpa using this
  rw [← hX] at hac
  obtain ⟨x0, x1, x2, -, -, -⟩ := row3 hr1
  have HR1 := Lib.hid hr1
  have HR2 := Lib.hid hr2
  have HN := Lib.hid (ha.below hac)
  have HB := Lib.hid hac
  have hXs := hac.size
  obtain ⟨l, hl⟩ : ∃ l, l = bl x := ⟨_, rfl⟩
  obtain ⟨k, hk⟩ : ∃ k, k = rk p x := ⟨_, rfl⟩
  have emax : max (0 : Int) ((l : Int) - (p : Int)) = (k : Int) := by rw [hk, hl]; unfold rk; omega
  have hkl : k ≤ 10000000 := by rw [hk]; unfold rk; omega
  have hll : l ≤ 10000000 := by omega
  have HL := Lib.hid hl
  have HK := Lib.hid hk
  have hx9 : nl x ≤ 1000000000 := by omega
  rw [← hk]
  clear hr1 hr2 hab hac ha hl hk hx
  go_enter Tryz.func68, Tryz.ntmps68
  go_upto_region 1 with fail
  rw [← hX]
  clear hX
  go_wp2_with fail
  refine (spLen a x X HN.out hx9).mono ?_
  rintro _ _ ⟨rfl, rfl⟩
  rw [← HL.out]
  go_wp2_with fail
  refine (spCut_any neg a x k m X HN.out hnl (by omega) hm).mono ?_
  rintro _ w1 ⟨r1, rfl, hn1, hb1⟩
  have hS1 := hn1.isS
  have hr1 := keep_row hb1 HR1.out
  have hr2 := keep_row hb1 HR2.out
  have HN1 := Lib.hid hn1
  have HB1 := Lib.hid (HB.out.trans (hb1.mono hXs))
  have HQ2 := Lib.hid hr2
  obtain ⟨y0, y1, y2, -, -, -⟩ := row3 hr1
  obtain ⟨z0, z1, z2, g0, g1, g2⟩ := row3 hr2
  clear x0 x1 x2 hn1 hb1 hr1 hr2 HR1 HR2 HB
  obtain ⟨A, hA⟩ : ∃ A, A = ctA m neg x k := ⟨_, rfl⟩
  rw [← hA]
  have HA := Lib.hid hA
  clear hA
  obtain ⟨E, hE⟩ : ∃ E, E = e + (k : Int) := ⟨_, rfl⟩
  have HE := Lib.hid hE
  have hE2 : e + (k : Int) = E := hE.symm
  have hEb : -4000000000 ≤ E ∧ E ≤ 4010000000 := by omega
  clear hE
  go_wp2
  obtain ⟨hx0, hx1, hx2, -, -, -⟩ := row3 (row3_set (x := .bool neg) (y := r1) (z := .int .i64 E) HQ2.out)
  have hn := natv_dyad (x := .bool neg) (y := r1) (z := .int .i64 E) IsS.nil HN1.out HQ2.out
  have hbY := bset (i := 2) (u := .int .i64 E) (bset (i := 1) (u := r1) (bset (i := 0) (u := .bool neg) HB1.out (Nat.le_succ _)) (Nat.le_succ _)) (Nat.le_succ _)
  refine bodyPost_ret (v := .tuple #[.agg #[.bool neg, r1, .int .i64 E], .int .i64 A]) ?_ rfl ⟨r1, ?_, ?_⟩
  · simp [results, Tryz.results68, go_sem, hx0, hx1, hx2]
  · rw [HA.out, HE.out, HK.out]; rfl
  · rw [HK.out] at hn
    exact ⟨hn, hbY⟩
def Told (w : World) (z : Value) (p m : Nat) (n : Bool) (x : Nat) (e : Int) : Prop :=
  ∃ (f : Nat) (ng : Bool) (v : Value) (E : Int) (zs : List Nat), z = .agg #[.int .u64 p, .int .i64 m, .int .i64 f, .bool ng, v, .int .i64 E] ∧ RW w v zs ∧
    (x = 0 → f = 0 ∧ zs = [] ∧ E = 0) ∧ (x ≠ 0 → f = 1 ∧ ng = n ∧ zs = wds (od x) ∧ E = e + (tz x : Nat))
theorem ks18 {W X : World} {k l : Nat} {a b c d e f a' b' c' : Value} {T T' : TypeId} (hr : W.heap[k]? = some (.cells #[a, b, c, d, e, f] T (0, 0))) (hq : W.heap[l]? = some (.cells #[a', b', c'] T' (0, 0))) (h : Below W.heap.size W X) :
    (X.cell? ⟨k, 0, none⟩ = some a ∧ X.cell? ⟨k, 1, none⟩ = some b ∧ X.cell? ⟨k, 2, none⟩ = some c ∧ X.cell? ⟨k, 3, none⟩ = some d ∧ X.cell? ⟨k, 4, none⟩ = some e ∧ X.cell? ⟨k, 5, none⟩ = some f) ∧
    X.cell? ⟨l, 0, none⟩ = some a' ∧ X.cell? ⟨l, 1, none⟩ = some b' ∧ X.cell? ⟨l, 2, none⟩ = some c' :=
  ⟨(ks12 hr h).2, (row_at (keep_row h hq) rfl).1, (row_at (keep_row h hq) rfl).1, (row_at (keep_row h hq) rfl).1⟩
set_option maxRecDepth 100000 in
set_option maxHeartbeats 1600000 in
theorem spIsReal (z : Value) (p m : Nat) (n : Bool) (a : Value) (x : Nat) (e : Int) (w : World) (hz : Told w z p m n x e) (ha : NatV w a x) (hx : bl x ≤ 10000000) (he1 : -4100000000 ≤ e) (he2 : e ≤ 4100000000) :
    Calls Tryz.prog 51 #[z, .int .u64 p, .int .i64 m, .agg #[.bool n, a, .int .i64 e]] w fun e' w' => e' = .returned (.bool true) ∧ Below w.heap.size w w' := by
  obtain ⟨f, ng, v, E, zs, rfl, hv, h0, h1⟩ := hz
  have hSv := hv.isS
  have hSa := ha.isS
  have hLv := hv.len
  have hLa := ha.len
  have hnl : nl x ≤ 10000000 := nl_bl (by omega)
  have hab := (Below.refl w.heap.size w).alloc (Nat.le_refl _) (.cells #[.int .u64 p, .int .i64 m, .int .i64 f, .bool ng, v, .int .i64 E] 39)
  have hac := hab.alloc hab.size (.cells #[.bool n, a, .int .i64 e] 44)
  obtain ⟨X, hX⟩ : ∃ X, X = (w.alloc (.cells #[.int .u64 p, .int .i64 m, .int .i64 f, .bool ng, v, .int .i64 E] 39)).alloc (.cells #[.bool n, a, .int .i64 e] 44) := ⟨_, rfl⟩
  have hr1 : X.heap[w.heap.size]? = some (.cells #[.int .u64 p, .int .i64 m, .int .i64 f, .bool ng, v, .int .i64 E] 39 (0, 0)) := by
    rw [hX]; exact keep_row (fbone _) (box_row (Below.refl _ _))
  have hr2 : X.heap[w.heap.size + 1]? = some (.cells #[.bool n, a, .int .i64 e] 44 (0, 0)) := by
    rw [hX]
    have := box_row (Below.refl _ ((w.alloc (.cells #[.int .u64 p, .int .i64 m, .int .i64 f, .bool ng, v, .int .i64 E] 39)).alloc (.cells #[.bool n, a, .int .i64 e] 44)))
    simpa using this
  rw [← hX] at hac
  obtain ⟨⟨x0, x1, x2, x3, x4, x5⟩, y0, y1, y2⟩ := ks18 hr1 hr2 (Below.refl _ _)
  have HR1 := Lib.hid hr1
  have HR2 := Lib.hid hr2
  have HV := Lib.hid (hv.below hac)
  have HA := Lib.hid (ha.below hac)
  have HB := Lib.hid hac
  have hXs := hac.size
  clear hr1 hr2 hab hac hv ha
  by_cases hx0 : x = 0
  · obtain ⟨hf, hzs, hE⟩ := h0 hx0
    have hl0 : nl x = 0 := by rw [hx0]; rfl
    rw [hl0] at hLa
    have q1 : ((f : Int) == 0) = true := by rw [hf]; rfl
    have q2 : (E == 0) = true := by rw [hE]; rfl
    rw [hzs] at hLv
    have hLv' : sLen v = 0 := hLv
    clear h0 h1 hx0 hl0 hx hnl hf hzs hE hLv
    go_enter Tryz.func51, Tryz.ntmps51
    go_upto_region 1 with fail
    rw [← hX]
    clear hX
    go_wp2
    go_ret
    exact ⟨rfl, HB.out⟩
  · obtain ⟨hf, rfl, hzs, hE⟩ := h1 hx0
    have q1 : ((f : Int) == 1) = true := by rw [hf]; rfl
    have hxp : 0 < x := by omega
    have hnp := nl_pos hxp
    have t0 : ((nl x : Int) == 0) = false := by rw [beq_eq_false_iff_ne]; omega
    have htl := tz_le hxp
    obtain ⟨t, ht⟩ : ∃ t, t = tz x := ⟨_, rfl⟩
    obtain ⟨L, hL⟩ : ∃ L, L = nl x := ⟨_, rfl⟩
    have HT := Lib.hid ht
    rw [← ht] at hE htl
    have htb : t ≤ 10000000 := by omega
    have hE2 : e + (t : Int) = E := hE.symm
    have HZ := Lib.hid hzs
    rw [← hL] at hLa hnl hnp t0
    have HLN := Lib.hid hL
    have hod : nl (od x) ≤ 100000000 := by
      have : od x ≤ x := by rw [od]; exact Nat.div_le_self _ _
      have := nl_mono this; omega
    have HOW : Hid (nw (od x) ≤ 100000000) := Lib.hid (by rw [nw_bl (od_pos hxp)]; have := bl_od hxp; omega)
    clear h0 h1 hx0 hE ht hL hzs hf
    go_enter Tryz.func51, Tryz.ntmps51
    go_upto_region 1 with fail
    rw [← hX]
    clear hX
    go_wp2_with fail
    refine (spOdd a x X HA.out (by rw [← HLN.out]; omega) hxp).mono ?_
    rintro _ w1 ⟨r1, rfl, hn1, hb1⟩
    rw [← HT.out]
    have hS1 := hn1.isS
    have HN1 := Lib.hid hn1
    have HB1 := Lib.hid (HB.out.trans (hb1.mono hXs))
    have HV1 := Lib.hid (HV.out.below hb1)
    clear x0 x1 x2 x3 x4 x5 y0 y1 y2
    obtain ⟨⟨x0, x1, x2, x3, x4, x5⟩, y0, y1, y2⟩ := ks18 HR1.out HR2.out hb1
    have hKeep := Lib.hid hb1
    clear hn1 hb1
    go_wp2_with fail
    refine (spHasWords v r1 zs (od x) w1 HV1.out HN1.out (by rw [HZ.out, wds_length]; have := HOW.out; omega) (by omega)).mono ?_
    rintro _ w2 ⟨rfl, hb2⟩
    rw [show decide (zs = wds (od x)) = true from decide_eq_true HZ.out]
    have HB2 := Lib.hid (HB1.out.trans (hb2.mono (Nat.le_trans hXs hKeep.out.size)))
    clear x0 x1 x2 x3 x4 x5 y0 y1 y2
    obtain ⟨⟨x0, x1, x2, x3, x4, x5⟩, y0, y1, y2⟩ := ks18 HR1.out HR2.out (bthen hKeep.out hb2)
    clear hb2
    go_wp2
    go_ret
    exact ⟨rfl, HB2.out⟩
end Go.Proofs.YtdepidpgbgfjlaaGreatDoor
