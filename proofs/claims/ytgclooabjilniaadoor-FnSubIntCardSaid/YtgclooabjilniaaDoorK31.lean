/-
Texts of this proof, joined: AdD IfH. No condition.
-/
import Derived.Test.YtgclooabjilniaaDoorK29
import Derived.Test.YtgclooabjilniaaDoorK30
/-
Floats: Sub of a new receiver and any operands that are not infinite. No condition.
-/
namespace Go.Proofs.YtgclooabjilniaaDoor
open Go.RowKit

set_option maxRecDepth 100000 in
set_option maxHeartbeats 3200000 in
theorem subF_zz (b B B1 B2 g1 g2 p0 m p1 m1 p2 m2 f0 M N : Nat) (a0 e0 E F : Int) (nz n1 n2 : Bool) (w : World) (h : FltR w b p0 m a0 f0 nz (.slice none 0 0) e0) (hB : B ≤ b) (h1 : FloatAt w B1 g1 p1 m1 0 n1 M E) (h2 : FloatAt w B2 g2 p2 m2 0 n2 N F)
    (hb1 : b ≠ g1) (hb2 : b ≠ g2) (hp0 : p0 ≤ 64000000) (hp11 : 0 < p1) (hp1' : p1 ≤ 64000000) (hp22 : 0 < p2) (hp2' : p2 ≤ 64000000) (_hm : m ≤ 5) :
    Calls Tryd.prog 26 #[.pointer (some ⟨b, 0, none⟩), .pointer (some ⟨g1, 0, none⟩), .pointer (some ⟨g2, 0, none⟩)] w fun e' w' => e' = .returned (.pointer (some ⟨b, 0, none⟩)) ∧
      FltR w' b (pOf p0 (max p1 p2)) m 0 0 (n1 && !n2) (.slice none 0 0) e0 ∧ Below B w w' := by
  obtain ⟨q, hq⟩ : ∃ q, q = pOf p0 (max p1 p2) := ⟨_, rfl⟩
  have hq0 : 0 < q := by rw [hq]; unfold pOf; split <;> omega
  have hqb : q ≤ 64000000 := by rw [hq]; unfold pOf; split <;> omega
  rw [← hq]
  have hne1 : ¬ b = g1 := hb1
  have hne1' : ¬ g1 = b := fun h => hne1 h.symm
  have hne2 : ¬ b = g2 := hb2
  have hne2' : ¬ g2 = b := fun h => hne2 h.symm
  obtain ⟨r1, x1, hg1⟩ := h1.row
  obtain ⟨r2, x2, hg2⟩ := h2.row
  obtain ⟨c0, c1, c2, c3, c4, c5, c6⟩ := h.cells
  obtain ⟨f0', f1', f2', f3', f4', f5', f6'⟩ := h.free
  obtain ⟨y0, y1, y2, y3', y4, y5, y6⟩ := hg1.cells
  obtain ⟨z0, z1, z2, z3', z4, z5, z6⟩ := hg2.cells
  have y3 : w.cell? ⟨g1, 3, none⟩ = some (.int .u8 0) := y3'
  have z3 : w.cell? ⟨g2, 3, none⟩ = some (.int .u8 0) := z3'
  have HG1 := Lib.hid hg1
  have HG2 := Lib.hid hg2
  have HH := Lib.hid h
  have HX := Lib.hid h1
  have HY := Lib.hid h2
  clear h h1 h2 hg1 hg2 y3' z3' c1 c2 c5 c6
  by_cases hz : p0 = 0
  · have t0 : ((p0 : Int) == 0) = true := by rw [hz]; rfl
    have em : max (p1 : Int) (p2 : Int) = (q : Int) := by rw [hq]; unfold pOf; rw [if_pos hz]; omega
    clear hq hz
    go_enter Tryd.func26, Tryd.ntmps26
    go_wp2_with fail
    (refine wp_region_hoist 12 (by kernel_rfl) (by kernel_rfl) ⟨fun _ _ _ h => (by first | exact (hQp _ _ _ h).elim | cases h.2.1 | (obtain ⟨_, h3, _⟩ := h.2; cases h3)), fun _ _ h => (by first | exact (hQo _ _ h).elim | cases h.1 | (obtain ⟨_, h3, _⟩ := h; cases h3))⟩ ?_; simp only [List.take_succ_cons, List.take_zero, List.drop_succ_cons, List.drop_zero]; (repeat (go_big_quiet_step (fail))); refine wpQuiet_nil ?_; rintro _ ⟨nq, rfl⟩)
    generalize nq = na
    go_wp2_with fail
    go_quiet (fail)
    obtain ⟨W, hW⟩ : ∃ W, W = (((w.drewN na).setCell ⟨b, 0, none⟩ (.int .u32 (q : Int))).drewN nq) := ⟨_, rfl⟩
    rw [← hW]
    have hWh : FltR W b q m a0 f0 nz (.slice none 0 0) e0 := by rw [hW]; exact ((HH.out.drewN na).s0 q).drewN nq
    have hWB : Below B w W := by rw [hW]; exact undrewN' (bset (i := 0) (u := .int .u32 (q : Int)) (undrewN' (Below.refl B w)) hB)
    have hW1 : FltR W g1 p1 m1 0 0 n1 r1 x1 := by rw [hW]; exact ((heap_setCell_other _ _ _ _ (by simpa using hb1.symm)).trans HG1.out)
    have hW2 : FltR W g2 p2 m2 0 0 n2 r2 x2 := by rw [hW]; exact ((heap_setCell_other _ _ _ _ (by simpa using hb2.symm)).trans HG2.out)
    clear hW c0 c3 c4 f0' f1' f2' f3' f4' f5' f6' y0 y1 y2 y3 y4 y5 y6 z0 z1 z2 z3 z4 z5 z6
    obtain ⟨c0, c1, c2, c3, c4, c5, c6⟩ := hWh.cells
    obtain ⟨f0', f1', f2', f3', f4', f5', f6'⟩ := hWh.free
    obtain ⟨y0, y1, y2, y3', y4, y5, y6⟩ := hW1.cells
    obtain ⟨z0, z1, z2, z3', z4, z5, z6⟩ := hW2.cells
    have y3 : W.cell? ⟨g1, 3, none⟩ = some (.int .u8 0) := y3'
    have z3 : W.cell? ⟨g2, 3, none⟩ = some (.int .u8 0) := z3'
    have HWH := Lib.hid hWh
    have HWB := Lib.hid hWB
    clear y3' z3' hWh hWB hW1 hW2
    cases n1 <;> cases n2
    · have R := Lib.hid (((HWH.out.s2 0).s3 0).s4 false)
      have BB := Lib.hid (bset (i := 4) (u := .bool false) (bset (i := 3) (u := .int .u8 (0 : Int)) (bset (i := 2) (u := .int .i8 0) HWB.out hB) hB) hB)
      go_wp2
      go_ret
      exact ⟨rfl, R.out, BB.out⟩
    · have R := Lib.hid (((HWH.out.s2 0).s3 0).s4 false)
      have BB := Lib.hid (bset (i := 4) (u := .bool false) (bset (i := 3) (u := .int .u8 (0 : Int)) (bset (i := 2) (u := .int .i8 0) HWB.out hB) hB) hB)
      go_wp2
      go_ret
      exact ⟨rfl, R.out, BB.out⟩
    · have R := Lib.hid (((HWH.out.s2 0).s3 0).s4 true)
      have BB := Lib.hid (bset (i := 4) (u := .bool true) (bset (i := 3) (u := .int .u8 (0 : Int)) (bset (i := 2) (u := .int .i8 0) HWB.out hB) hB) hB)
      go_wp2
      go_ret
      exact ⟨rfl, R.out, BB.out⟩
    · have R := Lib.hid (((HWH.out.s2 0).s3 0).s4 false)
      have BB := Lib.hid (bset (i := 4) (u := .bool false) (bset (i := 3) (u := .int .u8 (0 : Int)) (bset (i := 2) (u := .int .i8 0) HWB.out hB) hB) hB)
      go_wp2
      go_ret
      exact ⟨rfl, R.out, BB.out⟩
  · have t0 : ((p0 : Int) == 0) = false := by rw [beq_eq_false_iff_ne]; omega
    have hqq : q = p0 := by rw [hq]; unfold pOf; rw [if_neg hz]
    have hz' : ¬ q = 0 := by omega
    clear hq hz
    subst hqq
    go_enter Tryd.func26, Tryd.ntmps26
    go_wp2_with fail
    go_quiet (fail)
    obtain ⟨W, hW⟩ : ∃ W, W = (w.drewN nq) := ⟨_, rfl⟩
    rw [← hW]
    have hWh : FltR W b q m a0 f0 nz (.slice none 0 0) e0 := by rw [hW]; exact HH.out.drewN nq
    have hWB : Below B w W := by rw [hW]; exact undrewN' (Below.refl B w)
    have hW1 : FltR W g1 p1 m1 0 0 n1 r1 x1 := by rw [hW]; exact HG1.out
    have hW2 : FltR W g2 p2 m2 0 0 n2 r2 x2 := by rw [hW]; exact HG2.out
    clear hW c0 c3 c4 f0' f1' f2' f3' f4' f5' f6' y0 y1 y2 y3 y4 y5 y6 z0 z1 z2 z3 z4 z5 z6
    obtain ⟨c0, c1, c2, c3, c4, c5, c6⟩ := hWh.cells
    obtain ⟨f0', f1', f2', f3', f4', f5', f6'⟩ := hWh.free
    obtain ⟨y0, y1, y2, y3', y4, y5, y6⟩ := hW1.cells
    obtain ⟨z0, z1, z2, z3', z4, z5, z6⟩ := hW2.cells
    have y3 : W.cell? ⟨g1, 3, none⟩ = some (.int .u8 0) := y3'
    have z3 : W.cell? ⟨g2, 3, none⟩ = some (.int .u8 0) := z3'
    have HWH := Lib.hid hWh
    have HWB := Lib.hid hWB
    clear y3' z3' hWh hWB hW1 hW2
    cases n1 <;> cases n2
    · have R := Lib.hid (((HWH.out.s2 0).s3 0).s4 false)
      have BB := Lib.hid (bset (i := 4) (u := .bool false) (bset (i := 3) (u := .int .u8 (0 : Int)) (bset (i := 2) (u := .int .i8 0) HWB.out hB) hB) hB)
      go_wp2
      go_ret
      exact ⟨rfl, R.out, BB.out⟩
    · have R := Lib.hid (((HWH.out.s2 0).s3 0).s4 false)
      have BB := Lib.hid (bset (i := 4) (u := .bool false) (bset (i := 3) (u := .int .u8 (0 : Int)) (bset (i := 2) (u := .int .i8 0) HWB.out hB) hB) hB)
      go_wp2
      go_ret
      exact ⟨rfl, R.out, BB.out⟩
    · have R := Lib.hid (((HWH.out.s2 0).s3 0).s4 true)
      have BB := Lib.hid (bset (i := 4) (u := .bool true) (bset (i := 3) (u := .int .u8 (0 : Int)) (bset (i := 2) (u := .int .i8 0) HWB.out hB) hB) hB)
      go_wp2
      go_ret
      exact ⟨rfl, R.out, BB.out⟩
    · have R := Lib.hid (((HWH.out.s2 0).s3 0).s4 false)
      have BB := Lib.hid (bset (i := 4) (u := .bool false) (bset (i := 3) (u := .int .u8 (0 : Int)) (bset (i := 2) (u := .int .i8 0) HWB.out hB) hB) hB)
      go_wp2
      go_ret
      exact ⟨rfl, R.out, BB.out⟩
set_option maxRecDepth 100000 in
set_option maxHeartbeats 3200000 in
theorem subF_fz (b B B1 B2 g1 g2 p0 m p1 m1 p2 m2 f0 M N : Nat) (a0 e0 E F : Int) (nz n1 n2 : Bool) (w : World) (h : FltR w b p0 m a0 f0 nz (.slice none 0 0) e0) (hB : B ≤ b) (h1 : FloatAt w B1 g1 p1 m1 1 n1 M E) (h2 : FloatAt w B2 g2 p2 m2 0 n2 N F)
    (hM : 0 < M) (hp1 : bl M ≤ p1) (hbM : bl M ≤ 10000) (hE : -5000000 ≤ E ∧ E ≤ 5000000) (hb1 : b ≠ g1) (hb2 : b ≠ g2) (hp0 : p0 ≤ 64000000) (hp11 : 0 < p1) (hp1' : p1 ≤ 64000000) (hp22 : 0 < p2) (hp2' : p2 ≤ 64000000) (hm : m ≤ 5) :
    Calls Tryd.prog 26 #[.pointer (some ⟨b, 0, none⟩), .pointer (some ⟨g1, 0, none⟩), .pointer (some ⟨g2, 0, none⟩)] w fun e' w' => e' = .returned (.pointer (some ⟨b, 0, none⟩)) ∧
      FVal w' B b (pOf p0 (max p1 p2)) m (rA (pOf p0 (max p1 p2)) m n1 0 M) 1 n1 (rQ (pOf p0 (max p1 p2)) m n1 0 M) (E + rk (pOf p0 (max p1 p2)) M) ∧ Below B w w' := by
  obtain ⟨q, hq⟩ : ∃ q, q = pOf p0 (max p1 p2) := ⟨_, rfl⟩
  have hq0 : 0 < q := by rw [hq]; unfold pOf; split <;> omega
  have hqb : q ≤ 64000000 := by rw [hq]; unfold pOf; split <;> omega
  rw [← hq]
  have hpq : pOf q p1 = q := by unfold pOf; rw [if_neg (by omega)]
  have HS := Lib.hid (fun (W : World) (k1 : FltR W b q m a0 f0 nz (.slice none 0 0) e0) (k2 : FloatAt W B1 g1 p1 m1 1 n1 M E) => setF_val b B g1 B1 q m f0 p1 m1 1 a0 e0 0 nz n1 M E W k1 hB (k2.val (fun _ => ⟨hM, hp1, by have := nw_bl hM; omega⟩)) hb1 (by decide) hp11 hp1' hqb hm (fun _ => by omega))
  rw [hpq, show stA 1 q m n1 M = rA q m n1 0 M from if_pos rfl] at HS
  clear hpq
  have hne1 : ¬ b = g1 := hb1
  have hne1' : ¬ g1 = b := fun h => hne1 h.symm
  have hne2 : ¬ b = g2 := hb2
  have hne2' : ¬ g2 = b := fun h => hne2 h.symm
  obtain ⟨r1, x1, hg1⟩ := h1.row
  obtain ⟨r2, x2, hg2⟩ := h2.row
  obtain ⟨c0, c1, c2, c3, c4, c5, c6⟩ := h.cells
  obtain ⟨f0', f1', f2', f3', f4', f5', f6'⟩ := h.free
  obtain ⟨y0, y1, y2, y3', y4, y5, y6⟩ := hg1.cells
  obtain ⟨z0, z1, z2, z3', z4, z5, z6⟩ := hg2.cells
  have y3 : w.cell? ⟨g1, 3, none⟩ = some (.int .u8 1) := y3'
  have z3 : w.cell? ⟨g2, 3, none⟩ = some (.int .u8 0) := z3'
  have HG1 := Lib.hid hg1
  have HG2 := Lib.hid hg2
  have HH := Lib.hid h
  have HX := Lib.hid h1
  have HY := Lib.hid h2
  clear h h1 h2 hg1 hg2 y3' z3' c1 c2 c5 c6 hM hp1 hbM hE
  by_cases hz : p0 = 0
  · have t0 : ((p0 : Int) == 0) = true := by rw [hz]; rfl
    have em : max (p1 : Int) (p2 : Int) = (q : Int) := by rw [hq]; unfold pOf; rw [if_pos hz]; omega
    clear hq hz
    go_enter Tryd.func26, Tryd.ntmps26
    go_wp2_with fail
    (refine wp_region_hoist 12 (by kernel_rfl) (by kernel_rfl) ⟨fun _ _ _ h => (by first | exact (hQp _ _ _ h).elim | cases h.2.1 | (obtain ⟨_, h3, _⟩ := h.2; cases h3)), fun _ _ h => (by first | exact (hQo _ _ h).elim | cases h.1 | (obtain ⟨_, h3, _⟩ := h; cases h3))⟩ ?_; simp only [List.take_succ_cons, List.take_zero, List.drop_succ_cons, List.drop_zero]; (repeat (go_big_quiet_step (fail))); refine wpQuiet_nil ?_; rintro _ ⟨nq, rfl⟩)
    generalize nq = na
    go_wp2_with fail
    go_quiet (fail)
    obtain ⟨W, hW⟩ : ∃ W, W = (((w.drewN na).setCell ⟨b, 0, none⟩ (.int .u32 (q : Int))).drewN nq) := ⟨_, rfl⟩
    rw [← hW]
    have hWh : FltR W b q m a0 f0 nz (.slice none 0 0) e0 := by rw [hW]; exact ((HH.out.drewN na).s0 q).drewN nq
    have hWB : Below B w W := by rw [hW]; exact undrewN' (bset (i := 0) (u := .int .u32 (q : Int)) (undrewN' (Below.refl B w)) hB)
    have hW1 : FltR W g1 p1 m1 0 1 n1 r1 x1 := by rw [hW]; exact ((heap_setCell_other _ _ _ _ (by simpa using hb1.symm)).trans HG1.out)
    have hW2 : FltR W g2 p2 m2 0 0 n2 r2 x2 := by rw [hW]; exact ((heap_setCell_other _ _ _ _ (by simpa using hb2.symm)).trans HG2.out)
    have HWA := Lib.hid (by rw [hW]; exact ((HH.out.drewN na).at 0 (.int .u32 (q : Int)) hb1 (HX.out.drewN na)).drewN nq : FloatAt W B1 g1 p1 m1 1 n1 M E)
    clear hW c0 c3 c4 f0' f1' f2' f3' f4' f5' f6' y0 y1 y2 y3 y4 y5 y6 z0 z1 z2 z3 z4 z5 z6
    obtain ⟨c0, c1, c2, c3, c4, c5, c6⟩ := hWh.cells
    obtain ⟨f0', f1', f2', f3', f4', f5', f6'⟩ := hWh.free
    obtain ⟨y0, y1, y2, y3', y4, y5, y6⟩ := hW1.cells
    obtain ⟨z0, z1, z2, z3', z4, z5, z6⟩ := hW2.cells
    have y3 : W.cell? ⟨g1, 3, none⟩ = some (.int .u8 1) := y3'
    have z3 : W.cell? ⟨g2, 3, none⟩ = some (.int .u8 0) := z3'
    have HWH := Lib.hid hWh
    have HWB := Lib.hid hWB
    clear y3' z3' hWh hWB hW1 hW2
    go_wp2_with fail
    refine (HS.out _ HWH.out HWA.out).mono ?_
    rintro _ w5 ⟨rfl, hv, hb5⟩
    have HV := Lib.hid hv
    have HB5 := Lib.hid (HWB.out.trans hb5)
    clear hv hb5
    go_wp2
    go_ret
    exact ⟨rfl, HV.out, HB5.out⟩
  · have t0 : ((p0 : Int) == 0) = false := by rw [beq_eq_false_iff_ne]; omega
    have hqq : q = p0 := by rw [hq]; unfold pOf; rw [if_neg hz]
    have hz' : ¬ q = 0 := by omega
    clear hq hz
    subst hqq
    go_enter Tryd.func26, Tryd.ntmps26
    go_wp2_with fail
    go_quiet (fail)
    obtain ⟨W, hW⟩ : ∃ W, W = (w.drewN nq) := ⟨_, rfl⟩
    rw [← hW]
    have hWh : FltR W b q m a0 f0 nz (.slice none 0 0) e0 := by rw [hW]; exact HH.out.drewN nq
    have hWB : Below B w W := by rw [hW]; exact undrewN' (Below.refl B w)
    have hW1 : FltR W g1 p1 m1 0 1 n1 r1 x1 := by rw [hW]; exact HG1.out
    have hW2 : FltR W g2 p2 m2 0 0 n2 r2 x2 := by rw [hW]; exact HG2.out
    have HWA := Lib.hid (by rw [hW]; exact HX.out.drewN nq : FloatAt W B1 g1 p1 m1 1 n1 M E)
    clear hW c0 c3 c4 f0' f1' f2' f3' f4' f5' f6' y0 y1 y2 y3 y4 y5 y6 z0 z1 z2 z3 z4 z5 z6
    obtain ⟨c0, c1, c2, c3, c4, c5, c6⟩ := hWh.cells
    obtain ⟨f0', f1', f2', f3', f4', f5', f6'⟩ := hWh.free
    obtain ⟨y0, y1, y2, y3', y4, y5, y6⟩ := hW1.cells
    obtain ⟨z0, z1, z2, z3', z4, z5, z6⟩ := hW2.cells
    have y3 : W.cell? ⟨g1, 3, none⟩ = some (.int .u8 1) := y3'
    have z3 : W.cell? ⟨g2, 3, none⟩ = some (.int .u8 0) := z3'
    have HWH := Lib.hid hWh
    have HWB := Lib.hid hWB
    clear y3' z3' hWh hWB hW1 hW2
    go_wp2_with fail
    refine (HS.out _ HWH.out HWA.out).mono ?_
    rintro _ w5 ⟨rfl, hv, hb5⟩
    have HV := Lib.hid hv
    have HB5 := Lib.hid (HWB.out.trans hb5)
    clear hv hb5
    go_wp2
    go_ret
    exact ⟨rfl, HV.out, HB5.out⟩
set_option maxRecDepth 100000 in
set_option maxHeartbeats 3200000 in
theorem subF_zf (b B B1 B2 g1 g2 p0 m p1 m1 p2 m2 f0 M N : Nat) (a0 e0 E F : Int) (nz n1 n2 : Bool) (w : World) (h : FltR w b p0 m a0 f0 nz (.slice none 0 0) e0) (hB : B ≤ b) (h1 : FloatAt w B1 g1 p1 m1 0 n1 M E) (h2 : FloatAt w B2 g2 p2 m2 1 n2 N F)
    (hN : 0 < N) (hp2 : bl N ≤ p2) (hbN : bl N ≤ 10000) (hF : -5000000 ≤ F ∧ F ≤ 5000000) (hb1 : b ≠ g1) (hb2 : b ≠ g2) (hp0 : p0 ≤ 64000000) (hp11 : 0 < p1) (hp1' : p1 ≤ 64000000) (hp22 : 0 < p2) (hp2' : p2 ≤ 64000000) (hm : m ≤ 5) :
    Calls Tryd.prog 26 #[.pointer (some ⟨b, 0, none⟩), .pointer (some ⟨g1, 0, none⟩), .pointer (some ⟨g2, 0, none⟩)] w fun e' w' => e' = .returned (.pointer (some ⟨b, 0, none⟩)) ∧
      FVal w' B b (pOf p0 (max p1 p2)) m (rA (pOf p0 (max p1 p2)) m n2 0 N) 1 (!n2) (rQ (pOf p0 (max p1 p2)) m n2 0 N) (F + rk (pOf p0 (max p1 p2)) N) ∧ Below B w w' := by
  obtain ⟨q, hq⟩ : ∃ q, q = pOf p0 (max p1 p2) := ⟨_, rfl⟩
  have hq0 : 0 < q := by rw [hq]; unfold pOf; split <;> omega
  have hqb : q ≤ 64000000 := by rw [hq]; unfold pOf; split <;> omega
  rw [← hq]
  have hpq : pOf q p2 = q := by unfold pOf; rw [if_neg (by omega)]
  have HS := Lib.hid (fun (W : World) (k1 : FltR W b q m a0 f0 nz (.slice none 0 0) e0) (k2 : FloatAt W B2 g2 p2 m2 1 n2 N F) => negF_val b B g2 B2 q m f0 p2 m2 1 a0 e0 0 nz n2 N F W k1 hB (k2.val (fun _ => ⟨hN, hp2, by have := nw_bl hN; omega⟩)) hb2 (by decide) hp22 hp2' hqb hm (fun _ => by omega))
  rw [hpq, show stA 1 q m n2 N = rA q m n2 0 N from if_pos rfl] at HS
  clear hpq
  have hne1 : ¬ b = g1 := hb1
  have hne1' : ¬ g1 = b := fun h => hne1 h.symm
  have hne2 : ¬ b = g2 := hb2
  have hne2' : ¬ g2 = b := fun h => hne2 h.symm
  obtain ⟨r1, x1, hg1⟩ := h1.row
  obtain ⟨r2, x2, hg2⟩ := h2.row
  obtain ⟨c0, c1, c2, c3, c4, c5, c6⟩ := h.cells
  obtain ⟨f0', f1', f2', f3', f4', f5', f6'⟩ := h.free
  obtain ⟨y0, y1, y2, y3', y4, y5, y6⟩ := hg1.cells
  obtain ⟨z0, z1, z2, z3', z4, z5, z6⟩ := hg2.cells
  have y3 : w.cell? ⟨g1, 3, none⟩ = some (.int .u8 0) := y3'
  have z3 : w.cell? ⟨g2, 3, none⟩ = some (.int .u8 1) := z3'
  have HG1 := Lib.hid hg1
  have HG2 := Lib.hid hg2
  have HH := Lib.hid h
  have HX := Lib.hid h1
  have HY := Lib.hid h2
  clear h h1 h2 hg1 hg2 y3' z3' c1 c2 c5 c6 hN hp2 hbN hF
  by_cases hz : p0 = 0
  · have t0 : ((p0 : Int) == 0) = true := by rw [hz]; rfl
    have em : max (p1 : Int) (p2 : Int) = (q : Int) := by rw [hq]; unfold pOf; rw [if_pos hz]; omega
    clear hq hz
    go_enter Tryd.func26, Tryd.ntmps26
    go_wp2_with fail
    (refine wp_region_hoist 12 (by kernel_rfl) (by kernel_rfl) ⟨fun _ _ _ h => (by first | exact (hQp _ _ _ h).elim | cases h.2.1 | (obtain ⟨_, h3, _⟩ := h.2; cases h3)), fun _ _ h => (by first | exact (hQo _ _ h).elim | cases h.1 | (obtain ⟨_, h3, _⟩ := h; cases h3))⟩ ?_; simp only [List.take_succ_cons, List.take_zero, List.drop_succ_cons, List.drop_zero]; (repeat (go_big_quiet_step (fail))); refine wpQuiet_nil ?_; rintro _ ⟨nq, rfl⟩)
    generalize nq = na
    go_wp2_with fail
    go_quiet (fail)
    obtain ⟨W, hW⟩ : ∃ W, W = (((w.drewN na).setCell ⟨b, 0, none⟩ (.int .u32 (q : Int))).drewN nq) := ⟨_, rfl⟩
    rw [← hW]
    have hWh : FltR W b q m a0 f0 nz (.slice none 0 0) e0 := by rw [hW]; exact ((HH.out.drewN na).s0 q).drewN nq
    have hWB : Below B w W := by rw [hW]; exact undrewN' (bset (i := 0) (u := .int .u32 (q : Int)) (undrewN' (Below.refl B w)) hB)
    have hW1 : FltR W g1 p1 m1 0 0 n1 r1 x1 := by rw [hW]; exact ((heap_setCell_other _ _ _ _ (by simpa using hb1.symm)).trans HG1.out)
    have hW2 : FltR W g2 p2 m2 0 1 n2 r2 x2 := by rw [hW]; exact ((heap_setCell_other _ _ _ _ (by simpa using hb2.symm)).trans HG2.out)
    have HWA := Lib.hid (by rw [hW]; exact ((HH.out.drewN na).at 0 (.int .u32 (q : Int)) hb2 (HY.out.drewN na)).drewN nq : FloatAt W B2 g2 p2 m2 1 n2 N F)
    clear hW c0 c3 c4 f0' f1' f2' f3' f4' f5' f6' y0 y1 y2 y3 y4 y5 y6 z0 z1 z2 z3 z4 z5 z6
    obtain ⟨c0, c1, c2, c3, c4, c5, c6⟩ := hWh.cells
    obtain ⟨f0', f1', f2', f3', f4', f5', f6'⟩ := hWh.free
    obtain ⟨y0, y1, y2, y3', y4, y5, y6⟩ := hW1.cells
    obtain ⟨z0, z1, z2, z3', z4, z5, z6⟩ := hW2.cells
    have y3 : W.cell? ⟨g1, 3, none⟩ = some (.int .u8 0) := y3'
    have z3 : W.cell? ⟨g2, 3, none⟩ = some (.int .u8 1) := z3'
    have HWH := Lib.hid hWh
    have HWB := Lib.hid hWB
    clear y3' z3' hWh hWB hW1 hW2
    go_wp2_with fail
    refine (HS.out _ HWH.out HWA.out).mono ?_
    rintro _ w5 ⟨rfl, hv, hb5⟩
    have HV := Lib.hid hv
    have HB5 := Lib.hid (HWB.out.trans hb5)
    clear hv hb5
    go_wp2
    go_ret
    exact ⟨rfl, HV.out, HB5.out⟩
  · have t0 : ((p0 : Int) == 0) = false := by rw [beq_eq_false_iff_ne]; omega
    have hqq : q = p0 := by rw [hq]; unfold pOf; rw [if_neg hz]
    have hz' : ¬ q = 0 := by omega
    clear hq hz
    subst hqq
    go_enter Tryd.func26, Tryd.ntmps26
    go_wp2_with fail
    go_quiet (fail)
    obtain ⟨W, hW⟩ : ∃ W, W = (w.drewN nq) := ⟨_, rfl⟩
    rw [← hW]
    have hWh : FltR W b q m a0 f0 nz (.slice none 0 0) e0 := by rw [hW]; exact HH.out.drewN nq
    have hWB : Below B w W := by rw [hW]; exact undrewN' (Below.refl B w)
    have hW1 : FltR W g1 p1 m1 0 0 n1 r1 x1 := by rw [hW]; exact HG1.out
    have hW2 : FltR W g2 p2 m2 0 1 n2 r2 x2 := by rw [hW]; exact HG2.out
    have HWA := Lib.hid (by rw [hW]; exact HY.out.drewN nq : FloatAt W B2 g2 p2 m2 1 n2 N F)
    clear hW c0 c3 c4 f0' f1' f2' f3' f4' f5' f6' y0 y1 y2 y3 y4 y5 y6 z0 z1 z2 z3 z4 z5 z6
    obtain ⟨c0, c1, c2, c3, c4, c5, c6⟩ := hWh.cells
    obtain ⟨f0', f1', f2', f3', f4', f5', f6'⟩ := hWh.free
    obtain ⟨y0, y1, y2, y3', y4, y5, y6⟩ := hW1.cells
    obtain ⟨z0, z1, z2, z3', z4, z5, z6⟩ := hW2.cells
    have y3 : W.cell? ⟨g1, 3, none⟩ = some (.int .u8 0) := y3'
    have z3 : W.cell? ⟨g2, 3, none⟩ = some (.int .u8 1) := z3'
    have HWH := Lib.hid hWh
    have HWB := Lib.hid hWB
    clear y3' z3' hWh hWB hW1 hW2
    go_wp2_with fail
    refine (HS.out _ HWH.out HWA.out).mono ?_
    rintro _ w5 ⟨rfl, hv, hb5⟩
    have HV := Lib.hid hv
    have HB5 := Lib.hid (HWB.out.trans hb5)
    clear hv hb5
    go_wp2
    go_ret
    exact ⟨rfl, HV.out, HB5.out⟩
/-- Sub of a new receiver and operands that are not infinite. -/
theorem subF_any (b B B1 B2 g1 g2 p0 m p1 m1 p2 m2 f0 f1 f2 M N : Nat) (a0 e0 E F : Int) (nz n1 n2 : Bool) (w : World) (h : FltR w b p0 m a0 f0 nz (.slice none 0 0) e0) (hB : B ≤ b) (hf1 : f1 ≤ 1) (hf2 : f2 ≤ 1) (h1 : FloatAt w B1 g1 p1 m1 f1 n1 M E) (h2 : FloatAt w B2 g2 p2 m2 f2 n2 N F)
    (k1 : f1 = 1 → 0 < M ∧ bl M ≤ p1 ∧ bl M ≤ 10000 ∧ -5000000 ≤ E ∧ E ≤ 5000000) (k2 : f2 = 1 → 0 < N ∧ bl N ≤ p2 ∧ bl N ≤ 10000 ∧ -5000000 ≤ F ∧ F ≤ 5000000) (hb1 : b ≠ g1) (hb2 : b ≠ g2) (hp0 : p0 ≤ 64000000) (hp11 : 0 < p1) (hp1' : p1 ≤ 64000000) (hp22 : 0 < p2) (hp2' : p2 ≤ 64000000) (hm : m ≤ 5) (hx : f1 = 1 ∨ f2 = 0) :
    Calls Tryd.prog 26 #[.pointer (some ⟨b, 0, none⟩), .pointer (some ⟨g1, 0, none⟩), .pointer (some ⟨g2, 0, none⟩)] w fun e' w' => e' = .returned (.pointer (some ⟨b, 0, none⟩)) ∧
      AddR w' B b (pOf p0 (max p1 p2)) m (if f1 = 1 then decide (m = 4) else n1 && (!n2)) (smV (dyN f1 n1) (dyM f1 M) (dyE f1 E) (!dyN f2 n2) (dyM f2 N) (dyE f2 F)) (min (dyE f1 E) (dyE f2 F)) ∧ Below B w w' := by
  have q0 : 0 < pOf p0 (max p1 p2) := by unfold pOf; split <;> omega
  rcases (by omega : f1 = 0 ∨ f1 = 1) with rfl | rfl <;> rcases (by omega : f2 = 0 ∨ f2 = 1) with rfl | rfl
  · refine (subF_zz b B B1 B2 g1 g2 p0 m p1 m1 p2 m2 f0 M N a0 e0 E F nz n1 n2 w h hB h1 h2 hb1 hb2 hp0 hp11 hp1' hp22 hp2' hm).mono ?_
    rintro _ w' ⟨rfl, k, hb⟩
    refine ⟨rfl, (AddR.zero (B := B) (X := 0) k).cast ?_ rfl, hb⟩
    rfl
  · exact absurd hx (by omega)
  · obtain ⟨x1, x2, x3, x4, x5⟩ := k1 rfl
    refine (subF_fz b B B1 B2 g1 g2 p0 m p1 m1 p2 m2 f0 M N a0 e0 E F nz n1 n2 w h hB h1 h2 x1 x2 x3 ⟨x4, x5⟩ hb1 hb2 hp0 hp11 hp1' hp22 hp2' hm).mono ?_
    rintro _ w' ⟨rfl, k, hb⟩
    have hl : min E 0 ≤ E := by omega
    refine ⟨rfl, (AddR.pos (lo_pos x1) (fval_trans k x1 (deq_low hl))).cast ?_ rfl, hb⟩
    unfold smV
    show sI n1 (lo M E (min E 0)) = sI n1 (lo M E (min E 0)) + sI _ (lo 0 0 (min E 0))
    rw [lo_zero, sI_zero, Int.add_zero]
  · obtain ⟨x1, x2, x3, x4, x5⟩ := k1 rfl
    obtain ⟨y1, y2, y3, y4, y5⟩ := k2 rfl
    exact subF_ff b B B1 B2 g1 g2 p0 m p1 m1 p2 m2 f0 M N a0 e0 E F nz n1 n2 w h hB h1 h2 x1 y1 x2 y2 x3 y3 ⟨x4, x5⟩ ⟨y4, y5⟩ hb1 hb2 hp0 hp1' hp2' hm
end Go.Proofs.YtgclooabjilniaaDoor

/-
The statement on the difference of two numbers of 64 bits. No condition.
-/
namespace Go.Proofs.YtgclooabjilniaaDoor
open Go.RowKit

theorem smV_Sub (x y : Int) : smV (dyN (fO x.natAbs) (decide (x < 0))) (dyM (fO x.natAbs) x.natAbs) (dyE (fO x.natAbs) 0) (!dyN (fO y.natAbs) (decide (y < 0))) (dyM (fO y.natAbs) y.natAbs) (dyE (fO y.natAbs) 0) = x - y ∧ min (dyE (fO x.natAbs) 0) (dyE (fO y.natAbs) 0) = 0 := by
  have hm : min (dyE (fO x.natAbs) 0) (dyE (fO y.natAbs) 0) = 0 := by unfold dyE; split <;> split <;> rfl
  refine ⟨?_, hm⟩
  unfold smV
  rw [hm, dy_fO, sI_decide]
  have h2 := dy_fO (decide (y < 0)) y.natAbs
  rw [sI_decide] at h2
  have h3 : ∀ (b : Bool) (n : Nat), sI (!b) n = - sI b n := fun b n => by cases b <;> simp [sI]
  rw [h3, h2]; omega
theorem smV0_Sub (x y : Int) : smV (decide (x < 0)) x.natAbs 0 (!decide (y < 0)) y.natAbs 0 = x - y := by
  unfold smV
  rw [show min (0 : Int) 0 = 0 from rfl, lo_self, lo_self, sI_decide]
  have h3 : ∀ (b : Bool) (n : Nat), sI (!b) n = - sI b n := fun b n => by cases b <;> simp [sI]
  rw [h3, sI_decide]; omega
set_option maxRecDepth 100000 in
set_option maxHeartbeats 3200000 in
theorem impSubInt (q k : Nat) (x y : Int) (w : World) (hq : q ≤ 1000000) (hk : k ≤ 5) (hx1 : -9223372036854775808 ≤ x) (hx2 : x ≤ 9223372036854775807) (hy1 : -9223372036854775808 ≤ y) (hy2 : y ≤ 9223372036854775807) (hx0 : x ≠ 0) (hT : TabW w) :
    Calls Tryd.prog 10 #[.int .u64 q, .int .i64 k, .int .i64 x, .int .i64 y] w fun e' w' => e' = .returned (.tuple #[.int .i64 (i64V (vN (x - y)) (rQ (pD q 64) k (vN (x - y)) 0 (x - y).natAbs) (0 + (rk (pD q 64) (x - y).natAbs : Nat))), .int .i64 (i64A (vN (x - y)) (rQ (pD q 64) k (vN (x - y)) 0 (x - y).natAbs) (0 + (rk (pD q 64) (x - y).natAbs : Nat))), .int .i64 (rA (pD q 64) k (vN (x - y)) 0 (x - y).natAbs)]) ∧ Below w.heap.size w w' := by
  obtain ⟨V, hV⟩ : ∃ V : Int, V = x - y := ⟨_, rfl⟩
  rw [← hV]
  have hZ : pD q 64 ≤ 1000000 := pD_le hq (by decide)
  have hbx : bl V.natAbs ≤ 65 := bl_le (k := 65) (by omega)
  have hblx : bl x.natAbs ≤ 64 := bl_le (k := 64) (by omega)
  have hbly : bl y.natAbs ≤ 64 := bl_le (k := 64) (by omega)
  have hrk := rk_le (pD q 64) V.natAbs
  have hbr := bl_rQ (pD q 64) k (vN V) 0 V.natAbs
  have hfx : fO x.natAbs ≤ 1 := by unfold fO; split <;> omega
  have hfy : fO y.natAbs ≤ 1 := by unfold fO; split <;> omega
  have hfv : fO V.natAbs ≤ 1 := by unfold fO; split <;> omega
  have hpo : pOf q (max 64 64) = pD q 64 := rfl
  have K1 : fO x.natAbs = 1 → 0 < x.natAbs ∧ bl x.natAbs ≤ 64 ∧ bl x.natAbs ≤ 10000 ∧ -5000000 ≤ (0 : Int) ∧ (0 : Int) ≤ 5000000 := fun h => ⟨by unfold fO at h; split at h <;> omega, hblx, by omega, by decide, by decide⟩
  have K2 : fO y.natAbs = 1 → 0 < y.natAbs ∧ bl y.natAbs ≤ 64 ∧ bl y.natAbs ≤ 10000 ∧ -5000000 ≤ (0 : Int) ∧ (0 : Int) ≤ 5000000 := fun h => ⟨by unfold fO at h; split at h <;> omega, hbly, by omega, by decide, by decide⟩
  have HADD := Lib.hid (fun (W : World) (b B g1 g2 B1 B2 : Nat) (h : FltR W b q k 0 0 false (.slice none 0 0) 0) (hB : B ≤ b) (h1 : FloatAt W B1 g1 64 0 (fO x.natAbs) (decide (x < 0)) x.natAbs 0) (h2 : FloatAt W B2 g2 64 0 (fO y.natAbs) (decide (y < 0)) y.natAbs 0) (hb1 : b ≠ g1) (hb2 : b ≠ g2) =>
    subF_any b B B1 B2 g1 g2 q k 64 0 64 0 0 (fO x.natAbs) (fO y.natAbs) x.natAbs y.natAbs 0 0 0 0 false (decide (x < 0)) (decide (y < 0)) W h hB hfx hfy h1 h2 K1 K2 hb1 hb2 (by omega) (by decide) (by decide) (by decide) (by decide) hk (.inl (by unfold fO; rw [if_neg (by omega)])))
  obtain ⟨zn, hzn⟩ : ∃ zn, zn = (if fO x.natAbs = 1 then decide (k = 4) else decide (x < 0) && !decide (y < 0)) := ⟨_, rfl⟩
  rw [(smV_Sub x y).1, (smV_Sub x y).2, ← hV, hpo, ← hzn] at HADD
  have HI := Lib.hid (fun (W : World) (B g : Nat) (h : AddR W B g (pD q 64) k zn V 0) (hT : TabW W) => int64_val g B (pD q 64) k (fO V.natAbs) _ _ _ _ W h hfv (fun _ => by omega) hT)
  rw [(i64_fO (fun h => by rw [if_neg (by omega)])).1, (i64_fO (fun h => by rw [if_neg (by omega)])).2] at HI
  have HFM := Lib.hid (fun (W : World) (B g : Nat) (h : AddR W B g (pD q 64) k zn V 0) => (FVal.form h))
  obtain ⟨hbv, hba⟩ := i64_bd (vN V) (rQ (pD q 64) k (vN V) 0 V.natAbs) (0 + (rk (pD q 64) V.natAbs : Nat))
  have hra := rA_bd (pD q 64) k (vN V) 0 V.natAbs
  obtain ⟨N, hN⟩ : ∃ N, N = i64V (vN V) (rQ (pD q 64) k (vN V) 0 V.natAbs) (0 + (rk (pD q 64) V.natAbs : Nat)) := ⟨_, rfl⟩
  obtain ⟨A, hA⟩ : ∃ A, A = i64A (vN V) (rQ (pD q 64) k (vN V) 0 V.natAbs) (0 + (rk (pD q 64) V.natAbs : Nat)) := ⟨_, rfl⟩
  obtain ⟨D, hD⟩ : ∃ D, D = rA (pD q 64) k (vN V) 0 V.natAbs := ⟨_, rfl⟩
  rw [← hN, ← hA] at HI
  rw [← hD] at HFM
  rw [← hN, ← hA, ← hD]
  rw [← hN] at hbv
  rw [← hA] at hba
  rw [← hD] at hra
  have HT := Lib.hid hT
  have HK1 := Lib.hid K1
  have HK2 := Lib.hid K2
  clear hN hA hD hT hZ hbx hblx hbly hrk hbr hV hzn hpo K1 K2 hfx hfy hfv
  go_enter Tryd.func10, Tryd.ntmps10
  go_wp2_with fail
  refine (fresh_all q k w (by omega) (by omega)).mono ?_
  rintro _ w1 ⟨g, rfl, ⟨hg, hF0⟩, hb1⟩
  have GF := Lib.hid hF0
  have hgB : w.heap.size ≤ g := by omega
  have B1 := Lib.hid hb1
  clear hF0 hb1 hg
  go_wp2_with fail
  refine (setInt64_0 w1.heap.size w1.heap.size _ _ _ _ _ x _ (newF_row w1) (Nat.le_refl _) hx1 hx2).mono ?_
  rintro _ w2 ⟨rfl, hS1, hb2⟩
  have hb2 := (fbone (W := w1) newF).trans hb2
  have GX := Lib.hid (hS1.at (Nat.le_refl _) hx1 hx2)
  have GF2 := Lib.hid (GF.out.below hb2)
  have B2 := Lib.hid (B1.out.trans (hb2.mono B1.out.size))
  have hgx := Lib.hid (show g ≠ w1.heap.size by have := GF.out.lt; omega)
  clear hS1 hb2
  go_wp2_with fail
  refine (setInt64_0 w2.heap.size w2.heap.size _ _ _ _ _ y _ (newF_row w2) (Nat.le_refl _) hy1 hy2).mono ?_
  rintro _ w3 ⟨rfl, hS2, hb3⟩
  have hb3 := (fbone (W := w2) newF).trans hb3
  have GY := Lib.hid (hS2.at (Nat.le_refl _) hy1 hy2)
  have GX3 := Lib.hid (GX.out.below hb3)
  have GF3 := Lib.hid (GF2.out.below hb3)
  have B3 := Lib.hid (B2.out.trans (hb3.mono B2.out.size))
  have hgy := Lib.hid (show g ≠ w2.heap.size by have := GF2.out.lt; omega)
  clear hS2 hb3
  go_wp2_with fail
  refine (HADD.out w3 g w.heap.size _ _ _ _ GF3.out hgB GX3.out GY.out hgx.out hgy.out).mono ?_
  rintro _ w4 ⟨rfl, hr4, hb4⟩
  have R4 := Lib.hid hr4
  have B4 := Lib.hid (B3.out.trans hb4)
  have T4 := Lib.hid (HT.out.below B4.out)
  clear hr4 hb4
  go_wp2_with fail
  refine (HI.out w4 _ g R4.out T4.out).mono ?_
  rintro _ _ ⟨rfl, n1, rfl⟩
  obtain ⟨vv, ee, hr⟩ := HFM.out _ _ _ R4.out
  have HR := Lib.hid (hr.drewN n1)
  clear hr
  go_wp2_with fail
  refine (fAcc HR.out).mono ?_
  rintro _ _ ⟨rfl, rfl⟩
  have B5 := Lib.hid (undrewN' (n := n1) B4.out)
  go_wp2
  go_ret3
  exact ⟨rfl, B5.out⟩
set_option maxRecDepth 100000 in
set_option maxHeartbeats 3200000 in
theorem lawSubInt (a0 a1 a2 a3 : Int) (w : World) (hT : TabW w) (l0 : 0 ≤ a0) (h0 : a0 ≤ 255) (l1 : 0 ≤ a1) (h1 : a1 ≤ 255) (l2 : -9223372036854775808 ≤ a2) (h2 : a2 ≤ 9223372036854775807) (l3 : -9223372036854775808 ≤ a3) (h3 : a3 ≤ 9223372036854775807) :
    Calls Tryd.prog 4 #[.int .u8 a0, .int .u8 a1, .int .i64 a2, .int .i64 a3] w fun e' w' => e' = .returned (.bool true) ∧ Below w.heap.size w w' := by
  obtain ⟨b0, rfl⟩ := Int.eq_ofNat_of_zero_le l0
  obtain ⟨b1, rfl⟩ := Int.eq_ofNat_of_zero_le l1
  obtain ⟨x, hx⟩ : ∃ x, x = a2 := ⟨_, rfl⟩
  subst hx
  obtain ⟨y, hy⟩ : ∃ y, y = a3 := ⟨_, rfl⟩
  subst hy
  by_cases hx0 : x = 0
  · have t : (x == 0) = true := by rw [hx0]; rfl
    clear hx0
    go_enter Tryd.func4, Tryd.ntmps4
    go_wp2
    go_ret
    exact ⟨rfl, Below.refl _ _⟩
  have tx : (x == 0) = false := by rw [beq_eq_false_iff_ne]; exact hx0
  have HX0 := Lib.hid hx0
  clear hx0
  have e0 : (b0 : Int) % 70 = ((b0 % 70 : Nat) : Int) := by omega
  have e1 : (b1 : Int) % 6 = ((b1 % 6 : Nat) : Int) := by omega
  have hqb : b0 % 70 ≤ 69 := by omega
  have hkb : b1 % 6 ≤ 5 := by omega
  obtain ⟨q, hq⟩ : ∃ q, q = b0 % 70 := ⟨_, rfl⟩
  obtain ⟨k, hk⟩ : ∃ k, k = b1 % 6 := ⟨_, rfl⟩
  rw [← hq] at hqb e0
  rw [← hk] at hkb e1
  have hpd : 0 < pD q 64 ∧ pD q 64 ≤ 69 := ⟨pD_pos (by decide), pD_le hqb (by decide)⟩
  obtain ⟨V, hV⟩ : ∃ V : Int, V = x - y := ⟨_, rfl⟩
  have hVb : V.natAbs < 2 ^ 65 := by rw [hV]; omega
  have hblV := bl_le hVb
  have hI := impSubInt q k x y w (by omega) hkb l2 h2 l3 h3 HX0.out hT
  rw [← hV] at hI
  clear hq hk
  by_cases hq0 : q = 0
  · have t : ((q : Int) == 0) = true := by rw [hq0]; rfl
    have hZD : pD q 64 = 64 := by unfold pD; rw [if_pos hq0]
    rw [hZD] at hpd hI
    obtain ⟨hbv, hba⟩ := i64_bd (vN V) (rQ 64 k (vN V) 0 V.natAbs) (0 + (rk 64 V.natAbs : Nat))
    have hra := rA_bd 64 k (vN V) 0 V.natAbs
    have hrk := rk_le 64 V.natAbs
    have hbr := bl_rQ 64 k (vN V) 0 V.natAbs
    have hblM : ∀ (ng : Bool) (M : Nat), sI ng M = V → bl M = bl V.natAbs := fun ng M hs => by rw [← hs, natAbs_sI]
    have HBM := Lib.hid hblM
    have HSP := Lib.hid (fun (W : World) (ng : Bool) (a : Value) (M : Nat) (hs : sI ng M = V) (h : NatV W a (rQ 64 k ng 0 M)) => spInt64 ng a (0 + (rk 64 M : Nat)) (rQ 64 k ng 0 M) W h (by have := bl_rQ 64 k ng 0 M; have := hblM ng M hs; omega) (by have := rk_le 64 M; have := hblM ng M hs; omega))
    have HSR := Lib.hid (fun (W : World) (ng : Bool) (a : Value) (M : Nat) (hs : sI ng M = V) (h : NatV W a M) => spRound ng a 0 M 64 k W h (by have := hblM ng M hs; omega) (by omega) hkb (by omega) (by omega))
    have HI := Lib.hid hI
    have HBX : Hid (bl V.natAbs ≤ 65) := Lib.hid hblV
    have HVV := Lib.hid hV
    obtain ⟨N, hN⟩ : ∃ N, N = i64V (vN V) (rQ 64 k (vN V) 0 V.natAbs) (0 + (rk 64 V.natAbs : Nat)) := ⟨_, rfl⟩
    obtain ⟨A, hA⟩ : ∃ A, A = i64A (vN V) (rQ 64 k (vN V) 0 V.natAbs) (0 + (rk 64 V.natAbs : Nat)) := ⟨_, rfl⟩
    obtain ⟨D, hD⟩ : ∃ D, D = rA 64 k (vN V) 0 V.natAbs := ⟨_, rfl⟩
    rw [← hN, ← hA, ← hD] at HI
    rw [← hN] at hbv
    rw [← hA] at hba
    rw [← hD] at hra
    have HN := Lib.hid hN
    have HA := Lib.hid hA
    have HD := Lib.hid hD
    clear hI hN hA hD hV hVb hblV hrk hbr hpd hZD hq0 hT hblM
    go_enter Tryd.func4, Tryd.ntmps4
    go_wp2_with fail
    refine HI.out.mono ?_
    rintro _ w1 ⟨rfl, hb1⟩
    have HB1 := Lib.hid hb1
    have h1s := HB1.out.size
    clear hb1
    go_wp2_with fail
    refine (whole_any x w1 l2 h2).mono ?_
    rintro _ w2 ⟨_, rfl, ⟨a, rfl, hd⟩, hb⟩
    have hTa := hd.isS
    have HC1 := Lib.hid hd
    have HB2 := Lib.hid (HB1.out.trans (hb.mono h1s))
    have h2s := HB2.out.size
    clear hd hb
    go_wp2_with fail
    refine (whole_any y w2 l3 h3).mono ?_
    rintro _ w3 ⟨_, rfl, ⟨b, rfl, hd⟩, hb⟩
    have hTb := hd.isS
    have HC2 := Lib.hid hd
    have HC3 := Lib.hid (HC1.out.below hb)
    have HB3 := Lib.hid (HB2.out.trans (hb.mono h2s))
    have h3s := HB3.out.size
    clear hd hb
    go_wp2_with fail
    refine (dOpp _ b _ w3 hTb).mono ?_
    rintro _ w3' ⟨rfl, hb⟩
    have HC2 := Lib.hid (HC2.out.below hb)
    have HC3 := Lib.hid (HC3.out.below hb)
    have HB3 := Lib.hid (HB3.out.trans (hb.mono h3s))
    have h3s := HB3.out.size
    clear hb
    go_wp2_with fail
    refine (dSum_sm _ _ a b 0 0 x.natAbs y.natAbs w3' HC3.out HC2.out (Nat.le_trans (bl_le (k := 64) (by omega)) (by decide)) (Nat.le_trans (bl_le (k := 64) (by omega)) (by decide)) (by decide) (by decide)).mono ?_
    rintro _ w4 ⟨ng, c, M, rfl, hc, hs, hb⟩
    rw [show min (0 : Int) 0 = 0 from rfl]
    have HS : Hid (sI ng M = V) := Lib.hid (by rw [hs, HVV.out]; exact smV0_Sub x y)
    have hTc := hc.isS
    have HC := Lib.hid hc
    have HB4 := Lib.hid (HB3.out.trans (hb.mono h3s))
    have h4s := HB4.out.size
    clear hc hb hs
    go_wp2_with fail
    refine (HSR.out w4 ng c M HS.out HC.out).mono ?_
    rintro _ w5 ⟨r, rfl, hr, hb5⟩
    have hTr := hr.isS
    have hk1 := (i64_sum (p := 64) (m := k) (X := 0 + (rk 64 M : Nat)) HS.out)
    have hrA : rA 64 k ng 0 M = D := by rw [hk1.1, HD.out]
    rw [hrA]
    have hN' : i64V ng (rQ 64 k ng 0 M) (0 + (rk 64 M : Nat)) = N := by rw [hk1.2.2.1, hk1.2.1, HN.out]
    have hA' : i64A ng (rQ 64 k ng 0 M) (0 + (rk 64 M : Nat)) = A := by rw [hk1.2.2.2, hk1.2.1, HA.out]
    have hrkb : rk 64 M ≤ 100 := by have := rk_le 64 M; have := HBM.out ng M HS.out; have := HBX.out; omega
    have HSI := Lib.hid (fun (W : World) (h : NatV W r (rQ 64 k ng 0 M)) => HSP.out W ng r M HS.out h)
    rw [hN', hA'] at HSI
    obtain ⟨E, hE⟩ : ∃ E : Nat, E = rk 64 M := ⟨_, rfl⟩
    rw [← hE] at HSI hrkb ⊢
    have hz : (0 : Int) + (E : Int) = (E : Int) := Int.zero_add _
    rw [hz] at HSI ⊢
    clear hk1 hrA hN' hA' hE hz
    obtain ⟨Y, hY⟩ : ∃ Y, Y = w5.alloc (.cells #[.bool ng, r, .int .i64 (E : Int)] 28) := ⟨_, rfl⟩
    have hbY : Below w5.heap.size w5 Y := by rw [hY]; exact fbone _
    have hrY : Y.heap[w5.heap.size]? = some (.cells #[.bool ng, r, .int .i64 (E : Int)] 28 (0, 0)) := by rw [hY]; exact row_chain11
    obtain ⟨x0, x1, x2, -, -, -⟩ := row3 hrY
    have HRY := Lib.hid (hr.below hbY)
    have HBY := Lib.hid (HB4.out.trans ((bthen hb5 hbY).mono h4s))
    have hYs := HBY.out.size
    clear hr hb5 hbY hrY
    go_upto_region 6 with fail
    rw [← hY]
    clear hY
    go_wp2_with fail
    refine (HSI.out Y HRY.out).mono ?_
    rintro _ w6 ⟨rfl, hb6⟩
    have HB6 := Lib.hid (HBY.out.trans (hb6.mono hYs))
    clear hb6
    go_wp2
    go_ret
    exact ⟨rfl, HB6.out⟩
  · have t : ((q : Int) == 0) = false := by rw [beq_eq_false_iff_ne]; omega
    have hZD : pD q 64 = q := by unfold pD; rw [if_neg hq0]
    rw [hZD] at hpd hI
    obtain ⟨hbv, hba⟩ := i64_bd (vN V) (rQ q k (vN V) 0 V.natAbs) (0 + (rk q V.natAbs : Nat))
    have hra := rA_bd q k (vN V) 0 V.natAbs
    have hrk := rk_le q V.natAbs
    have hbr := bl_rQ q k (vN V) 0 V.natAbs
    have hblM : ∀ (ng : Bool) (M : Nat), sI ng M = V → bl M = bl V.natAbs := fun ng M hs => by rw [← hs, natAbs_sI]
    have HBM := Lib.hid hblM
    have HSP := Lib.hid (fun (W : World) (ng : Bool) (a : Value) (M : Nat) (hs : sI ng M = V) (h : NatV W a (rQ q k ng 0 M)) => spInt64 ng a (0 + (rk q M : Nat)) (rQ q k ng 0 M) W h (by have := bl_rQ q k ng 0 M; have := hblM ng M hs; omega) (by have := rk_le q M; have := hblM ng M hs; omega))
    have HSR := Lib.hid (fun (W : World) (ng : Bool) (a : Value) (M : Nat) (hs : sI ng M = V) (h : NatV W a M) => spRound ng a 0 M q k W h (by have := hblM ng M hs; omega) (by omega) hkb (by omega) (by omega))
    have HI := Lib.hid hI
    have HBX : Hid (bl V.natAbs ≤ 65) := Lib.hid hblV
    have HVV := Lib.hid hV
    obtain ⟨N, hN⟩ : ∃ N, N = i64V (vN V) (rQ q k (vN V) 0 V.natAbs) (0 + (rk q V.natAbs : Nat)) := ⟨_, rfl⟩
    obtain ⟨A, hA⟩ : ∃ A, A = i64A (vN V) (rQ q k (vN V) 0 V.natAbs) (0 + (rk q V.natAbs : Nat)) := ⟨_, rfl⟩
    obtain ⟨D, hD⟩ : ∃ D, D = rA q k (vN V) 0 V.natAbs := ⟨_, rfl⟩
    rw [← hN, ← hA, ← hD] at HI
    rw [← hN] at hbv
    rw [← hA] at hba
    rw [← hD] at hra
    have HN := Lib.hid hN
    have HA := Lib.hid hA
    have HD := Lib.hid hD
    clear hI hN hA hD hV hVb hblV hrk hbr hpd hZD hq0 hT hblM
    go_enter Tryd.func4, Tryd.ntmps4
    go_wp2_with fail
    refine HI.out.mono ?_
    rintro _ w1 ⟨rfl, hb1⟩
    have HB1 := Lib.hid hb1
    have h1s := HB1.out.size
    clear hb1
    go_wp2_with fail
    refine (whole_any x w1 l2 h2).mono ?_
    rintro _ w2 ⟨_, rfl, ⟨a, rfl, hd⟩, hb⟩
    have hTa := hd.isS
    have HC1 := Lib.hid hd
    have HB2 := Lib.hid (HB1.out.trans (hb.mono h1s))
    have h2s := HB2.out.size
    clear hd hb
    go_wp2_with fail
    refine (whole_any y w2 l3 h3).mono ?_
    rintro _ w3 ⟨_, rfl, ⟨b, rfl, hd⟩, hb⟩
    have hTb := hd.isS
    have HC2 := Lib.hid hd
    have HC3 := Lib.hid (HC1.out.below hb)
    have HB3 := Lib.hid (HB2.out.trans (hb.mono h2s))
    have h3s := HB3.out.size
    clear hd hb
    go_wp2_with fail
    refine (dOpp _ b _ w3 hTb).mono ?_
    rintro _ w3' ⟨rfl, hb⟩
    have HC2 := Lib.hid (HC2.out.below hb)
    have HC3 := Lib.hid (HC3.out.below hb)
    have HB3 := Lib.hid (HB3.out.trans (hb.mono h3s))
    have h3s := HB3.out.size
    clear hb
    go_wp2_with fail
    refine (dSum_sm _ _ a b 0 0 x.natAbs y.natAbs w3' HC3.out HC2.out (Nat.le_trans (bl_le (k := 64) (by omega)) (by decide)) (Nat.le_trans (bl_le (k := 64) (by omega)) (by decide)) (by decide) (by decide)).mono ?_
    rintro _ w4 ⟨ng, c, M, rfl, hc, hs, hb⟩
    rw [show min (0 : Int) 0 = 0 from rfl]
    have HS : Hid (sI ng M = V) := Lib.hid (by rw [hs, HVV.out]; exact smV0_Sub x y)
    have hTc := hc.isS
    have HC := Lib.hid hc
    have HB4 := Lib.hid (HB3.out.trans (hb.mono h3s))
    have h4s := HB4.out.size
    clear hc hb hs
    go_wp2_with fail
    refine (HSR.out w4 ng c M HS.out HC.out).mono ?_
    rintro _ w5 ⟨r, rfl, hr, hb5⟩
    have hTr := hr.isS
    have hk1 := (i64_sum (p := q) (m := k) (X := 0 + (rk q M : Nat)) HS.out)
    have hrA : rA q k ng 0 M = D := by rw [hk1.1, HD.out]
    rw [hrA]
    have hN' : i64V ng (rQ q k ng 0 M) (0 + (rk q M : Nat)) = N := by rw [hk1.2.2.1, hk1.2.1, HN.out]
    have hA' : i64A ng (rQ q k ng 0 M) (0 + (rk q M : Nat)) = A := by rw [hk1.2.2.2, hk1.2.1, HA.out]
    have hrkb : rk q M ≤ 100 := by have := rk_le q M; have := HBM.out ng M HS.out; have := HBX.out; omega
    have HSI := Lib.hid (fun (W : World) (h : NatV W r (rQ q k ng 0 M)) => HSP.out W ng r M HS.out h)
    rw [hN', hA'] at HSI
    obtain ⟨E, hE⟩ : ∃ E : Nat, E = rk q M := ⟨_, rfl⟩
    rw [← hE] at HSI hrkb ⊢
    have hz : (0 : Int) + (E : Int) = (E : Int) := Int.zero_add _
    rw [hz] at HSI ⊢
    clear hk1 hrA hN' hA' hE hz
    obtain ⟨Y, hY⟩ : ∃ Y, Y = w5.alloc (.cells #[.bool ng, r, .int .i64 (E : Int)] 28) := ⟨_, rfl⟩
    have hbY : Below w5.heap.size w5 Y := by rw [hY]; exact fbone _
    have hrY : Y.heap[w5.heap.size]? = some (.cells #[.bool ng, r, .int .i64 (E : Int)] 28 (0, 0)) := by rw [hY]; exact row_chain11
    obtain ⟨x0, x1, x2, -, -, -⟩ := row3 hrY
    have HRY := Lib.hid (hr.below hbY)
    have HBY := Lib.hid (HB4.out.trans ((bthen hb5 hbY).mono h4s))
    have hYs := HBY.out.size
    clear hr hb5 hbY hrY
    go_upto_region 6 with fail
    rw [← hY]
    clear hY
    go_wp2_with fail
    refine (HSI.out Y HRY.out).mono ?_
    rintro _ w6 ⟨rfl, hb6⟩
    have HB6 := Lib.hid (HBY.out.trans (hb6.mono hYs))
    clear hb6
    go_wp2
    go_ret
    exact ⟨rfl, HB6.out⟩
end Go.Proofs.YtgclooabjilniaaDoor
