/-
Texts of this proof, joined: AdD AdJ MoC LwE LwF LwH MoD TsB. No condition.
-/
import Derived.Test.YtgbmlaffilccnaaGreatDoorK18
import Derived.Test.YtgbmlaffilccnaaGreatDoorK27
import Derived.Test.YtgbmlaffilccnaaGreatDoorK32
import Derived.Test.YtgbmlaffilccnaaGreatDoorK33
/-
Floats: Sub of a new receiver and any operands that are not infinite. No condition.
-/
namespace Go.Proofs.YtgbmlaffilccnaaGreatDoor
open Go.RowKit

set_option maxRecDepth 100000 in
set_option maxHeartbeats 3200000 in
theorem subF_zz (b B B1 B2 g1 g2 p0 m p1 m1 p2 m2 f0 M N : Nat) (a0 e0 E F : Int) (nz n1 n2 : Bool) (w : World) (h : FltR w b p0 m a0 f0 nz (.slice none 0 0) e0) (hB : B ≤ b) (h1 : FloatAt w B1 g1 p1 m1 0 n1 M E) (h2 : FloatAt w B2 g2 p2 m2 0 n2 N F)
    (hb1 : b ≠ g1) (hb2 : b ≠ g2) (hp0 : p0 ≤ 64000000) (hp11 : 0 < p1) (hp1' : p1 ≤ 64000000) (hp22 : 0 < p2) (hp2' : p2 ≤ 64000000) (_hm : m ≤ 5) :
    Calls Tryz.prog 33 #[.pointer (some ⟨b, 0, none⟩), .pointer (some ⟨g1, 0, none⟩), .pointer (some ⟨g2, 0, none⟩)] w fun e' w' => e' = .returned (.pointer (some ⟨b, 0, none⟩)) ∧
      FltR w' b (pOf p0 (max p1 p2)) m 0 0 (n1 && !n2) (.slice none 0 0) e0 ∧ Below B w w' := by
  obtain ⟨q, hq⟩ : ∃ q, q = pOf p0 (max p1 p2) := ⟨_, rfl⟩
  have hq0 : 0 < q := by rw [hq]; unfold pOf; split <;> omega
  have hqb : q ≤ 64000000 := by rw [hq]; unfold pOf; split <;> omega
  rw [← hq]
  have hne1 : ¬ b = g1 := hb1
  have hne1' : ¬ g1 = b := fun h => hne1 h.symm
  have hne2 : ¬ b = g2 := hb2
  have hne2' : ¬ g2 = b := fun h => hne2 h.symm
  obtain ⟨r1, x1, hg1⟩ := h1.row
  obtain ⟨r2, x2, hg2⟩ := h2.row
  obtain ⟨c0, c1, c2, c3, c4, c5, c6⟩ := h.cells
  obtain ⟨f0', f1', f2', f3', f4', f5', f6'⟩ := h.free
  obtain ⟨y0, y1, y2, y3', y4, y5, y6⟩ := hg1.cells
  obtain ⟨z0, z1, z2, z3', z4, z5, z6⟩ := hg2.cells
  have y3 : w.cell? ⟨g1, 3, none⟩ = some (.int .u8 0) := y3'
  have z3 : w.cell? ⟨g2, 3, none⟩ = some (.int .u8 0) := z3'
  have HG1 := Lib.hid hg1
  have HG2 := Lib.hid hg2
  have HH := Lib.hid h
  have HX := Lib.hid h1
  have HY := Lib.hid h2
  clear h h1 h2 hg1 hg2 y3' z3' c1 c2 c5 c6
  by_cases hz : p0 = 0
  · have t0 : ((p0 : Int) == 0) = true := by rw [hz]; rfl
    have em : max (p1 : Int) (p2 : Int) = (q : Int) := by rw [hq]; unfold pOf; rw [if_pos hz]; omega
    clear hq hz
    go_enter Tryz.func33, Tryz.ntmps33
    go_wp2_with fail
    (refine wp_region_hoist 12 (by kernel_rfl) (by kernel_rfl) ⟨fun _ _ _ h => (by first | exact (hQp _ _ _ h).elim | cases h.2.1 | (obtain ⟨_, h3, _⟩ := h.2; cases h3)), fun _ _ h => (by first | exact (hQo _ _ h).elim | cases h.1 | (obtain ⟨_, h3, _⟩ := h; cases h3))⟩ ?_; simp only [List.take_succ_cons, List.take_zero, List.drop_succ_cons, List.drop_zero]; (repeat (go_big_quiet_step (fail))); refine wpQuiet_nil ?_; rintro _ ⟨nq, rfl⟩)
    generalize nq = na
    go_wp2_with fail
    go_quiet (fail)
    obtain ⟨W, hW⟩ : ∃ W, W = (((w.drewN na).setCell ⟨b, 0, none⟩ (.int .u32 (q : Int))).drewN nq) := ⟨_, rfl⟩
    rw [← hW]
    have hWh : FltR W b q m a0 f0 nz (.slice none 0 0) e0 := by rw [hW]; exact ((HH.out.drewN na).s0 q).drewN nq
    have hWB : Below B w W := by rw [hW]; exact undrewN' (bset (i := 0) (u := .int .u32 (q : Int)) (undrewN' (Below.refl B w)) hB)
    have hW1 : FltR W g1 p1 m1 0 0 n1 r1 x1 := by rw [hW]; exact ((heap_setCell_other _ _ _ _ (by simpa using hb1.symm)).trans HG1.out)
    have hW2 : FltR W g2 p2 m2 0 0 n2 r2 x2 := by rw [hW]; exact ((heap_setCell_other _ _ _ _ (by simpa using hb2.symm)).trans HG2.out)
    clear hW c0 c3 c4 f0' f1' f2' f3' f4' f5' f6' y0 y1 y2 y3 y4 y5 y6 z0 z1 z2 z3 z4 z5 z6
    obtain ⟨c0, c1, c2, c3, c4, c5, c6⟩ := hWh.cells
    obtain ⟨f0', f1', f2', f3', f4', f5', f6'⟩ := hWh.free
    obtain ⟨y0, y1, y2, y3', y4, y5, y6⟩ := hW1.cells
    obtain ⟨z0, z1, z2, z3', z4, z5, z6⟩ := hW2.cells
    have y3 : W.cell? ⟨g1, 3, none⟩ = some (.int .u8 0) := y3'
    have z3 : W.cell? ⟨g2, 3, none⟩ = some (.int .u8 0) := z3'
    have HWH := Lib.hid hWh
    have HWB := Lib.hid hWB
    clear y3' z3' hWh hWB hW1 hW2
    cases n1 <;> cases n2
    · have R := Lib.hid (((HWH.out.s2 0).s3 0).s4 false)
      have BB := Lib.hid (bset (i := 4) (u := .bool false) (bset (i := 3) (u := .int .u8 (0 : Int)) (bset (i := 2) (u := .int .i8 0) HWB.out hB) hB) hB)
      go_wp2
      go_ret
      exact ⟨rfl, R.out, BB.out⟩
    · have R := Lib.hid (((HWH.out.s2 0).s3 0).s4 false)
      have BB := Lib.hid (bset (i := 4) (u := .bool false) (bset (i := 3) (u := .int .u8 (0 : Int)) (bset (i := 2) (u := .int .i8 0) HWB.out hB) hB) hB)
      go_wp2
      go_ret
      exact ⟨rfl, R.out, BB.out⟩
    · have R := Lib.hid (((HWH.out.s2 0).s3 0).s4 true)
      have BB := Lib.hid (bset (i := 4) (u := .bool true) (bset (i := 3) (u := .int .u8 (0 : Int)) (bset (i := 2) (u := .int .i8 0) HWB.out hB) hB) hB)
      go_wp2
      go_ret
      exact ⟨rfl, R.out, BB.out⟩
    · have R := Lib.hid (((HWH.out.s2 0).s3 0).s4 false)
      have BB := Lib.hid (bset (i := 4) (u := .bool false) (bset (i := 3) (u := .int .u8 (0 : Int)) (bset (i := 2) (u := .int .i8 0) HWB.out hB) hB) hB)
      go_wp2
      go_ret
      exact ⟨rfl, R.out, BB.out⟩
  · have t0 : ((p0 : Int) == 0) = false := by rw [beq_eq_false_iff_ne]; omega
    have hqq : q = p0 := by rw [hq]; unfold pOf; rw [if_neg hz]
    have hz' : ¬ q = 0 := by omega
    clear hq hz
    subst hqq
    go_enter Tryz.func33, Tryz.ntmps33
    go_wp2_with fail
    go_quiet (fail)
    obtain ⟨W, hW⟩ : ∃ W, W = (w.drewN nq) := ⟨_, rfl⟩
    rw [← hW]
    have hWh : FltR W b q m a0 f0 nz (.slice none 0 0) e0 := by rw [hW]; exact HH.out.drewN nq
    have hWB : Below B w W := by rw [hW]; exact undrewN' (Below.refl B w)
    have hW1 : FltR W g1 p1 m1 0 0 n1 r1 x1 := by rw [hW]; exact HG1.out
    have hW2 : FltR W g2 p2 m2 0 0 n2 r2 x2 := by rw [hW]; exact HG2.out
    clear hW c0 c3 c4 f0' f1' f2' f3' f4' f5' f6' y0 y1 y2 y3 y4 y5 y6 z0 z1 z2 z3 z4 z5 z6
    obtain ⟨c0, c1, c2, c3, c4, c5, c6⟩ := hWh.cells
    obtain ⟨f0', f1', f2', f3', f4', f5', f6'⟩ := hWh.free
    obtain ⟨y0, y1, y2, y3', y4, y5, y6⟩ := hW1.cells
    obtain ⟨z0, z1, z2, z3', z4, z5, z6⟩ := hW2.cells
    have y3 : W.cell? ⟨g1, 3, none⟩ = some (.int .u8 0) := y3'
    have z3 : W.cell? ⟨g2, 3, none⟩ = some (.int .u8 0) := z3'
    have HWH := Lib.hid hWh
    have HWB := Lib.hid hWB
    clear y3' z3' hWh hWB hW1 hW2
    cases n1 <;> cases n2
    · have R := Lib.hid (((HWH.out.s2 0).s3 0).s4 false)
      have BB := Lib.hid (bset (i := 4) (u := .bool false) (bset (i := 3) (u := .int .u8 (0 : Int)) (bset (i := 2) (u := .int .i8 0) HWB.out hB) hB) hB)
      go_wp2
      go_ret
      exact ⟨rfl, R.out, BB.out⟩
    · have R := Lib.hid (((HWH.out.s2 0).s3 0).s4 false)
      have BB := Lib.hid (bset (i := 4) (u := .bool false) (bset (i := 3) (u := .int .u8 (0 : Int)) (bset (i := 2) (u := .int .i8 0) HWB.out hB) hB) hB)
      go_wp2
      go_ret
      exact ⟨rfl, R.out, BB.out⟩
    · have R := Lib.hid (((HWH.out.s2 0).s3 0).s4 true)
      have BB := Lib.hid (bset (i := 4) (u := .bool true) (bset (i := 3) (u := .int .u8 (0 : Int)) (bset (i := 2) (u := .int .i8 0) HWB.out hB) hB) hB)
      go_wp2
      go_ret
      exact ⟨rfl, R.out, BB.out⟩
    · have R := Lib.hid (((HWH.out.s2 0).s3 0).s4 false)
      have BB := Lib.hid (bset (i := 4) (u := .bool false) (bset (i := 3) (u := .int .u8 (0 : Int)) (bset (i := 2) (u := .int .i8 0) HWB.out hB) hB) hB)
      go_wp2
      go_ret
      exact ⟨rfl, R.out, BB.out⟩
set_option maxRecDepth 100000 in
set_option maxHeartbeats 3200000 in
theorem subF_fz (b B B1 B2 g1 g2 p0 m p1 m1 p2 m2 f0 M N : Nat) (a0 e0 E F : Int) (nz n1 n2 : Bool) (w : World) (h : FltR w b p0 m a0 f0 nz (.slice none 0 0) e0) (hB : B ≤ b) (h1 : FloatAt w B1 g1 p1 m1 1 n1 M E) (h2 : FloatAt w B2 g2 p2 m2 0 n2 N F)
    (hM : 0 < M) (hp1 : bl M ≤ p1) (hbM : bl M ≤ 10000) (hE : -5000000 ≤ E ∧ E ≤ 5000000) (hb1 : b ≠ g1) (hb2 : b ≠ g2) (hp0 : p0 ≤ 64000000) (hp11 : 0 < p1) (hp1' : p1 ≤ 64000000) (hp22 : 0 < p2) (hp2' : p2 ≤ 64000000) (hm : m ≤ 5) :
    Calls Tryz.prog 33 #[.pointer (some ⟨b, 0, none⟩), .pointer (some ⟨g1, 0, none⟩), .pointer (some ⟨g2, 0, none⟩)] w fun e' w' => e' = .returned (.pointer (some ⟨b, 0, none⟩)) ∧
      FVal w' B b (pOf p0 (max p1 p2)) m (rA (pOf p0 (max p1 p2)) m n1 0 M) 1 n1 (rQ (pOf p0 (max p1 p2)) m n1 0 M) (E + rk (pOf p0 (max p1 p2)) M) ∧ Below B w w' := by
  obtain ⟨q, hq⟩ : ∃ q, q = pOf p0 (max p1 p2) := ⟨_, rfl⟩
  have hq0 : 0 < q := by rw [hq]; unfold pOf; split <;> omega
  have hqb : q ≤ 64000000 := by rw [hq]; unfold pOf; split <;> omega
  rw [← hq]
  have hpq : pOf q p1 = q := by unfold pOf; rw [if_neg (by omega)]
  have HS := Lib.hid (fun (W : World) (k1 : FltR W b q m a0 f0 nz (.slice none 0 0) e0) (k2 : FloatAt W B1 g1 p1 m1 1 n1 M E) => setF_val b B g1 B1 q m f0 p1 m1 1 a0 e0 0 nz n1 M E W k1 hB (k2.val (fun _ => ⟨hM, hp1, by have := nw_bl hM; omega⟩)) hb1 (by decide) hp11 hp1' hqb hm (fun _ => by omega))
  rw [hpq, show stA 1 q m n1 M = rA q m n1 0 M from if_pos rfl] at HS
  clear hpq
  have hne1 : ¬ b = g1 := hb1
  have hne1' : ¬ g1 = b := fun h => hne1 h.symm
  have hne2 : ¬ b = g2 := hb2
  have hne2' : ¬ g2 = b := fun h => hne2 h.symm
  obtain ⟨r1, x1, hg1⟩ := h1.row
  obtain ⟨r2, x2, hg2⟩ := h2.row
  obtain ⟨c0, c1, c2, c3, c4, c5, c6⟩ := h.cells
  obtain ⟨f0', f1', f2', f3', f4', f5', f6'⟩ := h.free
  obtain ⟨y0, y1, y2, y3', y4, y5, y6⟩ := hg1.cells
  obtain ⟨z0, z1, z2, z3', z4, z5, z6⟩ := hg2.cells
  have y3 : w.cell? ⟨g1, 3, none⟩ = some (.int .u8 1) := y3'
  have z3 : w.cell? ⟨g2, 3, none⟩ = some (.int .u8 0) := z3'
  have HG1 := Lib.hid hg1
  have HG2 := Lib.hid hg2
  have HH := Lib.hid h
  have HX := Lib.hid h1
  have HY := Lib.hid h2
  clear h h1 h2 hg1 hg2 y3' z3' c1 c2 c5 c6 hM hp1 hbM hE
  by_cases hz : p0 = 0
  · have t0 : ((p0 : Int) == 0) = true := by rw [hz]; rfl
    have em : max (p1 : Int) (p2 : Int) = (q : Int) := by rw [hq]; unfold pOf; rw [if_pos hz]; omega
    clear hq hz
    go_enter Tryz.func33, Tryz.ntmps33
    go_wp2_with fail
    (refine wp_region_hoist 12 (by kernel_rfl) (by kernel_rfl) ⟨fun _ _ _ h => (by first | exact (hQp _ _ _ h).elim | cases h.2.1 | (obtain ⟨_, h3, _⟩ := h.2; cases h3)), fun _ _ h => (by first | exact (hQo _ _ h).elim | cases h.1 | (obtain ⟨_, h3, _⟩ := h; cases h3))⟩ ?_; simp only [List.take_succ_cons, List.take_zero, List.drop_succ_cons, List.drop_zero]; (repeat (go_big_quiet_step (fail))); refine wpQuiet_nil ?_; rintro _ ⟨nq, rfl⟩)
    generalize nq = na
    go_wp2_with fail
    go_quiet (fail)
    obtain ⟨W, hW⟩ : ∃ W, W = (((w.drewN na).setCell ⟨b, 0, none⟩ (.int .u32 (q : Int))).drewN nq) := ⟨_, rfl⟩
    rw [← hW]
    have hWh : FltR W b q m a0 f0 nz (.slice none 0 0) e0 := by rw [hW]; exact ((HH.out.drewN na).s0 q).drewN nq
    have hWB : Below B w W := by rw [hW]; exact undrewN' (bset (i := 0) (u := .int .u32 (q : Int)) (undrewN' (Below.refl B w)) hB)
    have hW1 : FltR W g1 p1 m1 0 1 n1 r1 x1 := by rw [hW]; exact ((heap_setCell_other _ _ _ _ (by simpa using hb1.symm)).trans HG1.out)
    have hW2 : FltR W g2 p2 m2 0 0 n2 r2 x2 := by rw [hW]; exact ((heap_setCell_other _ _ _ _ (by simpa using hb2.symm)).trans HG2.out)
    have HWA := Lib.hid (by rw [hW]; exact ((HH.out.drewN na).at 0 (.int .u32 (q : Int)) hb1 (HX.out.drewN na)).drewN nq : FloatAt W B1 g1 p1 m1 1 n1 M E)
    clear hW c0 c3 c4 f0' f1' f2' f3' f4' f5' f6' y0 y1 y2 y3 y4 y5 y6 z0 z1 z2 z3 z4 z5 z6
    obtain ⟨c0, c1, c2, c3, c4, c5, c6⟩ := hWh.cells
    obtain ⟨f0', f1', f2', f3', f4', f5', f6'⟩ := hWh.free
    obtain ⟨y0, y1, y2, y3', y4, y5, y6⟩ := hW1.cells
    obtain ⟨z0, z1, z2, z3', z4, z5, z6⟩ := hW2.cells
    have y3 : W.cell? ⟨g1, 3, none⟩ = some (.int .u8 1) := y3'
    have z3 : W.cell? ⟨g2, 3, none⟩ = some (.int .u8 0) := z3'
    have HWH := Lib.hid hWh
    have HWB := Lib.hid hWB
    clear y3' z3' hWh hWB hW1 hW2
    go_wp2_with fail
    refine (HS.out _ HWH.out HWA.out).mono ?_
    rintro _ w5 ⟨rfl, hv, hb5⟩
    have HV := Lib.hid hv
    have HB5 := Lib.hid (HWB.out.trans hb5)
    clear hv hb5
    go_wp2
    go_ret
    exact ⟨rfl, HV.out, HB5.out⟩
  · have t0 : ((p0 : Int) == 0) = false := by rw [beq_eq_false_iff_ne]; omega
    have hqq : q = p0 := by rw [hq]; unfold pOf; rw [if_neg hz]
    have hz' : ¬ q = 0 := by omega
    clear hq hz
    subst hqq
    go_enter Tryz.func33, Tryz.ntmps33
    go_wp2_with fail
    go_quiet (fail)
    obtain ⟨W, hW⟩ : ∃ W, W = (w.drewN nq) := ⟨_, rfl⟩
    rw [← hW]
    have hWh : FltR W b q m a0 f0 nz (.slice none 0 0) e0 := by rw [hW]; exact HH.out.drewN nq
    have hWB : Below B w W := by rw [hW]; exact undrewN' (Below.refl B w)
    have hW1 : FltR W g1 p1 m1 0 1 n1 r1 x1 := by rw [hW]; exact HG1.out
    have hW2 : FltR W g2 p2 m2 0 0 n2 r2 x2 := by rw [hW]; exact HG2.out
    have HWA := Lib.hid (by rw [hW]; exact HX.out.drewN nq : FloatAt W B1 g1 p1 m1 1 n1 M E)
    clear hW c0 c3 c4 f0' f1' f2' f3' f4' f5' f6' y0 y1 y2 y3 y4 y5 y6 z0 z1 z2 z3 z4 z5 z6
    obtain ⟨c0, c1, c2, c3, c4, c5, c6⟩ := hWh.cells
    obtain ⟨f0', f1', f2', f3', f4', f5', f6'⟩ := hWh.free
    obtain ⟨y0, y1, y2, y3', y4, y5, y6⟩ := hW1.cells
    obtain ⟨z0, z1, z2, z3', z4, z5, z6⟩ := hW2.cells
    have y3 : W.cell? ⟨g1, 3, none⟩ = some (.int .u8 1) := y3'
    have z3 : W.cell? ⟨g2, 3, none⟩ = some (.int .u8 0) := z3'
    have HWH := Lib.hid hWh
    have HWB := Lib.hid hWB
    clear y3' z3' hWh hWB hW1 hW2
    go_wp2_with fail
    refine (HS.out _ HWH.out HWA.out).mono ?_
    rintro _ w5 ⟨rfl, hv, hb5⟩
    have HV := Lib.hid hv
    have HB5 := Lib.hid (HWB.out.trans hb5)
    clear hv hb5
    go_wp2
    go_ret
    exact ⟨rfl, HV.out, HB5.out⟩
set_option maxRecDepth 100000 in
set_option maxHeartbeats 3200000 in
theorem subF_zf (b B B1 B2 g1 g2 p0 m p1 m1 p2 m2 f0 M N : Nat) (a0 e0 E F : Int) (nz n1 n2 : Bool) (w : World) (h : FltR w b p0 m a0 f0 nz (.slice none 0 0) e0) (hB : B ≤ b) (h1 : FloatAt w B1 g1 p1 m1 0 n1 M E) (h2 : FloatAt w B2 g2 p2 m2 1 n2 N F)
    (hN : 0 < N) (hp2 : bl N ≤ p2) (hbN : bl N ≤ 10000) (hF : -5000000 ≤ F ∧ F ≤ 5000000) (hb1 : b ≠ g1) (hb2 : b ≠ g2) (hp0 : p0 ≤ 64000000) (hp11 : 0 < p1) (hp1' : p1 ≤ 64000000) (hp22 : 0 < p2) (hp2' : p2 ≤ 64000000) (hm : m ≤ 5) :
    Calls Tryz.prog 33 #[.pointer (some ⟨b, 0, none⟩), .pointer (some ⟨g1, 0, none⟩), .pointer (some ⟨g2, 0, none⟩)] w fun e' w' => e' = .returned (.pointer (some ⟨b, 0, none⟩)) ∧
      FVal w' B b (pOf p0 (max p1 p2)) m (rA (pOf p0 (max p1 p2)) m n2 0 N) 1 (!n2) (rQ (pOf p0 (max p1 p2)) m n2 0 N) (F + rk (pOf p0 (max p1 p2)) N) ∧ Below B w w' := by
  obtain ⟨q, hq⟩ : ∃ q, q = pOf p0 (max p1 p2) := ⟨_, rfl⟩
  have hq0 : 0 < q := by rw [hq]; unfold pOf; split <;> omega
  have hqb : q ≤ 64000000 := by rw [hq]; unfold pOf; split <;> omega
  rw [← hq]
  have hpq : pOf q p2 = q := by unfold pOf; rw [if_neg (by omega)]
  have HS := Lib.hid (fun (W : World) (k1 : FltR W b q m a0 f0 nz (.slice none 0 0) e0) (k2 : FloatAt W B2 g2 p2 m2 1 n2 N F) => negF_val b B g2 B2 q m f0 p2 m2 1 a0 e0 0 nz n2 N F W k1 hB (k2.val (fun _ => ⟨hN, hp2, by have := nw_bl hN; omega⟩)) hb2 (by decide) hp22 hp2' hqb hm (fun _ => by omega))
  rw [hpq, show stA 1 q m n2 N = rA q m n2 0 N from if_pos rfl] at HS
  clear hpq
  have hne1 : ¬ b = g1 := hb1
  have hne1' : ¬ g1 = b := fun h => hne1 h.symm
  have hne2 : ¬ b = g2 := hb2
  have hne2' : ¬ g2 = b := fun h => hne2 h.symm
  obtain ⟨r1, x1, hg1⟩ := h1.row
  obtain ⟨r2, x2, hg2⟩ := h2.row
  obtain ⟨c0, c1, c2, c3, c4, c5, c6⟩ := h.cells
  obtain ⟨f0', f1', f2', f3', f4', f5', f6'⟩ := h.free
  obtain ⟨y0, y1, y2, y3', y4, y5, y6⟩ := hg1.cells
  obtain ⟨z0, z1, z2, z3', z4, z5, z6⟩ := hg2.cells
  have y3 : w.cell? ⟨g1, 3, none⟩ = some (.int .u8 0) := y3'
  have z3 : w.cell? ⟨g2, 3, none⟩ = some (.int .u8 1) := z3'
  have HG1 := Lib.hid hg1
  have HG2 := Lib.hid hg2
  have HH := Lib.hid h
  have HX := Lib.hid h1
  have HY := Lib.hid h2
  clear h h1 h2 hg1 hg2 y3' z3' c1 c2 c5 c6 hN hp2 hbN hF
  by_cases hz : p0 = 0
  · have t0 : ((p0 : Int) == 0) = true := by rw [hz]; rfl
    have em : max (p1 : Int) (p2 : Int) = (q : Int) := by rw [hq]; unfold pOf; rw [if_pos hz]; omega
    clear hq hz
    go_enter Tryz.func33, Tryz.ntmps33
    go_wp2_with fail
    (refine wp_region_hoist 12 (by kernel_rfl) (by kernel_rfl) ⟨fun _ _ _ h => (by first | exact (hQp _ _ _ h).elim | cases h.2.1 | (obtain ⟨_, h3, _⟩ := h.2; cases h3)), fun _ _ h => (by first | exact (hQo _ _ h).elim | cases h.1 | (obtain ⟨_, h3, _⟩ := h; cases h3))⟩ ?_; simp only [List.take_succ_cons, List.take_zero, List.drop_succ_cons, List.drop_zero]; (repeat (go_big_quiet_step (fail))); refine wpQuiet_nil ?_; rintro _ ⟨nq, rfl⟩)
    generalize nq = na
    go_wp2_with fail
    go_quiet (fail)
    obtain ⟨W, hW⟩ : ∃ W, W = (((w.drewN na).setCell ⟨b, 0, none⟩ (.int .u32 (q : Int))).drewN nq) := ⟨_, rfl⟩
    rw [← hW]
    have hWh : FltR W b q m a0 f0 nz (.slice none 0 0) e0 := by rw [hW]; exact ((HH.out.drewN na).s0 q).drewN nq
    have hWB : Below B w W := by rw [hW]; exact undrewN' (bset (i := 0) (u := .int .u32 (q : Int)) (undrewN' (Below.refl B w)) hB)
    have hW1 : FltR W g1 p1 m1 0 0 n1 r1 x1 := by rw [hW]; exact ((heap_setCell_other _ _ _ _ (by simpa using hb1.symm)).trans HG1.out)
    have hW2 : FltR W g2 p2 m2 0 1 n2 r2 x2 := by rw [hW]; exact ((heap_setCell_other _ _ _ _ (by simpa using hb2.symm)).trans HG2.out)
    have HWA := Lib.hid (by rw [hW]; exact ((HH.out.drewN na).at 0 (.int .u32 (q : Int)) hb2 (HY.out.drewN na)).drewN nq : FloatAt W B2 g2 p2 m2 1 n2 N F)
    clear hW c0 c3 c4 f0' f1' f2' f3' f4' f5' f6' y0 y1 y2 y3 y4 y5 y6 z0 z1 z2 z3 z4 z5 z6
    obtain ⟨c0, c1, c2, c3, c4, c5, c6⟩ := hWh.cells
    obtain ⟨f0', f1', f2', f3', f4', f5', f6'⟩ := hWh.free
    obtain ⟨y0, y1, y2, y3', y4, y5, y6⟩ := hW1.cells
    obtain ⟨z0, z1, z2, z3', z4, z5, z6⟩ := hW2.cells
    have y3 : W.cell? ⟨g1, 3, none⟩ = some (.int .u8 0) := y3'
    have z3 : W.cell? ⟨g2, 3, none⟩ = some (.int .u8 1) := z3'
    have HWH := Lib.hid hWh
    have HWB := Lib.hid hWB
    clear y3' z3' hWh hWB hW1 hW2
    go_wp2_with fail
    refine (HS.out _ HWH.out HWA.out).mono ?_
    rintro _ w5 ⟨rfl, hv, hb5⟩
    have HV := Lib.hid hv
    have HB5 := Lib.hid (HWB.out.trans hb5)
    clear hv hb5
    go_wp2
    go_ret
    exact ⟨rfl, HV.out, HB5.out⟩
  · have t0 : ((p0 : Int) == 0) = false := by rw [beq_eq_false_iff_ne]; omega
    have hqq : q = p0 := by rw [hq]; unfold pOf; rw [if_neg hz]
    have hz' : ¬ q = 0 := by omega
    clear hq hz
    subst hqq
    go_enter Tryz.func33, Tryz.ntmps33
    go_wp2_with fail
    go_quiet (fail)
    obtain ⟨W, hW⟩ : ∃ W, W = (w.drewN nq) := ⟨_, rfl⟩
    rw [← hW]
    have hWh : FltR W b q m a0 f0 nz (.slice none 0 0) e0 := by rw [hW]; exact HH.out.drewN nq
    have hWB : Below B w W := by rw [hW]; exact undrewN' (Below.refl B w)
    have hW1 : FltR W g1 p1 m1 0 0 n1 r1 x1 := by rw [hW]; exact HG1.out
    have hW2 : FltR W g2 p2 m2 0 1 n2 r2 x2 := by rw [hW]; exact HG2.out
    have HWA := Lib.hid (by rw [hW]; exact HY.out.drewN nq : FloatAt W B2 g2 p2 m2 1 n2 N F)
    clear hW c0 c3 c4 f0' f1' f2' f3' f4' f5' f6' y0 y1 y2 y3 y4 y5 y6 z0 z1 z2 z3 z4 z5 z6
    obtain ⟨c0, c1, c2, c3, c4, c5, c6⟩ := hWh.cells
    obtain ⟨f0', f1', f2', f3', f4', f5', f6'⟩ := hWh.free
    obtain ⟨y0, y1, y2, y3', y4, y5, y6⟩ := hW1.cells
    obtain ⟨z0, z1, z2, z3', z4, z5, z6⟩ := hW2.cells
    have y3 : W.cell? ⟨g1, 3, none⟩ = some (.int .u8 0) := y3'
    have z3 : W.cell? ⟨g2, 3, none⟩ = some (.int .u8 1) := z3'
    have HWH := Lib.hid hWh
    have HWB := Lib.hid hWB
    clear y3' z3' hWh hWB hW1 hW2
    go_wp2_with fail
    refine (HS.out _ HWH.out HWA.out).mono ?_
    rintro _ w5 ⟨rfl, hv, hb5⟩
    have HV := Lib.hid hv
    have HB5 := Lib.hid (HWB.out.trans hb5)
    clear hv hb5
    go_wp2
    go_ret
    exact ⟨rfl, HV.out, HB5.out⟩
/-- Sub of a new receiver and operands that are not infinite. -/
theorem subF_any (b B B1 B2 g1 g2 p0 m p1 m1 p2 m2 f0 f1 f2 M N : Nat) (a0 e0 E F : Int) (nz n1 n2 : Bool) (w : World) (h : FltR w b p0 m a0 f0 nz (.slice none 0 0) e0) (hB : B ≤ b) (hf1 : f1 ≤ 1) (hf2 : f2 ≤ 1) (h1 : FloatAt w B1 g1 p1 m1 f1 n1 M E) (h2 : FloatAt w B2 g2 p2 m2 f2 n2 N F)
    (k1 : f1 = 1 → 0 < M ∧ bl M ≤ p1 ∧ bl M ≤ 10000 ∧ -5000000 ≤ E ∧ E ≤ 5000000) (k2 : f2 = 1 → 0 < N ∧ bl N ≤ p2 ∧ bl N ≤ 10000 ∧ -5000000 ≤ F ∧ F ≤ 5000000) (hb1 : b ≠ g1) (hb2 : b ≠ g2) (hp0 : p0 ≤ 64000000) (hp11 : 0 < p1) (hp1' : p1 ≤ 64000000) (hp22 : 0 < p2) (hp2' : p2 ≤ 64000000) (hm : m ≤ 5) (hx : f1 = 1 ∨ f2 = 0) :
    Calls Tryz.prog 33 #[.pointer (some ⟨b, 0, none⟩), .pointer (some ⟨g1, 0, none⟩), .pointer (some ⟨g2, 0, none⟩)] w fun e' w' => e' = .returned (.pointer (some ⟨b, 0, none⟩)) ∧
      AddR w' B b (pOf p0 (max p1 p2)) m (if f1 = 1 then decide (m = 4) else n1 && (!n2)) (smV (dyN f1 n1) (dyM f1 M) (dyE f1 E) (!dyN f2 n2) (dyM f2 N) (dyE f2 F)) (min (dyE f1 E) (dyE f2 F)) ∧ Below B w w' := by
  have q0 : 0 < pOf p0 (max p1 p2) := by unfold pOf; split <;> omega
  rcases (by omega : f1 = 0 ∨ f1 = 1) with rfl | rfl <;> rcases (by omega : f2 = 0 ∨ f2 = 1) with rfl | rfl
  · refine (subF_zz b B B1 B2 g1 g2 p0 m p1 m1 p2 m2 f0 M N a0 e0 E F nz n1 n2 w h hB h1 h2 hb1 hb2 hp0 hp11 hp1' hp22 hp2' hm).mono ?_
    rintro _ w' ⟨rfl, k, hb⟩
    refine ⟨rfl, (AddR.zero (B := B) (X := 0) k).cast ?_ rfl, hb⟩
    rfl
  · exact absurd hx (by omega)
  · obtain ⟨x1, x2, x3, x4, x5⟩ := k1 rfl
    refine (subF_fz b B B1 B2 g1 g2 p0 m p1 m1 p2 m2 f0 M N a0 e0 E F nz n1 n2 w h hB h1 h2 x1 x2 x3 ⟨x4, x5⟩ hb1 hb2 hp0 hp11 hp1' hp22 hp2' hm).mono ?_
    rintro _ w' ⟨rfl, k, hb⟩
    have hl : min E 0 ≤ E := by omega
    refine ⟨rfl, (AddR.pos (lo_pos x1) (fval_trans k x1 (deq_low hl))).cast ?_ rfl, hb⟩
    unfold smV
    show sI n1 (lo M E (min E 0)) = sI n1 (lo M E (min E 0)) + sI _ (lo 0 0 (min E 0))
    rw [lo_zero, sI_zero, Int.add_zero]
  · obtain ⟨x1, x2, x3, x4, x5⟩ := k1 rfl
    obtain ⟨y1, y2, y3, y4, y5⟩ := k2 rfl
    exact subF_ff b B B1 B2 g1 g2 p0 m p1 m1 p2 m2 f0 M N a0 e0 E F nz n1 n2 w h hB h1 h2 x1 y1 x2 y2 x3 y3 ⟨by omega, by omega⟩ ⟨⟨by omega, by omega⟩, by omega, by omega⟩ hb1 hb2 hp0 hp1' hp2' hm
end Go.Proofs.YtgbmlaffilccnaaGreatDoor

/-
The thin package's Sub. No condition.
-/
namespace Go.Proofs.YtgbmlaffilccnaaGreatDoor
open Go.RowKit

set_option maxRecDepth 100000 in
set_option maxHeartbeats 6400000 in
theorem impSubG (P E q k p1 m1 f1 p2 m2 f2 : Nat) (n1 n2 zz : Bool) (v1 v2 : Value) (e1 e2 VV XY : Int) (xs ys : List Nat) (w : World) (hv1 : RW w v1 xs) (hv2 : RW w v2 ys) (ho1 : RealOk P E p1 m1 f1 xs e1) (ho2 : RealOk P E p2 m2 f2 ys e2) (_hf1 : f1 ≤ 1) (_hf2 : f2 ≤ 1) (hP : P ≤ 9000) (hE : E ≤ 1040000000) (hq : q ≤ 1000000) (hk : k ≤ 5) (hT : TabW w) (hVb : bl VV.natAbs ≤ 1000000) (hXb : -2120000000 ≤ XY ∧ XY ≤ 2120000000)
    (hAdd : ∀ (W : World) (b B B1 B2 g1 g2 : Nat), FltR W b q k 0 0 false (.slice none 0 0) 0 → B ≤ b → FloatAt W B1 g1 p1 m1 f1 n1 (wv xs) e1 → FloatAt W B2 g2 p2 m2 f2 n2 (wv ys) e2 → b ≠ g1 → b ≠ g2 →
      Calls Tryz.prog 33 #[.pointer (some ⟨b, 0, none⟩), .pointer (some ⟨g1, 0, none⟩), .pointer (some ⟨g2, 0, none⟩)] W fun e' w' => e' = .returned (.pointer (some ⟨b, 0, none⟩)) ∧ AddR w' B b (pOf q (max p1 p2)) k zz VV XY ∧ Below B W w') :
    Calls Tryz.prog 14 #[.int .u64 q, .int .i64 k, .agg #[.int .u64 p1, .int .i64 m1, .int .i64 f1, .bool n1, v1, .int .i64 e1], .agg #[.int .u64 p2, .int .i64 m2, .int .i64 f2, .bool n2, v2, .int .i64 e2]] w fun e' w' => ∃ z A, e' = .returned (.tuple #[z, .int .i64 A]) ∧ AddZ w' z A (pOf q (max p1 p2)) k zz VV XY ∧ Below w.heap.size w w' := by
  have hS1 := hv1.isS
  have hS2 := hv2.isS
  have hab := (Below.refl w.heap.size w).alloc (Nat.le_refl _) (.cells #[.int .u64 p1, .int .i64 m1, .int .i64 f1, .bool n1, v1, .int .i64 e1] 26)
  have hac := hab.alloc hab.size (.cells #[.int .u64 p2, .int .i64 m2, .int .i64 f2, .bool n2, v2, .int .i64 e2] 26)
  have had := hac.alloc hac.size (.cells #[.int .u64 0, .int .i64 0, .int .i64 0, .bool false, .slice none 0 0, .int .i64 0] 26)
  obtain ⟨X, hX⟩ : ∃ X, X = ((w.alloc (.cells #[.int .u64 p1, .int .i64 m1, .int .i64 f1, .bool n1, v1, .int .i64 e1] 26)).alloc (.cells #[.int .u64 p2, .int .i64 m2, .int .i64 f2, .bool n2, v2, .int .i64 e2] 26)).alloc (.cells #[.int .u64 0, .int .i64 0, .int .i64 0, .bool false, .slice none 0 0, .int .i64 0] 26) := ⟨_, rfl⟩
  have hr1 : X.heap[w.heap.size]? = some (.cells #[.int .u64 p1, .int .i64 m1, .int .i64 f1, .bool n1, v1, .int .i64 e1] 26 (0, 0)) := by
    rw [hX]; exact row_chain31
  have hr2 : X.heap[w.heap.size + 1]? = some (.cells #[.int .u64 p2, .int .i64 m2, .int .i64 f2, .bool n2, v2, .int .i64 e2] 26 (0, 0)) := by
    rw [hX]; exact row_chain32
  have hr3 : X.heap[w.heap.size + 2]? = some (.cells #[.int .u64 0, .int .i64 0, .int .i64 0, .bool false, .slice none 0 0, .int .i64 0] 26 (0, 0)) := by
    rw [hX]; exact row_chain33
  rw [← hX] at had
  have V1 := Lib.hid (hv1.below had)
  have V2 := Lib.hid (hv2.below had)
  have HO1 := Lib.hid ho1
  have HO2 := Lib.hid ho2
  have HT := Lib.hid (hT.below had)
  have HR1 := Lib.hid hr1
  have HR2 := Lib.hid hr2
  have HR3 := Lib.hid hr3
  have hwX := Lib.hid had
  have hcc := Below.refl X.heap.size X
  have hXs := had.size
  have hN1 := Lib.hid (show w.heap.size + 2 ≠ w.heap.size by omega)
  have hN2 := Lib.hid (show w.heap.size + 2 ≠ w.heap.size + 1 by omega)
  have hX2 : w.heap.size + 3 ≤ X.heap.size := by rw [hX]; simp
  have hp1 : 0 < p1 := ho1.1
  have hp2 : 0 < p2 := ho2.1
  have hpP1 : p1 ≤ 9000 := Nat.le_trans ho1.2.1 hP
  have hpP2 : p2 ≤ 9000 := Nat.le_trans ho2.2.1 hP
  obtain ⟨V, hV⟩ : ∃ V, V = VV := ⟨_, rfl⟩
  obtain ⟨XX, hXX⟩ : ∃ XX, XX = XY := ⟨_, rfl⟩
  obtain ⟨zn, hzn⟩ : ∃ zn, zn = zz := ⟨_, rfl⟩
  have HXB : Hid (bl V.natAbs ≤ 1000000 ∧ -2120000000 ≤ XX ∧ XX ≤ 2120000000) := Lib.hid (by rw [hV, hXX]; exact ⟨hVb, hXb⟩)
  have hpo : pOf q (max p1 p2) ≤ 1000000 ∧ 0 < pOf q (max p1 p2) := by unfold pOf; split <;> omega
  obtain ⟨Z, hZ⟩ : ∃ Z, Z = pOf q (max p1 p2) := ⟨_, rfl⟩
  rw [← hZ] at hpo
  have HPO := Lib.hid hpo
  obtain ⟨A, hA⟩ : ∃ A, A = rA Z k (vN V) 0 V.natAbs := ⟨_, rfl⟩
  have hAb : -1 ≤ A ∧ A ≤ 1 := by rw [hA]; exact rA_bd _ _ _ _ _
  obtain ⟨f, hf⟩ : ∃ f, f = fO V.natAbs := ⟨_, rfl⟩
  have hf2' : f ≤ 2 := by rw [hf]; unfold fO; split <;> omega
  obtain ⟨sg, hsg⟩ : ∃ sg, sg = (if V = 0 then zn else vN V) := ⟨_, rfl⟩
  obtain ⟨R, hR⟩ : ∃ R, R = rQ Z k (vN V) 0 V.natAbs := ⟨_, rfl⟩
  obtain ⟨RX, hRX⟩ : ∃ RX, RX = XX + rk Z V.natAbs := ⟨_, rfl⟩
  have HRB : Hid (-2140000000 ≤ RX ∧ RX + bl R ≤ 2140000000) := Lib.hid (by rw [hRX, hR]; exact rQ_range HXB.out)
  have HIN := Lib.hid (fun (w' : World) (b : Nat) (h : AddR w' X.heap.size b Z k zn V XX) => (by unfold AddR at h; rw [← hA, ← hf, ← hsg, ← hR, ← hRX] at h; exact h : FVal w' X.heap.size b Z k A f sg R RX))
  have HOUT := Lib.hid (fun (w' : World) (z : Value) (h : RealV w' z Z k f sg R RX) => (by unfold AddZ; rw [← hA, ← hf, ← hsg, ← hR, ← hRX]; exact ⟨rfl, h⟩ : AddZ w' z A Z k zn V XX))
  have HADD := Lib.hid (fun (W : World) (b g1 g2 B1 B2 : Nat) (h : FltR W b q k 0 0 false (.slice none 0 0) 0) (hB : X.heap.size ≤ b) (h1 : FloatAt W B1 g1 p1 m1 f1 n1 (wv xs) e1) (h2 : FloatAt W B2 g2 p2 m2 f2 n2 (wv ys) e2) (hb1 : b ≠ g1) (hb2 : b ≠ g2) =>
    hAdd W b X.heap.size B1 B2 g1 g2 h hB h1 h2 hb1 hb2)
  rw [← hzn, ← hV, ← hXX, ← hZ] at HADD
  rw [← hzn, ← hV, ← hXX, ← hZ]
  clear hv1 hv2 ho1 ho2 hab hac had hr1 hr2 hr3 hT hpo hVb hXb hAdd hV hXX hzn hZ hA hf hsg hR hRX
  go_enter Tryz.func14, Tryz.ntmps14
  go_upto_region 1 with fail
  rw [← hX]
  clear hX
  first
    | (go_region_held3 (fun w' => (w'.cell? ⟨w.heap.size, 0, none⟩ = some (.int .u64 (p1 : Int)) ∧ w'.cell? ⟨w.heap.size, 1, none⟩ = some (.int .i64 (m1 : Int)) ∧ w'.cell? ⟨w.heap.size, 2, none⟩ = some (.int .i64 (f1 : Int)) ∧ w'.cell? ⟨w.heap.size, 3, none⟩ = some (.bool n1) ∧ w'.cell? ⟨w.heap.size, 4, none⟩ = some v1 ∧ w'.cell? ⟨w.heap.size, 5, none⟩ = some (.int .i64 e1)) ∧ (w'.cell? ⟨w.heap.size + 1, 0, none⟩ = some (.int .u64 (p2 : Int)) ∧ w'.cell? ⟨w.heap.size + 1, 1, none⟩ = some (.int .i64 (m2 : Int)) ∧ w'.cell? ⟨w.heap.size + 1, 2, none⟩ = some (.int .i64 (f2 : Int)) ∧ w'.cell? ⟨w.heap.size + 1, 3, none⟩ = some (.bool n2) ∧ w'.cell? ⟨w.heap.size + 1, 4, none⟩ = some v2 ∧ w'.cell? ⟨w.heap.size + 1, 5, none⟩ = some (.int .i64 e2)))
        ((first | (refine ksT2 HR1.out HR2.out ?_; with_reducible first | assumption | exact Below.drew hcc) | with_reducible exact ⟨ks6R hN1.out (ks6R hN1.out (ks6R hN1.out (ks6R hN1.out (ks6R hN1.out (ks6R hN1.out (ks12 HR1.out hb7).2))))), ks6R hN2.out (ks6R hN2.out (ks6R hN2.out (ks6R hN2.out (ks6R hN2.out (ks6R hN2.out (ks12 HR2.out hb7).2)))))⟩))
        (first
          | (go_at_call 17; (with_reducible refine (float_any P E p2 m2 f2 n2 v2 e2 ys _ (V2.out.below hb4) HO2.out (by omega) (by omega)).mono ?_); rintro _ w5 ⟨g2, rfl, hF2, hb5⟩; have G0' := Lib.hid (G0.out.below hb5); have G1' := Lib.hid (G1.out.below hb5); have G2 := Lib.hid hF2; have hne2 := Lib.hid (show g0 ≠ g2 by have := G0.out.lt; have := hF2.1; omega); clear hF2; have hb5 := bthen hb4 hb5)
          | (go_at_call 17; (with_reducible refine (float_any P E p1 m1 f1 n1 v1 e1 xs _ (V1.out.below hb3) HO1.out (by omega) (by omega)).mono ?_); rintro _ w4 ⟨g1, rfl, hF1, hb4⟩; have G0 := Lib.hid (GF.out.below hb4); have G1 := Lib.hid hF1; have hne1 := Lib.hid (show g0 ≠ g1 by have := GF.out.lt; have := hF1.1; omega); clear hF1; have hb4 := bthen hb3 hb4)
          | (go_at_call 19; refine (fresh_all q k _ (by omega) (by omega)).mono ?_; rintro _ w3 ⟨g0, rfl, ⟨hg0, hF0⟩, hb3⟩; have hg0X : X.heap.size ≤ g0 := (by rw [hg0]; exact Nat.le_refl _); clear hg0; have GF := Lib.hid hF0; clear hF0; have hb3 : Below X.heap.size X w3 := bthen (Below.drew hcc) hb3)
          | (go_at_call 33; (with_reducible refine (HADD.out _ g0 g1 g2 _ _ G0'.out hg0X G1'.out G2.out hne1.out hne2.out).mono ?_); rintro _ w6 ⟨rfl, hA6, hb6⟩; have F6 := Lib.hid (HIN.out _ _ hA6); clear hA6; have hb6 := bthenX hb5 hb6)
          | (go_at_call 32; (with_reducible refine (implBoth _ g0 Z k f A _ _ _ _ F6.out hf2' (by have := HPO.out; omega) (by omega) (fun _ => HPO.out.2) (fun _ => HRB.out) (HT.out.below hb6) hAb).mono ?_); rintro _ w7 ⟨z, rfl, hz, hb7⟩; have hb7 := bthen hb6 hb7; have hq2 := keep_row hb7 HR3.out; obtain ⟨vz, Ez, zs, Bz, rfl, hz2, hzd, hz3, hz4⟩ := hz; have hSz := hz2.isS; obtain ⟨⟨y0, y1, y2, y3, y4, y5⟩, s0, s1, s2, s3, s4, s5⟩ := row6 hq2; have H2 := Lib.hid hz2; have H34 := Lib.hid (And.intro hzd (And.intro hz3 hz4)); have HQ2 := Lib.hid hq2; clear hz2 hzd hz3 hz4 hq2)))
    | fail
  all_goals go_wp2_with fail
  all_goals
    have HS := row6_set (x := .int .u64 (Z : Int)) (y := .int .i64 (k : Int)) (z := .int .i64 (f : Int)) (x' := .bool sg) (y' := vz) (z' := .int .i64 Ez) HQ2.out
    have HB := bset6 (x := .int .u64 (Z : Int)) (y := .int .i64 (k : Int)) (z := .int .i64 (f : Int)) (x' := .bool sg) (y' := vz) (z' := .int .i64 Ez) (hwX.out.trans (hb7.mono hXs)) (Nat.le_trans (Nat.le_succ _) (Nat.le_succ _))
    obtain ⟨⟨a0, a1, a2, a3, a4, a5⟩, -⟩ := row6 HS
    refine bodyPost_ret (v := .tuple #[.agg #[.int .u64 Z, .int .i64 k, .int .i64 f, .bool sg, vz, .int .i64 Ez], .int .i64 A]) ?_ rfl ⟨_, _, rfl, HOUT.out _ _ ⟨_, _, _, Bz, rfl, ?_, H34.out.1, H34.out.2⟩, HB⟩
    · simp [results, Tryz.results14, go_sem, a0, a1, a2, a3, a4, a5]
    · exact H2.out.same fun hc => by
        have hne : sBlk vz ≠ w.heap.size + 2 := H2.out.ne_row HQ2.out (by decide) hc
        exact heap6_other hne
theorem impSub (P E q k p1 m1 f1 p2 m2 f2 : Nat) (n1 n2 : Bool) (v1 v2 : Value) (e1 e2 : Int) (xs ys : List Nat) (w : World) (hv1 : RW w v1 xs) (hv2 : RW w v2 ys) (ho1 : RealOk P E p1 m1 f1 xs e1) (ho2 : RealOk P E p2 m2 f2 ys e2) (hf1 : f1 ≤ 1) (hf2 : f2 ≤ 1) (hP : P ≤ 9000) (hE : E ≤ 400000) (hq : q ≤ 1000000) (hk : k ≤ 5) (hx : f1 = 1 ∨ f2 = 0) (hT : TabW w) :
    Calls Tryz.prog 14 #[.int .u64 q, .int .i64 k, .agg #[.int .u64 p1, .int .i64 m1, .int .i64 f1, .bool n1, v1, .int .i64 e1], .agg #[.int .u64 p2, .int .i64 m2, .int .i64 f2, .bool n2, v2, .int .i64 e2]] w fun e' w' => ∃ z A, e' = .returned (.tuple #[z, .int .i64 A]) ∧ AddZ w' z A (pOf q (max p1 p2)) k (if f1 = 1 then decide (k = 4) else n1 && (!n2)) (smV (dyN f1 n1) (dyM f1 (wv xs)) (dyE f1 e1) (!dyN f2 n2) (dyM f2 (wv ys)) (dyE f2 e2)) (min (dyE f1 e1) (dyE f2 e2)) ∧ Below w.heap.size w w' := by
  have K1 : f1 = 1 → 0 < wv xs ∧ bl (wv xs) ≤ p1 ∧ bl (wv xs) ≤ 10000 ∧ -5000000 ≤ e1 ∧ e1 ≤ 5000000 := fun h1 => by
    have h2 := ho1.2.1
    obtain ⟨_, _, _, h | h | h⟩ := ho1 <;> omega
  have K2 : f2 = 1 → 0 < wv ys ∧ bl (wv ys) ≤ p2 ∧ bl (wv ys) ≤ 10000 ∧ -5000000 ≤ e2 ∧ e2 ≤ 5000000 := fun h1 => by
    have h2 := ho2.2.1
    obtain ⟨_, _, _, h | h | h⟩ := ho2 <;> omega
  have hbd1 := dy_bd ho1
  have hbd2 := dy_bd ho2
  have hblV := smV_bl (dyN f1 n1) (dyM f1 (wv xs)) (dyE f1 e1) (!dyN f2 n2) (dyM f2 (wv ys)) (dyE f2 e2)
  have hp1 := ho1.2.1
  have hp2 := ho2.2.1
  refine impSubG P E q k p1 m1 f1 p2 m2 f2 n1 n2 _ v1 v2 e1 e2 _ _ xs ys w hv1 hv2 ho1 ho2 hf1 hf2 hP (by omega) hq hk hT ?_ ?_ ?_
  · omega
  · omega
  · intro W b B B1 B2 g1 g2 h hB h1 h2 hb1 hb2
    exact subF_any b B B1 B2 g1 g2 q k p1 m1 p2 m2 0 f1 f2 (wv xs) (wv ys) 0 0 e1 e2 false n1 n2 W h hB hf1 hf2 h1 h2 K1 K2 hb1 hb2 (by omega) ho1.1 (by omega) ho2.1 (by omega) hk hx
end Go.Proofs.YtgbmlaffilccnaaGreatDoor

/-
Rounding of a value told at a lower exponent. Plain law. No condition.
-/
namespace Go.Proofs.YtgbmlaffilccnaaGreatDoor
open Go.RowKit

theorem rV_zero (p m : Nat) : rV p m 0 = 0 := by
  unfold rV
  rw [Int.natAbs_zero, (rQ_zero p m (vN 0)).2.1, Nat.zero_mul, sI_zero]
theorem sI_mul (n : Bool) (x y : Nat) : sI n (x * y) = sI n x * (y : Int) := by cases n <;> simp [sI, Int.neg_mul]
theorem sI_vN (V : Int) : sI (vN V) V.natAbs = V := by
  unfold vN
  by_cases h : V < 0
  · rw [decide_eq_true h]; simp only [sI, if_true]; omega
  · rw [decide_eq_false h]; simp only [sI, Bool.false_eq_true, if_false]; omega
theorem rV_sI {p m M : Nat} {n : Bool} (h : 0 < M) : rV p m (sI n M) = sI n (rQ p m n 0 M * 2 ^ rk p M) := by
  unfold rV; rw [natAbs_sI, vN_sI h]
/-- Rounding of a value that is told at a lower exponent. -/
theorem rV_shl (p m : Nat) (V : Int) (t : Nat) : rV p m (V * ((2 ^ t : Nat) : Int)) = rV p m V * ((2 ^ t : Nat) : Int) := by
  rcases Nat.eq_zero_or_pos V.natAbs with h0 | h0
  · have hV : V = 0 := by omega
    rw [hV, Int.zero_mul, rV_zero, Int.zero_mul]
  · obtain ⟨n, M, hn, hM⟩ : ∃ n M, sI n M = V ∧ 0 < M := ⟨vN V, V.natAbs, sI_vN V, h0⟩
    rw [← hn, ← sI_mul, rV_sI hM, rV_sI (Nat.mul_pos hM (Nat.two_pow_pos t)), ← sI_mul]
    have h1 := (rnd_shl (p := p) (m := m) n hM t 0).1
    have h2 := deq_lift h1 (e := 0) (by omega) (by omega)
    rw [show (0 + ((rk p (M * 2 ^ t) : Nat) : Int) - 0).toNat = rk p (M * 2 ^ t) by omega, show (0 + (t : Int) + ((rk p M : Nat) : Int) - 0).toNat = rk p M + t by omega, Nat.pow_add, ← Nat.mul_assoc] at h2
    rw [h2]
end Go.Proofs.YtgbmlaffilccnaaGreatDoor

/-
The statements on Neg and Abs. No condition.
-/
namespace Go.Proofs.YtgbmlaffilccnaaGreatDoor
open Go.RowKit

theorem told_dyW {w : World} {z : Value} {p m f M : Nat} {n x : Bool} {e : Int} (hf : f = 0 ∨ f = 1) (hz : RealV w z p m f x (rQ p m n 0 M) (e + (rk p M : Nat))) (hM : f = 1 → 0 < M) (hp : 0 < p) (y : Bool) (hy : f = 1 → x = y) :
    Told w z p m y (rQ p m (dyN f n) 0 (dyM f M)) (dyE f e + (rk p (dyM f M) : Nat)) := by
  rcases hf with rfl | rfl
  · obtain ⟨h1, h2, -⟩ := rQ_zero p m (dyN 0 n)
    rw [show dyM 0 M = 0 from rfl, h2]
    exact hz.told0
  · rw [show dyN 1 n = n from rfl, show dyM 1 M = M from rfl, show dyE 1 e = e from rfl, ← hy rfl]
    exact hz.told (rQ_pos n 0 hp (hM rfl)) (deq.refl _ _)
theorem ks15 {W X : World} {i j k : Nat} {a b c d e f a' b' c' d' e' f' x y z : Value} {T T' U : TypeId} (hr : W.heap[i]? = some (.cells #[a, b, c, d, e, f] T (0, 0))) (hq : W.heap[j]? = some (.cells #[a', b', c', d', e', f'] T' (0, 0))) (hs : W.heap[k]? = some (.cells #[x, y, z] U (0, 0))) (h : Below W.heap.size W X) :
    Below W.heap.size W X ∧ (X.cell? ⟨i, 0, none⟩ = some a ∧ X.cell? ⟨i, 1, none⟩ = some b ∧ X.cell? ⟨i, 2, none⟩ = some c ∧ X.cell? ⟨i, 3, none⟩ = some d ∧ X.cell? ⟨i, 4, none⟩ = some e ∧ X.cell? ⟨i, 5, none⟩ = some f) ∧
    (X.cell? ⟨j, 0, none⟩ = some a' ∧ X.cell? ⟨j, 1, none⟩ = some b' ∧ X.cell? ⟨j, 2, none⟩ = some c' ∧ X.cell? ⟨j, 3, none⟩ = some d' ∧ X.cell? ⟨j, 4, none⟩ = some e' ∧ X.cell? ⟨j, 5, none⟩ = some f') ∧
    (X.cell? ⟨k, 0, none⟩ = some x ∧ X.cell? ⟨k, 1, none⟩ = some y ∧ X.cell? ⟨k, 2, none⟩ = some z) :=
  ⟨h, (ks12 hr h).2, (ks12 hq h).2, (row_at (keep_row h hs) rfl).1, (row_at (keep_row h hs) rfl).1, (row_at (keep_row h hs) rfl).1⟩
end Go.Proofs.YtgbmlaffilccnaaGreatDoor

/-
The statements on SetMantExp and MantExp. No condition.
-/
namespace Go.Proofs.YtgbmlaffilccnaaGreatDoor
open Go.RowKit

theorem dy_one {f M : Nat} {n : Bool} {e : Int} (h : f = 1) : dyN f n = n ∧ dyM f M = M ∧ dyE f e = e := by subst h; exact ⟨rfl, rfl, rfl⟩
theorem RealV.told1 {w : World} {z : Value} {p m f M x : Nat} {neg : Bool} {X e : Int} (hf : f = 1) (h : RealV w z p m f neg M X) (hM : 0 < M) (hq : deq M X x e) : Told w z p m neg x e := by subst hf; exact h.told hM hq
theorem RealOk.one {P E p m f : Nat} {ws : List Nat} {e : Int} (h : RealOk P E p m f ws e) (hf : f = 1) : 0 < wv ws ∧ bl (wv ws) ≤ p ∧ bl (wv ws) ≤ P ∧ ws.length ≤ 1000000 ∧ -(E : Int) ≤ e ∧ e ≤ E := by
  subst hf
  obtain ⟨-, h2, -, h | h | h⟩ := h
  · exact absurd h (by decide)
  · exact absurd h (by decide)
  · exact ⟨h.2.1, h.2.2.1, Nat.le_trans h.2.2.1 h2, h.2.2.2⟩
theorem RealV.ok {w : World} {z : Value} {p m f M P E : Nat} {neg : Bool} {X : Int} (h : RealV w z p m f neg M X) (hp0 : 0 < p) (hp : p ≤ P) (hm : m ≤ 5) (hf : f ≤ 2) (h1 : f = 1 → 0 < M ∧ bl (od M) ≤ p ∧ bl M ≤ 60000000 ∧ -(E : Int) ≤ X ∧ X + bl M ≤ E) :
    ∃ (v : Value) (Ez : Int) (zs : List Nat), z = .agg #[.int .u64 p, .int .i64 m, .int .i64 f, .bool neg, v, .int .i64 Ez] ∧ RW w v zs ∧ RealOk P E p m f zs Ez ∧ (f = 1 → wv zs = od M ∧ zs = wds (od M) ∧ Ez = X + (tz M : Nat) ∧ deq (wv zs) Ez M X) ∧ (f ≠ 1 → zs = [] ∧ Ez = 0) := by
  obtain ⟨v, Ez, zs, B, e1, e2, e3, e4, e5⟩ := h
  refine ⟨v, Ez, zs, e1, e2.rw' e3, ⟨hp0, hp, hm, ?_⟩, fun hf1 => ?_, e4⟩
  · by_cases hf1 : f = 1
    · obtain ⟨k1, k2, k3, k4, k5⟩ := h1 hf1
      obtain ⟨l1, l2⟩ := e5 hf1
      have l3 := tz_le k1
      refine .inr (.inr ⟨hf1, ?_, ?_, ?_, ?_, ?_⟩)
      · rw [l1, wv_wds]; exact od_pos k1
      · rw [l1, wv_wds]; exact k2
      · rw [l1, wds_length, nw_bl (od_pos k1)]
        have : bl (od M) ≤ bl M := by have := bl_od k1; omega
        omega
      · omega
      · omega
    · omega
  · obtain ⟨k1, k2, k3, k4, k5⟩ := h1 hf1
    obtain ⟨l1, l2⟩ := e5 hf1
    have l3 : wv zs = od M := by rw [l1, wv_wds]
    refine ⟨l3, l1, l2, ?_⟩
    rw [l3, l2]; exact (od_deq k1 X).symm
end Go.Proofs.YtgbmlaffilccnaaGreatDoor

/-
The statement on rounding twice. No condition.
-/
namespace Go.Proofs.YtgbmlaffilccnaaGreatDoor
open Go.RowKit

theorem od_rQ {p m M : Nat} (n : Bool) (s : Nat) (hp0 : 0 < p) (hM : 0 < M) : bl (od (rQ p m n s M)) ≤ p ∨ s ≠ 0 := by
  by_cases hs : s = 0
  · subst hs
    left
    by_cases h : bl M ≤ p
    · rw [(rQ_fits (m := m) n h).2.1]
      have := bl_od hM; omega
    · have h3 := (rQ_bound (m := m) n 0 hp0 (show p < bl M by omega)).2.2
      have h0 := rQ_pos (m := m) n 0 hp0 hM
      by_cases he : rQ p m n 0 M = 2 ^ p
      · have := (od_of (n := rQ p m n 0 M) (o := 1) (t := p) (by rw [Nat.one_mul]; exact he) (by decide)).1
        rw [this]; have : bl 1 ≤ 1 := bl_le (by decide)
        omega
      · have h4 : bl (rQ p m n 0 M) ≤ p := bl_le (by omega)
        have := bl_od h0; omega
  · exact .inr hs
theorem twice_eq {w : World} {y : Value} {p j f : Nat} {n : Bool} {zs : List Nat} {Ez : Int} (h : RealV w y p j f n (rQ p j n 0 (wv zs)) (Ez + (rk p (wv zs) : Nat))) (h1 : f = 1 → bl (wv zs) ≤ p ∧ wv zs % 2 = 1 ∧ zs = wds (wv zs)) (h0 : f ≠ 1 → zs = [] ∧ Ez = 0) :
    stA f p j n (wv zs) = 0 ∧ ∃ vy, y = .agg #[.int .u64 p, .int .i64 j, .int .i64 f, .bool n, vy, .int .i64 Ez] ∧ RW w vy zs := by
  obtain ⟨v, E, ys, B, e1, e2, e3, e4, e5⟩ := h
  by_cases hf : f = 1
  · obtain ⟨k1, k2, k3⟩ := h1 hf
    obtain ⟨l1, l2, l3⟩ := rQ_fits (p := p) (m := j) n k1
    obtain ⟨g1, g2⟩ := e5 hf
    rw [l2] at g1 g2
    obtain ⟨o1, o2⟩ := od_of (n := wv zs) (o := wv zs) (t := 0) (by simp) k2
    rw [o1, ← k3] at g1
    rw [o2, l1] at g2
    refine ⟨by unfold stA; rw [if_pos hf]; exact l3, v, ?_, ?_⟩
    · rw [e1, show E = Ez by simpa using g2]
    · rw [← g1]; exact e2.rw' e3
  · obtain ⟨g1, g2⟩ := e4 hf
    obtain ⟨k1, k2⟩ := h0 hf
    refine ⟨by unfold stA; rw [if_neg hf], v, ?_, ?_⟩
    · rw [e1, g2, k2]
    · rw [k1, ← g1]; exact e2.rw' e3
end Go.Proofs.YtgbmlaffilccnaaGreatDoor

/-
A rounded sum as the next operand. No condition.
-/
namespace Go.Proofs.YtgbmlaffilccnaaGreatDoor
open Go.RowKit

/-- A rounded sum as the next call's argument. -/
theorem AddZ.ok {w : World} {z : Value} {A : Int} {q m P : Nat} {zn : Bool} {V X : Int} (h : AddZ w z A q m zn V X) (hq0 : 0 < q) (hqP : q ≤ P) (hm : m ≤ 5) (hb : bl V.natAbs ≤ 100000) (hX : -100000 ≤ X ∧ X ≤ 100000) :
    ∃ (f : Nat) (n : Bool) (v : Value) (Ez : Int) (zs : List Nat), z = .agg #[.int .u64 q, .int .i64 m, .int .i64 f, .bool n, v, .int .i64 Ez] ∧ RW w v zs ∧ RealOk P 1000000 q m f zs Ez ∧ f ≤ 1 ∧ (f = 1 → 0 < wv zs ∧ X ≤ Ez) ∧
      ∀ e, e ≤ X → (if f = 1 then sI n (wv zs * 2 ^ (Ez - e).toNat) else 0) = rV q m (V * ((2 ^ (X - e).toNat : Nat) : Int)) := by
  obtain ⟨-, h⟩ := h
  have hf1 : fO V.natAbs ≤ 1 := by unfold fO; split <;> omega
  have h1 := rk_le q V.natAbs
  have h2 := bl_rQ q m (vN V) 0 V.natAbs
  obtain ⟨v, Ez, zs, e1, e2, e3, e4, e5⟩ := h.ok (P := P) (E := 1000000) hq0 hqP hm (by omega) (fun hf => by
    have hM : 0 < V.natAbs := by unfold fO at hf; split at hf <;> omega
    have h4 := od_rQ (m := m) (vN V) 0 hq0 hM
    exact ⟨rQ_pos (vN V) 0 hq0 hM, by simpa using h4, by omega, by omega, by omega⟩)
  refine ⟨_, _, v, Ez, zs, e1, e2, e3, hf1, fun hf => ?_, fun e he => ?_⟩
  · obtain ⟨k1, k2, k3, k4⟩ := e4 hf
    exact ⟨(e3.one hf).1, by omega⟩
  · rw [rV_shl]
    by_cases hf : fO V.natAbs = 1
    · obtain ⟨k1, k2, k3, k4⟩ := e4 hf
      have hM : 0 < V.natAbs := by unfold fO at hf; split at hf <;> omega
      have hV0 : V ≠ 0 := by omega
      rw [if_pos hf, if_neg hV0]
      have h5 := deq_lift k4 (e := e) (by omega) (by omega)
      rw [h5]
      unfold rV
      rw [← sI_mul]
      congr 1
      rw [show (X + ((rk q V.natAbs : Nat) : Int) - e).toNat = rk q V.natAbs + (X - e).toNat by omega, Nat.pow_add, ← Nat.mul_assoc]
    · have hV0 : V = 0 := by
        have : V.natAbs = 0 := by unfold fO at hf; split at hf <;> omega
        omega
      rw [if_neg hf, hV0, rV_zero, Int.zero_mul]
theorem cmpI_le {i j : Int} : cmpI i j ≤ 0 ↔ i ≤ j := by
  rcases Int.lt_trichotomy i j with h | h | h
  · rw [cmpI_lt h]; omega
  · subst h; unfold cmpI; rw [if_neg (by omega), if_neg (by omega)]; omega
  · rw [cmpI_gt h]; omega
theorem cmpI_ge {i j : Int} : 0 ≤ cmpI i j ↔ j ≤ i := by
  rcases Int.lt_trichotomy i j with h | h | h
  · rw [cmpI_lt h]; omega
  · subst h; unfold cmpI; rw [if_neg (by omega), if_neg (by omega)]; omega
  · rw [cmpI_gt h]; omega
theorem lo_dy {f M : Nat} {n : Bool} {E e : Int} : sI (dyN f n) (lo (dyM f M) (dyE f E) e) = if f = 1 then sI n (M * 2 ^ (E - e).toNat) else 0 := by
  unfold dyN dyM dyE
  split
  · rfl
  · rw [lo_zero, sI_zero]
/-- A sum at a lower exponent. -/
theorem smV_low {n1 n2 : Bool} {M N : Nat} {E F e : Int} (h : e ≤ min E F) : smV n1 M E n2 N F * ((2 ^ (min E F - e).toNat : Nat) : Int) = sI n1 (lo M E e) + sI n2 (lo N F e) := by
  unfold smV
  rw [Int.add_mul, ← sI_mul, ← sI_mul, lo_lo (by omega) h, lo_lo (by omega) h]
theorem dyE_le {f : Nat} {E e : Int} (h : f = 1 → e ≤ E) (h0 : e ≤ 0) : e ≤ dyE f E := by unfold dyE; split <;> omega
end Go.Proofs.YtgbmlaffilccnaaGreatDoor

/-
A rounded sum as the next operand, at a given range; the difference of two near values. No condition.
-/
namespace Go.Proofs.YtgbmlaffilccnaaGreatDoor
open Go.RowKit

theorem RealOk.mono {P E F p m f : Nat} {ws : List Nat} {e : Int} (h : RealOk P E p m f ws e) (hE : E ≤ F) : RealOk P F p m f ws e := by
  obtain ⟨h1, h2, h3, h | h | ⟨a, b, c, d, g1, g2⟩⟩ := h
  · exact ⟨h1, h2, h3, .inl h⟩
  · exact ⟨h1, h2, h3, .inr (.inl h)⟩
  · exact ⟨h1, h2, h3, .inr (.inr ⟨a, b, c, d, by omega, by omega⟩)⟩
theorem rk_rQ {p m M : Nat} (n : Bool) (hp : 0 < p) : rk p M + bl (rQ p m n 0 M) ≤ bl M + 1 := by
  rcases Nat.lt_or_ge p (bl M) with h | h
  · have h1 := (rQ_bound (m := m) n 0 hp h).2.2
    have h2 : bl (rQ p m n 0 M) ≤ p + 1 := bl_le (by rw [Nat.pow_succ]; have := Nat.two_pow_pos p; omega)
    unfold rk; omega
  · obtain ⟨k0, q0, -⟩ := rQ_fits (m := m) n h
    rw [k0, q0]; omega
/-- The value of a Real, at a lower exponent. -/
def vA (f : Nat) (n : Bool) (M : Nat) (E e : Int) : Int := sI (dyN f n) (lo (dyM f M) (dyE f E) e)
/-- A rounded sum as the next call's argument; T bounds its exponents. -/
theorem AddZ.okE {w : World} {z : Value} {A : Int} {q m P T : Nat} {zn : Bool} {V X : Int} (h : AddZ w z A q m zn V X) (hq0 : 0 < q) (hqP : q ≤ P) (hm : m ≤ 5) (hb : bl V.natAbs ≤ 100000) (_hT : T ≤ 1000000) (hX : -(T : Int) ≤ X) (hX2 : X + bl V.natAbs + 1 ≤ T) :
    ∃ (f : Nat) (n : Bool) (v : Value) (Ez : Int) (zs : List Nat), z = .agg #[.int .u64 q, .int .i64 m, .int .i64 f, .bool n, v, .int .i64 Ez] ∧ RW w v zs ∧ RealOk P T q m f zs Ez ∧ f ≤ 1 ∧ (f = 1 → 0 < wv zs ∧ X ≤ Ez) ∧
      ∀ e, e ≤ X → vA f n (wv zs) Ez e = rV q m (V * ((2 ^ (X - e).toNat : Nat) : Int)) := by
  obtain ⟨-, h⟩ := h
  have hf1 : fO V.natAbs ≤ 1 := by unfold fO; split <;> omega
  have h1 := rk_le q V.natAbs
  have h2 := bl_rQ q m (vN V) 0 V.natAbs
  have h3 := rk_rQ (m := m) (vN V) (M := V.natAbs) hq0
  obtain ⟨v, Ez, zs, e1, e2, e3, e4, e5⟩ := h.ok (P := P) (E := T) hq0 hqP hm (by omega) (fun hf => by
    have hM : 0 < V.natAbs := by unfold fO at hf; split at hf <;> omega
    have h4 := od_rQ (m := m) (vN V) 0 hq0 hM
    exact ⟨rQ_pos (vN V) 0 hq0 hM, by simpa using h4, by omega, by omega, by omega⟩)
  refine ⟨_, _, v, Ez, zs, e1, e2, e3, hf1, fun hf => ?_, fun e he => ?_⟩
  · obtain ⟨k1, k2, k3, k4⟩ := e4 hf
    exact ⟨(e3.one hf).1, by omega⟩
  · unfold vA
    rw [lo_dy, rV_shl]
    by_cases hf : fO V.natAbs = 1
    · obtain ⟨k1, k2, k3, k4⟩ := e4 hf
      have hM : 0 < V.natAbs := by unfold fO at hf; split at hf <;> omega
      have hV0 : V ≠ 0 := by omega
      rw [if_pos hf, if_neg hV0]
      have h5 := deq_lift k4 (e := e) (by omega) (by omega)
      rw [h5]
      unfold rV
      rw [← sI_mul]
      congr 1
      rw [show (X + ((rk q V.natAbs : Nat) : Int) - e).toNat = rk q V.natAbs + (X - e).toNat by omega, Nat.pow_add, ← Nat.mul_assoc]
    · have hV0 : V = 0 := by
        have : V.natAbs = 0 := by unfold fO at hf; split at hf <;> omega
        omega
      rw [if_neg hf, hV0, rV_zero, Int.zero_mul]
/-- Two near values: the difference has no more bits than one of them. -/
theorem smV_near {a b : Bool} {M N p q : Nat} {E F : Int} (hs : 0 < M → 0 < N → b = !a) (h1 : lo M E (min E F) ≤ 2 * lo N F (min E F)) (h2 : lo N F (min E F) ≤ 2 * lo M E (min E F)) (hM : bl M ≤ p) (hN : bl N ≤ q) : bl (smV a M E b N F).natAbs ≤ max p q := by
  rcases Nat.eq_zero_or_pos M with m0 | m0
  · have hl : lo M E (min E F) = 0 := by rw [m0, lo_zero]
    have hl2 : lo N F (min E F) = 0 := by omega
    unfold smV; rw [hl, hl2, sI_zero, sI_zero]
    show bl 0 ≤ _
    rw [bl_zero]; omega
  rcases Nat.eq_zero_or_pos N with n0 | n0
  · have hl : lo N F (min E F) = 0 := by rw [n0, lo_zero]
    have hl2 : lo M E (min E F) = 0 := by omega
    unfold smV; rw [hl, hl2, sI_zero, sI_zero]
    show bl 0 ≤ _
    rw [bl_zero]; omega
  have hb := hs m0 n0
  subst hb
  have hd : (smV a M E (!a) N F).natAbs ≤ lo M E (min E F) ∧ (smV a M E (!a) N F).natAbs ≤ lo N F (min E F) := by
    unfold smV; cases a <;> simp only [sI, Bool.not_true, Bool.not_false, if_true, Bool.false_eq_true, if_false] <;> omega
  rcases Int.le_total E F with h | h
  · have e : lo M E (min E F) = M := by rw [Int.min_eq_left h]; unfold lo; rw [Int.sub_self]; simp
    have := bl_mono (Nat.le_trans hd.1 (Nat.le_of_eq e)); omega
  · have e : lo N F (min E F) = N := by rw [Int.min_eq_right h]; unfold lo; rw [Int.sub_self]; simp
    have := bl_mono (Nat.le_trans hd.2 (Nat.le_of_eq e)); omega
end Go.Proofs.YtgbmlaffilccnaaGreatDoor
