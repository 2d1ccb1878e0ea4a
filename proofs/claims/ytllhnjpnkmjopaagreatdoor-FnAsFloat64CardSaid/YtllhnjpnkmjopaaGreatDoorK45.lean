/-
Texts of this proof, joined: AdD AdJ QuI OdR AfC. No condition.
-/
import Derived.Test.YtllhnjpnkmjopaaGreatDoorK05
import Derived.Test.YtllhnjpnkmjopaaGreatDoorK19
import Derived.Test.YtllhnjpnkmjopaaGreatDoorK35
import Derived.Test.YtllhnjpnkmjopaaGreatDoorK36
import Derived.Test.YtllhnjpnkmjopaaGreatDoorK38
import Derived.Test.YtllhnjpnkmjopaaGreatDoorK43
import Derived.Test.YtllhnjpnkmjopaaGreatDoorK44
namespace Go.Proofs.YtllhnjpnkmjopaaGreatDoor
open Go.RowKit

set_option maxRecDepth 100000 in
set_option maxHeartbeats 3200000 in
theorem subF_zz (b B B1 B2 g1 g2 p0 m p1 m1 p2 m2 f0 M N : Nat) (a0 e0 E F : Int) (nz n1 n2 : Bool) (w : World) (h : FltR w b p0 m a0 f0 nz (.slice none 0 0) e0) (hB : B ≤ b) (h1 : FloatAt w B1 g1 p1 m1 0 n1 M E) (h2 : FloatAt w B2 g2 p2 m2 0 n2 N F)
    (hb1 : b ≠ g1) (hb2 : b ≠ g2) (hp0 : p0 ≤ 64000000) (hp11 : 0 < p1) (hp1' : p1 ≤ 64000000) (hp22 : 0 < p2) (hp2' : p2 ≤ 64000000) (_hm : m ≤ 5) :
    Calls Tryz.prog 101 #[.pointer (some ⟨b, 0, none⟩), .pointer (some ⟨g1, 0, none⟩), .pointer (some ⟨g2, 0, none⟩)] w fun e' w' => e' = .returned (.pointer (some ⟨b, 0, none⟩)) ∧
      FltR w' b (pOf p0 (max p1 p2)) m 0 0 (n1 && !n2) (.slice none 0 0) e0 ∧ Below B w w' := by
  obtain ⟨q, hq⟩ : ∃ q, q = pOf p0 (max p1 p2) := ⟨_, rfl⟩
  have hq0 : 0 < q := by rw [hq]; unfold pOf; split <;> omega
  have hqb : q ≤ 64000000 := by rw [hq]; unfold pOf; split <;> omega
  rw [← hq]
  have hne1 : ¬ b = g1 := hb1
  have hne1' : ¬ g1 = b := fun h => hne1 h.symm
  have hne2 : ¬ b = g2 := hb2
  have hne2' : ¬ g2 = b := fun h => hne2 h.symm
  obtain ⟨r1, x1, hg1⟩ := h1.row
  obtain ⟨r2, x2, hg2⟩ := h2.row
  obtain ⟨c0, c1, c2, c3, c4, c5, c6⟩ := h.cells
  obtain ⟨f0', f1', f2', f3', f4', f5', f6'⟩ := h.free
  obtain ⟨y0, y1, y2, y3', y4, y5, y6⟩ := hg1.cells
  obtain ⟨z0, z1, z2, z3', z4, z5, z6⟩ := hg2.cells
  have y3 : w.cell? ⟨g1, 3, none⟩ = some (.int .u8 0) := y3'
  have z3 : w.cell? ⟨g2, 3, none⟩ = some (.int .u8 0) := z3'
  have HG1 := Lib.hid hg1
  have HG2 := Lib.hid hg2
  have HH := Lib.hid h
  have HX := Lib.hid h1
  have HY := Lib.hid h2
  clear h h1 h2 hg1 hg2 y3' z3' c1 c2 c5 c6
  by_cases hz : p0 = 0
  · have t0 : ((p0 : Int) == 0) = true := by rw [hz]; rfl
    have em : max (p1 : Int) (p2 : Int) = (q : Int) := by rw [hq]; unfold pOf; rw [if_pos hz]; omega
    clear hq hz
    go_enter Tryz.func101, Tryz.ntmps101
    go_wp2_with fail
    (refine wp_region_hoist 12 (by kernel_rfl) (by kernel_rfl) ⟨fun _ _ _ h => (by first | exact (hQp _ _ _ h).elim | cases h.2.1 | (obtain ⟨_, h3, _⟩ := h.2; cases h3)), fun _ _ h => (by first | exact (hQo _ _ h).elim | cases h.1 | (obtain ⟨_, h3, _⟩ := h; cases h3))⟩ ?_; simp only [List.take_succ_cons, List.take_zero, List.drop_succ_cons, List.drop_zero]; (repeat (go_big_quiet_step (fail))); refine wpQuiet_nil ?_; rintro _ ⟨nq, rfl⟩)
    generalize nq = na
    go_wp2_with fail
    go_quiet (fail)
    obtain ⟨W, hW⟩ : ∃ W, W = (((w.drewN na).setCell ⟨b, 0, none⟩ (.int .u32 (q : Int))).drewN nq) := ⟨_, rfl⟩
    rw [← hW]
    have hWh : FltR W b q m a0 f0 nz (.slice none 0 0) e0 := by rw [hW]; exact ((HH.out.drewN na).s0 q).drewN nq
    have hWB : Below B w W := by rw [hW]; exact undrewN' (bset (i := 0) (u := .int .u32 (q : Int)) (undrewN' (Below.refl B w)) hB)
    have hW1 : FltR W g1 p1 m1 0 0 n1 r1 x1 := by rw [hW]; exact ((heap_setCell_other _ _ _ _ (by simpa using hb1.symm)).trans HG1.out)
    have hW2 : FltR W g2 p2 m2 0 0 n2 r2 x2 := by rw [hW]; exact ((heap_setCell_other _ _ _ _ (by simpa using hb2.symm)).trans HG2.out)
    clear hW c0 c3 c4 f0' f1' f2' f3' f4' f5' f6' y0 y1 y2 y3 y4 y5 y6 z0 z1 z2 z3 z4 z5 z6
    obtain ⟨c0, c1, c2, c3, c4, c5, c6⟩ := hWh.cells
    obtain ⟨f0', f1', f2', f3', f4', f5', f6'⟩ := hWh.free
    obtain ⟨y0, y1, y2, y3', y4, y5, y6⟩ := hW1.cells
    obtain ⟨z0, z1, z2, z3', z4, z5, z6⟩ := hW2.cells
    have y3 : W.cell? ⟨g1, 3, none⟩ = some (.int .u8 0) := y3'
    have z3 : W.cell? ⟨g2, 3, none⟩ = some (.int .u8 0) := z3'
    have HWH := Lib.hid hWh
    have HWB := Lib.hid hWB
    clear y3' z3' hWh hWB hW1 hW2
    cases n1 <;> cases n2
    · have R := Lib.hid (((HWH.out.s2 0).s3 0).s4 false)
      have BB := Lib.hid (bset (i := 4) (u := .bool false) (bset (i := 3) (u := .int .u8 (0 : Int)) (bset (i := 2) (u := .int .i8 0) HWB.out hB) hB) hB)
      go_wp2
      go_ret
      exact ⟨rfl, R.out, BB.out⟩
    · have R := Lib.hid (((HWH.out.s2 0).s3 0).s4 false)
      have BB := Lib.hid (bset (i := 4) (u := .bool false) (bset (i := 3) (u := .int .u8 (0 : Int)) (bset (i := 2) (u := .int .i8 0) HWB.out hB) hB) hB)
      go_wp2
      go_ret
      exact ⟨rfl, R.out, BB.out⟩
    · have R := Lib.hid (((HWH.out.s2 0).s3 0).s4 true)
      have BB := Lib.hid (bset (i := 4) (u := .bool true) (bset (i := 3) (u := .int .u8 (0 : Int)) (bset (i := 2) (u := .int .i8 0) HWB.out hB) hB) hB)
      go_wp2
      go_ret
      exact ⟨rfl, R.out, BB.out⟩
    · have R := Lib.hid (((HWH.out.s2 0).s3 0).s4 false)
      have BB := Lib.hid (bset (i := 4) (u := .bool false) (bset (i := 3) (u := .int .u8 (0 : Int)) (bset (i := 2) (u := .int .i8 0) HWB.out hB) hB) hB)
      go_wp2
      go_ret
      exact ⟨rfl, R.out, BB.out⟩
  · have t0 : ((p0 : Int) == 0) = false := by rw [beq_eq_false_iff_ne]; omega
    have hqq : q = p0 := by rw [hq]; unfold pOf; rw [if_neg hz]
    have hz' : ¬ q = 0 := by omega
    clear hq hz
    subst hqq
    go_enter Tryz.func101, Tryz.ntmps101
    go_wp2_with fail
    go_quiet (fail)
    obtain ⟨W, hW⟩ : ∃ W, W = (w.drewN nq) := ⟨_, rfl⟩
    rw [← hW]
    have hWh : FltR W b q m a0 f0 nz (.slice none 0 0) e0 := by rw [hW]; exact HH.out.drewN nq
    have hWB : Below B w W := by rw [hW]; exact undrewN' (Below.refl B w)
    have hW1 : FltR W g1 p1 m1 0 0 n1 r1 x1 := by rw [hW]; exact HG1.out
    have hW2 : FltR W g2 p2 m2 0 0 n2 r2 x2 := by rw [hW]; exact HG2.out
    clear hW c0 c3 c4 f0' f1' f2' f3' f4' f5' f6' y0 y1 y2 y3 y4 y5 y6 z0 z1 z2 z3 z4 z5 z6
    obtain ⟨c0, c1, c2, c3, c4, c5, c6⟩ := hWh.cells
    obtain ⟨f0', f1', f2', f3', f4', f5', f6'⟩ := hWh.free
    obtain ⟨y0, y1, y2, y3', y4, y5, y6⟩ := hW1.cells
    obtain ⟨z0, z1, z2, z3', z4, z5, z6⟩ := hW2.cells
    have y3 : W.cell? ⟨g1, 3, none⟩ = some (.int .u8 0) := y3'
    have z3 : W.cell? ⟨g2, 3, none⟩ = some (.int .u8 0) := z3'
    have HWH := Lib.hid hWh
    have HWB := Lib.hid hWB
    clear y3' z3' hWh hWB hW1 hW2
    cases n1 <;> cases n2
    · have R := Lib.hid (((HWH.out.s2 0).s3 0).s4 false)
      have BB := Lib.hid (bset (i := 4) (u := .bool false) (bset (i := 3) (u := .int .u8 (0 : Int)) (bset (i := 2) (u := .int .i8 0) HWB.out hB) hB) hB)
      go_wp2
      go_ret
      exact ⟨rfl, R.out, BB.out⟩
    · have R := Lib.hid (((HWH.out.s2 0).s3 0).s4 false)
      have BB := Lib.hid (bset (i := 4) (u := .bool false) (bset (i := 3) (u := .int .u8 (0 : Int)) (bset (i := 2) (u := .int .i8 0) HWB.out hB) hB) hB)
      go_wp2
      go_ret
      exact ⟨rfl, R.out, BB.out⟩
    · have R := Lib.hid (((HWH.out.s2 0).s3 0).s4 true)
      have BB := Lib.hid (bset (i := 4) (u := .bool true) (bset (i := 3) (u := .int .u8 (0 : Int)) (bset (i := 2) (u := .int .i8 0) HWB.out hB) hB) hB)
      go_wp2
      go_ret
      exact ⟨rfl, R.out, BB.out⟩
    · have R := Lib.hid (((HWH.out.s2 0).s3 0).s4 false)
      have BB := Lib.hid (bset (i := 4) (u := .bool false) (bset (i := 3) (u := .int .u8 (0 : Int)) (bset (i := 2) (u := .int .i8 0) HWB.out hB) hB) hB)
      go_wp2
      go_ret
      exact ⟨rfl, R.out, BB.out⟩
set_option maxRecDepth 100000 in
set_option maxHeartbeats 3200000 in
theorem subF_fz (b B B1 B2 g1 g2 p0 m p1 m1 p2 m2 f0 M N : Nat) (a0 e0 E F : Int) (nz n1 n2 : Bool) (w : World) (h : FltR w b p0 m a0 f0 nz (.slice none 0 0) e0) (hB : B ≤ b) (h1 : FloatAt w B1 g1 p1 m1 1 n1 M E) (h2 : FloatAt w B2 g2 p2 m2 0 n2 N F)
    (hM : 0 < M) (hp1 : bl M ≤ p1) (hbM : bl M ≤ 10000) (hE : -5000000 ≤ E ∧ E ≤ 5000000) (hb1 : b ≠ g1) (hb2 : b ≠ g2) (hp0 : p0 ≤ 64000000) (hp11 : 0 < p1) (hp1' : p1 ≤ 64000000) (hp22 : 0 < p2) (hp2' : p2 ≤ 64000000) (hm : m ≤ 5) :
    Calls Tryz.prog 101 #[.pointer (some ⟨b, 0, none⟩), .pointer (some ⟨g1, 0, none⟩), .pointer (some ⟨g2, 0, none⟩)] w fun e' w' => e' = .returned (.pointer (some ⟨b, 0, none⟩)) ∧
      FVal w' B b (pOf p0 (max p1 p2)) m (rA (pOf p0 (max p1 p2)) m n1 0 M) 1 n1 (rQ (pOf p0 (max p1 p2)) m n1 0 M) (E + rk (pOf p0 (max p1 p2)) M) ∧ Below B w w' := by
  obtain ⟨q, hq⟩ : ∃ q, q = pOf p0 (max p1 p2) := ⟨_, rfl⟩
  have hq0 : 0 < q := by rw [hq]; unfold pOf; split <;> omega
  have hqb : q ≤ 64000000 := by rw [hq]; unfold pOf; split <;> omega
  rw [← hq]
  have hpq : pOf q p1 = q := by unfold pOf; rw [if_neg (by omega)]
  have HS := Lib.hid (fun (W : World) (k1 : FltR W b q m a0 f0 nz (.slice none 0 0) e0) (k2 : FloatAt W B1 g1 p1 m1 1 n1 M E) => setF_val b B g1 B1 q m f0 p1 m1 1 a0 e0 0 nz n1 M E W k1 hB (k2.val (fun _ => ⟨hM, hp1, by have := nw_bl hM; omega⟩)) hb1 (by decide) hp11 hp1' hqb hm (fun _ => by omega))
  rw [hpq, show stA 1 q m n1 M = rA q m n1 0 M from if_pos rfl] at HS
  clear hpq
  have hne1 : ¬ b = g1 := hb1
  have hne1' : ¬ g1 = b := fun h => hne1 h.symm
  have hne2 : ¬ b = g2 := hb2
  have hne2' : ¬ g2 = b := fun h => hne2 h.symm
  obtain ⟨r1, x1, hg1⟩ := h1.row
  obtain ⟨r2, x2, hg2⟩ := h2.row
  obtain ⟨c0, c1, c2, c3, c4, c5, c6⟩ := h.cells
  obtain ⟨f0', f1', f2', f3', f4', f5', f6'⟩ := h.free
  obtain ⟨y0, y1, y2, y3', y4, y5, y6⟩ := hg1.cells
  obtain ⟨z0, z1, z2, z3', z4, z5, z6⟩ := hg2.cells
  have y3 : w.cell? ⟨g1, 3, none⟩ = some (.int .u8 1) := y3'
  have z3 : w.cell? ⟨g2, 3, none⟩ = some (.int .u8 0) := z3'
  have HG1 := Lib.hid hg1
  have HG2 := Lib.hid hg2
  have HH := Lib.hid h
  have HX := Lib.hid h1
  have HY := Lib.hid h2
  clear h h1 h2 hg1 hg2 y3' z3' c1 c2 c5 c6 hM hp1 hbM hE
  by_cases hz : p0 = 0
  · have t0 : ((p0 : Int) == 0) = true := by rw [hz]; rfl
    have em : max (p1 : Int) (p2 : Int) = (q : Int) := by rw [hq]; unfold pOf; rw [if_pos hz]; omega
    clear hq hz
    go_enter Tryz.func101, Tryz.ntmps101
    go_wp2_with fail
    (refine wp_region_hoist 12 (by kernel_rfl) (by kernel_rfl) ⟨fun _ _ _ h => (by first | exact (hQp _ _ _ h).elim | cases h.2.1 | (obtain ⟨_, h3, _⟩ := h.2; cases h3)), fun _ _ h => (by first | exact (hQo _ _ h).elim | cases h.1 | (obtain ⟨_, h3, _⟩ := h; cases h3))⟩ ?_; simp only [List.take_succ_cons, List.take_zero, List.drop_succ_cons, List.drop_zero]; (repeat (go_big_quiet_step (fail))); refine wpQuiet_nil ?_; rintro _ ⟨nq, rfl⟩)
    generalize nq = na
    go_wp2_with fail
    go_quiet (fail)
    obtain ⟨W, hW⟩ : ∃ W, W = (((w.drewN na).setCell ⟨b, 0, none⟩ (.int .u32 (q : Int))).drewN nq) := ⟨_, rfl⟩
    rw [← hW]
    have hWh : FltR W b q m a0 f0 nz (.slice none 0 0) e0 := by rw [hW]; exact ((HH.out.drewN na).s0 q).drewN nq
    have hWB : Below B w W := by rw [hW]; exact undrewN' (bset (i := 0) (u := .int .u32 (q : Int)) (undrewN' (Below.refl B w)) hB)
    have hW1 : FltR W g1 p1 m1 0 1 n1 r1 x1 := by rw [hW]; exact ((heap_setCell_other _ _ _ _ (by simpa using hb1.symm)).trans HG1.out)
    have hW2 : FltR W g2 p2 m2 0 0 n2 r2 x2 := by rw [hW]; exact ((heap_setCell_other _ _ _ _ (by simpa using hb2.symm)).trans HG2.out)
    have HWA := Lib.hid (by rw [hW]; exact ((HH.out.drewN na).at 0 (.int .u32 (q : Int)) hb1 (HX.out.drewN na)).drewN nq : FloatAt W B1 g1 p1 m1 1 n1 M E)
    clear hW c0 c3 c4 f0' f1' f2' f3' f4' f5' f6' y0 y1 y2 y3 y4 y5 y6 z0 z1 z2 z3 z4 z5 z6
    obtain ⟨c0, c1, c2, c3, c4, c5, c6⟩ := hWh.cells
    obtain ⟨f0', f1', f2', f3', f4', f5', f6'⟩ := hWh.free
    obtain ⟨y0, y1, y2, y3', y4, y5, y6⟩ := hW1.cells
    obtain ⟨z0, z1, z2, z3', z4, z5, z6⟩ := hW2.cells
    have y3 : W.cell? ⟨g1, 3, none⟩ = some (.int .u8 1) := y3'
    have z3 : W.cell? ⟨g2, 3, none⟩ = some (.int .u8 0) := z3'
    have HWH := Lib.hid hWh
    have HWB := Lib.hid hWB
    clear y3' z3' hWh hWB hW1 hW2
    go_wp2_with fail
    refine (HS.out _ HWH.out HWA.out).mono ?_
    rintro _ w5 ⟨rfl, hv, hb5⟩
    have HV := Lib.hid hv
    have HB5 := Lib.hid (HWB.out.trans hb5)
    clear hv hb5
    go_wp2
    go_ret
    exact ⟨rfl, HV.out, HB5.out⟩
  · have t0 : ((p0 : Int) == 0) = false := by rw [beq_eq_false_iff_ne]; omega
    have hqq : q = p0 := by rw [hq]; unfold pOf; rw [if_neg hz]
    have hz' : ¬ q = 0 := by omega
    clear hq hz
    subst hqq
    go_enter Tryz.func101, Tryz.ntmps101
    go_wp2_with fail
    go_quiet (fail)
    obtain ⟨W, hW⟩ : ∃ W, W = (w.drewN nq) := ⟨_, rfl⟩
    rw [← hW]
    have hWh : FltR W b q m a0 f0 nz (.slice none 0 0) e0 := by rw [hW]; exact HH.out.drewN nq
    have hWB : Below B w W := by rw [hW]; exact undrewN' (Below.refl B w)
    have hW1 : FltR W g1 p1 m1 0 1 n1 r1 x1 := by rw [hW]; exact HG1.out
    have hW2 : FltR W g2 p2 m2 0 0 n2 r2 x2 := by rw [hW]; exact HG2.out
    have HWA := Lib.hid (by rw [hW]; exact HX.out.drewN nq : FloatAt W B1 g1 p1 m1 1 n1 M E)
    clear hW c0 c3 c4 f0' f1' f2' f3' f4' f5' f6' y0 y1 y2 y3 y4 y5 y6 z0 z1 z2 z3 z4 z5 z6
    obtain ⟨c0, c1, c2, c3, c4, c5, c6⟩ := hWh.cells
    obtain ⟨f0', f1', f2', f3', f4', f5', f6'⟩ := hWh.free
    obtain ⟨y0, y1, y2, y3', y4, y5, y6⟩ := hW1.cells
    obtain ⟨z0, z1, z2, z3', z4, z5, z6⟩ := hW2.cells
    have y3 : W.cell? ⟨g1, 3, none⟩ = some (.int .u8 1) := y3'
    have z3 : W.cell? ⟨g2, 3, none⟩ = some (.int .u8 0) := z3'
    have HWH := Lib.hid hWh
    have HWB := Lib.hid hWB
    clear y3' z3' hWh hWB hW1 hW2
    go_wp2_with fail
    refine (HS.out _ HWH.out HWA.out).mono ?_
    rintro _ w5 ⟨rfl, hv, hb5⟩
    have HV := Lib.hid hv
    have HB5 := Lib.hid (HWB.out.trans hb5)
    clear hv hb5
    go_wp2
    go_ret
    exact ⟨rfl, HV.out, HB5.out⟩
theorem subF_any (b B B1 B2 g1 g2 p0 m p1 m1 p2 m2 f0 f1 f2 M N : Nat) (a0 e0 E F : Int) (nz n1 n2 : Bool) (w : World) (h : FltR w b p0 m a0 f0 nz (.slice none 0 0) e0) (hB : B ≤ b) (hf1 : f1 ≤ 1) (hf2 : f2 ≤ 1) (h1 : FloatAt w B1 g1 p1 m1 f1 n1 M E) (h2 : FloatAt w B2 g2 p2 m2 f2 n2 N F)
    (k1 : f1 = 1 → 0 < M ∧ bl M ≤ p1 ∧ bl M ≤ 10000 ∧ -5000000 ≤ E ∧ E ≤ 5000000) (k2 : f2 = 1 → 0 < N ∧ bl N ≤ p2 ∧ bl N ≤ 10000 ∧ -5000000 ≤ F ∧ F ≤ 5000000) (hb1 : b ≠ g1) (hb2 : b ≠ g2) (hp0 : p0 ≤ 64000000) (hp11 : 0 < p1) (hp1' : p1 ≤ 64000000) (hp22 : 0 < p2) (hp2' : p2 ≤ 64000000) (hm : m ≤ 5) (hx : f1 = 1 ∨ f2 = 0) :
    Calls Tryz.prog 101 #[.pointer (some ⟨b, 0, none⟩), .pointer (some ⟨g1, 0, none⟩), .pointer (some ⟨g2, 0, none⟩)] w fun e' w' => e' = .returned (.pointer (some ⟨b, 0, none⟩)) ∧
      AddR w' B b (pOf p0 (max p1 p2)) m (if f1 = 1 then decide (m = 4) else n1 && (!n2)) (smV (dyN f1 n1) (dyM f1 M) (dyE f1 E) (!dyN f2 n2) (dyM f2 N) (dyE f2 F)) (min (dyE f1 E) (dyE f2 F)) ∧ Below B w w' := by
  have q0 : 0 < pOf p0 (max p1 p2) := by unfold pOf; split <;> omega
  rcases (by omega : f1 = 0 ∨ f1 = 1) with rfl | rfl <;> rcases (by omega : f2 = 0 ∨ f2 = 1) with rfl | rfl
  · refine (subF_zz b B B1 B2 g1 g2 p0 m p1 m1 p2 m2 f0 M N a0 e0 E F nz n1 n2 w h hB h1 h2 hb1 hb2 hp0 hp11 hp1' hp22 hp2' hm).mono ?_
    rintro _ w' ⟨rfl, k, hb⟩
    refine ⟨rfl, (AddR.zero (B := B) (X := 0) k).cast ?_ rfl, hb⟩
    rfl
  · exact absurd hx (by omega)
  · obtain ⟨x1, x2, x3, x4, x5⟩ := k1 rfl
    refine (subF_fz b B B1 B2 g1 g2 p0 m p1 m1 p2 m2 f0 M N a0 e0 E F nz n1 n2 w h hB h1 h2 x1 x2 x3 ⟨x4, x5⟩ hb1 hb2 hp0 hp11 hp1' hp22 hp2' hm).mono ?_
    rintro _ w' ⟨rfl, k, hb⟩
    have hl : min E 0 ≤ E := by omega
    refine ⟨rfl, (AddR.pos (lo_pos x1) (fval_trans k x1 (deq_low hl))).cast ?_ rfl, hb⟩
    unfold smV
    show sI n1 (lo M E (min E 0)) = sI n1 (lo M E (min E 0)) + sI _ (lo 0 0 (min E 0))
    rw [lo_zero, sI_zero, Int.add_zero]
  · obtain ⟨x1, x2, x3, x4, x5⟩ := k1 rfl
    obtain ⟨y1, y2, y3, y4, y5⟩ := k2 rfl
    exact subF_ff b B B1 B2 g1 g2 p0 m p1 m1 p2 m2 f0 M N a0 e0 E F nz n1 n2 w h hB h1 h2 x1 y1 x2 y2 x3 y3 ⟨by omega, by omega⟩ ⟨⟨by omega, by omega⟩, by omega, by omega⟩ hb1 hb2 hp0 hp1' hp2' hm
set_option maxRecDepth 100000 in
set_option maxHeartbeats 6400000 in
theorem impSubG (P E q k p1 m1 f1 p2 m2 f2 : Nat) (n1 n2 zz : Bool) (v1 v2 : Value) (e1 e2 VV XY : Int) (xs ys : List Nat) (w : World) (hv1 : RW w v1 xs) (hv2 : RW w v2 ys) (ho1 : RealOk P E p1 m1 f1 xs e1) (ho2 : RealOk P E p2 m2 f2 ys e2) (_hf1 : f1 ≤ 1) (_hf2 : f2 ≤ 1) (hP : P ≤ 9000) (hE : E ≤ 1040000000) (hq : q ≤ 1000000) (hk : k ≤ 5) (hT : TabW w) (hVb : bl VV.natAbs ≤ 1000000) (hXb : -2120000000 ≤ XY ∧ XY ≤ 2120000000)
    (hAdd : ∀ (W : World) (b B B1 B2 g1 g2 : Nat), FltR W b q k 0 0 false (.slice none 0 0) 0 → B ≤ b → FloatAt W B1 g1 p1 m1 f1 n1 (wv xs) e1 → FloatAt W B2 g2 p2 m2 f2 n2 (wv ys) e2 → b ≠ g1 → b ≠ g2 →
      Calls Tryz.prog 101 #[.pointer (some ⟨b, 0, none⟩), .pointer (some ⟨g1, 0, none⟩), .pointer (some ⟨g2, 0, none⟩)] W fun e' w' => e' = .returned (.pointer (some ⟨b, 0, none⟩)) ∧ AddR w' B b (pOf q (max p1 p2)) k zz VV XY ∧ Below B W w') :
    Calls Tryz.prog 59 #[.int .u64 q, .int .i64 k, .agg #[.int .u64 p1, .int .i64 m1, .int .i64 f1, .bool n1, v1, .int .i64 e1], .agg #[.int .u64 p2, .int .i64 m2, .int .i64 f2, .bool n2, v2, .int .i64 e2]] w fun e' w' => ∃ z A, e' = .returned (.tuple #[z, .int .i64 A]) ∧ AddZ w' z A (pOf q (max p1 p2)) k zz VV XY ∧ Below w.heap.size w w' := by
  have hS1 := hv1.isS
  have hS2 := hv2.isS
  have hab := (Below.refl w.heap.size w).alloc (Nat.le_refl _) (.cells #[.int .u64 p1, .int .i64 m1, .int .i64 f1, .bool n1, v1, .int .i64 e1] 42)
  have hac := hab.alloc hab.size (.cells #[.int .u64 p2, .int .i64 m2, .int .i64 f2, .bool n2, v2, .int .i64 e2] 42)
  have had := hac.alloc hac.size (.cells #[.int .u64 0, .int .i64 0, .int .i64 0, .bool false, .slice none 0 0, .int .i64 0] 42)
  obtain ⟨X, hX⟩ : ∃ X, X = ((w.alloc (.cells #[.int .u64 p1, .int .i64 m1, .int .i64 f1, .bool n1, v1, .int .i64 e1] 42)).alloc (.cells #[.int .u64 p2, .int .i64 m2, .int .i64 f2, .bool n2, v2, .int .i64 e2] 42)).alloc (.cells #[.int .u64 0, .int .i64 0, .int .i64 0, .bool false, .slice none 0 0, .int .i64 0] 42) := ⟨_, rfl⟩
  have hr1 : X.heap[w.heap.size]? = some (.cells #[.int .u64 p1, .int .i64 m1, .int .i64 f1, .bool n1, v1, .int .i64 e1] 42 (0, 0)) := by
    rw [hX]; exact row_chain31
  have hr2 : X.heap[w.heap.size + 1]? = some (.cells #[.int .u64 p2, .int .i64 m2, .int .i64 f2, .bool n2, v2, .int .i64 e2] 42 (0, 0)) := by
    rw [hX]; exact row_chain32
  have hr3 : X.heap[w.heap.size + 2]? = some (.cells #[.int .u64 0, .int .i64 0, .int .i64 0, .bool false, .slice none 0 0, .int .i64 0] 42 (0, 0)) := by
    rw [hX]; exact row_chain33
  rw [← hX] at had
  have V1 := Lib.hid (hv1.below had)
  have V2 := Lib.hid (hv2.below had)
  have HO1 := Lib.hid ho1
  have HO2 := Lib.hid ho2
  have HT := Lib.hid (hT.below had)
  have HR1 := Lib.hid hr1
  have HR2 := Lib.hid hr2
  have HR3 := Lib.hid hr3
  have hwX := Lib.hid had
  have hcc := Below.refl X.heap.size X
  have hXs := had.size
  have hN1 := Lib.hid (show w.heap.size + 2 ≠ w.heap.size by omega)
  have hN2 := Lib.hid (show w.heap.size + 2 ≠ w.heap.size + 1 by omega)
  have hX2 : w.heap.size + 3 ≤ X.heap.size := by rw [hX]; simp
  have hp1 : 0 < p1 := ho1.1
  have hp2 : 0 < p2 := ho2.1
  have hpP1 : p1 ≤ 9000 := Nat.le_trans ho1.2.1 hP
  have hpP2 : p2 ≤ 9000 := Nat.le_trans ho2.2.1 hP
  obtain ⟨V, hV⟩ : ∃ V, V = VV := ⟨_, rfl⟩
  obtain ⟨XX, hXX⟩ : ∃ XX, XX = XY := ⟨_, rfl⟩
  obtain ⟨zn, hzn⟩ : ∃ zn, zn = zz := ⟨_, rfl⟩
  have HXB : Hid (bl V.natAbs ≤ 1000000 ∧ -2120000000 ≤ XX ∧ XX ≤ 2120000000) := Lib.hid (by rw [hV, hXX]; exact ⟨hVb, hXb⟩)
  have hpo : pOf q (max p1 p2) ≤ 1000000 ∧ 0 < pOf q (max p1 p2) := by unfold pOf; split <;> omega
  obtain ⟨Z, hZ⟩ : ∃ Z, Z = pOf q (max p1 p2) := ⟨_, rfl⟩
  rw [← hZ] at hpo
  have HPO := Lib.hid hpo
  obtain ⟨A, hA⟩ : ∃ A, A = rA Z k (vN V) 0 V.natAbs := ⟨_, rfl⟩
  have hAb : -1 ≤ A ∧ A ≤ 1 := by rw [hA]; exact rA_bd _ _ _ _ _
  obtain ⟨f, hf⟩ : ∃ f, f = fO V.natAbs := ⟨_, rfl⟩
  have hf2' : f ≤ 2 := by rw [hf]; unfold fO; split <;> omega
  obtain ⟨sg, hsg⟩ : ∃ sg, sg = (if V = 0 then zn else vN V) := ⟨_, rfl⟩
  obtain ⟨R, hR⟩ : ∃ R, R = rQ Z k (vN V) 0 V.natAbs := ⟨_, rfl⟩
  obtain ⟨RX, hRX⟩ : ∃ RX, RX = XX + rk Z V.natAbs := ⟨_, rfl⟩
  have HRB : Hid (-2140000000 ≤ RX ∧ RX + bl R ≤ 2140000000) := Lib.hid (by rw [hRX, hR]; exact rQ_range HXB.out)
  have HIN := Lib.hid (fun (w' : World) (b : Nat) (h : AddR w' X.heap.size b Z k zn V XX) => (by unfold AddR at h; rw [← hA, ← hf, ← hsg, ← hR, ← hRX] at h; exact h : FVal w' X.heap.size b Z k A f sg R RX))
  have HOUT := Lib.hid (fun (w' : World) (z : Value) (h : RealV w' z Z k f sg R RX) => (by unfold AddZ; rw [← hA, ← hf, ← hsg, ← hR, ← hRX]; exact ⟨rfl, h⟩ : AddZ w' z A Z k zn V XX))
  have HADD := Lib.hid (fun (W : World) (b g1 g2 B1 B2 : Nat) (h : FltR W b q k 0 0 false (.slice none 0 0) 0) (hB : X.heap.size ≤ b) (h1 : FloatAt W B1 g1 p1 m1 f1 n1 (wv xs) e1) (h2 : FloatAt W B2 g2 p2 m2 f2 n2 (wv ys) e2) (hb1 : b ≠ g1) (hb2 : b ≠ g2) =>
    hAdd W b X.heap.size B1 B2 g1 g2 h hB h1 h2 hb1 hb2)
  rw [← hzn, ← hV, ← hXX, ← hZ] at HADD
  rw [← hzn, ← hV, ← hXX, ← hZ]
  clear hv1 hv2 ho1 ho2 hab hac had hr1 hr2 hr3 hT hpo hVb hXb hAdd hV hXX hzn hZ hA hf hsg hR hRX
  go_enter Tryz.func59, Tryz.ntmps59
  go_upto_region 1 with fail
  rw [← hX]
  clear hX
  first
    | (go_region_held3 (fun w' => (w'.cell? ⟨w.heap.size, 0, none⟩ = some (.int .u64 (p1 : Int)) ∧ w'.cell? ⟨w.heap.size, 1, none⟩ = some (.int .i64 (m1 : Int)) ∧ w'.cell? ⟨w.heap.size, 2, none⟩ = some (.int .i64 (f1 : Int)) ∧ w'.cell? ⟨w.heap.size, 3, none⟩ = some (.bool n1) ∧ w'.cell? ⟨w.heap.size, 4, none⟩ = some v1 ∧ w'.cell? ⟨w.heap.size, 5, none⟩ = some (.int .i64 e1)) ∧ (w'.cell? ⟨w.heap.size + 1, 0, none⟩ = some (.int .u64 (p2 : Int)) ∧ w'.cell? ⟨w.heap.size + 1, 1, none⟩ = some (.int .i64 (m2 : Int)) ∧ w'.cell? ⟨w.heap.size + 1, 2, none⟩ = some (.int .i64 (f2 : Int)) ∧ w'.cell? ⟨w.heap.size + 1, 3, none⟩ = some (.bool n2) ∧ w'.cell? ⟨w.heap.size + 1, 4, none⟩ = some v2 ∧ w'.cell? ⟨w.heap.size + 1, 5, none⟩ = some (.int .i64 e2)))
        ((first | (refine ksT2 HR1.out HR2.out ?_; with_reducible first | assumption | exact Below.drew hcc) | with_reducible exact ⟨ks6R hN1.out (ks6R hN1.out (ks6R hN1.out (ks6R hN1.out (ks6R hN1.out (ks6R hN1.out (ks12 HR1.out hb7).2))))), ks6R hN2.out (ks6R hN2.out (ks6R hN2.out (ks6R hN2.out (ks6R hN2.out (ks6R hN2.out (ks12 HR2.out hb7).2)))))⟩))
        (first
          | (go_at_call 50; (with_reducible refine (float_any P E p2 m2 f2 n2 v2 e2 ys _ (V2.out.below hb4) HO2.out (by omega) (by omega)).mono ?_); rintro _ w5 ⟨g2, rfl, hF2, hb5⟩; have G0' := Lib.hid (G0.out.below hb5); have G1' := Lib.hid (G1.out.below hb5); have G2 := Lib.hid hF2; have hne2 := Lib.hid (show g0 ≠ g2 by have := G0.out.lt; have := hF2.1; omega); clear hF2; have hb5 := bthen hb4 hb5)
          | (go_at_call 50; (with_reducible refine (float_any P E p1 m1 f1 n1 v1 e1 xs _ (V1.out.below hb3) HO1.out (by omega) (by omega)).mono ?_); rintro _ w4 ⟨g1, rfl, hF1, hb4⟩; have G0 := Lib.hid (GF.out.below hb4); have G1 := Lib.hid hF1; have hne1 := Lib.hid (show g0 ≠ g1 by have := GF.out.lt; have := hF1.1; omega); clear hF1; have hb4 := bthen hb3 hb4)
          | (go_at_call 48; refine (fresh_all q k _ (by omega) (by omega)).mono ?_; rintro _ w3 ⟨g0, rfl, ⟨hg0, hF0⟩, hb3⟩; have hg0X : X.heap.size ≤ g0 := (by rw [hg0]; exact Nat.le_refl _); clear hg0; have GF := Lib.hid hF0; clear hF0; have hb3 : Below X.heap.size X w3 := bthen (Below.drew hcc) hb3)
          | (go_at_call 101; (with_reducible refine (HADD.out _ g0 g1 g2 _ _ G0'.out hg0X G1'.out G2.out hne1.out hne2.out).mono ?_); rintro _ w6 ⟨rfl, hA6, hb6⟩; have F6 := Lib.hid (HIN.out _ _ hA6); clear hA6; have hb6 := bthenX hb5 hb6)
          | (go_at_call 56; (with_reducible refine (implBoth _ g0 Z k f A _ _ _ _ F6.out hf2' (by have := HPO.out; omega) (by omega) (fun _ => HPO.out.2) (fun _ => HRB.out) (HT.out.below hb6) hAb).mono ?_); rintro _ w7 ⟨z, rfl, hz, hb7⟩; have hb7 := bthen hb6 hb7; have hq2 := keep_row hb7 HR3.out; obtain ⟨vz, Ez, zs, Bz, rfl, hz2, hzd, hz3, hz4⟩ := hz; have hSz := hz2.isS; obtain ⟨⟨y0, y1, y2, y3, y4, y5⟩, s0, s1, s2, s3, s4, s5⟩ := row6 hq2; have H2 := Lib.hid hz2; have H34 := Lib.hid (And.intro hzd (And.intro hz3 hz4)); have HQ2 := Lib.hid hq2; clear hz2 hzd hz3 hz4 hq2)))
    | fail
  all_goals go_wp2_with fail
  all_goals
    have HS := row6_set (x := .int .u64 (Z : Int)) (y := .int .i64 (k : Int)) (z := .int .i64 (f : Int)) (x' := .bool sg) (y' := vz) (z' := .int .i64 Ez) HQ2.out
    have HB := bset6 (x := .int .u64 (Z : Int)) (y := .int .i64 (k : Int)) (z := .int .i64 (f : Int)) (x' := .bool sg) (y' := vz) (z' := .int .i64 Ez) (hwX.out.trans (hb7.mono hXs)) (Nat.le_trans (Nat.le_succ _) (Nat.le_succ _))
    obtain ⟨⟨a0, a1, a2, a3, a4, a5⟩, -⟩ := row6 HS
    refine bodyPost_ret (v := .tuple #[.agg #[.int .u64 Z, .int .i64 k, .int .i64 f, .bool sg, vz, .int .i64 Ez], .int .i64 A]) ?_ rfl ⟨_, _, rfl, HOUT.out _ _ ⟨_, _, _, Bz, rfl, ?_, H34.out.1, H34.out.2⟩, HB⟩
    · simp [results, Tryz.results59, go_sem, a0, a1, a2, a3, a4, a5]
    · exact H2.out.same fun hc => by
        have hne : sBlk vz ≠ w.heap.size + 2 := H2.out.ne_row HQ2.out (by decide) hc
        exact heap6_other hne
theorem impSub (P E q k p1 m1 f1 p2 m2 f2 : Nat) (n1 n2 : Bool) (v1 v2 : Value) (e1 e2 : Int) (xs ys : List Nat) (w : World) (hv1 : RW w v1 xs) (hv2 : RW w v2 ys) (ho1 : RealOk P E p1 m1 f1 xs e1) (ho2 : RealOk P E p2 m2 f2 ys e2) (hf1 : f1 ≤ 1) (hf2 : f2 ≤ 1) (hP : P ≤ 9000) (hE : E ≤ 400000) (hq : q ≤ 1000000) (hk : k ≤ 5) (hx : f1 = 1 ∨ f2 = 0) (hT : TabW w) :
    Calls Tryz.prog 59 #[.int .u64 q, .int .i64 k, .agg #[.int .u64 p1, .int .i64 m1, .int .i64 f1, .bool n1, v1, .int .i64 e1], .agg #[.int .u64 p2, .int .i64 m2, .int .i64 f2, .bool n2, v2, .int .i64 e2]] w fun e' w' => ∃ z A, e' = .returned (.tuple #[z, .int .i64 A]) ∧ AddZ w' z A (pOf q (max p1 p2)) k (if f1 = 1 then decide (k = 4) else n1 && (!n2)) (smV (dyN f1 n1) (dyM f1 (wv xs)) (dyE f1 e1) (!dyN f2 n2) (dyM f2 (wv ys)) (dyE f2 e2)) (min (dyE f1 e1) (dyE f2 e2)) ∧ Below w.heap.size w w' := by
  have K1 : f1 = 1 → 0 < wv xs ∧ bl (wv xs) ≤ p1 ∧ bl (wv xs) ≤ 10000 ∧ -5000000 ≤ e1 ∧ e1 ≤ 5000000 := fun h1 => by
    have h2 := ho1.2.1
    obtain ⟨_, _, _, h | h | h⟩ := ho1 <;> omega
  have K2 : f2 = 1 → 0 < wv ys ∧ bl (wv ys) ≤ p2 ∧ bl (wv ys) ≤ 10000 ∧ -5000000 ≤ e2 ∧ e2 ≤ 5000000 := fun h1 => by
    have h2 := ho2.2.1
    obtain ⟨_, _, _, h | h | h⟩ := ho2 <;> omega
  have hbd1 := dy_bd ho1
  have hbd2 := dy_bd ho2
  have hblV := smV_bl (dyN f1 n1) (dyM f1 (wv xs)) (dyE f1 e1) (!dyN f2 n2) (dyM f2 (wv ys)) (dyE f2 e2)
  have hp1 := ho1.2.1
  have hp2 := ho2.2.1
  refine impSubG P E q k p1 m1 f1 p2 m2 f2 n1 n2 _ v1 v2 e1 e2 _ _ xs ys w hv1 hv2 ho1 ho2 hf1 hf2 hP (by omega) hq hk hT ?_ ?_ ?_
  · omega
  · omega
  · intro W b B B1 B2 g1 g2 h hB h1 h2 hb1 hb2
    exact subF_any b B B1 B2 g1 g2 q k p1 m1 p2 m2 0 f1 f2 (wv xs) (wv ys) 0 0 e1 e2 false n1 n2 W h hB hf1 hf2 h1 h2 K1 K2 hb1 hb2 (by omega) ho1.1 (by omega) ho2.1 (by omega) hk hx
set_option maxRecDepth 100000 in
set_option maxHeartbeats 6400000 in
theorem impQuoX (P E F q k p1 m1 f1 p2 m2 f2 : Nat) (n1 n2 : Bool) (v1 v2 : Value) (e1 e2 : Int) (xs ys : List Nat) (w : World) (hv1 : RW w v1 xs) (hv2 : RW w v2 ys) (ho1 : RealOk P E p1 m1 f1 xs e1) (ho2 : RealOk P F p2 m2 f2 ys e2) (hf1 : f1 ≤ 1) (hf2 : f2 = 1) (hP : P ≤ 2400) (hE : E ≤ 1040000000) (hF : F ≤ 500000000) (hq : q ≤ 60000) (hk : k ≤ 5) (hT : TabW w) (hK : DivW w) :
    Calls Tryz.prog 60 #[.int .u64 q, .int .i64 k, .agg #[.int .u64 p1, .int .i64 m1, .int .i64 f1, .bool n1, v1, .int .i64 e1], .agg #[.int .u64 p2, .int .i64 m2, .int .i64 f2, .bool n2, v2, .int .i64 e2]] w fun e' w' => ∃ z A, e' = .returned (.tuple #[z, .int .i64 A]) ∧ AddZ w' z A (pOf q (max p1 p2)) k (n1 != n2) (sI (n1 != n2) (quN (pOf q (max p1 p2)) (dyM f1 (wv xs)) (wv ys))) (dyE f1 e1 - e2 - (quK (pOf q (max p1 p2)) (dyM f1 (wv xs)) (wv ys) : Nat) - 1) ∧ Below w.heap.size w w' := by
  have hS1 := hv1.isS
  have hS2 := hv2.isS
  have hab := (Below.refl w.heap.size w).alloc (Nat.le_refl _) (.cells #[.int .u64 p1, .int .i64 m1, .int .i64 f1, .bool n1, v1, .int .i64 e1] 42)
  have hac := hab.alloc hab.size (.cells #[.int .u64 p2, .int .i64 m2, .int .i64 f2, .bool n2, v2, .int .i64 e2] 42)
  have had := hac.alloc hac.size (.cells #[.int .u64 0, .int .i64 0, .int .i64 0, .bool false, .slice none 0 0, .int .i64 0] 42)
  obtain ⟨X, hX⟩ : ∃ X, X = ((w.alloc (.cells #[.int .u64 p1, .int .i64 m1, .int .i64 f1, .bool n1, v1, .int .i64 e1] 42)).alloc (.cells #[.int .u64 p2, .int .i64 m2, .int .i64 f2, .bool n2, v2, .int .i64 e2] 42)).alloc (.cells #[.int .u64 0, .int .i64 0, .int .i64 0, .bool false, .slice none 0 0, .int .i64 0] 42) := ⟨_, rfl⟩
  have hr1 : X.heap[w.heap.size]? = some (.cells #[.int .u64 p1, .int .i64 m1, .int .i64 f1, .bool n1, v1, .int .i64 e1] 42 (0, 0)) := by
    rw [hX]; exact row_chain31
  have hr2 : X.heap[w.heap.size + 1]? = some (.cells #[.int .u64 p2, .int .i64 m2, .int .i64 f2, .bool n2, v2, .int .i64 e2] 42 (0, 0)) := by
    rw [hX]; exact row_chain32
  have hr3 : X.heap[w.heap.size + 2]? = some (.cells #[.int .u64 0, .int .i64 0, .int .i64 0, .bool false, .slice none 0 0, .int .i64 0] 42 (0, 0)) := by
    rw [hX]; exact row_chain33
  rw [← hX] at had
  have V1 := Lib.hid (hv1.below had)
  have V2 := Lib.hid (hv2.below had)
  have HO1 := Lib.hid ho1
  have HO2 := Lib.hid ho2
  have HT := Lib.hid (hT.below had)
  have HK := Lib.hid (hK.below had)
  have HR1 := Lib.hid hr1
  have HR2 := Lib.hid hr2
  have HR3 := Lib.hid hr3
  have hwX := Lib.hid had
  have hcc := Below.refl X.heap.size X
  have hXs := had.size
  have dg : 4 < X.heap.size := World.block_lt_of_cell? X _ HK.out
  have hN1 := Lib.hid (show w.heap.size + 2 ≠ w.heap.size by omega)
  have hN2 := Lib.hid (show w.heap.size + 2 ≠ w.heap.size + 1 by omega)
  have hX2 : w.heap.size + 3 ≤ X.heap.size := by rw [hX]; simp
  have hp1 : 0 < p1 := ho1.1
  have hp2 : 0 < p2 := ho2.1
  have hpP1 : p1 ≤ 2400 := Nat.le_trans ho1.2.1 hP
  have hpP2 : p2 ≤ 2400 := Nat.le_trans ho2.2.1 hP
  have K1 : Hid (f1 = 1 → 0 < wv xs ∧ bl (wv xs) ≤ p1 ∧ bl (wv xs) ≤ 2400 ∧ -1050000000 ≤ e1 ∧ e1 ≤ 1050000000) := Lib.hid (fun h1 => by
    obtain ⟨_, _, _, h | h | h⟩ := ho1
    · omega
    · omega
    · omega)
  have K2 : Hid (f2 = 1 → 0 < wv ys ∧ bl (wv ys) ≤ p2 ∧ bl (wv ys) ≤ 2400 ∧ -600000000 ≤ e2 ∧ e2 ≤ 600000000) := Lib.hid (fun h1 => by
    obtain ⟨_, _, _, h | h | h⟩ := ho2
    · omega
    · omega
    · omega)
  obtain ⟨V, hV⟩ : ∃ V, V = sI (n1 != n2) (quN (pOf q (max p1 p2)) (dyM f1 (wv xs)) (wv ys)) := ⟨_, rfl⟩
  obtain ⟨XX, hXX⟩ : ∃ XX, XX = dyE f1 e1 - e2 - (quK (pOf q (max p1 p2)) (dyM f1 (wv xs)) (wv ys) : Nat) - 1 := ⟨_, rfl⟩
  obtain ⟨zn, hzn⟩ : ∃ zn, zn = (n1 != n2) := ⟨_, rfl⟩
  have hbd1 := dy_bd ho1
  have hbd2 := dy_bd ho2
  have hblV : bl (sI (n1 != n2) (quN (pOf q (max p1 p2)) (dyM f1 (wv xs)) (wv ys))).natAbs ≤ 200000 := by
    rw [natAbs_sI]
    refine Nat.le_trans (quN_bl _ _ _) ?_
    have h2 := K2.out hf2
    have h3 : pOf q (max p1 p2) ≤ 60000 := by unfold pOf; split <;> omega
    unfold quK; omega
  have hquK : quK (pOf q (max p1 p2)) (dyM f1 (wv xs)) (wv ys) ≤ 200000 := by
    have h2 := K2.out hf2
    have h3 : pOf q (max p1 p2) ≤ 60000 := by unfold pOf; split <;> omega
    unfold quK; omega
  rw [← hV] at hblV
  have HXB : Hid (bl V.natAbs ≤ 1000000 ∧ -2120000000 ≤ XX ∧ XX ≤ 2120000000) := Lib.hid (by have := K2.out hf2; omega)
  have hpo : pOf q (max p1 p2) ≤ 1000000 ∧ 0 < pOf q (max p1 p2) := by unfold pOf; split <;> omega
  obtain ⟨Z, hZ⟩ : ∃ Z, Z = pOf q (max p1 p2) := ⟨_, rfl⟩
  rw [← hZ] at hpo
  have HPO := Lib.hid hpo
  obtain ⟨A, hA⟩ : ∃ A, A = rA Z k (vN V) 0 V.natAbs := ⟨_, rfl⟩
  have hAb : -1 ≤ A ∧ A ≤ 1 := by rw [hA]; exact rA_bd _ _ _ _ _
  obtain ⟨f, hf⟩ : ∃ f, f = fO V.natAbs := ⟨_, rfl⟩
  have hf2' : f ≤ 2 := by rw [hf]; unfold fO; split <;> omega
  obtain ⟨sg, hsg⟩ : ∃ sg, sg = (if V = 0 then zn else vN V) := ⟨_, rfl⟩
  obtain ⟨R, hR⟩ : ∃ R, R = rQ Z k (vN V) 0 V.natAbs := ⟨_, rfl⟩
  obtain ⟨RX, hRX⟩ : ∃ RX, RX = XX + rk Z V.natAbs := ⟨_, rfl⟩
  have HRB : Hid (-2140000000 ≤ RX ∧ RX + bl R ≤ 2140000000) := Lib.hid (by rw [hRX, hR]; exact rQ_range HXB.out)
  have HIN := Lib.hid (fun (w' : World) (b : Nat) (h : AddR w' X.heap.size b Z k zn V XX) => (by unfold AddR at h; rw [← hA, ← hf, ← hsg, ← hR, ← hRX] at h; exact h : FVal w' X.heap.size b Z k A f sg R RX))
  have HOUT := Lib.hid (fun (w' : World) (z : Value) (h : RealV w' z Z k f sg R RX) => (by unfold AddZ; rw [← hA, ← hf, ← hsg, ← hR, ← hRX]; exact ⟨rfl, h⟩ : AddZ w' z A Z k zn V XX))
  have HADD := Lib.hid (fun (W : World) (b g1 g2 B1 B2 : Nat) (h : FltR W b q k 0 0 false (.slice none 0 0) 0) (hB : X.heap.size ≤ b) (h1 : FloatAt W B1 g1 p1 m1 f1 n1 (wv xs) e1) (h2 : FloatAt W B2 g2 p2 m2 f2 n2 (wv ys) e2) (hb1 : b ≠ g1) (hb2 : b ≠ g2) (hKW : DivW W) =>
    quoF_any b X.heap.size B1 B2 g1 g2 q k p1 m1 p2 m2 0 f1 f2 (wv xs) (wv ys) 0 0 e1 e2 false n1 n2 W h hB hf1 hf2 h1 h2 K1.out K2.out hb1 hb2 (by omega) hp1 (by omega) hp2 (by omega) hk hKW dg)
  rw [← hV, ← hzn, ← hXX, ← hZ] at HADD
  rw [← hV, ← hzn, ← hXX, ← hZ]
  clear hv1 hv2 ho1 ho2 hab hac had hr1 hr2 hr3 hT hK hpo hbd1 hbd2 hblV hquK dg hf2 hV hXX hzn hZ hA hf hsg hR hRX
  go_enter Tryz.func60, Tryz.ntmps60
  go_upto_region 1 with fail
  rw [← hX]
  clear hX
  first
    | (go_region_held3 (fun w' => (w'.cell? ⟨w.heap.size, 0, none⟩ = some (.int .u64 (p1 : Int)) ∧ w'.cell? ⟨w.heap.size, 1, none⟩ = some (.int .i64 (m1 : Int)) ∧ w'.cell? ⟨w.heap.size, 2, none⟩ = some (.int .i64 (f1 : Int)) ∧ w'.cell? ⟨w.heap.size, 3, none⟩ = some (.bool n1) ∧ w'.cell? ⟨w.heap.size, 4, none⟩ = some v1 ∧ w'.cell? ⟨w.heap.size, 5, none⟩ = some (.int .i64 e1)) ∧ (w'.cell? ⟨w.heap.size + 1, 0, none⟩ = some (.int .u64 (p2 : Int)) ∧ w'.cell? ⟨w.heap.size + 1, 1, none⟩ = some (.int .i64 (m2 : Int)) ∧ w'.cell? ⟨w.heap.size + 1, 2, none⟩ = some (.int .i64 (f2 : Int)) ∧ w'.cell? ⟨w.heap.size + 1, 3, none⟩ = some (.bool n2) ∧ w'.cell? ⟨w.heap.size + 1, 4, none⟩ = some v2 ∧ w'.cell? ⟨w.heap.size + 1, 5, none⟩ = some (.int .i64 e2)))
        ((first | (refine ksT2 HR1.out HR2.out ?_; with_reducible first | assumption | exact Below.drew hcc) | with_reducible exact ⟨ks6R hN1.out (ks6R hN1.out (ks6R hN1.out (ks6R hN1.out (ks6R hN1.out (ks6R hN1.out (ks12 HR1.out hb7).2))))), ks6R hN2.out (ks6R hN2.out (ks6R hN2.out (ks6R hN2.out (ks6R hN2.out (ks6R hN2.out (ks12 HR2.out hb7).2)))))⟩))
        (first
          | (go_at_call 50; (with_reducible refine (float_any P F p2 m2 f2 n2 v2 e2 ys _ (V2.out.below hb4) HO2.out (by omega) (by omega)).mono ?_); rintro _ w5 ⟨g2, rfl, hF2, hb5⟩; have G0' := Lib.hid (G0.out.below hb5); have G1' := Lib.hid (G1.out.below hb5); have G2 := Lib.hid hF2; have hne2 := Lib.hid (show g0 ≠ g2 by have := G0.out.lt; have := hF2.1; omega); have hne3 := Lib.hid (show g1 ≠ g2 by obtain ⟨_, _, hr⟩ := G1.out.row; have := hr.lt; have := hF2.1; omega); clear hF2; have hb5 := bthen hb4 hb5)
          | (go_at_call 50; (with_reducible refine (float_any P E p1 m1 f1 n1 v1 e1 xs _ (V1.out.below hb3) HO1.out (by omega) (by omega)).mono ?_); rintro _ w4 ⟨g1, rfl, hF1, hb4⟩; have G0 := Lib.hid (GF.out.below hb4); have G1 := Lib.hid hF1; have hne1 := Lib.hid (show g0 ≠ g1 by have := GF.out.lt; have := hF1.1; omega); clear hF1; have hb4 := bthen hb3 hb4)
          | (go_at_call 48; refine (fresh_all q k _ (by omega) (by omega)).mono ?_; rintro _ w3 ⟨g0, rfl, ⟨hg0, hF0⟩, hb3⟩; have hg0X : X.heap.size ≤ g0 := (by rw [hg0]; exact Nat.le_refl _); clear hg0; have GF := Lib.hid hF0; clear hF0; have hb3 : Below X.heap.size X w3 := bthen (Below.drew hcc) hb3)
          | (go_at_call 102; (with_reducible refine (HADD.out _ g0 g1 g2 _ _ G0'.out hg0X G1'.out G2.out hne1.out hne2.out (HK.out.below hb5)).mono ?_); rintro _ w6 ⟨rfl, hA6, hb6⟩; have F6 := Lib.hid (HIN.out _ _ hA6); clear hA6; have hb6 := bthenX hb5 hb6)
          | (go_at_call 56; (with_reducible refine (implBoth _ g0 Z k f A _ _ _ _ F6.out hf2' (by have := HPO.out; omega) (by omega) (fun _ => HPO.out.2) (fun _ => HRB.out) (HT.out.below hb6) hAb).mono ?_); rintro _ w7 ⟨z, rfl, hz, hb7⟩; have hb7 := bthen hb6 hb7; have hq2 := keep_row hb7 HR3.out; obtain ⟨vz, Ez, zs, Bz, rfl, hz2, hzd, hz3, hz4⟩ := hz; have hSz := hz2.isS; obtain ⟨⟨y0, y1, y2, y3, y4, y5⟩, s0, s1, s2, s3, s4, s5⟩ := row6 hq2; have H2 := Lib.hid hz2; have H34 := Lib.hid (And.intro hzd (And.intro hz3 hz4)); have HQ2 := Lib.hid hq2; clear hz2 hzd hz3 hz4 hq2)))
    | fail
  all_goals go_wp2_with fail
  all_goals
    have HS := row6_set (x := .int .u64 (Z : Int)) (y := .int .i64 (k : Int)) (z := .int .i64 (f : Int)) (x' := .bool sg) (y' := vz) (z' := .int .i64 Ez) HQ2.out
    have HB := bset6 (x := .int .u64 (Z : Int)) (y := .int .i64 (k : Int)) (z := .int .i64 (f : Int)) (x' := .bool sg) (y' := vz) (z' := .int .i64 Ez) (hwX.out.trans (hb7.mono hXs)) (Nat.le_trans (Nat.le_succ _) (Nat.le_succ _))
    obtain ⟨⟨a0, a1, a2, a3, a4, a5⟩, -⟩ := row6 HS
    refine bodyPost_ret (v := .tuple #[.agg #[.int .u64 Z, .int .i64 k, .int .i64 f, .bool sg, vz, .int .i64 Ez], .int .i64 A]) ?_ rfl ⟨_, _, rfl, HOUT.out _ _ ⟨_, _, _, Bz, rfl, ?_, H34.out.1, H34.out.2⟩, HB⟩
    · simp [results, Tryz.results60, go_sem, a0, a1, a2, a3, a4, a5]
    · exact H2.out.same fun hc => by
        have hne : sBlk vz ≠ w.heap.size + 2 := H2.out.ne_row HQ2.out (by decide) hc
        exact heap6_other hne
theorem impQuo (P E q k p1 m1 f1 p2 m2 f2 : Nat) (n1 n2 : Bool) (v1 v2 : Value) (e1 e2 : Int) (xs ys : List Nat) (w : World) (hv1 : RW w v1 xs) (hv2 : RW w v2 ys) (ho1 : RealOk P E p1 m1 f1 xs e1) (ho2 : RealOk P E p2 m2 f2 ys e2) (hf1 : f1 ≤ 1) (hf2 : f2 = 1) (hP : P ≤ 2400) (hE : E ≤ 400000) (hq : q ≤ 60000) (hk : k ≤ 5) (hT : TabW w) (hK : DivW w) :
    Calls Tryz.prog 60 #[.int .u64 q, .int .i64 k, .agg #[.int .u64 p1, .int .i64 m1, .int .i64 f1, .bool n1, v1, .int .i64 e1], .agg #[.int .u64 p2, .int .i64 m2, .int .i64 f2, .bool n2, v2, .int .i64 e2]] w fun e' w' => ∃ z A, e' = .returned (.tuple #[z, .int .i64 A]) ∧ AddZ w' z A (pOf q (max p1 p2)) k (n1 != n2) (sI (n1 != n2) (quN (pOf q (max p1 p2)) (dyM f1 (wv xs)) (wv ys))) (dyE f1 e1 - e2 - (quK (pOf q (max p1 p2)) (dyM f1 (wv xs)) (wv ys) : Nat) - 1) ∧ Below w.heap.size w w' :=
  impQuoX P E E q k p1 m1 f1 p2 m2 f2 n1 n2 v1 v2 e1 e2 xs ys w hv1 hv2 ho1 ho2 hf1 hf2 hP (by omega) (by omega) hq hk hT hK
theorem od_rQ {p m M : Nat} (n : Bool) (s : Nat) (hp0 : 0 < p) (hM : 0 < M) : bl (od (rQ p m n s M)) ≤ p ∨ s ≠ 0 := by
  by_cases hs : s = 0
  · subst hs
    left
    by_cases h : bl M ≤ p
    · rw [(rQ_fits (m := m) n h).2.1]
      have := bl_od hM; omega
    · have h3 := (rQ_bound (m := m) n 0 hp0 (show p < bl M by omega)).2.2
      have h0 := rQ_pos (m := m) n 0 hp0 hM
      by_cases he : rQ p m n 0 M = 2 ^ p
      · have := (od_of (n := rQ p m n 0 M) (o := 1) (t := p) (by rw [Nat.one_mul]; exact he) (by decide)).1
        rw [this]; have : bl 1 ≤ 1 := bl_le (by decide)
        omega
      · have h4 : bl (rQ p m n 0 M) ≤ p := bl_le (by omega)
        have := bl_od h0; omega
  · exact .inr hs
def xf (a : Nat) : Nat := a % 9223372036854775808 / 4503599627370496
theorem nan_bits (t : Nat) : t % 2 * 2 ^ 63 + 0x7ff0000000000000 + 1 + t / 2 % (2 ^ 52 - 1) < 18446744073709551616 ∧ xf (t % 2 * 2 ^ 63 + 0x7ff0000000000000 + 1 + t / 2 % (2 ^ 52 - 1)) = 2047 := by
  have hv : t / 2 % (2 ^ 52 - 1) < 4503599627370495 := Nat.mod_lt _ (by decide)
  generalize t / 2 % (2 ^ 52 - 1) = v at *
  unfold xf
  rcases (by omega : t % 2 = 0 ∨ t % 2 = 1) with h | h <;> rw [h]
  · have e : 0 * 2 ^ 63 + 0x7ff0000000000000 + 1 + v = 9218868437227405313 + v := by omega
    rw [e]
    constructor <;> omega
  · have e : 1 * 2 ^ 63 + 0x7ff0000000000000 + 1 + v = 18442240474082181121 + v := by omega
    rw [e]
    constructor <;> omega
theorem fop_any (op : BinOp) (hop : op = .add ∨ op = .sub ∨ op = .mul ∨ op = .quo) (t : TypeId) (x y : Nat) (w : World) :
    ∃ r n, (binOp op t (.float .f64 x) (.float .f64 y)).run Tryz.prog w = .ok (.float .f64 r) (w.drewN n) ∧ r < 18446744073709551616 ∧ (floatBits op .f64 x y = some r ∨ xf r = 2047) := by
  rcases h : floatBits op .f64 x y with _ | r
  · refine ⟨Question.cut (.nanBits .f64 x y) (w.tape w.drawn (.nanBits .f64 x y)), 1, ?_, ?_, .inr ?_⟩
    · unfold floatBits at h
      rcases hop with rfl | rfl | rfl | rfl <;> simp only at h <;> simp [binOp, Op.floatArith, h] <;> rfl
    · exact (nan_bits _).1
    · exact (nan_bits _).2
  · refine ⟨r, 0, run_float_arith w op t .f64 x y r h, ?_, .inl rfl⟩
    have := floatBits_wf h
    simpa [Lit.wf] using this
theorem and_2047f {a : Nat} (ha : a < 18446744073709551616) : bits .and .u64 ((a / 4503599627370496 : Nat) : Int) 2047 = ((xf a : Nat) : Int) := by
  rw [and_2047 (by omega)]
  unfold xf
  omega
set_option maxRecDepth 100000 in
theorem normal_any (a : Nat) (w : World) (ha : a < 18446744073709551616) :
    Calls Tryz.prog 31 #[.float .f64 a] w fun e w' => e = .returned (.bool (decide (1 < xf a) && decide (xf a < 2047))) ∧ w = w' := by
  have h1 := and_2047f ha
  have h2 : (a : Int) / 4503599627370496 = ((a / 4503599627370496 : Nat) : Int) := by omega
  obtain ⟨q, hq⟩ : ∃ q, q = a / 4503599627370496 := ⟨_, rfl⟩
  rw [← hq] at h1 h2
  obtain ⟨e, he⟩ : ∃ e, e = xf a := ⟨_, rfl⟩
  rw [← he] at h1 ⊢
  clear he hq
  by_cases c1 : 1 < e
  · have t1 : decide ((1 : Int) < (e : Int)) = true := decide_eq_true (by omega)
    rw [decide_eq_true c1, Bool.true_and]
    obtain ⟨b, hb⟩ : ∃ b, b = decide (e < 2047) := ⟨_, rfl⟩
    have t2 : decide ((e : Int) < 2047) = b := by rw [hb]; by_cases h : e < 2047; rw [decide_eq_true h, decide_eq_true (by omega)]; rw [decide_eq_false h, decide_eq_false (by omega)]
    rw [← hb]
    clear c1 hb ha
    go_enter Tryz.func31, Tryz.ntmps31
    go_wp2_with (simp only [f64bits])
    go_ret
    exact ⟨rfl, rfl⟩
  · have t1 : decide ((1 : Int) < (e : Int)) = false := decide_eq_false (by omega)
    rw [decide_eq_false c1, Bool.false_and]
    clear c1 ha
    go_enter Tryz.func31, Tryz.ntmps31
    go_wp2_with (simp only [f64bits])
    go_ret
    exact ⟨rfl, rfl⟩
theorem norm_ob {a : Nat} (h1 : 1 < xf a) (h2 : xf a < 2047) : obF a ∧ 0 < obM a ∧ bl (obM a) = 53 ∧ -1074 ≤ obE a ∧ obE a ≤ 971 := by
  unfold xf at h1 h2
  have hf : obF a := by unfold obF; omega
  have hM : obM a = 4503599627370496 + a % 4503599627370496 := by unfold obM; rw [if_neg (by omega)]
  refine ⟨hf, by omega, ?_, obE_bd hf⟩
  rw [hM]
  exact bl_of (k := 52) (by rw [show (2 : Nat) ^ 52 = 4503599627370496 from rfl]; omega) (by rw [show (2 : Nat) ^ (52 + 1) = 9007199254740992 from rfl]; omega)
def AsR (w : World) (_n : Bool) (M : Nat) (E : Int) (v : Value) : Prop := RW w v (wds (od M)) ∧ RealOk 53 1100 53 0 1 (wds (od M)) (E + (tz M : Nat))
theorem setF64_one (a : Nat) (w : World) (ha : a < 18446744073709551616) (h1 : 1 < xf a) (h2 : xf a < 2047) (hT : TabW w) :
    Calls Tryz.prog 32 #[.int .u64 53, .int .i64 0, .int .u64 a] w fun e' w' => ∃ v A, e' = .returned (.tuple #[.agg #[.int .u64 53, .int .i64 0, .int .i64 1, .bool (obN a), v, .int .i64 (obE a + (tz (obM a) : Nat))], .int .i64 A]) ∧ IsS v ∧ AsR w' (obN a) (obM a) (obE a) v ∧ Below w.heap.size w w' := by
  obtain ⟨hf, hM, hb, he1, he2⟩ := norm_ob h1 h2
  refine (impSetFloat64 53 0 a w (by decide) (by decide) ha hf hT).mono ?_
  rintro e w' ⟨z, h, hz, hbw⟩
  have hp : pD 53 53 = 53 := rfl
  obtain ⟨r1, r2, -⟩ := rQ_fits (p := 53) (m := 0) (obN a) (show bl (obM a) ≤ 53 by omega)
  rw [hp, r1, r2, show fO (obM a) = 1 by unfold fO; rw [if_neg (by omega)]] at hz
  have hto := tz_le hM
  have hod := bl_od hM
  obtain ⟨v, Ez, zs, k1, k2, k3, k4, -⟩ := hz.ok (P := 53) (E := 1100) (by decide) (Nat.le_refl _) (by decide) (by decide) (fun _ => ⟨hM, by omega, by omega, by omega, by omega⟩)
  obtain ⟨-, k5, k6, -⟩ := k4 rfl
  subst k5
  have e0 : obE a + ((0 : Nat) : Int) + (tz (obM a) : Nat) = obE a + (tz (obM a) : Nat) := by omega
  rw [e0] at k6
  subst k6
  exact ⟨v, _, by rw [h, k1]; rfl, k2.isS, ⟨k2, k3⟩, hbw⟩
theorem as_told {V X : Int} {c : Nat} (ok : AfOk V X c) {w : World} {z : Value} {A : Int} {zn : Bool} (h : AddZ w z A 53 0 zn V X) (_hX : -10000 ≤ X ∧ X ≤ 10000) (hV : bl V.natAbs ≤ 10000) :
    ∃ v zs Ez, z = .agg #[.int .u64 53, .int .i64 0, .int .i64 1, .bool (vN V), v, .int .i64 Ez] ∧ IsS v ∧ RW w v zs ∧ ∀ W, RW W v zs → Calls Tryz.prog 34 #[z] W fun e' w' => e' = .returned (.tuple #[.int .u64 c, .int .i64 0]) ∧ Below W.heap.size W w' := by
  obtain ⟨hV0, g1, g2, g3, g4, g5⟩ := ok
  obtain ⟨-, hz⟩ := h
  have hM : 0 < V.natAbs := by omega
  have hod := (od_rQ (p := 53) (m := 0) (vN V) 0 (by decide) hM).resolve_right (by decide)
  have hrk := rk_le 53 V.natAbs
  have hrq := bl_rQ 53 0 (vN V) 0 V.natAbs
  rw [if_neg hV0, show fO V.natAbs = 1 by unfold fO; rw [if_neg (by omega)]] at hz
  obtain ⟨v, Ez, zs, k1, k2, k3, k4, -⟩ := hz.ok (P := 53) (E := 40000) (by decide) (Nat.le_refl _) (by decide) (by decide) (fun _ => ⟨g3, hod, by omega, by omega, by omega⟩)
  obtain ⟨k5, -, -, k8⟩ := k4 rfl
  have hb := k8.bl (k3.one rfl).1
  refine ⟨v, zs, Ez, k1, k2.isS, k2, fun W hW => ?_⟩
  obtain ⟨t1, t2⟩ := btV_deq (n := vN V) (k := 52) (T := 2047) (L := -1074) (k3.one rfl).1 k8 (by omega) (by decide)
  have e1 : f64V 1 (vN V) (wv zs) Ez = c := by
    rw [← g1]; unfold f64V; rw [if_pos rfl, if_pos rfl, t1]
  have e2 : f64A 1 (vN V) (wv zs) Ez = 0 := by
    rw [← g2]; unfold f64A; rw [if_pos rfl, if_pos rfl, t2]
  have hI := impFloat64 53 40000 53 0 1 (vN V) v Ez zs W hW k3 (by decide) (by decide) (fun _ => by omega)
  rw [e1, e2] at hI
  rw [k1]
  exact hI
end Go.Proofs.YtllhnjpnkmjopaaGreatDoor
