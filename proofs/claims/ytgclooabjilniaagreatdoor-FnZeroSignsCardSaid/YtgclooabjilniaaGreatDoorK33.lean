/-
Texts of this proof, joined: IzA. No condition.
-/
import Derived.Test.YtgclooabjilniaaGreatDoorK19
import Derived.Test.YtgclooabjilniaaGreatDoorK23
/-
Floats: sums, products and quotients with infinite operands, and quotients with zeros. No condition.
-/
namespace Go.Proofs.YtgclooabjilniaaGreatDoor
open Go.RowKit

/-- A receiver that is infinite or zero. -/
def SpR (w : World) (b q m f : Nat) (neg : Bool) : Prop := ∃ v e, FltR w b q m 0 f neg v e
theorem FVal.sp {w : World} {B b q p m f M : Nat} {neg : Bool} {X : Int} (h : FVal w B b (pOf q p) m (stA f (pOf q p) m neg M) f neg (rQ (pOf q p) m neg 0 M) X) (hq : 0 < q) (hf : f = 2) : SpR w b q m 2 neg := by
  subst hf
  obtain ⟨v, e, h1, -⟩ := h
  have : pOf q p = q := by unfold pOf; rw [if_neg (by omega)]
  rw [this] at h1
  exact ⟨v, e, h1⟩
theorem FVal.spn {w : World} {B b q p m f M : Nat} {neg : Bool} {X : Int} (h : FVal w B b (pOf q p) m (stA f (pOf q p) m neg M) f (!neg) (rQ (pOf q p) m neg 0 M) X) (hq : 0 < q) (hf : f = 2) : SpR w b q m 2 (!neg) := by
  subst hf
  obtain ⟨v, e, h1, -⟩ := h
  have : pOf q p = q := by unfold pOf; rw [if_neg (by omega)]
  rw [this] at h1
  exact ⟨v, e, h1⟩
set_option maxRecDepth 100000 in
set_option maxHeartbeats 3200000 in
theorem addF_i20 (b B B1 B2 g1 g2 q m p1 m1 p2 m2 f0 M N : Nat) (a0 e0 E F : Int) (nz n1 n2 : Bool) (w : World) (h : FltR w b q m a0 f0 nz (.slice none 0 0) e0) (hB : B ≤ b) (h1 : FloatAt w B1 g1 p1 m1 2 n1 M E) (h2 : FloatAt w B2 g2 p2 m2 0 n2 N F)
    (hb1 : b ≠ g1) (hb2 : b ≠ g2) (hq0 : 0 < q) (hq : q ≤ 64000000) (hp11 : 0 < p1) (hp1' : p1 ≤ 64000000) (_hp22 : 0 < p2) (_hp2' : p2 ≤ 64000000) (hm : m ≤ 5) :
    Calls Tryz.prog 57 #[.pointer (some ⟨b, 0, none⟩), .pointer (some ⟨g1, 0, none⟩), .pointer (some ⟨g2, 0, none⟩)] w fun e' w' => e' = .returned (.pointer (some ⟨b, 0, none⟩)) ∧ SpR w' b q m 2 n1 ∧ Below B w w' := by
  have HS := Lib.hid (fun (W : World) (k1 : FltR W b q m a0 f0 nz (.slice none 0 0) e0) (k2 : FloatAt W B1 g1 p1 m1 2 n1 M E) => setF_val b B g1 B1 q m f0 p1 m1 2 a0 e0 0 nz n1 M E W k1 hB (k2.val (fun h => absurd h (by decide))) hb1 (by decide) hp11 hp1' hq hm (fun h => absurd h (by decide)))
  have hz' : ¬ q = 0 := by omega
  have t0 : ((q : Int) == 0) = false := by rw [beq_eq_false_iff_ne]; omega
  have hne1 : ¬ b = g1 := hb1
  have hne1' : ¬ g1 = b := fun h => hne1 h.symm
  have hne2 : ¬ b = g2 := hb2
  have hne2' : ¬ g2 = b := fun h => hne2 h.symm
  obtain ⟨r1, x1, hg1⟩ := h1.row
  obtain ⟨r2, x2, hg2⟩ := h2.row
  obtain ⟨c0, c1, c2, c3, c4, c5, c6⟩ := h.cells
  obtain ⟨f0', f1', f2', f3', f4', f5', f6'⟩ := h.free
  obtain ⟨y0, y1, y2, y3', y4, y5, y6⟩ := hg1.cells
  obtain ⟨z0, z1, z2, z3', z4, z5, z6⟩ := hg2.cells
  have y3 : w.cell? ⟨g1, 3, none⟩ = some (.int .u8 2) := y3'
  have z3 : w.cell? ⟨g2, 3, none⟩ = some (.int .u8 0) := z3'
  have HH := Lib.hid h
  have HX := Lib.hid h1
  have HY := Lib.hid h2
  have HG1 := Lib.hid hg1
  have HG2 := Lib.hid hg2
  clear h h1 h2 hg1 hg2 y3' z3' c1 c2 c5 c6
  go_enter Tryz.func57, Tryz.ntmps57
  go_wp2_with fail
  go_quiet (fail)
  obtain ⟨W, hW⟩ : ∃ W, W = (w.drewN nq) := ⟨_, rfl⟩
  rw [← hW]
  have hWh : FltR W b q m a0 f0 nz (.slice none 0 0) e0 := by rw [hW]; exact HH.out.drewN nq
  have hWB : Below B w W := by rw [hW]; exact undrewN' (Below.refl B w)
  have hW1 : FltR W g1 p1 m1 0 2 n1 r1 x1 := by rw [hW]; exact HG1.out
  have hW2 : FltR W g2 p2 m2 0 0 n2 r2 x2 := by rw [hW]; exact HG2.out
  have HWA := Lib.hid (by rw [hW]; exact HX.out.drewN nq : FloatAt W B1 g1 p1 m1 2 n1 M E)
  clear hW c0 c3 c4 f0' f1' f2' f3' f4' f5' f6' y0 y1 y2 y3 y4 y5 y6 z0 z1 z2 z3 z4 z5 z6
  obtain ⟨c0, c1, c2, c3, c4, c5, c6⟩ := hWh.cells
  obtain ⟨f0', f1', f2', f3', f4', f5', f6'⟩ := hWh.free
  obtain ⟨y0, y1, y2, y3', y4, y5, y6⟩ := hW1.cells
  obtain ⟨z0, z1, z2, z3', z4, z5, z6⟩ := hW2.cells
  have y3 : W.cell? ⟨g1, 3, none⟩ = some (.int .u8 2) := y3'
  have z3 : W.cell? ⟨g2, 3, none⟩ = some (.int .u8 0) := z3'
  have HWH := Lib.hid hWh
  have HWB := Lib.hid hWB
  clear y3' z3' hWh hWB hW1 hW2
  go_wp2_with fail
  refine (HS.out _ HWH.out HWA.out).mono ?_
  rintro _ w5 ⟨rfl, hv, hb5⟩
  have HV := Lib.hid hv
  have HB5 := Lib.hid (HWB.out.trans hb5)
  clear hv hb5
  go_wp2
  go_ret
  exact ⟨rfl, HV.out.sp hq0 rfl, HB5.out⟩
set_option maxRecDepth 100000 in
set_option maxHeartbeats 3200000 in
theorem addF_i21 (b B B1 B2 g1 g2 q m p1 m1 p2 m2 f0 M N : Nat) (a0 e0 E F : Int) (nz n1 n2 : Bool) (w : World) (h : FltR w b q m a0 f0 nz (.slice none 0 0) e0) (hB : B ≤ b) (h1 : FloatAt w B1 g1 p1 m1 2 n1 M E) (h2 : FloatAt w B2 g2 p2 m2 1 n2 N F)
    (hb1 : b ≠ g1) (hb2 : b ≠ g2) (hq0 : 0 < q) (hq : q ≤ 64000000) (hp11 : 0 < p1) (hp1' : p1 ≤ 64000000) (_hp22 : 0 < p2) (_hp2' : p2 ≤ 64000000) (hm : m ≤ 5) :
    Calls Tryz.prog 57 #[.pointer (some ⟨b, 0, none⟩), .pointer (some ⟨g1, 0, none⟩), .pointer (some ⟨g2, 0, none⟩)] w fun e' w' => e' = .returned (.pointer (some ⟨b, 0, none⟩)) ∧ SpR w' b q m 2 n1 ∧ Below B w w' := by
  have HS := Lib.hid (fun (W : World) (k1 : FltR W b q m a0 f0 nz (.slice none 0 0) e0) (k2 : FloatAt W B1 g1 p1 m1 2 n1 M E) => setF_val b B g1 B1 q m f0 p1 m1 2 a0 e0 0 nz n1 M E W k1 hB (k2.val (fun h => absurd h (by decide))) hb1 (by decide) hp11 hp1' hq hm (fun h => absurd h (by decide)))
  have hz' : ¬ q = 0 := by omega
  have t0 : ((q : Int) == 0) = false := by rw [beq_eq_false_iff_ne]; omega
  have hne1 : ¬ b = g1 := hb1
  have hne1' : ¬ g1 = b := fun h => hne1 h.symm
  have hne2 : ¬ b = g2 := hb2
  have hne2' : ¬ g2 = b := fun h => hne2 h.symm
  obtain ⟨r1, x1, hg1⟩ := h1.row
  obtain ⟨r2, x2, hg2⟩ := h2.row
  obtain ⟨c0, c1, c2, c3, c4, c5, c6⟩ := h.cells
  obtain ⟨f0', f1', f2', f3', f4', f5', f6'⟩ := h.free
  obtain ⟨y0, y1, y2, y3', y4, y5, y6⟩ := hg1.cells
  obtain ⟨z0, z1, z2, z3', z4, z5, z6⟩ := hg2.cells
  have y3 : w.cell? ⟨g1, 3, none⟩ = some (.int .u8 2) := y3'
  have z3 : w.cell? ⟨g2, 3, none⟩ = some (.int .u8 1) := z3'
  have HH := Lib.hid h
  have HX := Lib.hid h1
  have HY := Lib.hid h2
  have HG1 := Lib.hid hg1
  have HG2 := Lib.hid hg2
  clear h h1 h2 hg1 hg2 y3' z3' c1 c2 c5 c6
  go_enter Tryz.func57, Tryz.ntmps57
  go_wp2_with fail
  go_quiet (fail)
  obtain ⟨W, hW⟩ : ∃ W, W = (w.drewN nq) := ⟨_, rfl⟩
  rw [← hW]
  have hWh : FltR W b q m a0 f0 nz (.slice none 0 0) e0 := by rw [hW]; exact HH.out.drewN nq
  have hWB : Below B w W := by rw [hW]; exact undrewN' (Below.refl B w)
  have hW1 : FltR W g1 p1 m1 0 2 n1 r1 x1 := by rw [hW]; exact HG1.out
  have hW2 : FltR W g2 p2 m2 0 1 n2 r2 x2 := by rw [hW]; exact HG2.out
  have HWA := Lib.hid (by rw [hW]; exact HX.out.drewN nq : FloatAt W B1 g1 p1 m1 2 n1 M E)
  clear hW c0 c3 c4 f0' f1' f2' f3' f4' f5' f6' y0 y1 y2 y3 y4 y5 y6 z0 z1 z2 z3 z4 z5 z6
  obtain ⟨c0, c1, c2, c3, c4, c5, c6⟩ := hWh.cells
  obtain ⟨f0', f1', f2', f3', f4', f5', f6'⟩ := hWh.free
  obtain ⟨y0, y1, y2, y3', y4, y5, y6⟩ := hW1.cells
  obtain ⟨z0, z1, z2, z3', z4, z5, z6⟩ := hW2.cells
  have y3 : W.cell? ⟨g1, 3, none⟩ = some (.int .u8 2) := y3'
  have z3 : W.cell? ⟨g2, 3, none⟩ = some (.int .u8 1) := z3'
  have HWH := Lib.hid hWh
  have HWB := Lib.hid hWB
  clear y3' z3' hWh hWB hW1 hW2
  go_wp2_with fail
  refine (HS.out _ HWH.out HWA.out).mono ?_
  rintro _ w5 ⟨rfl, hv, hb5⟩
  have HV := Lib.hid hv
  have HB5 := Lib.hid (HWB.out.trans hb5)
  clear hv hb5
  go_wp2
  go_ret
  exact ⟨rfl, HV.out.sp hq0 rfl, HB5.out⟩
set_option maxRecDepth 100000 in
set_option maxHeartbeats 3200000 in
theorem addF_i02 (b B B1 B2 g1 g2 q m p1 m1 p2 m2 f0 M N : Nat) (a0 e0 E F : Int) (nz n1 n2 : Bool) (w : World) (h : FltR w b q m a0 f0 nz (.slice none 0 0) e0) (hB : B ≤ b) (h1 : FloatAt w B1 g1 p1 m1 0 n1 M E) (h2 : FloatAt w B2 g2 p2 m2 2 n2 N F)
    (hb1 : b ≠ g1) (hb2 : b ≠ g2) (hq0 : 0 < q) (hq : q ≤ 64000000) (_hp11 : 0 < p1) (_hp1' : p1 ≤ 64000000) (hp22 : 0 < p2) (hp2' : p2 ≤ 64000000) (hm : m ≤ 5) :
    Calls Tryz.prog 57 #[.pointer (some ⟨b, 0, none⟩), .pointer (some ⟨g1, 0, none⟩), .pointer (some ⟨g2, 0, none⟩)] w fun e' w' => e' = .returned (.pointer (some ⟨b, 0, none⟩)) ∧ SpR w' b q m 2 n2 ∧ Below B w w' := by
  have HS := Lib.hid (fun (W : World) (k1 : FltR W b q m a0 f0 nz (.slice none 0 0) e0) (k2 : FloatAt W B2 g2 p2 m2 2 n2 N F) => setF_val b B g2 B2 q m f0 p2 m2 2 a0 e0 0 nz n2 N F W k1 hB (k2.val (fun h => absurd h (by decide))) hb2 (by decide) hp22 hp2' hq hm (fun h => absurd h (by decide)))
  have hz' : ¬ q = 0 := by omega
  have t0 : ((q : Int) == 0) = false := by rw [beq_eq_false_iff_ne]; omega
  have hne1 : ¬ b = g1 := hb1
  have hne1' : ¬ g1 = b := fun h => hne1 h.symm
  have hne2 : ¬ b = g2 := hb2
  have hne2' : ¬ g2 = b := fun h => hne2 h.symm
  obtain ⟨r1, x1, hg1⟩ := h1.row
  obtain ⟨r2, x2, hg2⟩ := h2.row
  obtain ⟨c0, c1, c2, c3, c4, c5, c6⟩ := h.cells
  obtain ⟨f0', f1', f2', f3', f4', f5', f6'⟩ := h.free
  obtain ⟨y0, y1, y2, y3', y4, y5, y6⟩ := hg1.cells
  obtain ⟨z0, z1, z2, z3', z4, z5, z6⟩ := hg2.cells
  have y3 : w.cell? ⟨g1, 3, none⟩ = some (.int .u8 0) := y3'
  have z3 : w.cell? ⟨g2, 3, none⟩ = some (.int .u8 2) := z3'
  have HH := Lib.hid h
  have HX := Lib.hid h1
  have HY := Lib.hid h2
  have HG1 := Lib.hid hg1
  have HG2 := Lib.hid hg2
  clear h h1 h2 hg1 hg2 y3' z3' c1 c2 c5 c6
  go_enter Tryz.func57, Tryz.ntmps57
  go_wp2_with fail
  go_quiet (fail)
  obtain ⟨W, hW⟩ : ∃ W, W = (w.drewN nq) := ⟨_, rfl⟩
  rw [← hW]
  have hWh : FltR W b q m a0 f0 nz (.slice none 0 0) e0 := by rw [hW]; exact HH.out.drewN nq
  have hWB : Below B w W := by rw [hW]; exact undrewN' (Below.refl B w)
  have hW1 : FltR W g1 p1 m1 0 0 n1 r1 x1 := by rw [hW]; exact HG1.out
  have hW2 : FltR W g2 p2 m2 0 2 n2 r2 x2 := by rw [hW]; exact HG2.out
  have HWA := Lib.hid (by rw [hW]; exact HY.out.drewN nq : FloatAt W B2 g2 p2 m2 2 n2 N F)
  clear hW c0 c3 c4 f0' f1' f2' f3' f4' f5' f6' y0 y1 y2 y3 y4 y5 y6 z0 z1 z2 z3 z4 z5 z6
  obtain ⟨c0, c1, c2, c3, c4, c5, c6⟩ := hWh.cells
  obtain ⟨f0', f1', f2', f3', f4', f5', f6'⟩ := hWh.free
  obtain ⟨y0, y1, y2, y3', y4, y5, y6⟩ := hW1.cells
  obtain ⟨z0, z1, z2, z3', z4, z5, z6⟩ := hW2.cells
  have y3 : W.cell? ⟨g1, 3, none⟩ = some (.int .u8 0) := y3'
  have z3 : W.cell? ⟨g2, 3, none⟩ = some (.int .u8 2) := z3'
  have HWH := Lib.hid hWh
  have HWB := Lib.hid hWB
  clear y3' z3' hWh hWB hW1 hW2
  go_wp2_with fail
  refine (HS.out _ HWH.out HWA.out).mono ?_
  rintro _ w5 ⟨rfl, hv, hb5⟩
  have HV := Lib.hid hv
  have HB5 := Lib.hid (HWB.out.trans hb5)
  clear hv hb5
  go_wp2
  go_ret
  exact ⟨rfl, HV.out.sp hq0 rfl, HB5.out⟩
set_option maxRecDepth 100000 in
set_option maxHeartbeats 3200000 in
theorem addF_i12 (b B B1 B2 g1 g2 q m p1 m1 p2 m2 f0 M N : Nat) (a0 e0 E F : Int) (nz n1 n2 : Bool) (w : World) (h : FltR w b q m a0 f0 nz (.slice none 0 0) e0) (hB : B ≤ b) (h1 : FloatAt w B1 g1 p1 m1 1 n1 M E) (h2 : FloatAt w B2 g2 p2 m2 2 n2 N F)
    (hb1 : b ≠ g1) (hb2 : b ≠ g2) (hq0 : 0 < q) (hq : q ≤ 64000000) (_hp11 : 0 < p1) (_hp1' : p1 ≤ 64000000) (hp22 : 0 < p2) (hp2' : p2 ≤ 64000000) (hm : m ≤ 5) :
    Calls Tryz.prog 57 #[.pointer (some ⟨b, 0, none⟩), .pointer (some ⟨g1, 0, none⟩), .pointer (some ⟨g2, 0, none⟩)] w fun e' w' => e' = .returned (.pointer (some ⟨b, 0, none⟩)) ∧ SpR w' b q m 2 n2 ∧ Below B w w' := by
  have HS := Lib.hid (fun (W : World) (k1 : FltR W b q m a0 f0 nz (.slice none 0 0) e0) (k2 : FloatAt W B2 g2 p2 m2 2 n2 N F) => setF_val b B g2 B2 q m f0 p2 m2 2 a0 e0 0 nz n2 N F W k1 hB (k2.val (fun h => absurd h (by decide))) hb2 (by decide) hp22 hp2' hq hm (fun h => absurd h (by decide)))
  have hz' : ¬ q = 0 := by omega
  have t0 : ((q : Int) == 0) = false := by rw [beq_eq_false_iff_ne]; omega
  have hne1 : ¬ b = g1 := hb1
  have hne1' : ¬ g1 = b := fun h => hne1 h.symm
  have hne2 : ¬ b = g2 := hb2
  have hne2' : ¬ g2 = b := fun h => hne2 h.symm
  obtain ⟨r1, x1, hg1⟩ := h1.row
  obtain ⟨r2, x2, hg2⟩ := h2.row
  obtain ⟨c0, c1, c2, c3, c4, c5, c6⟩ := h.cells
  obtain ⟨f0', f1', f2', f3', f4', f5', f6'⟩ := h.free
  obtain ⟨y0, y1, y2, y3', y4, y5, y6⟩ := hg1.cells
  obtain ⟨z0, z1, z2, z3', z4, z5, z6⟩ := hg2.cells
  have y3 : w.cell? ⟨g1, 3, none⟩ = some (.int .u8 1) := y3'
  have z3 : w.cell? ⟨g2, 3, none⟩ = some (.int .u8 2) := z3'
  have HH := Lib.hid h
  have HX := Lib.hid h1
  have HY := Lib.hid h2
  have HG1 := Lib.hid hg1
  have HG2 := Lib.hid hg2
  clear h h1 h2 hg1 hg2 y3' z3' c1 c2 c5 c6
  go_enter Tryz.func57, Tryz.ntmps57
  go_wp2_with fail
  go_quiet (fail)
  obtain ⟨W, hW⟩ : ∃ W, W = (w.drewN nq) := ⟨_, rfl⟩
  rw [← hW]
  have hWh : FltR W b q m a0 f0 nz (.slice none 0 0) e0 := by rw [hW]; exact HH.out.drewN nq
  have hWB : Below B w W := by rw [hW]; exact undrewN' (Below.refl B w)
  have hW1 : FltR W g1 p1 m1 0 1 n1 r1 x1 := by rw [hW]; exact HG1.out
  have hW2 : FltR W g2 p2 m2 0 2 n2 r2 x2 := by rw [hW]; exact HG2.out
  have HWA := Lib.hid (by rw [hW]; exact HY.out.drewN nq : FloatAt W B2 g2 p2 m2 2 n2 N F)
  clear hW c0 c3 c4 f0' f1' f2' f3' f4' f5' f6' y0 y1 y2 y3 y4 y5 y6 z0 z1 z2 z3 z4 z5 z6
  obtain ⟨c0, c1, c2, c3, c4, c5, c6⟩ := hWh.cells
  obtain ⟨f0', f1', f2', f3', f4', f5', f6'⟩ := hWh.free
  obtain ⟨y0, y1, y2, y3', y4, y5, y6⟩ := hW1.cells
  obtain ⟨z0, z1, z2, z3', z4, z5, z6⟩ := hW2.cells
  have y3 : W.cell? ⟨g1, 3, none⟩ = some (.int .u8 1) := y3'
  have z3 : W.cell? ⟨g2, 3, none⟩ = some (.int .u8 2) := z3'
  have HWH := Lib.hid hWh
  have HWB := Lib.hid hWB
  clear y3' z3' hWh hWB hW1 hW2
  go_wp2_with fail
  refine (HS.out _ HWH.out HWA.out).mono ?_
  rintro _ w5 ⟨rfl, hv, hb5⟩
  have HV := Lib.hid hv
  have HB5 := Lib.hid (HWB.out.trans hb5)
  clear hv hb5
  go_wp2
  go_ret
  exact ⟨rfl, HV.out.sp hq0 rfl, HB5.out⟩
set_option maxRecDepth 100000 in
set_option maxHeartbeats 3200000 in
theorem addF_i22 (b B B1 B2 g1 g2 q m p1 m1 p2 m2 f0 M N : Nat) (a0 e0 E F : Int) (nz n1 n2 : Bool) (w : World) (h : FltR w b q m a0 f0 nz (.slice none 0 0) e0) (hB : B ≤ b) (h1 : FloatAt w B1 g1 p1 m1 2 n1 M E) (h2 : FloatAt w B2 g2 p2 m2 2 n2 N F)
    (hb1 : b ≠ g1) (hb2 : b ≠ g2) (hq0 : 0 < q) (hq : q ≤ 64000000) (hp11 : 0 < p1) (hp1' : p1 ≤ 64000000) (_hp22 : 0 < p2) (_hp2' : p2 ≤ 64000000) (hm : m ≤ 5) (hn : n1 = n2) :
    Calls Tryz.prog 57 #[.pointer (some ⟨b, 0, none⟩), .pointer (some ⟨g1, 0, none⟩), .pointer (some ⟨g2, 0, none⟩)] w fun e' w' => e' = .returned (.pointer (some ⟨b, 0, none⟩)) ∧ SpR w' b q m 2 n1 ∧ Below B w w' := by
  have HS := Lib.hid (fun (W : World) (k1 : FltR W b q m a0 f0 nz (.slice none 0 0) e0) (k2 : FloatAt W B1 g1 p1 m1 2 n1 M E) => setF_val b B g1 B1 q m f0 p1 m1 2 a0 e0 0 nz n1 M E W k1 hB (k2.val (fun h => absurd h (by decide))) hb1 (by decide) hp11 hp1' hq hm (fun h => absurd h (by decide)))
  subst hn
  have hz' : ¬ q = 0 := by omega
  have t0 : ((q : Int) == 0) = false := by rw [beq_eq_false_iff_ne]; omega
  have hne1 : ¬ b = g1 := hb1
  have hne1' : ¬ g1 = b := fun h => hne1 h.symm
  have hne2 : ¬ b = g2 := hb2
  have hne2' : ¬ g2 = b := fun h => hne2 h.symm
  obtain ⟨r1, x1, hg1⟩ := h1.row
  obtain ⟨r2, x2, hg2⟩ := h2.row
  obtain ⟨c0, c1, c2, c3, c4, c5, c6⟩ := h.cells
  obtain ⟨f0', f1', f2', f3', f4', f5', f6'⟩ := h.free
  obtain ⟨y0, y1, y2, y3', y4, y5, y6⟩ := hg1.cells
  obtain ⟨z0, z1, z2, z3', z4, z5, z6⟩ := hg2.cells
  have y3 : w.cell? ⟨g1, 3, none⟩ = some (.int .u8 2) := y3'
  have z3 : w.cell? ⟨g2, 3, none⟩ = some (.int .u8 2) := z3'
  have HH := Lib.hid h
  have HX := Lib.hid h1
  have HY := Lib.hid h2
  have HG1 := Lib.hid hg1
  have HG2 := Lib.hid hg2
  clear h h1 h2 hg1 hg2 y3' z3' c1 c2 c5 c6
  go_enter Tryz.func57, Tryz.ntmps57
  go_wp2_with fail
  go_quiet (fail)
  obtain ⟨W, hW⟩ : ∃ W, W = (w.drewN nq) := ⟨_, rfl⟩
  rw [← hW]
  have hWh : FltR W b q m a0 f0 nz (.slice none 0 0) e0 := by rw [hW]; exact HH.out.drewN nq
  have hWB : Below B w W := by rw [hW]; exact undrewN' (Below.refl B w)
  have hW1 : FltR W g1 p1 m1 0 2 n1 r1 x1 := by rw [hW]; exact HG1.out
  have hW2 : FltR W g2 p2 m2 0 2 n1 r2 x2 := by rw [hW]; exact HG2.out
  have HWA := Lib.hid (by rw [hW]; exact HX.out.drewN nq : FloatAt W B1 g1 p1 m1 2 n1 M E)
  clear hW c0 c3 c4 f0' f1' f2' f3' f4' f5' f6' y0 y1 y2 y3 y4 y5 y6 z0 z1 z2 z3 z4 z5 z6
  obtain ⟨c0, c1, c2, c3, c4, c5, c6⟩ := hWh.cells
  obtain ⟨f0', f1', f2', f3', f4', f5', f6'⟩ := hWh.free
  obtain ⟨y0, y1, y2, y3', y4, y5, y6⟩ := hW1.cells
  obtain ⟨z0, z1, z2, z3', z4, z5, z6⟩ := hW2.cells
  have y3 : W.cell? ⟨g1, 3, none⟩ = some (.int .u8 2) := y3'
  have z3 : W.cell? ⟨g2, 3, none⟩ = some (.int .u8 2) := z3'
  have HWH := Lib.hid hWh
  have HWB := Lib.hid hWB
  clear y3' z3' hWh hWB hW1 hW2
  go_wp2_with fail
  refine (HS.out _ HWH.out HWA.out).mono ?_
  rintro _ w5 ⟨rfl, hv, hb5⟩
  have HV := Lib.hid hv
  have HB5 := Lib.hid (HWB.out.trans hb5)
  clear hv hb5
  go_wp2
  go_ret
  exact ⟨rfl, HV.out.sp hq0 rfl, HB5.out⟩
set_option maxRecDepth 100000 in
set_option maxHeartbeats 3200000 in
theorem subF_i20 (b B B1 B2 g1 g2 q m p1 m1 p2 m2 f0 M N : Nat) (a0 e0 E F : Int) (nz n1 n2 : Bool) (w : World) (h : FltR w b q m a0 f0 nz (.slice none 0 0) e0) (hB : B ≤ b) (h1 : FloatAt w B1 g1 p1 m1 2 n1 M E) (h2 : FloatAt w B2 g2 p2 m2 0 n2 N F)
    (hb1 : b ≠ g1) (hb2 : b ≠ g2) (hq0 : 0 < q) (hq : q ≤ 64000000) (hp11 : 0 < p1) (hp1' : p1 ≤ 64000000) (_hp22 : 0 < p2) (_hp2' : p2 ≤ 64000000) (hm : m ≤ 5) :
    Calls Tryz.prog 54 #[.pointer (some ⟨b, 0, none⟩), .pointer (some ⟨g1, 0, none⟩), .pointer (some ⟨g2, 0, none⟩)] w fun e' w' => e' = .returned (.pointer (some ⟨b, 0, none⟩)) ∧ SpR w' b q m 2 n1 ∧ Below B w w' := by
  have HS := Lib.hid (fun (W : World) (k1 : FltR W b q m a0 f0 nz (.slice none 0 0) e0) (k2 : FloatAt W B1 g1 p1 m1 2 n1 M E) => setF_val b B g1 B1 q m f0 p1 m1 2 a0 e0 0 nz n1 M E W k1 hB (k2.val (fun h => absurd h (by decide))) hb1 (by decide) hp11 hp1' hq hm (fun h => absurd h (by decide)))
  have hz' : ¬ q = 0 := by omega
  have t0 : ((q : Int) == 0) = false := by rw [beq_eq_false_iff_ne]; omega
  have hne1 : ¬ b = g1 := hb1
  have hne1' : ¬ g1 = b := fun h => hne1 h.symm
  have hne2 : ¬ b = g2 := hb2
  have hne2' : ¬ g2 = b := fun h => hne2 h.symm
  obtain ⟨r1, x1, hg1⟩ := h1.row
  obtain ⟨r2, x2, hg2⟩ := h2.row
  obtain ⟨c0, c1, c2, c3, c4, c5, c6⟩ := h.cells
  obtain ⟨f0', f1', f2', f3', f4', f5', f6'⟩ := h.free
  obtain ⟨y0, y1, y2, y3', y4, y5, y6⟩ := hg1.cells
  obtain ⟨z0, z1, z2, z3', z4, z5, z6⟩ := hg2.cells
  have y3 : w.cell? ⟨g1, 3, none⟩ = some (.int .u8 2) := y3'
  have z3 : w.cell? ⟨g2, 3, none⟩ = some (.int .u8 0) := z3'
  have HH := Lib.hid h
  have HX := Lib.hid h1
  have HY := Lib.hid h2
  have HG1 := Lib.hid hg1
  have HG2 := Lib.hid hg2
  clear h h1 h2 hg1 hg2 y3' z3' c1 c2 c5 c6
  go_enter Tryz.func54, Tryz.ntmps54
  go_wp2_with fail
  go_quiet (fail)
  obtain ⟨W, hW⟩ : ∃ W, W = (w.drewN nq) := ⟨_, rfl⟩
  rw [← hW]
  have hWh : FltR W b q m a0 f0 nz (.slice none 0 0) e0 := by rw [hW]; exact HH.out.drewN nq
  have hWB : Below B w W := by rw [hW]; exact undrewN' (Below.refl B w)
  have hW1 : FltR W g1 p1 m1 0 2 n1 r1 x1 := by rw [hW]; exact HG1.out
  have hW2 : FltR W g2 p2 m2 0 0 n2 r2 x2 := by rw [hW]; exact HG2.out
  have HWA := Lib.hid (by rw [hW]; exact HX.out.drewN nq : FloatAt W B1 g1 p1 m1 2 n1 M E)
  clear hW c0 c3 c4 f0' f1' f2' f3' f4' f5' f6' y0 y1 y2 y3 y4 y5 y6 z0 z1 z2 z3 z4 z5 z6
  obtain ⟨c0, c1, c2, c3, c4, c5, c6⟩ := hWh.cells
  obtain ⟨f0', f1', f2', f3', f4', f5', f6'⟩ := hWh.free
  obtain ⟨y0, y1, y2, y3', y4, y5, y6⟩ := hW1.cells
  obtain ⟨z0, z1, z2, z3', z4, z5, z6⟩ := hW2.cells
  have y3 : W.cell? ⟨g1, 3, none⟩ = some (.int .u8 2) := y3'
  have z3 : W.cell? ⟨g2, 3, none⟩ = some (.int .u8 0) := z3'
  have HWH := Lib.hid hWh
  have HWB := Lib.hid hWB
  clear y3' z3' hWh hWB hW1 hW2
  go_wp2_with fail
  refine (HS.out _ HWH.out HWA.out).mono ?_
  rintro _ w5 ⟨rfl, hv, hb5⟩
  have HV := Lib.hid hv
  have HB5 := Lib.hid (HWB.out.trans hb5)
  clear hv hb5
  go_wp2
  go_ret
  exact ⟨rfl, HV.out.sp hq0 rfl, HB5.out⟩
set_option maxRecDepth 100000 in
set_option maxHeartbeats 3200000 in
theorem subF_i21 (b B B1 B2 g1 g2 q m p1 m1 p2 m2 f0 M N : Nat) (a0 e0 E F : Int) (nz n1 n2 : Bool) (w : World) (h : FltR w b q m a0 f0 nz (.slice none 0 0) e0) (hB : B ≤ b) (h1 : FloatAt w B1 g1 p1 m1 2 n1 M E) (h2 : FloatAt w B2 g2 p2 m2 1 n2 N F)
    (hb1 : b ≠ g1) (hb2 : b ≠ g2) (hq0 : 0 < q) (hq : q ≤ 64000000) (hp11 : 0 < p1) (hp1' : p1 ≤ 64000000) (_hp22 : 0 < p2) (_hp2' : p2 ≤ 64000000) (hm : m ≤ 5) :
    Calls Tryz.prog 54 #[.pointer (some ⟨b, 0, none⟩), .pointer (some ⟨g1, 0, none⟩), .pointer (some ⟨g2, 0, none⟩)] w fun e' w' => e' = .returned (.pointer (some ⟨b, 0, none⟩)) ∧ SpR w' b q m 2 n1 ∧ Below B w w' := by
  have HS := Lib.hid (fun (W : World) (k1 : FltR W b q m a0 f0 nz (.slice none 0 0) e0) (k2 : FloatAt W B1 g1 p1 m1 2 n1 M E) => setF_val b B g1 B1 q m f0 p1 m1 2 a0 e0 0 nz n1 M E W k1 hB (k2.val (fun h => absurd h (by decide))) hb1 (by decide) hp11 hp1' hq hm (fun h => absurd h (by decide)))
  have hz' : ¬ q = 0 := by omega
  have t0 : ((q : Int) == 0) = false := by rw [beq_eq_false_iff_ne]; omega
  have hne1 : ¬ b = g1 := hb1
  have hne1' : ¬ g1 = b := fun h => hne1 h.symm
  have hne2 : ¬ b = g2 := hb2
  have hne2' : ¬ g2 = b := fun h => hne2 h.symm
  obtain ⟨r1, x1, hg1⟩ := h1.row
  obtain ⟨r2, x2, hg2⟩ := h2.row
  obtain ⟨c0, c1, c2, c3, c4, c5, c6⟩ := h.cells
  obtain ⟨f0', f1', f2', f3', f4', f5', f6'⟩ := h.free
  obtain ⟨y0, y1, y2, y3', y4, y5, y6⟩ := hg1.cells
  obtain ⟨z0, z1, z2, z3', z4, z5, z6⟩ := hg2.cells
  have y3 : w.cell? ⟨g1, 3, none⟩ = some (.int .u8 2) := y3'
  have z3 : w.cell? ⟨g2, 3, none⟩ = some (.int .u8 1) := z3'
  have HH := Lib.hid h
  have HX := Lib.hid h1
  have HY := Lib.hid h2
  have HG1 := Lib.hid hg1
  have HG2 := Lib.hid hg2
  clear h h1 h2 hg1 hg2 y3' z3' c1 c2 c5 c6
  go_enter Tryz.func54, Tryz.ntmps54
  go_wp2_with fail
  go_quiet (fail)
  obtain ⟨W, hW⟩ : ∃ W, W = (w.drewN nq) := ⟨_, rfl⟩
  rw [← hW]
  have hWh : FltR W b q m a0 f0 nz (.slice none 0 0) e0 := by rw [hW]; exact HH.out.drewN nq
  have hWB : Below B w W := by rw [hW]; exact undrewN' (Below.refl B w)
  have hW1 : FltR W g1 p1 m1 0 2 n1 r1 x1 := by rw [hW]; exact HG1.out
  have hW2 : FltR W g2 p2 m2 0 1 n2 r2 x2 := by rw [hW]; exact HG2.out
  have HWA := Lib.hid (by rw [hW]; exact HX.out.drewN nq : FloatAt W B1 g1 p1 m1 2 n1 M E)
  clear hW c0 c3 c4 f0' f1' f2' f3' f4' f5' f6' y0 y1 y2 y3 y4 y5 y6 z0 z1 z2 z3 z4 z5 z6
  obtain ⟨c0, c1, c2, c3, c4, c5, c6⟩ := hWh.cells
  obtain ⟨f0', f1', f2', f3', f4', f5', f6'⟩ := hWh.free
  obtain ⟨y0, y1, y2, y3', y4, y5, y6⟩ := hW1.cells
  obtain ⟨z0, z1, z2, z3', z4, z5, z6⟩ := hW2.cells
  have y3 : W.cell? ⟨g1, 3, none⟩ = some (.int .u8 2) := y3'
  have z3 : W.cell? ⟨g2, 3, none⟩ = some (.int .u8 1) := z3'
  have HWH := Lib.hid hWh
  have HWB := Lib.hid hWB
  clear y3' z3' hWh hWB hW1 hW2
  go_wp2_with fail
  refine (HS.out _ HWH.out HWA.out).mono ?_
  rintro _ w5 ⟨rfl, hv, hb5⟩
  have HV := Lib.hid hv
  have HB5 := Lib.hid (HWB.out.trans hb5)
  clear hv hb5
  go_wp2
  go_ret
  exact ⟨rfl, HV.out.sp hq0 rfl, HB5.out⟩
set_option maxRecDepth 100000 in
set_option maxHeartbeats 3200000 in
theorem subF_i02 (b B B1 B2 g1 g2 q m p1 m1 p2 m2 f0 M N : Nat) (a0 e0 E F : Int) (nz n1 n2 : Bool) (w : World) (h : FltR w b q m a0 f0 nz (.slice none 0 0) e0) (hB : B ≤ b) (h1 : FloatAt w B1 g1 p1 m1 0 n1 M E) (h2 : FloatAt w B2 g2 p2 m2 2 n2 N F)
    (hb1 : b ≠ g1) (hb2 : b ≠ g2) (hq0 : 0 < q) (hq : q ≤ 64000000) (_hp11 : 0 < p1) (_hp1' : p1 ≤ 64000000) (hp22 : 0 < p2) (hp2' : p2 ≤ 64000000) (hm : m ≤ 5) :
    Calls Tryz.prog 54 #[.pointer (some ⟨b, 0, none⟩), .pointer (some ⟨g1, 0, none⟩), .pointer (some ⟨g2, 0, none⟩)] w fun e' w' => e' = .returned (.pointer (some ⟨b, 0, none⟩)) ∧ SpR w' b q m 2 (!n2) ∧ Below B w w' := by
  have HS := Lib.hid (fun (W : World) (k1 : FltR W b q m a0 f0 nz (.slice none 0 0) e0) (k2 : FloatAt W B2 g2 p2 m2 2 n2 N F) => negF_val b B g2 B2 q m f0 p2 m2 2 a0 e0 0 nz n2 N F W k1 hB (k2.val (fun h => absurd h (by decide))) hb2 (by decide) hp22 hp2' hq hm (fun h => absurd h (by decide)))
  have hz' : ¬ q = 0 := by omega
  have t0 : ((q : Int) == 0) = false := by rw [beq_eq_false_iff_ne]; omega
  have hne1 : ¬ b = g1 := hb1
  have hne1' : ¬ g1 = b := fun h => hne1 h.symm
  have hne2 : ¬ b = g2 := hb2
  have hne2' : ¬ g2 = b := fun h => hne2 h.symm
  obtain ⟨r1, x1, hg1⟩ := h1.row
  obtain ⟨r2, x2, hg2⟩ := h2.row
  obtain ⟨c0, c1, c2, c3, c4, c5, c6⟩ := h.cells
  obtain ⟨f0', f1', f2', f3', f4', f5', f6'⟩ := h.free
  obtain ⟨y0, y1, y2, y3', y4, y5, y6⟩ := hg1.cells
  obtain ⟨z0, z1, z2, z3', z4, z5, z6⟩ := hg2.cells
  have y3 : w.cell? ⟨g1, 3, none⟩ = some (.int .u8 0) := y3'
  have z3 : w.cell? ⟨g2, 3, none⟩ = some (.int .u8 2) := z3'
  have HH := Lib.hid h
  have HX := Lib.hid h1
  have HY := Lib.hid h2
  have HG1 := Lib.hid hg1
  have HG2 := Lib.hid hg2
  clear h h1 h2 hg1 hg2 y3' z3' c1 c2 c5 c6
  go_enter Tryz.func54, Tryz.ntmps54
  go_wp2_with fail
  go_quiet (fail)
  obtain ⟨W, hW⟩ : ∃ W, W = (w.drewN nq) := ⟨_, rfl⟩
  rw [← hW]
  have hWh : FltR W b q m a0 f0 nz (.slice none 0 0) e0 := by rw [hW]; exact HH.out.drewN nq
  have hWB : Below B w W := by rw [hW]; exact undrewN' (Below.refl B w)
  have hW1 : FltR W g1 p1 m1 0 0 n1 r1 x1 := by rw [hW]; exact HG1.out
  have hW2 : FltR W g2 p2 m2 0 2 n2 r2 x2 := by rw [hW]; exact HG2.out
  have HWA := Lib.hid (by rw [hW]; exact HY.out.drewN nq : FloatAt W B2 g2 p2 m2 2 n2 N F)
  clear hW c0 c3 c4 f0' f1' f2' f3' f4' f5' f6' y0 y1 y2 y3 y4 y5 y6 z0 z1 z2 z3 z4 z5 z6
  obtain ⟨c0, c1, c2, c3, c4, c5, c6⟩ := hWh.cells
  obtain ⟨f0', f1', f2', f3', f4', f5', f6'⟩ := hWh.free
  obtain ⟨y0, y1, y2, y3', y4, y5, y6⟩ := hW1.cells
  obtain ⟨z0, z1, z2, z3', z4, z5, z6⟩ := hW2.cells
  have y3 : W.cell? ⟨g1, 3, none⟩ = some (.int .u8 0) := y3'
  have z3 : W.cell? ⟨g2, 3, none⟩ = some (.int .u8 2) := z3'
  have HWH := Lib.hid hWh
  have HWB := Lib.hid hWB
  clear y3' z3' hWh hWB hW1 hW2
  go_wp2_with fail
  refine (HS.out _ HWH.out HWA.out).mono ?_
  rintro _ w5 ⟨rfl, hv, hb5⟩
  have HV := Lib.hid hv
  have HB5 := Lib.hid (HWB.out.trans hb5)
  clear hv hb5
  go_wp2
  go_ret
  exact ⟨rfl, HV.out.spn hq0 rfl, HB5.out⟩
set_option maxRecDepth 100000 in
set_option maxHeartbeats 3200000 in
theorem subF_i12 (b B B1 B2 g1 g2 q m p1 m1 p2 m2 f0 M N : Nat) (a0 e0 E F : Int) (nz n1 n2 : Bool) (w : World) (h : FltR w b q m a0 f0 nz (.slice none 0 0) e0) (hB : B ≤ b) (h1 : FloatAt w B1 g1 p1 m1 1 n1 M E) (h2 : FloatAt w B2 g2 p2 m2 2 n2 N F)
    (hb1 : b ≠ g1) (hb2 : b ≠ g2) (hq0 : 0 < q) (hq : q ≤ 64000000) (_hp11 : 0 < p1) (_hp1' : p1 ≤ 64000000) (hp22 : 0 < p2) (hp2' : p2 ≤ 64000000) (hm : m ≤ 5) :
    Calls Tryz.prog 54 #[.pointer (some ⟨b, 0, none⟩), .pointer (some ⟨g1, 0, none⟩), .pointer (some ⟨g2, 0, none⟩)] w fun e' w' => e' = .returned (.pointer (some ⟨b, 0, none⟩)) ∧ SpR w' b q m 2 (!n2) ∧ Below B w w' := by
  have HS := Lib.hid (fun (W : World) (k1 : FltR W b q m a0 f0 nz (.slice none 0 0) e0) (k2 : FloatAt W B2 g2 p2 m2 2 n2 N F) => negF_val b B g2 B2 q m f0 p2 m2 2 a0 e0 0 nz n2 N F W k1 hB (k2.val (fun h => absurd h (by decide))) hb2 (by decide) hp22 hp2' hq hm (fun h => absurd h (by decide)))
  have hz' : ¬ q = 0 := by omega
  have t0 : ((q : Int) == 0) = false := by rw [beq_eq_false_iff_ne]; omega
  have hne1 : ¬ b = g1 := hb1
  have hne1' : ¬ g1 = b := fun h => hne1 h.symm
  have hne2 : ¬ b = g2 := hb2
  have hne2' : ¬ g2 = b := fun h => hne2 h.symm
  obtain ⟨r1, x1, hg1⟩ := h1.row
  obtain ⟨r2, x2, hg2⟩ := h2.row
  obtain ⟨c0, c1, c2, c3, c4, c5, c6⟩ := h.cells
  obtain ⟨f0', f1', f2', f3', f4', f5', f6'⟩ := h.free
  obtain ⟨y0, y1, y2, y3', y4, y5, y6⟩ := hg1.cells
  obtain ⟨z0, z1, z2, z3', z4, z5, z6⟩ := hg2.cells
  have y3 : w.cell? ⟨g1, 3, none⟩ = some (.int .u8 1) := y3'
  have z3 : w.cell? ⟨g2, 3, none⟩ = some (.int .u8 2) := z3'
  have HH := Lib.hid h
  have HX := Lib.hid h1
  have HY := Lib.hid h2
  have HG1 := Lib.hid hg1
  have HG2 := Lib.hid hg2
  clear h h1 h2 hg1 hg2 y3' z3' c1 c2 c5 c6
  go_enter Tryz.func54, Tryz.ntmps54
  go_wp2_with fail
  go_quiet (fail)
  obtain ⟨W, hW⟩ : ∃ W, W = (w.drewN nq) := ⟨_, rfl⟩
  rw [← hW]
  have hWh : FltR W b q m a0 f0 nz (.slice none 0 0) e0 := by rw [hW]; exact HH.out.drewN nq
  have hWB : Below B w W := by rw [hW]; exact undrewN' (Below.refl B w)
  have hW1 : FltR W g1 p1 m1 0 1 n1 r1 x1 := by rw [hW]; exact HG1.out
  have hW2 : FltR W g2 p2 m2 0 2 n2 r2 x2 := by rw [hW]; exact HG2.out
  have HWA := Lib.hid (by rw [hW]; exact HY.out.drewN nq : FloatAt W B2 g2 p2 m2 2 n2 N F)
  clear hW c0 c3 c4 f0' f1' f2' f3' f4' f5' f6' y0 y1 y2 y3 y4 y5 y6 z0 z1 z2 z3 z4 z5 z6
  obtain ⟨c0, c1, c2, c3, c4, c5, c6⟩ := hWh.cells
  obtain ⟨f0', f1', f2', f3', f4', f5', f6'⟩ := hWh.free
  obtain ⟨y0, y1, y2, y3', y4, y5, y6⟩ := hW1.cells
  obtain ⟨z0, z1, z2, z3', z4, z5, z6⟩ := hW2.cells
  have y3 : W.cell? ⟨g1, 3, none⟩ = some (.int .u8 1) := y3'
  have z3 : W.cell? ⟨g2, 3, none⟩ = some (.int .u8 2) := z3'
  have HWH := Lib.hid hWh
  have HWB := Lib.hid hWB
  clear y3' z3' hWh hWB hW1 hW2
  go_wp2_with fail
  refine (HS.out _ HWH.out HWA.out).mono ?_
  rintro _ w5 ⟨rfl, hv, hb5⟩
  have HV := Lib.hid hv
  have HB5 := Lib.hid (HWB.out.trans hb5)
  clear hv hb5
  go_wp2
  go_ret
  exact ⟨rfl, HV.out.spn hq0 rfl, HB5.out⟩
set_option maxRecDepth 100000 in
set_option maxHeartbeats 3200000 in
theorem subF_i22 (b B B1 B2 g1 g2 q m p1 m1 p2 m2 f0 M N : Nat) (a0 e0 E F : Int) (nz n1 n2 : Bool) (w : World) (h : FltR w b q m a0 f0 nz (.slice none 0 0) e0) (hB : B ≤ b) (h1 : FloatAt w B1 g1 p1 m1 2 n1 M E) (h2 : FloatAt w B2 g2 p2 m2 2 n2 N F)
    (hb1 : b ≠ g1) (hb2 : b ≠ g2) (hq0 : 0 < q) (hq : q ≤ 64000000) (hp11 : 0 < p1) (hp1' : p1 ≤ 64000000) (_hp22 : 0 < p2) (_hp2' : p2 ≤ 64000000) (hm : m ≤ 5) (hn : n1 = !n2) :
    Calls Tryz.prog 54 #[.pointer (some ⟨b, 0, none⟩), .pointer (some ⟨g1, 0, none⟩), .pointer (some ⟨g2, 0, none⟩)] w fun e' w' => e' = .returned (.pointer (some ⟨b, 0, none⟩)) ∧ SpR w' b q m 2 n1 ∧ Below B w w' := by
  have HS := Lib.hid (fun (W : World) (k1 : FltR W b q m a0 f0 nz (.slice none 0 0) e0) (k2 : FloatAt W B1 g1 p1 m1 2 n1 M E) => setF_val b B g1 B1 q m f0 p1 m1 2 a0 e0 0 nz n1 M E W k1 hB (k2.val (fun h => absurd h (by decide))) hb1 (by decide) hp11 hp1' hq hm (fun h => absurd h (by decide)))
  subst hn
  have hz' : ¬ q = 0 := by omega
  have t0 : ((q : Int) == 0) = false := by rw [beq_eq_false_iff_ne]; omega
  have hne1 : ¬ b = g1 := hb1
  have hne1' : ¬ g1 = b := fun h => hne1 h.symm
  have hne2 : ¬ b = g2 := hb2
  have hne2' : ¬ g2 = b := fun h => hne2 h.symm
  obtain ⟨r1, x1, hg1⟩ := h1.row
  obtain ⟨r2, x2, hg2⟩ := h2.row
  obtain ⟨c0, c1, c2, c3, c4, c5, c6⟩ := h.cells
  obtain ⟨f0', f1', f2', f3', f4', f5', f6'⟩ := h.free
  obtain ⟨y0, y1, y2, y3', y4, y5, y6⟩ := hg1.cells
  obtain ⟨z0, z1, z2, z3', z4, z5, z6⟩ := hg2.cells
  have y3 : w.cell? ⟨g1, 3, none⟩ = some (.int .u8 2) := y3'
  have z3 : w.cell? ⟨g2, 3, none⟩ = some (.int .u8 2) := z3'
  have HH := Lib.hid h
  have HX := Lib.hid h1
  have HY := Lib.hid h2
  have HG1 := Lib.hid hg1
  have HG2 := Lib.hid hg2
  clear h h1 h2 hg1 hg2 y3' z3' c1 c2 c5 c6
  go_enter Tryz.func54, Tryz.ntmps54
  go_wp2_with fail
  go_quiet (fail)
  obtain ⟨W, hW⟩ : ∃ W, W = (w.drewN nq) := ⟨_, rfl⟩
  rw [← hW]
  have hWh : FltR W b q m a0 f0 nz (.slice none 0 0) e0 := by rw [hW]; exact HH.out.drewN nq
  have hWB : Below B w W := by rw [hW]; exact undrewN' (Below.refl B w)
  have hW1 : FltR W g1 p1 m1 0 2 (!n2) r1 x1 := by rw [hW]; exact HG1.out
  have hW2 : FltR W g2 p2 m2 0 2 n2 r2 x2 := by rw [hW]; exact HG2.out
  have HWA := Lib.hid (by rw [hW]; exact HX.out.drewN nq : FloatAt W B1 g1 p1 m1 2 (!n2) M E)
  clear hW c0 c3 c4 f0' f1' f2' f3' f4' f5' f6' y0 y1 y2 y3 y4 y5 y6 z0 z1 z2 z3 z4 z5 z6
  obtain ⟨c0, c1, c2, c3, c4, c5, c6⟩ := hWh.cells
  obtain ⟨f0', f1', f2', f3', f4', f5', f6'⟩ := hWh.free
  obtain ⟨y0, y1, y2, y3', y4, y5, y6⟩ := hW1.cells
  obtain ⟨z0, z1, z2, z3', z4, z5, z6⟩ := hW2.cells
  have y3 : W.cell? ⟨g1, 3, none⟩ = some (.int .u8 2) := y3'
  have z3 : W.cell? ⟨g2, 3, none⟩ = some (.int .u8 2) := z3'
  have HWH := Lib.hid hWh
  have HWB := Lib.hid hWB
  clear y3' z3' hWh hWB hW1 hW2
  go_wp2_with fail
  refine (HS.out _ HWH.out HWA.out).mono ?_
  rintro _ w5 ⟨rfl, hv, hb5⟩
  have HV := Lib.hid hv
  have HB5 := Lib.hid (HWB.out.trans hb5)
  clear hv hb5
  go_wp2
  go_ret
  exact ⟨rfl, HV.out.sp hq0 rfl, HB5.out⟩
set_option maxRecDepth 100000 in
set_option maxHeartbeats 3200000 in
theorem mulF_i21 (b B B1 B2 g1 g2 q m p1 m1 p2 m2 f0 M N : Nat) (a0 e0 E F : Int) (nz n1 n2 : Bool) (w : World) (h : FltR w b q m a0 f0 nz (.slice none 0 0) e0) (hB : B ≤ b) (h1 : FloatAt w B1 g1 p1 m1 2 n1 M E) (h2 : FloatAt w B2 g2 p2 m2 1 n2 N F)
    (hb1 : b ≠ g1) (hb2 : b ≠ g2) (hq0 : 0 < q) (hq : q ≤ 64000000) (_hp11 : 0 < p1) (_hp1' : p1 ≤ 64000000) (_hp22 : 0 < p2) (_hp2' : p2 ≤ 64000000) (_hm : m ≤ 5) :
    Calls Tryz.prog 38 #[.pointer (some ⟨b, 0, none⟩), .pointer (some ⟨g1, 0, none⟩), .pointer (some ⟨g2, 0, none⟩)] w fun e' w' => e' = .returned (.pointer (some ⟨b, 0, none⟩)) ∧ SpR w' b q m 2 (n1 != n2) ∧ Below B w w' := by
  have hz' : ¬ q = 0 := by omega
  have t0 : ((q : Int) == 0) = false := by rw [beq_eq_false_iff_ne]; omega
  have hne1 : ¬ b = g1 := hb1
  have hne1' : ¬ g1 = b := fun h => hne1 h.symm
  have hne2 : ¬ b = g2 := hb2
  have hne2' : ¬ g2 = b := fun h => hne2 h.symm
  obtain ⟨r1, x1, hg1⟩ := h1.row
  obtain ⟨r2, x2, hg2⟩ := h2.row
  obtain ⟨c0, c1, c2, c3, c4, c5, c6⟩ := h.cells
  obtain ⟨f0', f1', f2', f3', f4', f5', f6'⟩ := h.free
  obtain ⟨y0, y1, y2, y3', y4, y5, y6⟩ := hg1.cells
  obtain ⟨z0, z1, z2, z3', z4, z5, z6⟩ := hg2.cells
  have y3 : w.cell? ⟨g1, 3, none⟩ = some (.int .u8 2) := y3'
  have z3 : w.cell? ⟨g2, 3, none⟩ = some (.int .u8 1) := z3'
  have HH := Lib.hid h
  have HX := Lib.hid h1
  have HY := Lib.hid h2
  have HG1 := Lib.hid hg1
  have HG2 := Lib.hid hg2
  clear h h1 h2 hg1 hg2 y3' z3' c1 c2 c5 c6
  show Calls _ _ _ _ fun e' w' => _ ∧ SpR w' b q m 2 (!(n1 == n2)) ∧ _
  go_enter Tryz.func38, Tryz.ntmps38
  go_wp2_with fail
  (refine wp_region_hoist 12 (by kernel_rfl) (by kernel_rfl) ⟨fun _ _ _ h => (by first | exact (hQp _ _ _ h).elim | cases h.2.1 | (obtain ⟨_, h3, _⟩ := h.2; cases h3)), fun _ _ h => (by first | exact (hQo _ _ h).elim | cases h.1 | (obtain ⟨_, h3, _⟩ := h; cases h3))⟩ ?_; simp only [List.take_succ_cons, List.take_zero, List.drop_succ_cons, List.drop_zero]; (repeat (go_big_quiet_step (fail))); refine wpQuiet_nil ?_; rintro _ ⟨nq, rfl⟩)
  generalize nq = nb
  go_upto_region 4 with fail
  obtain ⟨W, hW⟩ : ∃ W, W = (w.drewN nb).setCell ⟨b, 4, none⟩ (.bool (!(n1 == n2))) := ⟨_, rfl⟩
  rw [← hW]
  have hWh : FltR W b q m a0 f0 (!(n1 == n2)) (.slice none 0 0) e0 := by rw [hW]; exact (HH.out.drewN nb).s4 (!(n1 == n2))
  have hW1 : FltR W g1 p1 m1 0 2 n1 r1 x1 := by rw [hW]; exact ((heap_setCell_other _ _ _ _ (by simpa using hb1.symm)).trans HG1.out)
  have hW2 : FltR W g2 p2 m2 0 1 n2 r2 x2 := by rw [hW]; exact ((heap_setCell_other _ _ _ _ (by simpa using hb2.symm)).trans HG2.out)
  have hWB : Hid (Below B w W) := Lib.hid (by rw [hW]; exact bset (i := 4) (u := .bool (!(n1 == n2))) (undrewN' (n := nb) (Below.refl B w)) hB)
  clear hW c0 c3 c4 f0' f1' f2' f3' f4' f5' f6' y0 y1 y2 y3 y4 y5 y6 z0 z1 z2 z3 z4 z5 z6
  obtain ⟨c0, c1, c2, c3, c4, c5, c6⟩ := hWh.cells
  obtain ⟨f0', f1', f2', f3', f4', f5', f6'⟩ := hWh.free
  obtain ⟨y0, y1, y2, y3', y4, y5, y6⟩ := hW1.cells
  obtain ⟨z0, z1, z2, z3', z4, z5, z6⟩ := hW2.cells
  have y3 : W.cell? ⟨g1, 3, none⟩ = some (.int .u8 2) := y3'
  have z3 : W.cell? ⟨g2, 3, none⟩ = some (.int .u8 1) := z3'
  have HR := Lib.hid ((hWh.s2 0).s3 2)
  have HB5 := Lib.hid (bset (i := 3) (u := .int .u8 (2 : Int)) (bset (i := 2) (u := .int .i8 0) hWB.out hB) hB)
  clear y3' z3' hWh hW1 hW2
  go_wp2
  go_ret
  exact ⟨rfl, ⟨_, _, HR.out⟩, HB5.out⟩
set_option maxRecDepth 100000 in
set_option maxHeartbeats 3200000 in
theorem mulF_i12 (b B B1 B2 g1 g2 q m p1 m1 p2 m2 f0 M N : Nat) (a0 e0 E F : Int) (nz n1 n2 : Bool) (w : World) (h : FltR w b q m a0 f0 nz (.slice none 0 0) e0) (hB : B ≤ b) (h1 : FloatAt w B1 g1 p1 m1 1 n1 M E) (h2 : FloatAt w B2 g2 p2 m2 2 n2 N F)
    (hb1 : b ≠ g1) (hb2 : b ≠ g2) (hq0 : 0 < q) (hq : q ≤ 64000000) (_hp11 : 0 < p1) (_hp1' : p1 ≤ 64000000) (_hp22 : 0 < p2) (_hp2' : p2 ≤ 64000000) (_hm : m ≤ 5) :
    Calls Tryz.prog 38 #[.pointer (some ⟨b, 0, none⟩), .pointer (some ⟨g1, 0, none⟩), .pointer (some ⟨g2, 0, none⟩)] w fun e' w' => e' = .returned (.pointer (some ⟨b, 0, none⟩)) ∧ SpR w' b q m 2 (n1 != n2) ∧ Below B w w' := by
  have hz' : ¬ q = 0 := by omega
  have t0 : ((q : Int) == 0) = false := by rw [beq_eq_false_iff_ne]; omega
  have hne1 : ¬ b = g1 := hb1
  have hne1' : ¬ g1 = b := fun h => hne1 h.symm
  have hne2 : ¬ b = g2 := hb2
  have hne2' : ¬ g2 = b := fun h => hne2 h.symm
  obtain ⟨r1, x1, hg1⟩ := h1.row
  obtain ⟨r2, x2, hg2⟩ := h2.row
  obtain ⟨c0, c1, c2, c3, c4, c5, c6⟩ := h.cells
  obtain ⟨f0', f1', f2', f3', f4', f5', f6'⟩ := h.free
  obtain ⟨y0, y1, y2, y3', y4, y5, y6⟩ := hg1.cells
  obtain ⟨z0, z1, z2, z3', z4, z5, z6⟩ := hg2.cells
  have y3 : w.cell? ⟨g1, 3, none⟩ = some (.int .u8 1) := y3'
  have z3 : w.cell? ⟨g2, 3, none⟩ = some (.int .u8 2) := z3'
  have HH := Lib.hid h
  have HX := Lib.hid h1
  have HY := Lib.hid h2
  have HG1 := Lib.hid hg1
  have HG2 := Lib.hid hg2
  clear h h1 h2 hg1 hg2 y3' z3' c1 c2 c5 c6
  show Calls _ _ _ _ fun e' w' => _ ∧ SpR w' b q m 2 (!(n1 == n2)) ∧ _
  go_enter Tryz.func38, Tryz.ntmps38
  go_wp2_with fail
  (refine wp_region_hoist 12 (by kernel_rfl) (by kernel_rfl) ⟨fun _ _ _ h => (by first | exact (hQp _ _ _ h).elim | cases h.2.1 | (obtain ⟨_, h3, _⟩ := h.2; cases h3)), fun _ _ h => (by first | exact (hQo _ _ h).elim | cases h.1 | (obtain ⟨_, h3, _⟩ := h; cases h3))⟩ ?_; simp only [List.take_succ_cons, List.take_zero, List.drop_succ_cons, List.drop_zero]; (repeat (go_big_quiet_step (fail))); refine wpQuiet_nil ?_; rintro _ ⟨nq, rfl⟩)
  generalize nq = nb
  go_upto_region 4 with fail
  obtain ⟨W, hW⟩ : ∃ W, W = (w.drewN nb).setCell ⟨b, 4, none⟩ (.bool (!(n1 == n2))) := ⟨_, rfl⟩
  rw [← hW]
  have hWh : FltR W b q m a0 f0 (!(n1 == n2)) (.slice none 0 0) e0 := by rw [hW]; exact (HH.out.drewN nb).s4 (!(n1 == n2))
  have hW1 : FltR W g1 p1 m1 0 1 n1 r1 x1 := by rw [hW]; exact ((heap_setCell_other _ _ _ _ (by simpa using hb1.symm)).trans HG1.out)
  have hW2 : FltR W g2 p2 m2 0 2 n2 r2 x2 := by rw [hW]; exact ((heap_setCell_other _ _ _ _ (by simpa using hb2.symm)).trans HG2.out)
  have hWB : Hid (Below B w W) := Lib.hid (by rw [hW]; exact bset (i := 4) (u := .bool (!(n1 == n2))) (undrewN' (n := nb) (Below.refl B w)) hB)
  clear hW c0 c3 c4 f0' f1' f2' f3' f4' f5' f6' y0 y1 y2 y3 y4 y5 y6 z0 z1 z2 z3 z4 z5 z6
  obtain ⟨c0, c1, c2, c3, c4, c5, c6⟩ := hWh.cells
  obtain ⟨f0', f1', f2', f3', f4', f5', f6'⟩ := hWh.free
  obtain ⟨y0, y1, y2, y3', y4, y5, y6⟩ := hW1.cells
  obtain ⟨z0, z1, z2, z3', z4, z5, z6⟩ := hW2.cells
  have y3 : W.cell? ⟨g1, 3, none⟩ = some (.int .u8 1) := y3'
  have z3 : W.cell? ⟨g2, 3, none⟩ = some (.int .u8 2) := z3'
  have HR := Lib.hid ((hWh.s2 0).s3 2)
  have HB5 := Lib.hid (bset (i := 3) (u := .int .u8 (2 : Int)) (bset (i := 2) (u := .int .i8 0) hWB.out hB) hB)
  clear y3' z3' hWh hW1 hW2
  go_wp2
  go_ret
  exact ⟨rfl, ⟨_, _, HR.out⟩, HB5.out⟩
set_option maxRecDepth 100000 in
set_option maxHeartbeats 3200000 in
theorem mulF_i22 (b B B1 B2 g1 g2 q m p1 m1 p2 m2 f0 M N : Nat) (a0 e0 E F : Int) (nz n1 n2 : Bool) (w : World) (h : FltR w b q m a0 f0 nz (.slice none 0 0) e0) (hB : B ≤ b) (h1 : FloatAt w B1 g1 p1 m1 2 n1 M E) (h2 : FloatAt w B2 g2 p2 m2 2 n2 N F)
    (hb1 : b ≠ g1) (hb2 : b ≠ g2) (hq0 : 0 < q) (hq : q ≤ 64000000) (_hp11 : 0 < p1) (_hp1' : p1 ≤ 64000000) (_hp22 : 0 < p2) (_hp2' : p2 ≤ 64000000) (_hm : m ≤ 5) :
    Calls Tryz.prog 38 #[.pointer (some ⟨b, 0, none⟩), .pointer (some ⟨g1, 0, none⟩), .pointer (some ⟨g2, 0, none⟩)] w fun e' w' => e' = .returned (.pointer (some ⟨b, 0, none⟩)) ∧ SpR w' b q m 2 (n1 != n2) ∧ Below B w w' := by
  have hz' : ¬ q = 0 := by omega
  have t0 : ((q : Int) == 0) = false := by rw [beq_eq_false_iff_ne]; omega
  have hne1 : ¬ b = g1 := hb1
  have hne1' : ¬ g1 = b := fun h => hne1 h.symm
  have hne2 : ¬ b = g2 := hb2
  have hne2' : ¬ g2 = b := fun h => hne2 h.symm
  obtain ⟨r1, x1, hg1⟩ := h1.row
  obtain ⟨r2, x2, hg2⟩ := h2.row
  obtain ⟨c0, c1, c2, c3, c4, c5, c6⟩ := h.cells
  obtain ⟨f0', f1', f2', f3', f4', f5', f6'⟩ := h.free
  obtain ⟨y0, y1, y2, y3', y4, y5, y6⟩ := hg1.cells
  obtain ⟨z0, z1, z2, z3', z4, z5, z6⟩ := hg2.cells
  have y3 : w.cell? ⟨g1, 3, none⟩ = some (.int .u8 2) := y3'
  have z3 : w.cell? ⟨g2, 3, none⟩ = some (.int .u8 2) := z3'
  have HH := Lib.hid h
  have HX := Lib.hid h1
  have HY := Lib.hid h2
  have HG1 := Lib.hid hg1
  have HG2 := Lib.hid hg2
  clear h h1 h2 hg1 hg2 y3' z3' c1 c2 c5 c6
  show Calls _ _ _ _ fun e' w' => _ ∧ SpR w' b q m 2 (!(n1 == n2)) ∧ _
  go_enter Tryz.func38, Tryz.ntmps38
  go_wp2_with fail
  (refine wp_region_hoist 12 (by kernel_rfl) (by kernel_rfl) ⟨fun _ _ _ h => (by first | exact (hQp _ _ _ h).elim | cases h.2.1 | (obtain ⟨_, h3, _⟩ := h.2; cases h3)), fun _ _ h => (by first | exact (hQo _ _ h).elim | cases h.1 | (obtain ⟨_, h3, _⟩ := h; cases h3))⟩ ?_; simp only [List.take_succ_cons, List.take_zero, List.drop_succ_cons, List.drop_zero]; (repeat (go_big_quiet_step (fail))); refine wpQuiet_nil ?_; rintro _ ⟨nq, rfl⟩)
  generalize nq = nb
  go_upto_region 4 with fail
  obtain ⟨W, hW⟩ : ∃ W, W = (w.drewN nb).setCell ⟨b, 4, none⟩ (.bool (!(n1 == n2))) := ⟨_, rfl⟩
  rw [← hW]
  have hWh : FltR W b q m a0 f0 (!(n1 == n2)) (.slice none 0 0) e0 := by rw [hW]; exact (HH.out.drewN nb).s4 (!(n1 == n2))
  have hW1 : FltR W g1 p1 m1 0 2 n1 r1 x1 := by rw [hW]; exact ((heap_setCell_other _ _ _ _ (by simpa using hb1.symm)).trans HG1.out)
  have hW2 : FltR W g2 p2 m2 0 2 n2 r2 x2 := by rw [hW]; exact ((heap_setCell_other _ _ _ _ (by simpa using hb2.symm)).trans HG2.out)
  have hWB : Hid (Below B w W) := Lib.hid (by rw [hW]; exact bset (i := 4) (u := .bool (!(n1 == n2))) (undrewN' (n := nb) (Below.refl B w)) hB)
  clear hW c0 c3 c4 f0' f1' f2' f3' f4' f5' f6' y0 y1 y2 y3 y4 y5 y6 z0 z1 z2 z3 z4 z5 z6
  obtain ⟨c0, c1, c2, c3, c4, c5, c6⟩ := hWh.cells
  obtain ⟨f0', f1', f2', f3', f4', f5', f6'⟩ := hWh.free
  obtain ⟨y0, y1, y2, y3', y4, y5, y6⟩ := hW1.cells
  obtain ⟨z0, z1, z2, z3', z4, z5, z6⟩ := hW2.cells
  have y3 : W.cell? ⟨g1, 3, none⟩ = some (.int .u8 2) := y3'
  have z3 : W.cell? ⟨g2, 3, none⟩ = some (.int .u8 2) := z3'
  have HR := Lib.hid ((hWh.s2 0).s3 2)
  have HB5 := Lib.hid (bset (i := 3) (u := .int .u8 (2 : Int)) (bset (i := 2) (u := .int .i8 0) hWB.out hB) hB)
  clear y3' z3' hWh hW1 hW2
  go_wp2
  go_ret
  exact ⟨rfl, ⟨_, _, HR.out⟩, HB5.out⟩
set_option maxRecDepth 100000 in
set_option maxHeartbeats 3200000 in
theorem quoF_i01 (b B B1 B2 g1 g2 q m p1 m1 p2 m2 f0 M N : Nat) (a0 e0 E F : Int) (nz n1 n2 : Bool) (w : World) (h : FltR w b q m a0 f0 nz (.slice none 0 0) e0) (hB : B ≤ b) (h1 : FloatAt w B1 g1 p1 m1 0 n1 M E) (h2 : FloatAt w B2 g2 p2 m2 1 n2 N F)
    (hb1 : b ≠ g1) (hb2 : b ≠ g2) (hq0 : 0 < q) (hq : q ≤ 64000000) (_hp11 : 0 < p1) (_hp1' : p1 ≤ 64000000) (_hp22 : 0 < p2) (_hp2' : p2 ≤ 64000000) (_hm : m ≤ 5) :
    Calls Tryz.prog 58 #[.pointer (some ⟨b, 0, none⟩), .pointer (some ⟨g1, 0, none⟩), .pointer (some ⟨g2, 0, none⟩)] w fun e' w' => e' = .returned (.pointer (some ⟨b, 0, none⟩)) ∧ SpR w' b q m 0 (n1 != n2) ∧ Below B w w' := by
  have hz' : ¬ q = 0 := by omega
  have t0 : ((q : Int) == 0) = false := by rw [beq_eq_false_iff_ne]; omega
  have hne1 : ¬ b = g1 := hb1
  have hne1' : ¬ g1 = b := fun h => hne1 h.symm
  have hne2 : ¬ b = g2 := hb2
  have hne2' : ¬ g2 = b := fun h => hne2 h.symm
  obtain ⟨r1, x1, hg1⟩ := h1.row
  obtain ⟨r2, x2, hg2⟩ := h2.row
  obtain ⟨c0, c1, c2, c3, c4, c5, c6⟩ := h.cells
  obtain ⟨f0', f1', f2', f3', f4', f5', f6'⟩ := h.free
  obtain ⟨y0, y1, y2, y3', y4, y5, y6⟩ := hg1.cells
  obtain ⟨z0, z1, z2, z3', z4, z5, z6⟩ := hg2.cells
  have y3 : w.cell? ⟨g1, 3, none⟩ = some (.int .u8 0) := y3'
  have z3 : w.cell? ⟨g2, 3, none⟩ = some (.int .u8 1) := z3'
  have HH := Lib.hid h
  have HX := Lib.hid h1
  have HY := Lib.hid h2
  have HG1 := Lib.hid hg1
  have HG2 := Lib.hid hg2
  clear h h1 h2 hg1 hg2 y3' z3' c1 c2 c5 c6
  show Calls _ _ _ _ fun e' w' => _ ∧ SpR w' b q m 0 (!(n1 == n2)) ∧ _
  go_enter Tryz.func58, Tryz.ntmps58
  go_wp2_with fail
  (refine wp_region_hoist 12 (by kernel_rfl) (by kernel_rfl) ⟨fun _ _ _ h => (by first | exact (hQp _ _ _ h).elim | cases h.2.1 | (obtain ⟨_, h3, _⟩ := h.2; cases h3)), fun _ _ h => (by first | exact (hQo _ _ h).elim | cases h.1 | (obtain ⟨_, h3, _⟩ := h; cases h3))⟩ ?_; simp only [List.take_succ_cons, List.take_zero, List.drop_succ_cons, List.drop_zero]; (repeat (go_big_quiet_step (fail))); refine wpQuiet_nil ?_; rintro _ ⟨nq, rfl⟩)
  generalize nq = nb
  go_upto_region 4 with fail
  obtain ⟨W, hW⟩ : ∃ W, W = (w.drewN nb).setCell ⟨b, 4, none⟩ (.bool (!(n1 == n2))) := ⟨_, rfl⟩
  rw [← hW]
  have hWh : FltR W b q m a0 f0 (!(n1 == n2)) (.slice none 0 0) e0 := by rw [hW]; exact (HH.out.drewN nb).s4 (!(n1 == n2))
  have hW1 : FltR W g1 p1 m1 0 0 n1 r1 x1 := by rw [hW]; exact ((heap_setCell_other _ _ _ _ (by simpa using hb1.symm)).trans HG1.out)
  have hW2 : FltR W g2 p2 m2 0 1 n2 r2 x2 := by rw [hW]; exact ((heap_setCell_other _ _ _ _ (by simpa using hb2.symm)).trans HG2.out)
  have hWB : Hid (Below B w W) := Lib.hid (by rw [hW]; exact bset (i := 4) (u := .bool (!(n1 == n2))) (undrewN' (n := nb) (Below.refl B w)) hB)
  clear hW c0 c3 c4 f0' f1' f2' f3' f4' f5' f6' y0 y1 y2 y3 y4 y5 y6 z0 z1 z2 z3 z4 z5 z6
  obtain ⟨c0, c1, c2, c3, c4, c5, c6⟩ := hWh.cells
  obtain ⟨f0', f1', f2', f3', f4', f5', f6'⟩ := hWh.free
  obtain ⟨y0, y1, y2, y3', y4, y5, y6⟩ := hW1.cells
  obtain ⟨z0, z1, z2, z3', z4, z5, z6⟩ := hW2.cells
  have y3 : W.cell? ⟨g1, 3, none⟩ = some (.int .u8 0) := y3'
  have z3 : W.cell? ⟨g2, 3, none⟩ = some (.int .u8 1) := z3'
  have HR := Lib.hid ((hWh.s2 0).s3 0)
  have HB5 := Lib.hid (bset (i := 3) (u := .int .u8 (0 : Int)) (bset (i := 2) (u := .int .i8 0) hWB.out hB) hB)
  clear y3' z3' hWh hW1 hW2
  go_wp2
  go_ret
  exact ⟨rfl, ⟨_, _, HR.out⟩, HB5.out⟩
set_option maxRecDepth 100000 in
set_option maxHeartbeats 3200000 in
theorem quoF_i02 (b B B1 B2 g1 g2 q m p1 m1 p2 m2 f0 M N : Nat) (a0 e0 E F : Int) (nz n1 n2 : Bool) (w : World) (h : FltR w b q m a0 f0 nz (.slice none 0 0) e0) (hB : B ≤ b) (h1 : FloatAt w B1 g1 p1 m1 0 n1 M E) (h2 : FloatAt w B2 g2 p2 m2 2 n2 N F)
    (hb1 : b ≠ g1) (hb2 : b ≠ g2) (hq0 : 0 < q) (hq : q ≤ 64000000) (_hp11 : 0 < p1) (_hp1' : p1 ≤ 64000000) (_hp22 : 0 < p2) (_hp2' : p2 ≤ 64000000) (_hm : m ≤ 5) :
    Calls Tryz.prog 58 #[.pointer (some ⟨b, 0, none⟩), .pointer (some ⟨g1, 0, none⟩), .pointer (some ⟨g2, 0, none⟩)] w fun e' w' => e' = .returned (.pointer (some ⟨b, 0, none⟩)) ∧ SpR w' b q m 0 (n1 != n2) ∧ Below B w w' := by
  have hz' : ¬ q = 0 := by omega
  have t0 : ((q : Int) == 0) = false := by rw [beq_eq_false_iff_ne]; omega
  have hne1 : ¬ b = g1 := hb1
  have hne1' : ¬ g1 = b := fun h => hne1 h.symm
  have hne2 : ¬ b = g2 := hb2
  have hne2' : ¬ g2 = b := fun h => hne2 h.symm
  obtain ⟨r1, x1, hg1⟩ := h1.row
  obtain ⟨r2, x2, hg2⟩ := h2.row
  obtain ⟨c0, c1, c2, c3, c4, c5, c6⟩ := h.cells
  obtain ⟨f0', f1', f2', f3', f4', f5', f6'⟩ := h.free
  obtain ⟨y0, y1, y2, y3', y4, y5, y6⟩ := hg1.cells
  obtain ⟨z0, z1, z2, z3', z4, z5, z6⟩ := hg2.cells
  have y3 : w.cell? ⟨g1, 3, none⟩ = some (.int .u8 0) := y3'
  have z3 : w.cell? ⟨g2, 3, none⟩ = some (.int .u8 2) := z3'
  have HH := Lib.hid h
  have HX := Lib.hid h1
  have HY := Lib.hid h2
  have HG1 := Lib.hid hg1
  have HG2 := Lib.hid hg2
  clear h h1 h2 hg1 hg2 y3' z3' c1 c2 c5 c6
  show Calls _ _ _ _ fun e' w' => _ ∧ SpR w' b q m 0 (!(n1 == n2)) ∧ _
  go_enter Tryz.func58, Tryz.ntmps58
  go_wp2_with fail
  (refine wp_region_hoist 12 (by kernel_rfl) (by kernel_rfl) ⟨fun _ _ _ h => (by first | exact (hQp _ _ _ h).elim | cases h.2.1 | (obtain ⟨_, h3, _⟩ := h.2; cases h3)), fun _ _ h => (by first | exact (hQo _ _ h).elim | cases h.1 | (obtain ⟨_, h3, _⟩ := h; cases h3))⟩ ?_; simp only [List.take_succ_cons, List.take_zero, List.drop_succ_cons, List.drop_zero]; (repeat (go_big_quiet_step (fail))); refine wpQuiet_nil ?_; rintro _ ⟨nq, rfl⟩)
  generalize nq = nb
  go_upto_region 4 with fail
  obtain ⟨W, hW⟩ : ∃ W, W = (w.drewN nb).setCell ⟨b, 4, none⟩ (.bool (!(n1 == n2))) := ⟨_, rfl⟩
  rw [← hW]
  have hWh : FltR W b q m a0 f0 (!(n1 == n2)) (.slice none 0 0) e0 := by rw [hW]; exact (HH.out.drewN nb).s4 (!(n1 == n2))
  have hW1 : FltR W g1 p1 m1 0 0 n1 r1 x1 := by rw [hW]; exact ((heap_setCell_other _ _ _ _ (by simpa using hb1.symm)).trans HG1.out)
  have hW2 : FltR W g2 p2 m2 0 2 n2 r2 x2 := by rw [hW]; exact ((heap_setCell_other _ _ _ _ (by simpa using hb2.symm)).trans HG2.out)
  have hWB : Hid (Below B w W) := Lib.hid (by rw [hW]; exact bset (i := 4) (u := .bool (!(n1 == n2))) (undrewN' (n := nb) (Below.refl B w)) hB)
  clear hW c0 c3 c4 f0' f1' f2' f3' f4' f5' f6' y0 y1 y2 y3 y4 y5 y6 z0 z1 z2 z3 z4 z5 z6
  obtain ⟨c0, c1, c2, c3, c4, c5, c6⟩ := hWh.cells
  obtain ⟨f0', f1', f2', f3', f4', f5', f6'⟩ := hWh.free
  obtain ⟨y0, y1, y2, y3', y4, y5, y6⟩ := hW1.cells
  obtain ⟨z0, z1, z2, z3', z4, z5, z6⟩ := hW2.cells
  have y3 : W.cell? ⟨g1, 3, none⟩ = some (.int .u8 0) := y3'
  have z3 : W.cell? ⟨g2, 3, none⟩ = some (.int .u8 2) := z3'
  have HR := Lib.hid ((hWh.s2 0).s3 0)
  have HB5 := Lib.hid (bset (i := 3) (u := .int .u8 (0 : Int)) (bset (i := 2) (u := .int .i8 0) hWB.out hB) hB)
  clear y3' z3' hWh hW1 hW2
  go_wp2
  go_ret
  exact ⟨rfl, ⟨_, _, HR.out⟩, HB5.out⟩
set_option maxRecDepth 100000 in
set_option maxHeartbeats 3200000 in
theorem quoF_i12 (b B B1 B2 g1 g2 q m p1 m1 p2 m2 f0 M N : Nat) (a0 e0 E F : Int) (nz n1 n2 : Bool) (w : World) (h : FltR w b q m a0 f0 nz (.slice none 0 0) e0) (hB : B ≤ b) (h1 : FloatAt w B1 g1 p1 m1 1 n1 M E) (h2 : FloatAt w B2 g2 p2 m2 2 n2 N F)
    (hb1 : b ≠ g1) (hb2 : b ≠ g2) (hq0 : 0 < q) (hq : q ≤ 64000000) (_hp11 : 0 < p1) (_hp1' : p1 ≤ 64000000) (_hp22 : 0 < p2) (_hp2' : p2 ≤ 64000000) (_hm : m ≤ 5) :
    Calls Tryz.prog 58 #[.pointer (some ⟨b, 0, none⟩), .pointer (some ⟨g1, 0, none⟩), .pointer (some ⟨g2, 0, none⟩)] w fun e' w' => e' = .returned (.pointer (some ⟨b, 0, none⟩)) ∧ SpR w' b q m 0 (n1 != n2) ∧ Below B w w' := by
  have hz' : ¬ q = 0 := by omega
  have t0 : ((q : Int) == 0) = false := by rw [beq_eq_false_iff_ne]; omega
  have hne1 : ¬ b = g1 := hb1
  have hne1' : ¬ g1 = b := fun h => hne1 h.symm
  have hne2 : ¬ b = g2 := hb2
  have hne2' : ¬ g2 = b := fun h => hne2 h.symm
  obtain ⟨r1, x1, hg1⟩ := h1.row
  obtain ⟨r2, x2, hg2⟩ := h2.row
  obtain ⟨c0, c1, c2, c3, c4, c5, c6⟩ := h.cells
  obtain ⟨f0', f1', f2', f3', f4', f5', f6'⟩ := h.free
  obtain ⟨y0, y1, y2, y3', y4, y5, y6⟩ := hg1.cells
  obtain ⟨z0, z1, z2, z3', z4, z5, z6⟩ := hg2.cells
  have y3 : w.cell? ⟨g1, 3, none⟩ = some (.int .u8 1) := y3'
  have z3 : w.cell? ⟨g2, 3, none⟩ = some (.int .u8 2) := z3'
  have HH := Lib.hid h
  have HX := Lib.hid h1
  have HY := Lib.hid h2
  have HG1 := Lib.hid hg1
  have HG2 := Lib.hid hg2
  clear h h1 h2 hg1 hg2 y3' z3' c1 c2 c5 c6
  show Calls _ _ _ _ fun e' w' => _ ∧ SpR w' b q m 0 (!(n1 == n2)) ∧ _
  go_enter Tryz.func58, Tryz.ntmps58
  go_wp2_with fail
  (refine wp_region_hoist 12 (by kernel_rfl) (by kernel_rfl) ⟨fun _ _ _ h => (by first | exact (hQp _ _ _ h).elim | cases h.2.1 | (obtain ⟨_, h3, _⟩ := h.2; cases h3)), fun _ _ h => (by first | exact (hQo _ _ h).elim | cases h.1 | (obtain ⟨_, h3, _⟩ := h; cases h3))⟩ ?_; simp only [List.take_succ_cons, List.take_zero, List.drop_succ_cons, List.drop_zero]; (repeat (go_big_quiet_step (fail))); refine wpQuiet_nil ?_; rintro _ ⟨nq, rfl⟩)
  generalize nq = nb
  go_upto_region 4 with fail
  obtain ⟨W, hW⟩ : ∃ W, W = (w.drewN nb).setCell ⟨b, 4, none⟩ (.bool (!(n1 == n2))) := ⟨_, rfl⟩
  rw [← hW]
  have hWh : FltR W b q m a0 f0 (!(n1 == n2)) (.slice none 0 0) e0 := by rw [hW]; exact (HH.out.drewN nb).s4 (!(n1 == n2))
  have hW1 : FltR W g1 p1 m1 0 1 n1 r1 x1 := by rw [hW]; exact ((heap_setCell_other _ _ _ _ (by simpa using hb1.symm)).trans HG1.out)
  have hW2 : FltR W g2 p2 m2 0 2 n2 r2 x2 := by rw [hW]; exact ((heap_setCell_other _ _ _ _ (by simpa using hb2.symm)).trans HG2.out)
  have hWB : Hid (Below B w W) := Lib.hid (by rw [hW]; exact bset (i := 4) (u := .bool (!(n1 == n2))) (undrewN' (n := nb) (Below.refl B w)) hB)
  clear hW c0 c3 c4 f0' f1' f2' f3' f4' f5' f6' y0 y1 y2 y3 y4 y5 y6 z0 z1 z2 z3 z4 z5 z6
  obtain ⟨c0, c1, c2, c3, c4, c5, c6⟩ := hWh.cells
  obtain ⟨f0', f1', f2', f3', f4', f5', f6'⟩ := hWh.free
  obtain ⟨y0, y1, y2, y3', y4, y5, y6⟩ := hW1.cells
  obtain ⟨z0, z1, z2, z3', z4, z5, z6⟩ := hW2.cells
  have y3 : W.cell? ⟨g1, 3, none⟩ = some (.int .u8 1) := y3'
  have z3 : W.cell? ⟨g2, 3, none⟩ = some (.int .u8 2) := z3'
  have HR := Lib.hid ((hWh.s2 0).s3 0)
  have HB5 := Lib.hid (bset (i := 3) (u := .int .u8 (0 : Int)) (bset (i := 2) (u := .int .i8 0) hWB.out hB) hB)
  clear y3' z3' hWh hW1 hW2
  go_wp2
  go_ret
  exact ⟨rfl, ⟨_, _, HR.out⟩, HB5.out⟩
set_option maxRecDepth 100000 in
set_option maxHeartbeats 3200000 in
theorem quoF_i10 (b B B1 B2 g1 g2 q m p1 m1 p2 m2 f0 M N : Nat) (a0 e0 E F : Int) (nz n1 n2 : Bool) (w : World) (h : FltR w b q m a0 f0 nz (.slice none 0 0) e0) (hB : B ≤ b) (h1 : FloatAt w B1 g1 p1 m1 1 n1 M E) (h2 : FloatAt w B2 g2 p2 m2 0 n2 N F)
    (hb1 : b ≠ g1) (hb2 : b ≠ g2) (hq0 : 0 < q) (hq : q ≤ 64000000) (_hp11 : 0 < p1) (_hp1' : p1 ≤ 64000000) (_hp22 : 0 < p2) (_hp2' : p2 ≤ 64000000) (_hm : m ≤ 5) :
    Calls Tryz.prog 58 #[.pointer (some ⟨b, 0, none⟩), .pointer (some ⟨g1, 0, none⟩), .pointer (some ⟨g2, 0, none⟩)] w fun e' w' => e' = .returned (.pointer (some ⟨b, 0, none⟩)) ∧ SpR w' b q m 2 (n1 != n2) ∧ Below B w w' := by
  have hz' : ¬ q = 0 := by omega
  have t0 : ((q : Int) == 0) = false := by rw [beq_eq_false_iff_ne]; omega
  have hne1 : ¬ b = g1 := hb1
  have hne1' : ¬ g1 = b := fun h => hne1 h.symm
  have hne2 : ¬ b = g2 := hb2
  have hne2' : ¬ g2 = b := fun h => hne2 h.symm
  obtain ⟨r1, x1, hg1⟩ := h1.row
  obtain ⟨r2, x2, hg2⟩ := h2.row
  obtain ⟨c0, c1, c2, c3, c4, c5, c6⟩ := h.cells
  obtain ⟨f0', f1', f2', f3', f4', f5', f6'⟩ := h.free
  obtain ⟨y0, y1, y2, y3', y4, y5, y6⟩ := hg1.cells
  obtain ⟨z0, z1, z2, z3', z4, z5, z6⟩ := hg2.cells
  have y3 : w.cell? ⟨g1, 3, none⟩ = some (.int .u8 1) := y3'
  have z3 : w.cell? ⟨g2, 3, none⟩ = some (.int .u8 0) := z3'
  have HH := Lib.hid h
  have HX := Lib.hid h1
  have HY := Lib.hid h2
  have HG1 := Lib.hid hg1
  have HG2 := Lib.hid hg2
  clear h h1 h2 hg1 hg2 y3' z3' c1 c2 c5 c6
  show Calls _ _ _ _ fun e' w' => _ ∧ SpR w' b q m 2 (!(n1 == n2)) ∧ _
  go_enter Tryz.func58, Tryz.ntmps58
  go_wp2_with fail
  (refine wp_region_hoist 12 (by kernel_rfl) (by kernel_rfl) ⟨fun _ _ _ h => (by first | exact (hQp _ _ _ h).elim | cases h.2.1 | (obtain ⟨_, h3, _⟩ := h.2; cases h3)), fun _ _ h => (by first | exact (hQo _ _ h).elim | cases h.1 | (obtain ⟨_, h3, _⟩ := h; cases h3))⟩ ?_; simp only [List.take_succ_cons, List.take_zero, List.drop_succ_cons, List.drop_zero]; (repeat (go_big_quiet_step (fail))); refine wpQuiet_nil ?_; rintro _ ⟨nq, rfl⟩)
  generalize nq = nb
  go_upto_region 4 with fail
  obtain ⟨W, hW⟩ : ∃ W, W = (w.drewN nb).setCell ⟨b, 4, none⟩ (.bool (!(n1 == n2))) := ⟨_, rfl⟩
  rw [← hW]
  have hWh : FltR W b q m a0 f0 (!(n1 == n2)) (.slice none 0 0) e0 := by rw [hW]; exact (HH.out.drewN nb).s4 (!(n1 == n2))
  have hW1 : FltR W g1 p1 m1 0 1 n1 r1 x1 := by rw [hW]; exact ((heap_setCell_other _ _ _ _ (by simpa using hb1.symm)).trans HG1.out)
  have hW2 : FltR W g2 p2 m2 0 0 n2 r2 x2 := by rw [hW]; exact ((heap_setCell_other _ _ _ _ (by simpa using hb2.symm)).trans HG2.out)
  have hWB : Hid (Below B w W) := Lib.hid (by rw [hW]; exact bset (i := 4) (u := .bool (!(n1 == n2))) (undrewN' (n := nb) (Below.refl B w)) hB)
  clear hW c0 c3 c4 f0' f1' f2' f3' f4' f5' f6' y0 y1 y2 y3 y4 y5 y6 z0 z1 z2 z3 z4 z5 z6
  obtain ⟨c0, c1, c2, c3, c4, c5, c6⟩ := hWh.cells
  obtain ⟨f0', f1', f2', f3', f4', f5', f6'⟩ := hWh.free
  obtain ⟨y0, y1, y2, y3', y4, y5, y6⟩ := hW1.cells
  obtain ⟨z0, z1, z2, z3', z4, z5, z6⟩ := hW2.cells
  have y3 : W.cell? ⟨g1, 3, none⟩ = some (.int .u8 1) := y3'
  have z3 : W.cell? ⟨g2, 3, none⟩ = some (.int .u8 0) := z3'
  have HR := Lib.hid ((hWh.s2 0).s3 2)
  have HB5 := Lib.hid (bset (i := 3) (u := .int .u8 (2 : Int)) (bset (i := 2) (u := .int .i8 0) hWB.out hB) hB)
  clear y3' z3' hWh hW1 hW2
  go_wp2
  go_ret
  exact ⟨rfl, ⟨_, _, HR.out⟩, HB5.out⟩
set_option maxRecDepth 100000 in
set_option maxHeartbeats 3200000 in
theorem quoF_i20 (b B B1 B2 g1 g2 q m p1 m1 p2 m2 f0 M N : Nat) (a0 e0 E F : Int) (nz n1 n2 : Bool) (w : World) (h : FltR w b q m a0 f0 nz (.slice none 0 0) e0) (hB : B ≤ b) (h1 : FloatAt w B1 g1 p1 m1 2 n1 M E) (h2 : FloatAt w B2 g2 p2 m2 0 n2 N F)
    (hb1 : b ≠ g1) (hb2 : b ≠ g2) (hq0 : 0 < q) (hq : q ≤ 64000000) (_hp11 : 0 < p1) (_hp1' : p1 ≤ 64000000) (_hp22 : 0 < p2) (_hp2' : p2 ≤ 64000000) (_hm : m ≤ 5) :
    Calls Tryz.prog 58 #[.pointer (some ⟨b, 0, none⟩), .pointer (some ⟨g1, 0, none⟩), .pointer (some ⟨g2, 0, none⟩)] w fun e' w' => e' = .returned (.pointer (some ⟨b, 0, none⟩)) ∧ SpR w' b q m 2 (n1 != n2) ∧ Below B w w' := by
  have hz' : ¬ q = 0 := by omega
  have t0 : ((q : Int) == 0) = false := by rw [beq_eq_false_iff_ne]; omega
  have hne1 : ¬ b = g1 := hb1
  have hne1' : ¬ g1 = b := fun h => hne1 h.symm
  have hne2 : ¬ b = g2 := hb2
  have hne2' : ¬ g2 = b := fun h => hne2 h.symm
  obtain ⟨r1, x1, hg1⟩ := h1.row
  obtain ⟨r2, x2, hg2⟩ := h2.row
  obtain ⟨c0, c1, c2, c3, c4, c5, c6⟩ := h.cells
  obtain ⟨f0', f1', f2', f3', f4', f5', f6'⟩ := h.free
  obtain ⟨y0, y1, y2, y3', y4, y5, y6⟩ := hg1.cells
  obtain ⟨z0, z1, z2, z3', z4, z5, z6⟩ := hg2.cells
  have y3 : w.cell? ⟨g1, 3, none⟩ = some (.int .u8 2) := y3'
  have z3 : w.cell? ⟨g2, 3, none⟩ = some (.int .u8 0) := z3'
  have HH := Lib.hid h
  have HX := Lib.hid h1
  have HY := Lib.hid h2
  have HG1 := Lib.hid hg1
  have HG2 := Lib.hid hg2
  clear h h1 h2 hg1 hg2 y3' z3' c1 c2 c5 c6
  show Calls _ _ _ _ fun e' w' => _ ∧ SpR w' b q m 2 (!(n1 == n2)) ∧ _
  go_enter Tryz.func58, Tryz.ntmps58
  go_wp2_with fail
  (refine wp_region_hoist 12 (by kernel_rfl) (by kernel_rfl) ⟨fun _ _ _ h => (by first | exact (hQp _ _ _ h).elim | cases h.2.1 | (obtain ⟨_, h3, _⟩ := h.2; cases h3)), fun _ _ h => (by first | exact (hQo _ _ h).elim | cases h.1 | (obtain ⟨_, h3, _⟩ := h; cases h3))⟩ ?_; simp only [List.take_succ_cons, List.take_zero, List.drop_succ_cons, List.drop_zero]; (repeat (go_big_quiet_step (fail))); refine wpQuiet_nil ?_; rintro _ ⟨nq, rfl⟩)
  generalize nq = nb
  go_upto_region 4 with fail
  obtain ⟨W, hW⟩ : ∃ W, W = (w.drewN nb).setCell ⟨b, 4, none⟩ (.bool (!(n1 == n2))) := ⟨_, rfl⟩
  rw [← hW]
  have hWh : FltR W b q m a0 f0 (!(n1 == n2)) (.slice none 0 0) e0 := by rw [hW]; exact (HH.out.drewN nb).s4 (!(n1 == n2))
  have hW1 : FltR W g1 p1 m1 0 2 n1 r1 x1 := by rw [hW]; exact ((heap_setCell_other _ _ _ _ (by simpa using hb1.symm)).trans HG1.out)
  have hW2 : FltR W g2 p2 m2 0 0 n2 r2 x2 := by rw [hW]; exact ((heap_setCell_other _ _ _ _ (by simpa using hb2.symm)).trans HG2.out)
  have hWB : Hid (Below B w W) := Lib.hid (by rw [hW]; exact bset (i := 4) (u := .bool (!(n1 == n2))) (undrewN' (n := nb) (Below.refl B w)) hB)
  clear hW c0 c3 c4 f0' f1' f2' f3' f4' f5' f6' y0 y1 y2 y3 y4 y5 y6 z0 z1 z2 z3 z4 z5 z6
  obtain ⟨c0, c1, c2, c3, c4, c5, c6⟩ := hWh.cells
  obtain ⟨f0', f1', f2', f3', f4', f5', f6'⟩ := hWh.free
  obtain ⟨y0, y1, y2, y3', y4, y5, y6⟩ := hW1.cells
  obtain ⟨z0, z1, z2, z3', z4, z5, z6⟩ := hW2.cells
  have y3 : W.cell? ⟨g1, 3, none⟩ = some (.int .u8 2) := y3'
  have z3 : W.cell? ⟨g2, 3, none⟩ = some (.int .u8 0) := z3'
  have HR := Lib.hid ((hWh.s2 0).s3 2)
  have HB5 := Lib.hid (bset (i := 3) (u := .int .u8 (2 : Int)) (bset (i := 2) (u := .int .i8 0) hWB.out hB) hB)
  clear y3' z3' hWh hW1 hW2
  go_wp2
  go_ret
  exact ⟨rfl, ⟨_, _, HR.out⟩, HB5.out⟩
set_option maxRecDepth 100000 in
set_option maxHeartbeats 3200000 in
theorem quoF_i21 (b B B1 B2 g1 g2 q m p1 m1 p2 m2 f0 M N : Nat) (a0 e0 E F : Int) (nz n1 n2 : Bool) (w : World) (h : FltR w b q m a0 f0 nz (.slice none 0 0) e0) (hB : B ≤ b) (h1 : FloatAt w B1 g1 p1 m1 2 n1 M E) (h2 : FloatAt w B2 g2 p2 m2 1 n2 N F)
    (hb1 : b ≠ g1) (hb2 : b ≠ g2) (hq0 : 0 < q) (hq : q ≤ 64000000) (_hp11 : 0 < p1) (_hp1' : p1 ≤ 64000000) (_hp22 : 0 < p2) (_hp2' : p2 ≤ 64000000) (_hm : m ≤ 5) :
    Calls Tryz.prog 58 #[.pointer (some ⟨b, 0, none⟩), .pointer (some ⟨g1, 0, none⟩), .pointer (some ⟨g2, 0, none⟩)] w fun e' w' => e' = .returned (.pointer (some ⟨b, 0, none⟩)) ∧ SpR w' b q m 2 (n1 != n2) ∧ Below B w w' := by
  have hz' : ¬ q = 0 := by omega
  have t0 : ((q : Int) == 0) = false := by rw [beq_eq_false_iff_ne]; omega
  have hne1 : ¬ b = g1 := hb1
  have hne1' : ¬ g1 = b := fun h => hne1 h.symm
  have hne2 : ¬ b = g2 := hb2
  have hne2' : ¬ g2 = b := fun h => hne2 h.symm
  obtain ⟨r1, x1, hg1⟩ := h1.row
  obtain ⟨r2, x2, hg2⟩ := h2.row
  obtain ⟨c0, c1, c2, c3, c4, c5, c6⟩ := h.cells
  obtain ⟨f0', f1', f2', f3', f4', f5', f6'⟩ := h.free
  obtain ⟨y0, y1, y2, y3', y4, y5, y6⟩ := hg1.cells
  obtain ⟨z0, z1, z2, z3', z4, z5, z6⟩ := hg2.cells
  have y3 : w.cell? ⟨g1, 3, none⟩ = some (.int .u8 2) := y3'
  have z3 : w.cell? ⟨g2, 3, none⟩ = some (.int .u8 1) := z3'
  have HH := Lib.hid h
  have HX := Lib.hid h1
  have HY := Lib.hid h2
  have HG1 := Lib.hid hg1
  have HG2 := Lib.hid hg2
  clear h h1 h2 hg1 hg2 y3' z3' c1 c2 c5 c6
  show Calls _ _ _ _ fun e' w' => _ ∧ SpR w' b q m 2 (!(n1 == n2)) ∧ _
  go_enter Tryz.func58, Tryz.ntmps58
  go_wp2_with fail
  (refine wp_region_hoist 12 (by kernel_rfl) (by kernel_rfl) ⟨fun _ _ _ h => (by first | exact (hQp _ _ _ h).elim | cases h.2.1 | (obtain ⟨_, h3, _⟩ := h.2; cases h3)), fun _ _ h => (by first | exact (hQo _ _ h).elim | cases h.1 | (obtain ⟨_, h3, _⟩ := h; cases h3))⟩ ?_; simp only [List.take_succ_cons, List.take_zero, List.drop_succ_cons, List.drop_zero]; (repeat (go_big_quiet_step (fail))); refine wpQuiet_nil ?_; rintro _ ⟨nq, rfl⟩)
  generalize nq = nb
  go_upto_region 4 with fail
  obtain ⟨W, hW⟩ : ∃ W, W = (w.drewN nb).setCell ⟨b, 4, none⟩ (.bool (!(n1 == n2))) := ⟨_, rfl⟩
  rw [← hW]
  have hWh : FltR W b q m a0 f0 (!(n1 == n2)) (.slice none 0 0) e0 := by rw [hW]; exact (HH.out.drewN nb).s4 (!(n1 == n2))
  have hW1 : FltR W g1 p1 m1 0 2 n1 r1 x1 := by rw [hW]; exact ((heap_setCell_other _ _ _ _ (by simpa using hb1.symm)).trans HG1.out)
  have hW2 : FltR W g2 p2 m2 0 1 n2 r2 x2 := by rw [hW]; exact ((heap_setCell_other _ _ _ _ (by simpa using hb2.symm)).trans HG2.out)
  have hWB : Hid (Below B w W) := Lib.hid (by rw [hW]; exact bset (i := 4) (u := .bool (!(n1 == n2))) (undrewN' (n := nb) (Below.refl B w)) hB)
  clear hW c0 c3 c4 f0' f1' f2' f3' f4' f5' f6' y0 y1 y2 y3 y4 y5 y6 z0 z1 z2 z3 z4 z5 z6
  obtain ⟨c0, c1, c2, c3, c4, c5, c6⟩ := hWh.cells
  obtain ⟨f0', f1', f2', f3', f4', f5', f6'⟩ := hWh.free
  obtain ⟨y0, y1, y2, y3', y4, y5, y6⟩ := hW1.cells
  obtain ⟨z0, z1, z2, z3', z4, z5, z6⟩ := hW2.cells
  have y3 : W.cell? ⟨g1, 3, none⟩ = some (.int .u8 2) := y3'
  have z3 : W.cell? ⟨g2, 3, none⟩ = some (.int .u8 1) := z3'
  have HR := Lib.hid ((hWh.s2 0).s3 2)
  have HB5 := Lib.hid (bset (i := 3) (u := .int .u8 (2 : Int)) (bset (i := 2) (u := .int .i8 0) hWB.out hB) hB)
  clear y3' z3' hWh hW1 hW2
  go_wp2
  go_ret
  exact ⟨rfl, ⟨_, _, HR.out⟩, HB5.out⟩
end Go.Proofs.YtgclooabjilniaaGreatDoor
