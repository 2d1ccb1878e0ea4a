/-
Texts of this proof, joined: QuE QuI AhA RoB. No condition.
-/
import Derived.Test.YtbghmceglemppaaGreatDoorK02
import Derived.Test.YtbghmceglemppaaGreatDoorK03
import Derived.Test.YtbghmceglemppaaGreatDoorK41
import Derived.Test.YtbghmceglemppaaGreatDoorK56
namespace Go.Proofs.YtbghmceglemppaaGreatDoor
open Go.RowKit

def quK (q M N : Nat) : Nat := q + 1 + 1 + bl N - bl M
def quN (q M N : Nat) : Nat := 2 * qN M N (quK q M N) + qS M N (quK q M N)
theorem quK_bl (q : Nat) {M N : Nat} (hM : 0 < M) (hN : 0 < N) : q < bl (qN M N (quK q M N)) := by
  unfold qN
  refine bl_quo (a := bl M - 1 + quK q M N) (b := bl N) hN ?_ (lt_bl N) ?_
  · rw [Nat.pow_add]
    exact Nat.mul_le_mul_right _ (bl_ge hM)
  · have := bl_pos hM
    unfold quK; omega
theorem quN_pos (q : Nat) {M N : Nat} (hM : 0 < M) (hN : 0 < N) : 0 < quN q M N := by
  have h1 := quK_bl q hM hN
  have : 0 < qN M N (quK q M N) := Nat.pos_of_ne_zero fun h0 => by rw [h0, bl_zero] at h1; omega
  unfold quN; omega
theorem quN_zero (q N : Nat) : quN q 0 N = 0 := by
  unfold quN qN qS
  rw [Nat.zero_mul, Nat.zero_div, Nat.zero_mod]; rfl
theorem quN_bl (q M N : Nat) : bl (quN q M N) ≤ bl M + quK q M N + 2 := by
  have h1 : qN M N (quK q M N) ≤ M * 2 ^ quK q M N := Nat.div_le_self _ _
  have h2 := bl_two M (quK q M N)
  have h3 := bl_mono h1
  have h4 := qS_le M N (quK q M N)
  have h5 := lt_bl (qN M N (quK q M N))
  refine Nat.le_trans (bl_le (k := bl (qN M N (quK q M N)) + 1) ?_) (by omega)
  unfold quN
  rw [Nat.pow_succ]; omega
theorem FltR.neDiv {w : World} {b p m f : Nat} {a : Int} {neg : Bool} {v : Value} {e : Int} (h : FltR w b p m a f neg v e) (hK : DivW w) : b ≠ 4 := by
  intro he
  subst he
  have h1 := h.cells.1
  unfold DivW at hK
  rw [hK] at h1
  cases h1
theorem DivW.away {w : World} {b i : Nat} {u : Value} (hK : DivW w) (hb : b ≠ 4) : DivW (w.setCell ⟨b, i, none⟩ u) := by
  unfold DivW
  rw [cell_other (by simpa using hb)]
  exact hK
set_option maxRecDepth 100000 in
set_option maxHeartbeats 6400000 in
theorem quoF_11 (b B B1 B2 g1 g2 p0 m p1 m1 p2 m2 f0 M N : Nat) (a0 e0 E F : Int) (nz n1 n2 : Bool) (w : World) (h : FltR w b p0 m a0 f0 nz (.slice none 0 0) e0) (hB : B ≤ b) (h1 : FloatAt w B1 g1 p1 m1 1 n1 M E) (h2 : FloatAt w B2 g2 p2 m2 1 n2 N F)
    (hM : 0 < M) (hN : 0 < N) (hp1 : bl M ≤ p1) (hp2 : bl N ≤ p2) (hbM : bl M ≤ 2400) (hbN : bl N ≤ 2400) (hE : -1050000000 ≤ E ∧ E ≤ 1050000000) (hF : -1050000000 ≤ F ∧ F ≤ 1050000000) (hEF : -1700000000 ≤ E - F ∧ E - F ≤ 1700000000) (hqm : pOf p0 (max p1 p2) ≤ 64000) (hm : m ≤ 5) (hK : DivW w) (dg : 4 < B) (hb1 : b ≠ g1) (hb2 : b ≠ g2) (hp0 : p0 ≤ 64000000) (hp11 : 0 < p1) (hp1' : p1 ≤ 64000000) (hp22 : 0 < p2) (hp2' : p2 ≤ 64000000) :
    Calls Tryz.prog 96 #[.pointer (some ⟨b, 0, none⟩), .pointer (some ⟨g1, 0, none⟩), .pointer (some ⟨g2, 0, none⟩)] w fun e' w' => e' = .returned (.pointer (some ⟨b, 0, none⟩)) ∧
      FVal w' B b (pOf p0 (max p1 p2)) m (rA (pOf p0 (max p1 p2)) m (n1 != n2) 0 (quN (pOf p0 (max p1 p2)) M N)) 1 (n1 != n2) (rQ (pOf p0 (max p1 p2)) m (n1 != n2) 0 (quN (pOf p0 (max p1 p2)) M N)) (E - F - (quK (pOf p0 (max p1 p2)) M N : Nat) - 1 + rk (pOf p0 (max p1 p2)) (quN (pOf p0 (max p1 p2)) M N)) ∧ Below B w w' := by
  obtain ⟨q, hq⟩ : ∃ q, q = pOf p0 (max p1 p2) := ⟨_, rfl⟩
  have hq0 : 0 < q := by rw [hq]; unfold pOf; split <;> omega
  have hqb : q ≤ 64000000 := by rw [hq]; unfold pOf; split <;> omega
  have hqb1 : q ≤ 64000 := by rw [hq]; exact hqm
  rw [← hq]
  have hbK := h.neDiv hK
  have HU := Lib.hid (fun (W : World) (nz : Bool) (k1 : FltR W b q m a0 f0 nz (.slice none 0 0) e0) (k2 : FloatAt W B1 g1 p1 m1 1 n1 M E) (k3 : FloatAt W B2 g2 p2 m2 1 n2 N F) (k4 : DivW W) => uquo_at b B B1 B2 g1 g2 q m p1 m1 p2 m2 f0 M N a0 e0 E F nz n1 n2 W k1 hB k2 k3 hM hN hp1 hp2 hbM hbN hE hF hEF hb1 hb2 hq0 hqb1 hm k4 dg (quK q M N) (quK_bl q hM hN))
  have hne1 : ¬ b = g1 := hb1
  have hne1' : ¬ g1 = b := fun h => hne1 h.symm
  have hne2 : ¬ b = g2 := hb2
  have hne2' : ¬ g2 = b := fun h => hne2 h.symm
  obtain ⟨r1, x1, hg1⟩ := h1.row
  obtain ⟨r2, x2, hg2⟩ := h2.row
  obtain ⟨c0, c1, c2, c3, c4, c5, c6⟩ := h.cells
  obtain ⟨f0', f1', f2', f3', f4', f5', f6'⟩ := h.free
  obtain ⟨y0, y1, y2, y3', y4, y5, y6⟩ := hg1.cells
  obtain ⟨z0, z1, z2, z3', z4, z5, z6⟩ := hg2.cells
  have y3 : w.cell? ⟨g1, 3, none⟩ = some (.int .u8 1) := y3'
  have z3 : w.cell? ⟨g2, 3, none⟩ = some (.int .u8 1) := z3'
  have HH := Lib.hid h
  have HX := Lib.hid h1
  have HY := Lib.hid h2
  have HG1 := Lib.hid hg1
  have HG2 := Lib.hid hg2
  obtain ⟨sg, hsg⟩ : ∃ sg, sg = (n1 != n2) := ⟨_, rfl⟩
  have Hsg := Lib.hid hsg
  rw [← hsg]
  have HK := Lib.hid hK
  clear h h1 h2 hg1 hg2 y3' z3' c1 c2 c5 c6 hsg hM hN hp1 hp2 hbM hbN hE hF hEF hm hK hq0 hqb hqb1 hqm dg
  by_cases hz : p0 = 0
  · have t0 : ((p0 : Int) == 0) = true := by rw [hz]; rfl
    have em : max (p1 : Int) (p2 : Int) = (q : Int) := by rw [hq]; unfold pOf; rw [if_pos hz]; omega
    clear hq hz
    obtain rfl : sg = (!(n1 == n2)) := Hsg.out
    go_enter Tryz.func96, Tryz.ntmps96
    go_wp2_with fail
    (refine wp_region_hoist 12 (by kernel_rfl) (by kernel_rfl) ⟨fun _ _ _ h => (by first | exact (hQp _ _ _ h).elim | cases h.2.1 | (obtain ⟨_, h3, _⟩ := h.2; cases h3)), fun _ _ h => (by first | exact (hQo _ _ h).elim | cases h.1 | (obtain ⟨_, h3, _⟩ := h; cases h3))⟩ ?_; simp only [List.take_succ_cons, List.take_zero, List.drop_succ_cons, List.drop_zero]; (repeat (go_big_quiet_step (fail))); refine wpQuiet_nil ?_; rintro _ ⟨nq, rfl⟩)
    generalize nq = na
    go_wp2_with fail
    (refine wp_region_hoist 12 (by kernel_rfl) (by kernel_rfl) ⟨fun _ _ _ h => (by first | exact (hQp _ _ _ h).elim | cases h.2.1 | (obtain ⟨_, h3, _⟩ := h.2; cases h3)), fun _ _ h => (by first | exact (hQo _ _ h).elim | cases h.1 | (obtain ⟨_, h3, _⟩ := h; cases h3))⟩ ?_; simp only [List.take_succ_cons, List.take_zero, List.drop_succ_cons, List.drop_zero]; (repeat (go_big_quiet_step (fail))); refine wpQuiet_nil ?_; rintro _ ⟨nq, rfl⟩)
    generalize nq = nb
    go_wp2_with fail
    obtain ⟨W, hW⟩ : ∃ W, W = (((w.drewN na).setCell ⟨b, 0, none⟩ (.int .u32 (q : Int))).drewN nb).setCell ⟨b, 4, none⟩ (.bool (!(n1 == n2))) := ⟨_, rfl⟩
    rw [← hW]
    have hWh : FltR W b q m a0 f0 (!(n1 == n2)) (.slice none 0 0) e0 := by rw [hW]; exact (((HH.out.drewN na).s0 q).drewN nb).s4 (!(n1 == n2))
    have hW1 : FloatAt W B1 g1 p1 m1 1 n1 M E := by rw [hW]; exact (((HH.out.drewN na).s0 q).drewN nb).at 4 (.bool (!(n1 == n2))) hb1 (((HH.out.drewN na).at 0 (.int .u32 (q : Int)) hb1 (HX.out.drewN na)).drewN nb)
    have hW2 : FloatAt W B2 g2 p2 m2 1 n2 N F := by rw [hW]; exact (((HH.out.drewN na).s0 q).drewN nb).at 4 (.bool (!(n1 == n2))) hb2 (((HH.out.drewN na).at 0 (.int .u32 (q : Int)) hb2 (HY.out.drewN na)).drewN nb)
    have hWK : DivW W := by rw [hW]; exact (((HK.out.drewN na).away (i := 0) (u := .int .u32 (q : Int)) hbK).drewN nb).away (i := 4) (u := .bool (!(n1 == n2))) hbK
    have hWB : Hid (Below B w W) := Lib.hid (by rw [hW]; exact bset (i := 4) (u := .bool (!(n1 == n2))) (undrewN' (n := nb) (bset (i := 0) (u := .int .u32 (q : Int)) (undrewN' (n := na) (Below.refl B w)) hB)) hB)
    clear hW
    refine (HU.out W _ hWh hW1 hW2 hWK).mono ?_
    rintro _ w5 ⟨rfl, hv, hb5⟩
    have HV := Lib.hid hv
    have HB5 := Lib.hid (hWB.out.trans hb5)
    clear hv hb5 hWh hW1 hW2 hWK
    go_wp2
    go_ret
    exact ⟨rfl, HV.out, HB5.out⟩
  · have t0 : ((p0 : Int) == 0) = false := by rw [beq_eq_false_iff_ne]; omega
    have hqq : q = p0 := by rw [hq]; unfold pOf; rw [if_neg hz]
    have hz' : ¬ q = 0 := by omega
    clear hq hz
    subst hqq
    obtain rfl : sg = (!(n1 == n2)) := Hsg.out
    go_enter Tryz.func96, Tryz.ntmps96
    go_wp2_with fail
    (refine wp_region_hoist 12 (by kernel_rfl) (by kernel_rfl) ⟨fun _ _ _ h => (by first | exact (hQp _ _ _ h).elim | cases h.2.1 | (obtain ⟨_, h3, _⟩ := h.2; cases h3)), fun _ _ h => (by first | exact (hQo _ _ h).elim | cases h.1 | (obtain ⟨_, h3, _⟩ := h; cases h3))⟩ ?_; simp only [List.take_succ_cons, List.take_zero, List.drop_succ_cons, List.drop_zero]; (repeat (go_big_quiet_step (fail))); refine wpQuiet_nil ?_; rintro _ ⟨nq, rfl⟩)
    generalize nq = nb
    go_wp2_with fail
    obtain ⟨W, hW⟩ : ∃ W, W = (w.drewN nb).setCell ⟨b, 4, none⟩ (.bool (!(n1 == n2))) := ⟨_, rfl⟩
    rw [← hW]
    have hWh : FltR W b q m a0 f0 (!(n1 == n2)) (.slice none 0 0) e0 := by rw [hW]; exact (HH.out.drewN nb).s4 (!(n1 == n2))
    have hW1 : FloatAt W B1 g1 p1 m1 1 n1 M E := by rw [hW]; exact (HH.out.drewN nb).at 4 (.bool (!(n1 == n2))) hb1 (HX.out.drewN nb)
    have hW2 : FloatAt W B2 g2 p2 m2 1 n2 N F := by rw [hW]; exact (HH.out.drewN nb).at 4 (.bool (!(n1 == n2))) hb2 (HY.out.drewN nb)
    have hWK : DivW W := by rw [hW]; exact (HK.out.drewN nb).away (i := 4) (u := .bool (!(n1 == n2))) hbK
    have hWB : Hid (Below B w W) := Lib.hid (by rw [hW]; exact bset (i := 4) (u := .bool (!(n1 == n2))) (undrewN' (n := nb) (Below.refl B w)) hB)
    clear hW
    refine (HU.out W _ hWh hW1 hW2 hWK).mono ?_
    rintro _ w5 ⟨rfl, hv, hb5⟩
    have HV := Lib.hid hv
    have HB5 := Lib.hid (hWB.out.trans hb5)
    clear hv hb5 hWh hW1 hW2 hWK
    go_wp2
    go_ret
    exact ⟨rfl, HV.out, HB5.out⟩
set_option maxRecDepth 100000 in
set_option maxHeartbeats 6400000 in
theorem quoF_01 (b B B1 B2 g1 g2 p0 m p1 m1 p2 m2 f0 M N : Nat) (a0 e0 E F : Int) (nz n1 n2 : Bool) (w : World) (h : FltR w b p0 m a0 f0 nz (.slice none 0 0) e0) (hB : B ≤ b) (h1 : FloatAt w B1 g1 p1 m1 0 n1 M E) (h2 : FloatAt w B2 g2 p2 m2 1 n2 N F)
    (hb1 : b ≠ g1) (hb2 : b ≠ g2) (hp0 : p0 ≤ 64000000) (hp11 : 0 < p1) (hp1' : p1 ≤ 64000000) (hp22 : 0 < p2) (hp2' : p2 ≤ 64000000) :
    Calls Tryz.prog 96 #[.pointer (some ⟨b, 0, none⟩), .pointer (some ⟨g1, 0, none⟩), .pointer (some ⟨g2, 0, none⟩)] w fun e' w' => e' = .returned (.pointer (some ⟨b, 0, none⟩)) ∧
      FltR w' b (pOf p0 (max p1 p2)) m 0 0 (n1 != n2) (.slice none 0 0) e0 ∧ Below B w w' := by
  obtain ⟨q, hq⟩ : ∃ q, q = pOf p0 (max p1 p2) := ⟨_, rfl⟩
  have hq0 : 0 < q := by rw [hq]; unfold pOf; split <;> omega
  have hqb : q ≤ 64000000 := by rw [hq]; unfold pOf; split <;> omega
  rw [← hq]
  have hne1 : ¬ b = g1 := hb1
  have hne1' : ¬ g1 = b := fun h => hne1 h.symm
  have hne2 : ¬ b = g2 := hb2
  have hne2' : ¬ g2 = b := fun h => hne2 h.symm
  obtain ⟨r1, x1, hg1⟩ := h1.row
  obtain ⟨r2, x2, hg2⟩ := h2.row
  obtain ⟨c0, c1, c2, c3, c4, c5, c6⟩ := h.cells
  obtain ⟨f0', f1', f2', f3', f4', f5', f6'⟩ := h.free
  obtain ⟨y0, y1, y2, y3', y4, y5, y6⟩ := hg1.cells
  obtain ⟨z0, z1, z2, z3', z4, z5, z6⟩ := hg2.cells
  have y3 : w.cell? ⟨g1, 3, none⟩ = some (.int .u8 0) := y3'
  have z3 : w.cell? ⟨g2, 3, none⟩ = some (.int .u8 1) := z3'
  have HH := Lib.hid h
  have HX := Lib.hid h1
  have HY := Lib.hid h2
  have HG1 := Lib.hid hg1
  have HG2 := Lib.hid hg2
  obtain ⟨sg, hsg⟩ : ∃ sg, sg = (n1 != n2) := ⟨_, rfl⟩
  have Hsg := Lib.hid hsg
  rw [← hsg]
  clear h h1 h2 hg1 hg2 y3' z3' c1 c2 c5 c6 hsg
  by_cases hz : p0 = 0
  · have t0 : ((p0 : Int) == 0) = true := by rw [hz]; rfl
    have em : max (p1 : Int) (p2 : Int) = (q : Int) := by rw [hq]; unfold pOf; rw [if_pos hz]; omega
    clear hq hz
    obtain rfl : sg = (!(n1 == n2)) := Hsg.out
    go_enter Tryz.func96, Tryz.ntmps96
    go_wp2_with fail
    (refine wp_region_hoist 12 (by kernel_rfl) (by kernel_rfl) ⟨fun _ _ _ h => (by first | exact (hQp _ _ _ h).elim | cases h.2.1 | (obtain ⟨_, h3, _⟩ := h.2; cases h3)), fun _ _ h => (by first | exact (hQo _ _ h).elim | cases h.1 | (obtain ⟨_, h3, _⟩ := h; cases h3))⟩ ?_; simp only [List.take_succ_cons, List.take_zero, List.drop_succ_cons, List.drop_zero]; (repeat (go_big_quiet_step (fail))); refine wpQuiet_nil ?_; rintro _ ⟨nq, rfl⟩)
    generalize nq = na
    go_wp2_with fail
    (refine wp_region_hoist 12 (by kernel_rfl) (by kernel_rfl) ⟨fun _ _ _ h => (by first | exact (hQp _ _ _ h).elim | cases h.2.1 | (obtain ⟨_, h3, _⟩ := h.2; cases h3)), fun _ _ h => (by first | exact (hQo _ _ h).elim | cases h.1 | (obtain ⟨_, h3, _⟩ := h; cases h3))⟩ ?_; simp only [List.take_succ_cons, List.take_zero, List.drop_succ_cons, List.drop_zero]; (repeat (go_big_quiet_step (fail))); refine wpQuiet_nil ?_; rintro _ ⟨nq, rfl⟩)
    generalize nq = nb
    go_upto_region 4 with fail
    obtain ⟨W, hW⟩ : ∃ W, W = (((w.drewN na).setCell ⟨b, 0, none⟩ (.int .u32 (q : Int))).drewN nb).setCell ⟨b, 4, none⟩ (.bool (!(n1 == n2))) := ⟨_, rfl⟩
    rw [← hW]
    have hWh : FltR W b q m a0 f0 (!(n1 == n2)) (.slice none 0 0) e0 := by rw [hW]; exact (((HH.out.drewN na).s0 q).drewN nb).s4 (!(n1 == n2))
    have hW1 : FltR W g1 p1 m1 0 0 n1 r1 x1 := by rw [hW]; exact ((heap_setCell_other _ _ _ _ (by simpa using hb1.symm)).trans ((heap_setCell_other _ _ _ _ (by simpa using hb1.symm)).trans HG1.out))
    have hW2 : FltR W g2 p2 m2 0 1 n2 r2 x2 := by rw [hW]; exact ((heap_setCell_other _ _ _ _ (by simpa using hb2.symm)).trans ((heap_setCell_other _ _ _ _ (by simpa using hb2.symm)).trans HG2.out))
    have hWB : Hid (Below B w W) := Lib.hid (by rw [hW]; exact bset (i := 4) (u := .bool (!(n1 == n2))) (undrewN' (n := nb) (bset (i := 0) (u := .int .u32 (q : Int)) (undrewN' (n := na) (Below.refl B w)) hB)) hB)
    clear hW c0 c3 c4 f0' f1' f2' f3' f4' f5' f6' y0 y1 y2 y3 y4 y5 y6 z0 z1 z2 z3 z4 z5 z6
    obtain ⟨c0, c1, c2, c3, c4, c5, c6⟩ := hWh.cells
    obtain ⟨f0', f1', f2', f3', f4', f5', f6'⟩ := hWh.free
    obtain ⟨y0, y1, y2, y3', y4, y5, y6⟩ := hW1.cells
    obtain ⟨z0, z1, z2, z3', z4, z5, z6⟩ := hW2.cells
    have y3 : W.cell? ⟨g1, 3, none⟩ = some (.int .u8 0) := y3'
    have z3 : W.cell? ⟨g2, 3, none⟩ = some (.int .u8 1) := z3'
    have HR := Lib.hid ((hWh.s2 0).s3 0)
    have HB5 := Lib.hid (bset (i := 3) (u := .int .u8 (0 : Int)) (bset (i := 2) (u := .int .i8 0) hWB.out hB) hB)
    clear y3' z3' hWh hW1 hW2
    go_wp2
    go_ret
    exact ⟨rfl, HR.out, HB5.out⟩
  · have t0 : ((p0 : Int) == 0) = false := by rw [beq_eq_false_iff_ne]; omega
    have hqq : q = p0 := by rw [hq]; unfold pOf; rw [if_neg hz]
    have hz' : ¬ q = 0 := by omega
    clear hq hz
    subst hqq
    obtain rfl : sg = (!(n1 == n2)) := Hsg.out
    go_enter Tryz.func96, Tryz.ntmps96
    go_wp2_with fail
    (refine wp_region_hoist 12 (by kernel_rfl) (by kernel_rfl) ⟨fun _ _ _ h => (by first | exact (hQp _ _ _ h).elim | cases h.2.1 | (obtain ⟨_, h3, _⟩ := h.2; cases h3)), fun _ _ h => (by first | exact (hQo _ _ h).elim | cases h.1 | (obtain ⟨_, h3, _⟩ := h; cases h3))⟩ ?_; simp only [List.take_succ_cons, List.take_zero, List.drop_succ_cons, List.drop_zero]; (repeat (go_big_quiet_step (fail))); refine wpQuiet_nil ?_; rintro _ ⟨nq, rfl⟩)
    generalize nq = nb
    go_upto_region 4 with fail
    obtain ⟨W, hW⟩ : ∃ W, W = (w.drewN nb).setCell ⟨b, 4, none⟩ (.bool (!(n1 == n2))) := ⟨_, rfl⟩
    rw [← hW]
    have hWh : FltR W b q m a0 f0 (!(n1 == n2)) (.slice none 0 0) e0 := by rw [hW]; exact (HH.out.drewN nb).s4 (!(n1 == n2))
    have hW1 : FltR W g1 p1 m1 0 0 n1 r1 x1 := by rw [hW]; exact ((heap_setCell_other _ _ _ _ (by simpa using hb1.symm)).trans HG1.out)
    have hW2 : FltR W g2 p2 m2 0 1 n2 r2 x2 := by rw [hW]; exact ((heap_setCell_other _ _ _ _ (by simpa using hb2.symm)).trans HG2.out)
    have hWB : Hid (Below B w W) := Lib.hid (by rw [hW]; exact bset (i := 4) (u := .bool (!(n1 == n2))) (undrewN' (n := nb) (Below.refl B w)) hB)
    clear hW c0 c3 c4 f0' f1' f2' f3' f4' f5' f6' y0 y1 y2 y3 y4 y5 y6 z0 z1 z2 z3 z4 z5 z6
    obtain ⟨c0, c1, c2, c3, c4, c5, c6⟩ := hWh.cells
    obtain ⟨f0', f1', f2', f3', f4', f5', f6'⟩ := hWh.free
    obtain ⟨y0, y1, y2, y3', y4, y5, y6⟩ := hW1.cells
    obtain ⟨z0, z1, z2, z3', z4, z5, z6⟩ := hW2.cells
    have y3 : W.cell? ⟨g1, 3, none⟩ = some (.int .u8 0) := y3'
    have z3 : W.cell? ⟨g2, 3, none⟩ = some (.int .u8 1) := z3'
    have HR := Lib.hid ((hWh.s2 0).s3 0)
    have HB5 := Lib.hid (bset (i := 3) (u := .int .u8 (0 : Int)) (bset (i := 2) (u := .int .i8 0) hWB.out hB) hB)
    clear y3' z3' hWh hW1 hW2
    go_wp2
    go_ret
    exact ⟨rfl, HR.out, HB5.out⟩
theorem quoF_any (b B B1 B2 g1 g2 p0 m p1 m1 p2 m2 f0 f1 f2 M N : Nat) (a0 e0 E F : Int) (nz n1 n2 : Bool) (w : World) (h : FltR w b p0 m a0 f0 nz (.slice none 0 0) e0) (hB : B ≤ b) (hf1 : f1 ≤ 1) (hf2 : f2 = 1) (h1 : FloatAt w B1 g1 p1 m1 f1 n1 M E) (h2 : FloatAt w B2 g2 p2 m2 f2 n2 N F)
    (k1 : f1 = 1 → 0 < M ∧ bl M ≤ p1 ∧ bl M ≤ 2400 ∧ -5000000 ≤ E ∧ E ≤ 5000000) (k2 : f2 = 1 → 0 < N ∧ bl N ≤ p2 ∧ bl N ≤ 2400 ∧ -5000000 ≤ F ∧ F ≤ 5000000) (hb1 : b ≠ g1) (hb2 : b ≠ g2) (hp0 : p0 ≤ 64000) (hp11 : 0 < p1) (hp1' : p1 ≤ 64000) (hp22 : 0 < p2) (hp2' : p2 ≤ 64000) (hm : m ≤ 5) (hK : DivW w) (dg : 4 < B) :
    Calls Tryz.prog 96 #[.pointer (some ⟨b, 0, none⟩), .pointer (some ⟨g1, 0, none⟩), .pointer (some ⟨g2, 0, none⟩)] w fun e' w' => e' = .returned (.pointer (some ⟨b, 0, none⟩)) ∧
      AddR w' B b (pOf p0 (max p1 p2)) m (n1 != n2) (sI (n1 != n2) (quN (pOf p0 (max p1 p2)) (dyM f1 M) N)) (dyE f1 E - F - (quK (pOf p0 (max p1 p2)) (dyM f1 M) N : Nat) - 1) ∧ Below B w w' := by
  subst hf2
  obtain ⟨y1, y2, y3, y4, y5⟩ := k2 rfl
  rcases (by omega : f1 = 0 ∨ f1 = 1) with rfl | rfl
  · refine (quoF_01 b B B1 B2 g1 g2 p0 m p1 m1 p2 m2 f0 M N a0 e0 E F nz n1 n2 w h hB h1 h2 hb1 hb2 (by omega) hp11 (by omega) hp22 (by omega)).mono ?_
    rintro _ w' ⟨rfl, k, hb⟩
    exact ⟨rfl, (AddR.zero (B := B) k).cast (by rw [show dyM 0 M = 0 from rfl, quN_zero, sI_zero]) rfl, hb⟩
  · obtain ⟨x1, x2, x3, x4, x5⟩ := k1 rfl
    refine (quoF_11 b B B1 B2 g1 g2 p0 m p1 m1 p2 m2 f0 M N a0 e0 E F nz n1 n2 w h hB h1 h2 x1 y1 x2 y2 x3 y3 (by omega) (by omega) (by omega) (by unfold pOf; split <;> omega) hm hK dg hb1 hb2 (by omega) hp11 (by omega) hp22 (by omega)).mono ?_
    rintro _ w' ⟨rfl, k, hb⟩
    exact ⟨rfl, AddR.pos (quN_pos _ x1 y1) k, hb⟩


set_option maxRecDepth 100000 in
set_option maxHeartbeats 6400000 in
theorem impQuo (P E q k p1 m1 f1 p2 m2 f2 : Nat) (n1 n2 : Bool) (v1 v2 : Value) (e1 e2 : Int) (xs ys : List Nat) (w : World) (hv1 : RW w v1 xs) (hv2 : RW w v2 ys) (ho1 : RealOk P E p1 m1 f1 xs e1) (ho2 : RealOk P E p2 m2 f2 ys e2) (hf1 : f1 ≤ 1) (hf2 : f2 = 1) (hP : P ≤ 2400) (hE : E ≤ 400000) (hq : q ≤ 60000) (hk : k ≤ 5) (hT : TabW w) (hK : DivW w) :
    Calls Tryz.prog 48 #[.int .u64 q, .int .i64 k, .agg #[.int .u64 p1, .int .i64 m1, .int .i64 f1, .bool n1, v1, .int .i64 e1], .agg #[.int .u64 p2, .int .i64 m2, .int .i64 f2, .bool n2, v2, .int .i64 e2]] w fun e' w' => ∃ z A, e' = .returned (.tuple #[z, .int .i64 A]) ∧ AddZ w' z A (pOf q (max p1 p2)) k (n1 != n2) (sI (n1 != n2) (quN (pOf q (max p1 p2)) (dyM f1 (wv xs)) (wv ys))) (dyE f1 e1 - e2 - (quK (pOf q (max p1 p2)) (dyM f1 (wv xs)) (wv ys) : Nat) - 1) ∧ Below w.heap.size w w' := by
  have hS1 := hv1.isS
  have hS2 := hv2.isS
  have hab := (Below.refl w.heap.size w).alloc (Nat.le_refl _) (.cells #[.int .u64 p1, .int .i64 m1, .int .i64 f1, .bool n1, v1, .int .i64 e1] 25)
  have hac := hab.alloc hab.size (.cells #[.int .u64 p2, .int .i64 m2, .int .i64 f2, .bool n2, v2, .int .i64 e2] 25)
  have had := hac.alloc hac.size (.cells #[.int .u64 0, .int .i64 0, .int .i64 0, .bool false, .slice none 0 0, .int .i64 0] 25)
  obtain ⟨X, hX⟩ : ∃ X, X = ((w.alloc (.cells #[.int .u64 p1, .int .i64 m1, .int .i64 f1, .bool n1, v1, .int .i64 e1] 25)).alloc (.cells #[.int .u64 p2, .int .i64 m2, .int .i64 f2, .bool n2, v2, .int .i64 e2] 25)).alloc (.cells #[.int .u64 0, .int .i64 0, .int .i64 0, .bool false, .slice none 0 0, .int .i64 0] 25) := ⟨_, rfl⟩
  have hr1 : X.heap[w.heap.size]? = some (.cells #[.int .u64 p1, .int .i64 m1, .int .i64 f1, .bool n1, v1, .int .i64 e1] 25 (0, 0)) := by
    rw [hX]; exact row_chain31
  have hr2 : X.heap[w.heap.size + 1]? = some (.cells #[.int .u64 p2, .int .i64 m2, .int .i64 f2, .bool n2, v2, .int .i64 e2] 25 (0, 0)) := by
    rw [hX]; exact row_chain32
  have hr3 : X.heap[w.heap.size + 2]? = some (.cells #[.int .u64 0, .int .i64 0, .int .i64 0, .bool false, .slice none 0 0, .int .i64 0] 25 (0, 0)) := by
    rw [hX]; exact row_chain33
  rw [← hX] at had
  have V1 := Lib.hid (hv1.below had)
  have V2 := Lib.hid (hv2.below had)
  have HO1 := Lib.hid ho1
  have HO2 := Lib.hid ho2
  have HT := Lib.hid (hT.below had)
  have HK := Lib.hid (hK.below had)
  have HR1 := Lib.hid hr1
  have HR2 := Lib.hid hr2
  have HR3 := Lib.hid hr3
  have hwX := Lib.hid had
  have hcc := Below.refl X.heap.size X
  have hXs := had.size
  have dg : 4 < X.heap.size := World.block_lt_of_cell? X _ HK.out
  have hN1 := Lib.hid (show w.heap.size + 2 ≠ w.heap.size by omega)
  have hN2 := Lib.hid (show w.heap.size + 2 ≠ w.heap.size + 1 by omega)
  have hX2 : w.heap.size + 3 ≤ X.heap.size := by rw [hX]; simp
  have hp1 : 0 < p1 := ho1.1
  have hp2 : 0 < p2 := ho2.1
  have hpP1 : p1 ≤ 2400 := Nat.le_trans ho1.2.1 hP
  have hpP2 : p2 ≤ 2400 := Nat.le_trans ho2.2.1 hP
  have K1 : Hid (f1 = 1 → 0 < wv xs ∧ bl (wv xs) ≤ p1 ∧ bl (wv xs) ≤ 2400 ∧ -5000000 ≤ e1 ∧ e1 ≤ 5000000) := Lib.hid (fun h1 => by
    obtain ⟨_, _, _, h | h | h⟩ := ho1
    · omega
    · omega
    · omega)
  have K2 : Hid (f2 = 1 → 0 < wv ys ∧ bl (wv ys) ≤ p2 ∧ bl (wv ys) ≤ 2400 ∧ -5000000 ≤ e2 ∧ e2 ≤ 5000000) := Lib.hid (fun h1 => by
    obtain ⟨_, _, _, h | h | h⟩ := ho2
    · omega
    · omega
    · omega)
  obtain ⟨V, hV⟩ : ∃ V, V = sI (n1 != n2) (quN (pOf q (max p1 p2)) (dyM f1 (wv xs)) (wv ys)) := ⟨_, rfl⟩
  obtain ⟨XX, hXX⟩ : ∃ XX, XX = dyE f1 e1 - e2 - (quK (pOf q (max p1 p2)) (dyM f1 (wv xs)) (wv ys) : Nat) - 1 := ⟨_, rfl⟩
  obtain ⟨zn, hzn⟩ : ∃ zn, zn = (n1 != n2) := ⟨_, rfl⟩
  have hbd1 := dy_bd ho1
  have hbd2 := dy_bd ho2
  have hblV : bl (sI (n1 != n2) (quN (pOf q (max p1 p2)) (dyM f1 (wv xs)) (wv ys))).natAbs ≤ 200000 := by
    rw [natAbs_sI]
    refine Nat.le_trans (quN_bl _ _ _) ?_
    have h2 := K2.out hf2
    have h3 : pOf q (max p1 p2) ≤ 60000 := by unfold pOf; split <;> omega
    unfold quK; omega
  have hquK : quK (pOf q (max p1 p2)) (dyM f1 (wv xs)) (wv ys) ≤ 200000 := by
    have h2 := K2.out hf2
    have h3 : pOf q (max p1 p2) ≤ 60000 := by unfold pOf; split <;> omega
    unfold quK; omega
  rw [← hV] at hblV
  have HXB : Hid (bl V.natAbs ≤ 1000000 ∧ -100000000 ≤ XX ∧ XX ≤ 100000000) := Lib.hid (by have := K2.out hf2; omega)
  have hpo : pOf q (max p1 p2) ≤ 1000000 ∧ 0 < pOf q (max p1 p2) := by unfold pOf; split <;> omega
  obtain ⟨Z, hZ⟩ : ∃ Z, Z = pOf q (max p1 p2) := ⟨_, rfl⟩
  rw [← hZ] at hpo
  have HPO := Lib.hid hpo
  obtain ⟨A, hA⟩ : ∃ A, A = rA Z k (vN V) 0 V.natAbs := ⟨_, rfl⟩
  have hAb : -1 ≤ A ∧ A ≤ 1 := by rw [hA]; exact rA_bd _ _ _ _ _
  obtain ⟨f, hf⟩ : ∃ f, f = fO V.natAbs := ⟨_, rfl⟩
  have hf2' : f ≤ 2 := by rw [hf]; unfold fO; split <;> omega
  obtain ⟨sg, hsg⟩ : ∃ sg, sg = (if V = 0 then zn else vN V) := ⟨_, rfl⟩
  obtain ⟨R, hR⟩ : ∃ R, R = rQ Z k (vN V) 0 V.natAbs := ⟨_, rfl⟩
  obtain ⟨RX, hRX⟩ : ∃ RX, RX = XX + rk Z V.natAbs := ⟨_, rfl⟩
  have HRB : Hid (-900000000 ≤ RX ∧ RX + bl R ≤ 900000000) := Lib.hid (by rw [hRX, hR]; exact rQ_range HXB.out)
  have HIN := Lib.hid (fun (w' : World) (b : Nat) (h : AddR w' X.heap.size b Z k zn V XX) => (by unfold AddR at h; rw [← hA, ← hf, ← hsg, ← hR, ← hRX] at h; exact h : FVal w' X.heap.size b Z k A f sg R RX))
  have HOUT := Lib.hid (fun (w' : World) (z : Value) (h : RealV w' z Z k f sg R RX) => (by unfold AddZ; rw [← hA, ← hf, ← hsg, ← hR, ← hRX]; exact ⟨rfl, h⟩ : AddZ w' z A Z k zn V XX))
  have HADD := Lib.hid (fun (W : World) (b g1 g2 B1 B2 : Nat) (h : FltR W b q k 0 0 false (.slice none 0 0) 0) (hB : X.heap.size ≤ b) (h1 : FloatAt W B1 g1 p1 m1 f1 n1 (wv xs) e1) (h2 : FloatAt W B2 g2 p2 m2 f2 n2 (wv ys) e2) (hb1 : b ≠ g1) (hb2 : b ≠ g2) (hKW : DivW W) =>
    quoF_any b X.heap.size B1 B2 g1 g2 q k p1 m1 p2 m2 0 f1 f2 (wv xs) (wv ys) 0 0 e1 e2 false n1 n2 W h hB hf1 hf2 h1 h2 K1.out K2.out hb1 hb2 (by omega) hp1 (by omega) hp2 (by omega) hk hKW dg)
  rw [← hV, ← hzn, ← hXX, ← hZ] at HADD
  rw [← hV, ← hzn, ← hXX, ← hZ]
  clear hv1 hv2 ho1 ho2 hab hac had hr1 hr2 hr3 hT hK hpo hbd1 hbd2 hblV hquK dg hf2 hV hXX hzn hZ hA hf hsg hR hRX
  go_enter Tryz.func48, Tryz.ntmps48
  go_upto_region 1 with fail
  rw [← hX]
  clear hX
  first
    | (go_region_held3 (fun w' => (w'.cell? ⟨w.heap.size, 0, none⟩ = some (.int .u64 (p1 : Int)) ∧ w'.cell? ⟨w.heap.size, 1, none⟩ = some (.int .i64 (m1 : Int)) ∧ w'.cell? ⟨w.heap.size, 2, none⟩ = some (.int .i64 (f1 : Int)) ∧ w'.cell? ⟨w.heap.size, 3, none⟩ = some (.bool n1) ∧ w'.cell? ⟨w.heap.size, 4, none⟩ = some v1 ∧ w'.cell? ⟨w.heap.size, 5, none⟩ = some (.int .i64 e1)) ∧ (w'.cell? ⟨w.heap.size + 1, 0, none⟩ = some (.int .u64 (p2 : Int)) ∧ w'.cell? ⟨w.heap.size + 1, 1, none⟩ = some (.int .i64 (m2 : Int)) ∧ w'.cell? ⟨w.heap.size + 1, 2, none⟩ = some (.int .i64 (f2 : Int)) ∧ w'.cell? ⟨w.heap.size + 1, 3, none⟩ = some (.bool n2) ∧ w'.cell? ⟨w.heap.size + 1, 4, none⟩ = some v2 ∧ w'.cell? ⟨w.heap.size + 1, 5, none⟩ = some (.int .i64 e2)))
        ((first | (refine ksT2 HR1.out HR2.out ?_; with_reducible first | assumption | exact Below.drew hcc) | with_reducible exact ⟨ks6R hN1.out (ks6R hN1.out (ks6R hN1.out (ks6R hN1.out (ks6R hN1.out (ks6R hN1.out (ks12 HR1.out hb7).2))))), ks6R hN2.out (ks6R hN2.out (ks6R hN2.out (ks6R hN2.out (ks6R hN2.out (ks6R hN2.out (ks12 HR2.out hb7).2)))))⟩))
        (first
          | (go_at_call 67; (with_reducible refine (float_any P E p2 m2 f2 n2 v2 e2 ys _ (V2.out.below hb4) HO2.out (by omega) (by omega)).mono ?_); rintro _ w5 ⟨g2, rfl, hF2, hb5⟩; have G0' := Lib.hid (G0.out.below hb5); have G1' := Lib.hid (G1.out.below hb5); have G2 := Lib.hid hF2; have hne2 := Lib.hid (show g0 ≠ g2 by have := G0.out.lt; have := hF2.1; omega); have hne3 := Lib.hid (show g1 ≠ g2 by obtain ⟨_, _, hr⟩ := G1.out.row; have := hr.lt; have := hF2.1; omega); clear hF2; have hb5 := bthen hb4 hb5)
          | (go_at_call 67; (with_reducible refine (float_any P E p1 m1 f1 n1 v1 e1 xs _ (V1.out.below hb3) HO1.out (by omega) (by omega)).mono ?_); rintro _ w4 ⟨g1, rfl, hF1, hb4⟩; have G0 := Lib.hid (GF.out.below hb4); have G1 := Lib.hid hF1; have hne1 := Lib.hid (show g0 ≠ g1 by have := GF.out.lt; have := hF1.1; omega); clear hF1; have hb4 := bthen hb3 hb4)
          | (go_at_call 65; refine (fresh_all q k _ (by omega) (by omega)).mono ?_; rintro _ w3 ⟨g0, rfl, ⟨hg0, hF0⟩, hb3⟩; have hg0X : X.heap.size ≤ g0 := (by rw [hg0]; exact Nat.le_refl _); clear hg0; have GF := Lib.hid hF0; clear hF0; have hb3 : Below X.heap.size X w3 := bthen (Below.drew hcc) hb3)
          | (go_at_call 96; (with_reducible refine (HADD.out _ g0 g1 g2 _ _ G0'.out hg0X G1'.out G2.out hne1.out hne2.out (HK.out.below hb5)).mono ?_); rintro _ w6 ⟨rfl, hA6, hb6⟩; have F6 := Lib.hid (HIN.out _ _ hA6); clear hA6; have hb6 := bthenX hb5 hb6)
          | (go_at_call 64; (with_reducible refine (implBoth _ g0 Z k f A _ _ _ _ F6.out hf2' (by have := HPO.out; omega) (by omega) (fun _ => HPO.out.2) (fun _ => HRB.out) (HT.out.below hb6) hAb).mono ?_); rintro _ w7 ⟨z, rfl, hz, hb7⟩; have hb7 := bthen hb6 hb7; have hq2 := keep_row hb7 HR3.out; obtain ⟨vz, Ez, zs, Bz, rfl, hz2, hzd, hz3, hz4⟩ := hz; have hSz := hz2.isS; obtain ⟨⟨y0, y1, y2, y3, y4, y5⟩, s0, s1, s2, s3, s4, s5⟩ := row6 hq2; have H2 := Lib.hid hz2; have H34 := Lib.hid (And.intro hzd (And.intro hz3 hz4)); have HQ2 := Lib.hid hq2; clear hz2 hzd hz3 hz4 hq2)))
    | fail
  all_goals go_wp2_with fail
  all_goals
    have HS := row6_set (x := .int .u64 (Z : Int)) (y := .int .i64 (k : Int)) (z := .int .i64 (f : Int)) (x' := .bool sg) (y' := vz) (z' := .int .i64 Ez) HQ2.out
    have HB := bset6 (x := .int .u64 (Z : Int)) (y := .int .i64 (k : Int)) (z := .int .i64 (f : Int)) (x' := .bool sg) (y' := vz) (z' := .int .i64 Ez) (hwX.out.trans (hb7.mono hXs)) (Nat.le_trans (Nat.le_succ _) (Nat.le_succ _))
    obtain ⟨⟨a0, a1, a2, a3, a4, a5⟩, -⟩ := row6 HS
    refine bodyPost_ret (v := .tuple #[.agg #[.int .u64 Z, .int .i64 k, .int .i64 f, .bool sg, vz, .int .i64 Ez], .int .i64 A]) ?_ rfl ⟨_, _, rfl, HOUT.out _ _ ⟨_, _, _, Bz, rfl, ?_, H34.out.1, H34.out.2⟩, HB⟩
    · simp [results, Tryz.results48, go_sem, a0, a1, a2, a3, a4, a5]
    · exact H2.out.same fun hc => by
        have hne : sBlk vz ≠ w.heap.size + 2 := H2.out.ne_row HQ2.out (by decide) hc
        exact heap6_other hne


theorem add_mark {q r : Nat} : (if 0 < nl r then q * 2 + 1 else q * 2) = 2 * q + (if r = 0 then 0 else 1) := by
  rcases Nat.eq_zero_or_pos r with h | h
  · rw [h, nl_zero, if_neg (by omega), if_pos rfl]; omega
  · have : 0 < nl r := by
      refine Nat.pos_of_ne_zero fun h0 => ?_
      have := lt_nl r
      rw [h0, Nat.pow_zero] at this
      omega
    rw [if_pos this, if_neg (by omega)]; omega
theorem ks6A {W X : World} {k0 k1 T0 T1 : Nat} {a0 b0 c0 a1 b1 c1 : Value} (h0 : W.heap[k0]? = some (.cells #[a0, b0, c0] T0 (0, 0))) (h1 : W.heap[k1]? = some (.cells #[a1, b1, c1] T1 (0, 0))) (h : Below W.heap.size W X) :
    Below W.heap.size W X ∧ (X.cell? ⟨k0, 0, none⟩ = some a0 ∧ X.cell? ⟨k0, 1, none⟩ = some b0 ∧ X.cell? ⟨k0, 2, none⟩ = some c0) ∧ X.cell? ⟨k1, 0, none⟩ = some a1 ∧ X.cell? ⟨k1, 1, none⟩ = some b1 ∧ X.cell? ⟨k1, 2, none⟩ = some c1 := by
  obtain ⟨x0, y0, z0, -, -, -⟩ := row3 (keep_row h h0)
  obtain ⟨x1, y1, z1, -, -, -⟩ := row3 (keep_row h h1)
  exact ⟨h, ⟨x0, y0, z0⟩, x1, y1, z1⟩
set_option maxRecDepth 100000 in
set_option maxHeartbeats 3200000 in
theorem ahead_any (n1 n2 : Bool) (a b : Value) (e1 e2 : Int) (X Y n : Nat) (w : World) (ha : NatV w a X) (hb : NatV w b Y) (hX : bl X ≤ 100000) (hY0 : 0 < Y) (hY : bl Y ≤ 100000) (hn : n ≤ 100000) (h1 : -2000000000 ≤ e1 ∧ e1 ≤ 2000000000) (h2 : -2000000000 ≤ e2 ∧ e2 ≤ 2000000000) :
    Calls Tryz.prog 51 #[.agg #[.bool n1, a, .int .i64 e1], .agg #[.bool n2, b, .int .i64 e2], .int .i64 n] w fun e' w' => ∃ c, e' = .returned (.agg #[.bool (n1 != n2), c, .int .i64 (e1 - e2 - ((n + 1 + bl Y - bl X : Nat) : Int) - 1)]) ∧
      NatV w' c (2 * qN X Y (n + 1 + bl Y - bl X) + qS X Y (n + 1 + bl Y - bl X)) ∧ Below w.heap.size w w' := by
  have hSa := ha.isS
  have hSb := hb.isS
  obtain ⟨W, hW⟩ : ∃ W, W = ((w.alloc (.cells #[.bool n1, a, .int .i64 e1] 30)).alloc (.cells #[.bool n2, b, .int .i64 e2] 30)).alloc (.cells #[.bool false, .slice none 0 0, .int .i64 0] 30) := ⟨_, rfl⟩
  have hac : Below w.heap.size w W := by rw [hW]; exact (((Below.refl _ w).alloc (Nat.le_refl _) _).alloc (by simp) _).alloc (by simp; omega) _
  have hr1 : W.heap[w.heap.size]? = some (.cells #[.bool n1, a, .int .i64 e1] 30 (0, 0)) := by rw [hW]; exact keep_row (fbone _) (keep_row (fbone _) (row_new _ _ _ _ rfl))
  have hr2 : W.heap[w.heap.size + 1]? = some (.cells #[.bool n2, b, .int .i64 e2] 30 (0, 0)) := by rw [hW]; exact keep_row (fbone _) (row_new _ _ _ _ (by simp))
  have hr3 : W.heap[w.heap.size + 1 + 1]? = some (.cells #[.bool false, .slice none 0 0, .int .i64 0] 30 (0, 0)) := by rw [hW]; exact row_new _ _ _ _ (by simp)
  obtain ⟨x0, x1, x2, -, -, -⟩ := row3 hr1
  obtain ⟨y0, y1, y2, -, -, -⟩ := row3 hr2
  obtain ⟨la, hla⟩ : ∃ l, l = bl X := ⟨_, rfl⟩
  obtain ⟨lb, hlb⟩ : ∃ l, l = bl Y := ⟨_, rfl⟩
  obtain ⟨k, hk⟩ : ∃ k, k = n + 1 + bl Y - bl X := ⟨_, rfl⟩
  have hnX : nl X ≤ 100000 := nl_of_bl (by omega)
  have hnY : nl Y ≤ 100000 := nl_of_bl (by omega)
  have emax : max (0 : Int) ((n : Int) + 1 + (lb : Int) - (la : Int)) = (k : Int) := by omega
  have hkb : k ≤ 300000 := by omega
  have hla2 : la ≤ 100000 := by omega
  have hlb2 : lb ≤ 100000 := by omega
  rw [← hk]
  have NA := Lib.hid (ha.below hac)
  have NB := Lib.hid (hb.below hac)
  have HLA : Hid (∀ j : Nat, Calls Tryz.prog 56 #[a] (W.drewN j) fun e' w' => e' = .returned (.int .i64 (la : Int)) ∧ w' = W.drewN j) := Lib.hid (fun j => by
    rw [hla]
    exact (spLen a X (W.drewN j) (NA.out.below (undrewN' (Below.refl _ _))) (by omega)).mono (fun _ _ h => ⟨h.1, h.2.symm⟩))
  have HLB : Hid (∀ j : Nat, Calls Tryz.prog 56 #[b] (W.drewN j) fun e' w' => e' = .returned (.int .i64 (lb : Int)) ∧ w' = W.drewN j) := Lib.hid (fun j => by
    rw [hlb]
    exact (spLen b Y (W.drewN j) (NB.out.below (undrewN' (Below.refl _ _))) (by omega)).mono (fun _ _ h => ⟨h.1, h.2.symm⟩))
  have hnXk : nl (X * 2 ^ k) ≤ 1000000 := nl_of_bl (by have := bl_two X k; omega)
  have HSH : Hid (∀ w', Below W.heap.size W w' → Calls Tryz.prog 27 #[a, .int .i64 k] w' fun e w5 => ∃ r, e = .returned r ∧ NatV w5 r (X * 2 ^ k) ∧ Below w'.heap.size w' w5) := Lib.hid (fun w' h => (spShl a X k w' (NA.out.below h) (by omega) (by omega)).mono fun _ _ h => h)
  have HDM : Hid (∀ w' r, Below W.heap.size W w' → NatV w' r (X * 2 ^ k) → Calls Tryz.prog 76 #[r, b] w' fun e w5 => ∃ q t, e = .returned (.tuple #[q, t]) ∧ NatV w5 q (X * 2 ^ k / Y) ∧ NatV w5 t (X * 2 ^ k % Y) ∧ Below w'.heap.size w' w5) := Lib.hid (fun w' r h hr => by
    refine (spDivMod r b (X * 2 ^ k) Y w' hr (NB.out.below h) (by omega) (by omega) hY0).mono ?_
    rintro _ w5 ⟨_, rfl, q, t, rfl, k1, k2, k3⟩
    exact ⟨q, t, rfl, k1, k2, k3⟩)
  obtain ⟨Z, hZ⟩ : ∃ Z, Z = X * 2 ^ k := ⟨_, rfl⟩
  have hqb : nl (Z / Y) ≤ 1000000 := Nat.le_trans (nl_mono (Nat.div_le_self _ _)) (by rw [hZ]; exact hnXk)
  have hqb2 : nl (Z / Y * 2 ^ 1) ≤ 2000000 := nl_of_bl (by
    have h1 := bl_two (Z / Y) 1
    have h2 := bl_mono (Nat.div_le_self Z Y)
    have h3 := bl_two X k
    rw [← hZ] at h3
    omega)
  have HFIN : Hid (2 * qN X Y k + qS X Y k = if 0 < nl (Z % Y) then Z / Y * 2 + 1 else Z / Y * 2) := Lib.hid (by rw [add_mark]; unfold qN qS; rw [← hZ])
  rw [← hZ] at HSH HDM
  rw [HFIN.out]
  obtain ⟨Q, hQ⟩ : ∃ Q, Q = Z / Y := ⟨_, rfl⟩
  obtain ⟨T, hT⟩ : ∃ T, T = Z % Y := ⟨_, rfl⟩
  rw [← hQ] at HDM hqb hqb2
  rw [← hT] at HDM
  rw [← hQ, ← hT]
  obtain ⟨RN, hRN⟩ : ∃ N, N = if 0 < nl T then Q * 2 + 1 else Q * 2 := ⟨_, rfl⟩
  rw [← hRN]
  have HRN := Lib.hid hRN
  clear hRN
  obtain ⟨E, hE⟩ : ∃ E : Int, E = e1 - e2 - (k : Int) - 1 := ⟨_, rfl⟩
  have w1 : IntKind.i64.wrap (e1 - e2) = e1 - e2 := wrap_i64_id (by omega) (by omega)
  have w2 : IntKind.i64.wrap (e1 - e2 - (k : Int)) = e1 - e2 - (k : Int) := wrap_i64_id (by omega) (by omega)
  have w3 : IntKind.i64.wrap (e1 - e2 - (k : Int) - 1) = E := by rw [hE]; exact wrap_i64_id (by omega) (by omega)
  rw [← hE]
  obtain ⟨sg, hsg⟩ : ∃ sg, sg = (n1 != n2) := ⟨_, rfl⟩
  rw [← hsg]
  have Hsg := Lib.hid hsg
  have HR1 := Lib.hid hr1
  have HR2 := Lib.hid hr2
  have HR3 := Lib.hid hr3
  have HW := Lib.hid hac
  have hWs := hac.size
  have hcc := Below.refl W.heap.size W
  clear ha hb hac hr1 hr2 hr3 hla hlb hk hX hY0 hY hZ hQ hT hE hsg HFIN hnXk hnX hnY
  go_enter Tryz.func51, Tryz.ntmps51
  go_upto_region 1 with fail
  rw [← hW]
  clear hW
  go_quiet ((go_at_call 56; first | (with_reducible exact Calls.quiet_of_same (HLA.out _)) | (with_reducible exact Calls.quiet_of_same (HLB.out _))))
  go_upto_region 2 with fail
  (go_region_held3 (fun w' => Below W.heap.size W w' ∧ (w'.cell? ⟨w.heap.size, 0, none⟩ = some (.bool n1) ∧ w'.cell? ⟨w.heap.size, 1, none⟩ = some a ∧ w'.cell? ⟨w.heap.size, 2, none⟩ = some (.int .i64 e1)) ∧ w'.cell? ⟨w.heap.size + 1, 0, none⟩ = some (.bool n2) ∧ w'.cell? ⟨w.heap.size + 1, 1, none⟩ = some b ∧ w'.cell? ⟨w.heap.size + 1, 2, none⟩ = some (.int .i64 e2))
        ((refine ks6A HR1.out HR2.out ?_; (repeat (with_reducible first | assumption | refine Below.drew ?_ | refine undrewN' ?_))))
        (first
          | (go_at_call 76; (with_reducible refine (HDM.out _ _ hb5 HZ5.out).mono ?_); rintro _ w6 ⟨q, t, rfl, hq, ht, hb6'⟩; have hb6 := bthen hb5 hb6'; have HQ6 := Lib.hid hq; have HT6 := Lib.hid ht; have hSq := hq.isS; have hSt := ht.isS; have hLt : sLen t = nl T := ht.len; clear hq ht)
          | (go_at_call 27; (with_reducible refine (HSH.out _ (by repeat (with_reducible first | assumption | refine Below.drew ?_ | refine undrewN' ?_))).mono ?_); rintro _ w5 ⟨r, rfl, hr, hb5'⟩; have hb5 : Below W.heap.size W w5 := bthen (by repeat (with_reducible first | assumption | refine Below.drew ?_ | refine undrewN' ?_)) hb5'; have HZ5 := Lib.hid hr; have hSr := hr.isS; clear hr)))
  all_goals
    have HB6 := Lib.hid hb6
    have HR16 := Lib.hid (keep_row hb6 HR1.out)
    have HR26 := Lib.hid (keep_row hb6 HR2.out)
    have HR36 := Lib.hid (keep_row hb6 HR3.out)
    clear x0 x1 x2 y0 y1 y2 hb5 hb5' hb6 hb6' HZ5
    go_wp2_with fail
    refine (spShl q Q 1 w6 HQ6.out (by omega) (by decide)).mono ?_
    rintro _ w7 ⟨q2, rfl, hq2, hb7⟩
    have hSq2 := hq2.isS
    have HQ7 := Lib.hid hq2
    clear hq2
    rw [show (2 : Nat) ^ 1 = 2 from rfl] at HQ7 hqb2
    by_cases hT0 : 0 < nl T
    · have u1 : decide ((0 : Int) < (nl T : Int)) = true := decide_eq_true (by omega)
      have HRP : Hid (RN = Q * 2 + 1) := Lib.hid (by rw [HRN.out, if_pos hT0])
      obtain ⟨lt, hlt⟩ : ∃ l, l = nl T := ⟨_, rfl⟩
      rw [← hlt] at u1 hLt hT0
      clear hlt
      go_wp2_with fail
      refine (spSmall 1 w7 (by decide)).mono ?_
      rintro _ w8 ⟨o1, rfl, ho1, hb8⟩
      have hSo := ho1.isS
      have HO := Lib.hid ho1
      clear ho1
      go_wp2_with fail
      refine (spAdd q2 o1 (Q * 2) 1 w8 (HQ7.out.below hb8) HO.out (by omega) (by decide)).mono ?_
      rintro _ w9 ⟨q3, rfl, hq3, hb9⟩
      have hb69 := bthen (bthen hb7 hb8) hb9
      have hSq3 := hq3.isS
      have HQ9 := Lib.hid hq3
      have hrw := keep_row hb69 HR36.out
      obtain ⟨p0, p1, p2, -, -, -⟩ := row3 (keep_row hb69 HR16.out)
      obtain ⟨q0, q1, q2', -, -, -⟩ := row3 (keep_row hb69 HR26.out)
      obtain ⟨z0, z1, z2, z3, z4, z5⟩ := row3 hrw
      have HRw := Lib.hid hrw
      have HB9 := Lib.hid (HW.out.trans ((bthen HB6.out hb69).mono hWs))
      clear hq3 hb7 hb8 hb9 hb69 hrw
      go_wp2
      obtain ⟨hx0, hx1, hx2, -, -, -⟩ := row3 (row3_set (x := .bool (!(n1 == n2))) (y := q3) (z := .int .i64 E) HRw.out)
      refine bodyPost_ret (v := .agg #[.bool (!(n1 == n2)), q3, .int .i64 E]) ?_ rfl ⟨q3, by rw [Hsg.out]; rfl, by rw [HRP.out]; exact natv_dyad (x := .bool (!(n1 == n2))) (y := q3) (z := .int .i64 E) IsS.nil HQ9.out HRw.out, bset (bset (bset HB9.out (by omega)) (by omega)) (by omega)⟩
      simp [results, Tryz.results51, go_sem, hx0, hx1, hx2]
    · have u1 : decide ((0 : Int) < (nl T : Int)) = false := decide_eq_false (by omega)
      have HRP : Hid (RN = Q * 2) := Lib.hid (by rw [HRN.out, if_neg hT0])
      obtain ⟨lt, hlt⟩ : ∃ l, l = nl T := ⟨_, rfl⟩
      rw [← hlt] at u1 hLt hT0
      clear hlt
      have hrw := keep_row hb7 HR36.out
      obtain ⟨p0, p1, p2, -, -, -⟩ := row3 (keep_row hb7 HR16.out)
      obtain ⟨q0, q1, q2', -, -, -⟩ := row3 (keep_row hb7 HR26.out)
      obtain ⟨z0, z1, z2, z3, z4, z5⟩ := row3 hrw
      have HRw := Lib.hid hrw
      have HB9 := Lib.hid (HW.out.trans ((bthen HB6.out hb7).mono hWs))
      clear hb7 hrw
      go_wp2
      obtain ⟨hx0, hx1, hx2, -, -, -⟩ := row3 (row3_set (x := .bool (!(n1 == n2))) (y := q2) (z := .int .i64 E) HRw.out)
      refine bodyPost_ret (v := .agg #[.bool (!(n1 == n2)), q2, .int .i64 E]) ?_ rfl ⟨q2, by rw [Hsg.out]; rfl, by rw [HRP.out]; exact natv_dyad (x := .bool (!(n1 == n2))) (y := q2) (z := .int .i64 E) IsS.nil HQ7.out HRw.out, bset (bset (bset HB9.out (by omega)) (by omega)) (by omega)⟩
      simp [results, Tryz.results51, go_sem, hx0, hx1, hx2]

open Go.ChangeShapes Go.WideShapes Go.ChangeAt Go.RowKit

section
variable {H : Type} {enc : TypeId × Value → H} {P : Program} {w : World} {base : Nat} {spare : Nat → Bool} {held : Bool}
theorem trod_struct6 {t : TypeId} {f0 f1 f2 f3 f4 f5 : Field} {fuel : Nat} {cs : List Value} {x : DataW H × List MemPlace} (ht : P.underlying t = some (.struct #[f0, f1, f2, f3, f4, f5])) (h : DataW.trod enc P w base spare held fuel t cs = some x) :
    ∃ y0 y1 y2 y3 y4 y5 n, cs.length = P.cellsOf t ∧ DataW.trod enc P w base spare held n f0.type ((cs.drop f0.offset).take (P.cellsOf f0.type)) = some y0 ∧
      DataW.trod enc P w base spare held n f1.type ((cs.drop f1.offset).take (P.cellsOf f1.type)) = some y1 ∧ DataW.trod enc P w base spare held n f2.type ((cs.drop f2.offset).take (P.cellsOf f2.type)) = some y2 ∧
      DataW.trod enc P w base spare held n f3.type ((cs.drop f3.offset).take (P.cellsOf f3.type)) = some y3 ∧ DataW.trod enc P w base spare held n f4.type ((cs.drop f4.offset).take (P.cellsOf f4.type)) = some y4 ∧
      DataW.trod enc P w base spare held n f5.type ((cs.drop f5.offset).take (P.cellsOf f5.type)) = some y5 := by
  obtain ⟨xs, n, _, rfl, hl, hlen, hf⟩ := DataW.trod_struct ht h
  match xs, hlen with
  | [y0, y1, y2, y3, y4, y5], _ => exact ⟨y0, y1, y2, y3, y4, y5, n, hl, by simpa using hf 0 f0 rfl, by simpa using hf 1 f1 rfl, by simpa using hf 2 f2 rfl, by simpa using hf 3 f3 rfl, by simpa using hf 4 f4 rfl, by simpa using hf 5 f5 rfl⟩
end
section
variable {H : Type} {enc : TypeId × Value → H} {W : World} {base : Nat} {held : Bool}
theorem open_i64 {c : Value} {fuel : Nat} {x : DataW H × List MemPlace} (h : DataW.trod enc Tryz.prog W base (fun _ => true) held fuel 3 [c] = some x) : ∃ n : Int, c = .int .i64 n ∧ -9223372036854775808 ≤ n ∧ n ≤ 9223372036854775807 := by
  obtain ⟨n, hc, _, hw⟩ := DataW.trod_int Tryz.underlying3 h
  exact ⟨n, by simpa using hc, by simpa [Lit.wf, IntKind.min, IntKind.max, IntKind.signed, IntKind.bits] using hw⟩
theorem open_u64 {c : Value} {fuel : Nat} {x : DataW H × List MemPlace} (h : DataW.trod enc Tryz.prog W base (fun _ => true) held fuel 22 [c] = some x) : ∃ n : Nat, c = .int .u64 n ∧ n ≤ 18446744073709551615 := by
  obtain ⟨n, hc, _, hw⟩ := DataW.trod_int Tryz.underlying22 h
  have hb : 0 ≤ n ∧ n ≤ 18446744073709551615 := by simpa [Lit.wf, IntKind.min, IntKind.max, IntKind.signed, IntKind.bits] using hw
  obtain ⟨k, rfl⟩ := Int.eq_ofNat_of_zero_le hb.1
  exact ⟨k, by simpa using hc, by omega⟩
set_option maxRecDepth 100000 in
theorem open_real {v : Value} {r : Reach} {b0 : Nat} {d : DataW H} {p : List MemPlace} (hval : Value.okWide Tryz.prog W r b0 25 v) (h : DataW.Trod enc Tryz.prog W base (fun _ => true) held 25 v d p) :
    ∃ (q : Nat) (m f : Int) (n : Bool) (x : Value) (e : Int) (ws : List Nat), v = .agg #[.int .u64 q, .int .i64 m, .int .i64 f, .bool n, x, .int .i64 e] ∧ RW W x ws ∧
      (q ≤ 18446744073709551615 ∧ (-9223372036854775808 ≤ m ∧ m ≤ 9223372036854775807) ∧ (-9223372036854775808 ≤ f ∧ f ≤ 9223372036854775807) ∧ (-9223372036854775808 ≤ e ∧ e ≤ 9223372036854775807)) := by
  obtain ⟨cs, rfl, hsz⟩ := okWide_struct Tryz.underlying25 hval
  have hc : Tryz.prog.cellsOf 25 = 6 := by kernel_rfl
  rw [hc] at hsz
  obtain ⟨fuel, hf⟩ := h
  obtain ⟨y0, y1, y2, y3, y4, y5, n, hl, h0, h1, h2, h3, h4, h5⟩ := trod_struct6 Tryz.underlying25 hf
  match cs, hsz with
  | ⟨[c0, c1, c2, c3, c4, c5]⟩, _ =>
    have hcu : Tryz.prog.cellsOf 22 = 1 := by kernel_rfl
    have hci : Tryz.prog.cellsOf 3 = 1 := by kernel_rfl
    have hcb : Tryz.prog.cellsOf 4 = 1 := by kernel_rfl
    have hcs : Tryz.prog.cellsOf 23 = 1 := by kernel_rfl
    obtain ⟨q, rfl, hq⟩ := open_u64 (c := c0) (by simpa [hcu, Value.cells] using h0)
    obtain ⟨m, rfl, hm⟩ := open_i64 (c := c1) (by simpa [hci, Value.cells] using h1)
    obtain ⟨f, rfl, hf'⟩ := open_i64 (c := c2) (by simpa [hci, Value.cells] using h2)
    obtain ⟨b, hb, _⟩ := DataW.trod_bool Tryz.underlying4 h3
    have e3 : c3 = .bool b := by simpa [hcb, Value.cells] using hb
    subst e3
    obtain ⟨ws, hw⟩ := open_words (v := c4) (by simpa [hcs, Value.cells] using h4)
    obtain ⟨e, rfl, he⟩ := open_i64 (c := c5) (by simpa [hci, Value.cells] using h5)
    exact ⟨q, m, f, b, c4, e, ws, rfl, hw, hq, hm, hf', he⟩
end
end Go.Proofs.YtbghmceglemppaaGreatDoor
