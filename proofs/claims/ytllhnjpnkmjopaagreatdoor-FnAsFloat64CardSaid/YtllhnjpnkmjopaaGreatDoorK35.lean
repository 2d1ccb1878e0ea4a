/-
Texts of this proof, joined: QuE. No condition.
-/
import Derived.Test.YtllhnjpnkmjopaaGreatDoorK20
import Derived.Test.YtllhnjpnkmjopaaGreatDoorK34
namespace Go.Proofs.YtllhnjpnkmjopaaGreatDoor
open Go.RowKit

def quK (q M N : Nat) : Nat := q + 1 + 1 + bl N - bl M
def quN (q M N : Nat) : Nat := 2 * qN M N (quK q M N) + qS M N (quK q M N)
theorem quK_bl (q : Nat) {M N : Nat} (hM : 0 < M) (hN : 0 < N) : q < bl (qN M N (quK q M N)) := by
  unfold qN
  refine bl_quo (a := bl M - 1 + quK q M N) (b := bl N) hN ?_ (lt_bl N) ?_
  · rw [Nat.pow_add]
    exact Nat.mul_le_mul_right _ (bl_ge hM)
  · have := bl_pos hM
    unfold quK; omega
theorem quN_pos (q : Nat) {M N : Nat} (hM : 0 < M) (hN : 0 < N) : 0 < quN q M N := by
  have h1 := quK_bl q hM hN
  have : 0 < qN M N (quK q M N) := Nat.pos_of_ne_zero fun h0 => by rw [h0, bl_zero] at h1; omega
  unfold quN; omega
theorem quN_zero (q N : Nat) : quN q 0 N = 0 := by
  unfold quN qN qS
  rw [Nat.zero_mul, Nat.zero_div, Nat.zero_mod]; rfl
theorem quN_bl (q M N : Nat) : bl (quN q M N) ≤ bl M + quK q M N + 2 := by
  have h1 : qN M N (quK q M N) ≤ M * 2 ^ quK q M N := Nat.div_le_self _ _
  have h2 := bl_two M (quK q M N)
  have h3 := bl_mono h1
  have h4 := qS_le M N (quK q M N)
  have h5 := lt_bl (qN M N (quK q M N))
  refine Nat.le_trans (bl_le (k := bl (qN M N (quK q M N)) + 1) ?_) (by omega)
  unfold quN
  rw [Nat.pow_succ]; omega
theorem FltR.neDiv {w : World} {b p m f : Nat} {a : Int} {neg : Bool} {v : Value} {e : Int} (h : FltR w b p m a f neg v e) (hK : DivW w) : b ≠ 4 := by
  intro he
  subst he
  have h1 := h.cells.1
  unfold DivW at hK
  rw [hK] at h1
  cases h1
theorem DivW.away {w : World} {b i : Nat} {u : Value} (hK : DivW w) (hb : b ≠ 4) : DivW (w.setCell ⟨b, i, none⟩ u) := by
  unfold DivW
  rw [cell_other (by simpa using hb)]
  exact hK
set_option maxRecDepth 100000 in
set_option maxHeartbeats 6400000 in
theorem quoF_11 (b B B1 B2 g1 g2 p0 m p1 m1 p2 m2 f0 M N : Nat) (a0 e0 E F : Int) (nz n1 n2 : Bool) (w : World) (h : FltR w b p0 m a0 f0 nz (.slice none 0 0) e0) (hB : B ≤ b) (h1 : FloatAt w B1 g1 p1 m1 1 n1 M E) (h2 : FloatAt w B2 g2 p2 m2 1 n2 N F)
    (hM : 0 < M) (hN : 0 < N) (hp1 : bl M ≤ p1) (hp2 : bl N ≤ p2) (hbM : bl M ≤ 2400) (hbN : bl N ≤ 2400) (hE : -1050000000 ≤ E ∧ E ≤ 1050000000) (hF : -1050000000 ≤ F ∧ F ≤ 1050000000) (hEF : -1700000000 ≤ E - F ∧ E - F ≤ 1700000000) (hqm : pOf p0 (max p1 p2) ≤ 64000) (hm : m ≤ 5) (hK : DivW w) (dg : 4 < B) (hb1 : b ≠ g1) (hb2 : b ≠ g2) (hp0 : p0 ≤ 64000000) (hp11 : 0 < p1) (hp1' : p1 ≤ 64000000) (hp22 : 0 < p2) (hp2' : p2 ≤ 64000000) :
    Calls Tryz.prog 102 #[.pointer (some ⟨b, 0, none⟩), .pointer (some ⟨g1, 0, none⟩), .pointer (some ⟨g2, 0, none⟩)] w fun e' w' => e' = .returned (.pointer (some ⟨b, 0, none⟩)) ∧
      FVal w' B b (pOf p0 (max p1 p2)) m (rA (pOf p0 (max p1 p2)) m (n1 != n2) 0 (quN (pOf p0 (max p1 p2)) M N)) 1 (n1 != n2) (rQ (pOf p0 (max p1 p2)) m (n1 != n2) 0 (quN (pOf p0 (max p1 p2)) M N)) (E - F - (quK (pOf p0 (max p1 p2)) M N : Nat) - 1 + rk (pOf p0 (max p1 p2)) (quN (pOf p0 (max p1 p2)) M N)) ∧ Below B w w' := by
  obtain ⟨q, hq⟩ : ∃ q, q = pOf p0 (max p1 p2) := ⟨_, rfl⟩
  have hq0 : 0 < q := by rw [hq]; unfold pOf; split <;> omega
  have hqb : q ≤ 64000000 := by rw [hq]; unfold pOf; split <;> omega
  have hqb1 : q ≤ 64000 := by rw [hq]; exact hqm
  rw [← hq]
  have hbK := h.neDiv hK
  have HU := Lib.hid (fun (W : World) (nz : Bool) (k1 : FltR W b q m a0 f0 nz (.slice none 0 0) e0) (k2 : FloatAt W B1 g1 p1 m1 1 n1 M E) (k3 : FloatAt W B2 g2 p2 m2 1 n2 N F) (k4 : DivW W) => uquo_at b B B1 B2 g1 g2 q m p1 m1 p2 m2 f0 M N a0 e0 E F nz n1 n2 W k1 hB k2 k3 hM hN hp1 hp2 hbM hbN hE hF hEF hb1 hb2 hq0 hqb1 hm k4 dg (quK q M N) (quK_bl q hM hN))
  have hne1 : ¬ b = g1 := hb1
  have hne1' : ¬ g1 = b := fun h => hne1 h.symm
  have hne2 : ¬ b = g2 := hb2
  have hne2' : ¬ g2 = b := fun h => hne2 h.symm
  obtain ⟨r1, x1, hg1⟩ := h1.row
  obtain ⟨r2, x2, hg2⟩ := h2.row
  obtain ⟨c0, c1, c2, c3, c4, c5, c6⟩ := h.cells
  obtain ⟨f0', f1', f2', f3', f4', f5', f6'⟩ := h.free
  obtain ⟨y0, y1, y2, y3', y4, y5, y6⟩ := hg1.cells
  obtain ⟨z0, z1, z2, z3', z4, z5, z6⟩ := hg2.cells
  have y3 : w.cell? ⟨g1, 3, none⟩ = some (.int .u8 1) := y3'
  have z3 : w.cell? ⟨g2, 3, none⟩ = some (.int .u8 1) := z3'
  have HH := Lib.hid h
  have HX := Lib.hid h1
  have HY := Lib.hid h2
  have HG1 := Lib.hid hg1
  have HG2 := Lib.hid hg2
  obtain ⟨sg, hsg⟩ : ∃ sg, sg = (n1 != n2) := ⟨_, rfl⟩
  have Hsg := Lib.hid hsg
  rw [← hsg]
  have HK := Lib.hid hK
  clear h h1 h2 hg1 hg2 y3' z3' c1 c2 c5 c6 hsg hM hN hp1 hp2 hbM hbN hE hF hEF hm hK hq0 hqb hqb1 hqm dg
  by_cases hz : p0 = 0
  · have t0 : ((p0 : Int) == 0) = true := by rw [hz]; rfl
    have em : max (p1 : Int) (p2 : Int) = (q : Int) := by rw [hq]; unfold pOf; rw [if_pos hz]; omega
    clear hq hz
    obtain rfl : sg = (!(n1 == n2)) := Hsg.out
    go_enter Tryz.func102, Tryz.ntmps102
    go_wp2_with fail
    (refine wp_region_hoist 12 (by kernel_rfl) (by kernel_rfl) ⟨fun _ _ _ h => (by first | exact (hQp _ _ _ h).elim | cases h.2.1 | (obtain ⟨_, h3, _⟩ := h.2; cases h3)), fun _ _ h => (by first | exact (hQo _ _ h).elim | cases h.1 | (obtain ⟨_, h3, _⟩ := h; cases h3))⟩ ?_; simp only [List.take_succ_cons, List.take_zero, List.drop_succ_cons, List.drop_zero]; (repeat (go_big_quiet_step (fail))); refine wpQuiet_nil ?_; rintro _ ⟨nq, rfl⟩)
    generalize nq = na
    go_wp2_with fail
    (refine wp_region_hoist 12 (by kernel_rfl) (by kernel_rfl) ⟨fun _ _ _ h => (by first | exact (hQp _ _ _ h).elim | cases h.2.1 | (obtain ⟨_, h3, _⟩ := h.2; cases h3)), fun _ _ h => (by first | exact (hQo _ _ h).elim | cases h.1 | (obtain ⟨_, h3, _⟩ := h; cases h3))⟩ ?_; simp only [List.take_succ_cons, List.take_zero, List.drop_succ_cons, List.drop_zero]; (repeat (go_big_quiet_step (fail))); refine wpQuiet_nil ?_; rintro _ ⟨nq, rfl⟩)
    generalize nq = nb
    go_wp2_with fail
    obtain ⟨W, hW⟩ : ∃ W, W = (((w.drewN na).setCell ⟨b, 0, none⟩ (.int .u32 (q : Int))).drewN nb).setCell ⟨b, 4, none⟩ (.bool (!(n1 == n2))) := ⟨_, rfl⟩
    rw [← hW]
    have hWh : FltR W b q m a0 f0 (!(n1 == n2)) (.slice none 0 0) e0 := by rw [hW]; exact (((HH.out.drewN na).s0 q).drewN nb).s4 (!(n1 == n2))
    have hW1 : FloatAt W B1 g1 p1 m1 1 n1 M E := by rw [hW]; exact (((HH.out.drewN na).s0 q).drewN nb).at 4 (.bool (!(n1 == n2))) hb1 (((HH.out.drewN na).at 0 (.int .u32 (q : Int)) hb1 (HX.out.drewN na)).drewN nb)
    have hW2 : FloatAt W B2 g2 p2 m2 1 n2 N F := by rw [hW]; exact (((HH.out.drewN na).s0 q).drewN nb).at 4 (.bool (!(n1 == n2))) hb2 (((HH.out.drewN na).at 0 (.int .u32 (q : Int)) hb2 (HY.out.drewN na)).drewN nb)
    have hWK : DivW W := by rw [hW]; exact (((HK.out.drewN na).away (i := 0) (u := .int .u32 (q : Int)) hbK).drewN nb).away (i := 4) (u := .bool (!(n1 == n2))) hbK
    have hWB : Hid (Below B w W) := Lib.hid (by rw [hW]; exact bset (i := 4) (u := .bool (!(n1 == n2))) (undrewN' (n := nb) (bset (i := 0) (u := .int .u32 (q : Int)) (undrewN' (n := na) (Below.refl B w)) hB)) hB)
    clear hW
    refine (HU.out W _ hWh hW1 hW2 hWK).mono ?_
    rintro _ w5 ⟨rfl, hv, hb5⟩
    have HV := Lib.hid hv
    have HB5 := Lib.hid (hWB.out.trans hb5)
    clear hv hb5 hWh hW1 hW2 hWK
    go_wp2
    go_ret
    exact ⟨rfl, HV.out, HB5.out⟩
  · have t0 : ((p0 : Int) == 0) = false := by rw [beq_eq_false_iff_ne]; omega
    have hqq : q = p0 := by rw [hq]; unfold pOf; rw [if_neg hz]
    have hz' : ¬ q = 0 := by omega
    clear hq hz
    subst hqq
    obtain rfl : sg = (!(n1 == n2)) := Hsg.out
    go_enter Tryz.func102, Tryz.ntmps102
    go_wp2_with fail
    (refine wp_region_hoist 12 (by kernel_rfl) (by kernel_rfl) ⟨fun _ _ _ h => (by first | exact (hQp _ _ _ h).elim | cases h.2.1 | (obtain ⟨_, h3, _⟩ := h.2; cases h3)), fun _ _ h => (by first | exact (hQo _ _ h).elim | cases h.1 | (obtain ⟨_, h3, _⟩ := h; cases h3))⟩ ?_; simp only [List.take_succ_cons, List.take_zero, List.drop_succ_cons, List.drop_zero]; (repeat (go_big_quiet_step (fail))); refine wpQuiet_nil ?_; rintro _ ⟨nq, rfl⟩)
    generalize nq = nb
    go_wp2_with fail
    obtain ⟨W, hW⟩ : ∃ W, W = (w.drewN nb).setCell ⟨b, 4, none⟩ (.bool (!(n1 == n2))) := ⟨_, rfl⟩
    rw [← hW]
    have hWh : FltR W b q m a0 f0 (!(n1 == n2)) (.slice none 0 0) e0 := by rw [hW]; exact (HH.out.drewN nb).s4 (!(n1 == n2))
    have hW1 : FloatAt W B1 g1 p1 m1 1 n1 M E := by rw [hW]; exact (HH.out.drewN nb).at 4 (.bool (!(n1 == n2))) hb1 (HX.out.drewN nb)
    have hW2 : FloatAt W B2 g2 p2 m2 1 n2 N F := by rw [hW]; exact (HH.out.drewN nb).at 4 (.bool (!(n1 == n2))) hb2 (HY.out.drewN nb)
    have hWK : DivW W := by rw [hW]; exact (HK.out.drewN nb).away (i := 4) (u := .bool (!(n1 == n2))) hbK
    have hWB : Hid (Below B w W) := Lib.hid (by rw [hW]; exact bset (i := 4) (u := .bool (!(n1 == n2))) (undrewN' (n := nb) (Below.refl B w)) hB)
    clear hW
    refine (HU.out W _ hWh hW1 hW2 hWK).mono ?_
    rintro _ w5 ⟨rfl, hv, hb5⟩
    have HV := Lib.hid hv
    have HB5 := Lib.hid (hWB.out.trans hb5)
    clear hv hb5 hWh hW1 hW2 hWK
    go_wp2
    go_ret
    exact ⟨rfl, HV.out, HB5.out⟩
set_option maxRecDepth 100000 in
set_option maxHeartbeats 6400000 in
theorem quoF_01 (b B B1 B2 g1 g2 p0 m p1 m1 p2 m2 f0 M N : Nat) (a0 e0 E F : Int) (nz n1 n2 : Bool) (w : World) (h : FltR w b p0 m a0 f0 nz (.slice none 0 0) e0) (hB : B ≤ b) (h1 : FloatAt w B1 g1 p1 m1 0 n1 M E) (h2 : FloatAt w B2 g2 p2 m2 1 n2 N F)
    (hb1 : b ≠ g1) (hb2 : b ≠ g2) (hp0 : p0 ≤ 64000000) (hp11 : 0 < p1) (hp1' : p1 ≤ 64000000) (hp22 : 0 < p2) (hp2' : p2 ≤ 64000000) :
    Calls Tryz.prog 102 #[.pointer (some ⟨b, 0, none⟩), .pointer (some ⟨g1, 0, none⟩), .pointer (some ⟨g2, 0, none⟩)] w fun e' w' => e' = .returned (.pointer (some ⟨b, 0, none⟩)) ∧
      FltR w' b (pOf p0 (max p1 p2)) m 0 0 (n1 != n2) (.slice none 0 0) e0 ∧ Below B w w' := by
  obtain ⟨q, hq⟩ : ∃ q, q = pOf p0 (max p1 p2) := ⟨_, rfl⟩
  have hq0 : 0 < q := by rw [hq]; unfold pOf; split <;> omega
  have hqb : q ≤ 64000000 := by rw [hq]; unfold pOf; split <;> omega
  rw [← hq]
  have hne1 : ¬ b = g1 := hb1
  have hne1' : ¬ g1 = b := fun h => hne1 h.symm
  have hne2 : ¬ b = g2 := hb2
  have hne2' : ¬ g2 = b := fun h => hne2 h.symm
  obtain ⟨r1, x1, hg1⟩ := h1.row
  obtain ⟨r2, x2, hg2⟩ := h2.row
  obtain ⟨c0, c1, c2, c3, c4, c5, c6⟩ := h.cells
  obtain ⟨f0', f1', f2', f3', f4', f5', f6'⟩ := h.free
  obtain ⟨y0, y1, y2, y3', y4, y5, y6⟩ := hg1.cells
  obtain ⟨z0, z1, z2, z3', z4, z5, z6⟩ := hg2.cells
  have y3 : w.cell? ⟨g1, 3, none⟩ = some (.int .u8 0) := y3'
  have z3 : w.cell? ⟨g2, 3, none⟩ = some (.int .u8 1) := z3'
  have HH := Lib.hid h
  have HX := Lib.hid h1
  have HY := Lib.hid h2
  have HG1 := Lib.hid hg1
  have HG2 := Lib.hid hg2
  obtain ⟨sg, hsg⟩ : ∃ sg, sg = (n1 != n2) := ⟨_, rfl⟩
  have Hsg := Lib.hid hsg
  rw [← hsg]
  clear h h1 h2 hg1 hg2 y3' z3' c1 c2 c5 c6 hsg
  by_cases hz : p0 = 0
  · have t0 : ((p0 : Int) == 0) = true := by rw [hz]; rfl
    have em : max (p1 : Int) (p2 : Int) = (q : Int) := by rw [hq]; unfold pOf; rw [if_pos hz]; omega
    clear hq hz
    obtain rfl : sg = (!(n1 == n2)) := Hsg.out
    go_enter Tryz.func102, Tryz.ntmps102
    go_wp2_with fail
    (refine wp_region_hoist 12 (by kernel_rfl) (by kernel_rfl) ⟨fun _ _ _ h => (by first | exact (hQp _ _ _ h).elim | cases h.2.1 | (obtain ⟨_, h3, _⟩ := h.2; cases h3)), fun _ _ h => (by first | exact (hQo _ _ h).elim | cases h.1 | (obtain ⟨_, h3, _⟩ := h; cases h3))⟩ ?_; simp only [List.take_succ_cons, List.take_zero, List.drop_succ_cons, List.drop_zero]; (repeat (go_big_quiet_step (fail))); refine wpQuiet_nil ?_; rintro _ ⟨nq, rfl⟩)
    generalize nq = na
    go_wp2_with fail
    (refine wp_region_hoist 12 (by kernel_rfl) (by kernel_rfl) ⟨fun _ _ _ h => (by first | exact (hQp _ _ _ h).elim | cases h.2.1 | (obtain ⟨_, h3, _⟩ := h.2; cases h3)), fun _ _ h => (by first | exact (hQo _ _ h).elim | cases h.1 | (obtain ⟨_, h3, _⟩ := h; cases h3))⟩ ?_; simp only [List.take_succ_cons, List.take_zero, List.drop_succ_cons, List.drop_zero]; (repeat (go_big_quiet_step (fail))); refine wpQuiet_nil ?_; rintro _ ⟨nq, rfl⟩)
    generalize nq = nb
    go_upto_region 4 with fail
    obtain ⟨W, hW⟩ : ∃ W, W = (((w.drewN na).setCell ⟨b, 0, none⟩ (.int .u32 (q : Int))).drewN nb).setCell ⟨b, 4, none⟩ (.bool (!(n1 == n2))) := ⟨_, rfl⟩
    rw [← hW]
    have hWh : FltR W b q m a0 f0 (!(n1 == n2)) (.slice none 0 0) e0 := by rw [hW]; exact (((HH.out.drewN na).s0 q).drewN nb).s4 (!(n1 == n2))
    have hW1 : FltR W g1 p1 m1 0 0 n1 r1 x1 := by rw [hW]; exact ((heap_setCell_other _ _ _ _ (by simpa using hb1.symm)).trans ((heap_setCell_other _ _ _ _ (by simpa using hb1.symm)).trans HG1.out))
    have hW2 : FltR W g2 p2 m2 0 1 n2 r2 x2 := by rw [hW]; exact ((heap_setCell_other _ _ _ _ (by simpa using hb2.symm)).trans ((heap_setCell_other _ _ _ _ (by simpa using hb2.symm)).trans HG2.out))
    have hWB : Hid (Below B w W) := Lib.hid (by rw [hW]; exact bset (i := 4) (u := .bool (!(n1 == n2))) (undrewN' (n := nb) (bset (i := 0) (u := .int .u32 (q : Int)) (undrewN' (n := na) (Below.refl B w)) hB)) hB)
    clear hW c0 c3 c4 f0' f1' f2' f3' f4' f5' f6' y0 y1 y2 y3 y4 y5 y6 z0 z1 z2 z3 z4 z5 z6
    obtain ⟨c0, c1, c2, c3, c4, c5, c6⟩ := hWh.cells
    obtain ⟨f0', f1', f2', f3', f4', f5', f6'⟩ := hWh.free
    obtain ⟨y0, y1, y2, y3', y4, y5, y6⟩ := hW1.cells
    obtain ⟨z0, z1, z2, z3', z4, z5, z6⟩ := hW2.cells
    have y3 : W.cell? ⟨g1, 3, none⟩ = some (.int .u8 0) := y3'
    have z3 : W.cell? ⟨g2, 3, none⟩ = some (.int .u8 1) := z3'
    have HR := Lib.hid ((hWh.s2 0).s3 0)
    have HB5 := Lib.hid (bset (i := 3) (u := .int .u8 (0 : Int)) (bset (i := 2) (u := .int .i8 0) hWB.out hB) hB)
    clear y3' z3' hWh hW1 hW2
    go_wp2
    go_ret
    exact ⟨rfl, HR.out, HB5.out⟩
  · have t0 : ((p0 : Int) == 0) = false := by rw [beq_eq_false_iff_ne]; omega
    have hqq : q = p0 := by rw [hq]; unfold pOf; rw [if_neg hz]
    have hz' : ¬ q = 0 := by omega
    clear hq hz
    subst hqq
    obtain rfl : sg = (!(n1 == n2)) := Hsg.out
    go_enter Tryz.func102, Tryz.ntmps102
    go_wp2_with fail
    (refine wp_region_hoist 12 (by kernel_rfl) (by kernel_rfl) ⟨fun _ _ _ h => (by first | exact (hQp _ _ _ h).elim | cases h.2.1 | (obtain ⟨_, h3, _⟩ := h.2; cases h3)), fun _ _ h => (by first | exact (hQo _ _ h).elim | cases h.1 | (obtain ⟨_, h3, _⟩ := h; cases h3))⟩ ?_; simp only [List.take_succ_cons, List.take_zero, List.drop_succ_cons, List.drop_zero]; (repeat (go_big_quiet_step (fail))); refine wpQuiet_nil ?_; rintro _ ⟨nq, rfl⟩)
    generalize nq = nb
    go_upto_region 4 with fail
    obtain ⟨W, hW⟩ : ∃ W, W = (w.drewN nb).setCell ⟨b, 4, none⟩ (.bool (!(n1 == n2))) := ⟨_, rfl⟩
    rw [← hW]
    have hWh : FltR W b q m a0 f0 (!(n1 == n2)) (.slice none 0 0) e0 := by rw [hW]; exact (HH.out.drewN nb).s4 (!(n1 == n2))
    have hW1 : FltR W g1 p1 m1 0 0 n1 r1 x1 := by rw [hW]; exact ((heap_setCell_other _ _ _ _ (by simpa using hb1.symm)).trans HG1.out)
    have hW2 : FltR W g2 p2 m2 0 1 n2 r2 x2 := by rw [hW]; exact ((heap_setCell_other _ _ _ _ (by simpa using hb2.symm)).trans HG2.out)
    have hWB : Hid (Below B w W) := Lib.hid (by rw [hW]; exact bset (i := 4) (u := .bool (!(n1 == n2))) (undrewN' (n := nb) (Below.refl B w)) hB)
    clear hW c0 c3 c4 f0' f1' f2' f3' f4' f5' f6' y0 y1 y2 y3 y4 y5 y6 z0 z1 z2 z3 z4 z5 z6
    obtain ⟨c0, c1, c2, c3, c4, c5, c6⟩ := hWh.cells
    obtain ⟨f0', f1', f2', f3', f4', f5', f6'⟩ := hWh.free
    obtain ⟨y0, y1, y2, y3', y4, y5, y6⟩ := hW1.cells
    obtain ⟨z0, z1, z2, z3', z4, z5, z6⟩ := hW2.cells
    have y3 : W.cell? ⟨g1, 3, none⟩ = some (.int .u8 0) := y3'
    have z3 : W.cell? ⟨g2, 3, none⟩ = some (.int .u8 1) := z3'
    have HR := Lib.hid ((hWh.s2 0).s3 0)
    have HB5 := Lib.hid (bset (i := 3) (u := .int .u8 (0 : Int)) (bset (i := 2) (u := .int .i8 0) hWB.out hB) hB)
    clear y3' z3' hWh hW1 hW2
    go_wp2
    go_ret
    exact ⟨rfl, HR.out, HB5.out⟩
theorem quoF_any (b B B1 B2 g1 g2 p0 m p1 m1 p2 m2 f0 f1 f2 M N : Nat) (a0 e0 E F : Int) (nz n1 n2 : Bool) (w : World) (h : FltR w b p0 m a0 f0 nz (.slice none 0 0) e0) (hB : B ≤ b) (hf1 : f1 ≤ 1) (hf2 : f2 = 1) (h1 : FloatAt w B1 g1 p1 m1 f1 n1 M E) (h2 : FloatAt w B2 g2 p2 m2 f2 n2 N F)
    (k1 : f1 = 1 → 0 < M ∧ bl M ≤ p1 ∧ bl M ≤ 2400 ∧ -1050000000 ≤ E ∧ E ≤ 1050000000) (k2 : f2 = 1 → 0 < N ∧ bl N ≤ p2 ∧ bl N ≤ 2400 ∧ -600000000 ≤ F ∧ F ≤ 600000000) (hb1 : b ≠ g1) (hb2 : b ≠ g2) (hp0 : p0 ≤ 64000) (hp11 : 0 < p1) (hp1' : p1 ≤ 64000) (hp22 : 0 < p2) (hp2' : p2 ≤ 64000) (hm : m ≤ 5) (hK : DivW w) (dg : 4 < B) :
    Calls Tryz.prog 102 #[.pointer (some ⟨b, 0, none⟩), .pointer (some ⟨g1, 0, none⟩), .pointer (some ⟨g2, 0, none⟩)] w fun e' w' => e' = .returned (.pointer (some ⟨b, 0, none⟩)) ∧
      AddR w' B b (pOf p0 (max p1 p2)) m (n1 != n2) (sI (n1 != n2) (quN (pOf p0 (max p1 p2)) (dyM f1 M) N)) (dyE f1 E - F - (quK (pOf p0 (max p1 p2)) (dyM f1 M) N : Nat) - 1) ∧ Below B w w' := by
  subst hf2
  obtain ⟨y1, y2, y3, y4, y5⟩ := k2 rfl
  rcases (by omega : f1 = 0 ∨ f1 = 1) with rfl | rfl
  · refine (quoF_01 b B B1 B2 g1 g2 p0 m p1 m1 p2 m2 f0 M N a0 e0 E F nz n1 n2 w h hB h1 h2 hb1 hb2 (by omega) hp11 (by omega) hp22 (by omega)).mono ?_
    rintro _ w' ⟨rfl, k, hb⟩
    exact ⟨rfl, (AddR.zero (B := B) k).cast (by rw [show dyM 0 M = 0 from rfl, quN_zero, sI_zero]) rfl, hb⟩
  · obtain ⟨x1, x2, x3, x4, x5⟩ := k1 rfl
    refine (quoF_11 b B B1 B2 g1 g2 p0 m p1 m1 p2 m2 f0 M N a0 e0 E F nz n1 n2 w h hB h1 h2 x1 y1 x2 y2 x3 y3 (by omega) (by omega) (by omega) (by unfold pOf; split <;> omega) hm hK dg hb1 hb2 (by omega) hp11 (by omega) hp22 (by omega)).mono ?_
    rintro _ w' ⟨rfl, k, hb⟩
    exact ⟨rfl, AddR.pos (quN_pos _ x1 y1) k, hb⟩
end Go.Proofs.YtllhnjpnkmjopaaGreatDoor
