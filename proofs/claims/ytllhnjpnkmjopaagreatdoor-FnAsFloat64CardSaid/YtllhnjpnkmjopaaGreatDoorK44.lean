/-
Texts of this proof, joined: AdC. No condition.
-/
import Derived.Test.YtllhnjpnkmjopaaGreatDoorK42
namespace Go.Proofs.YtllhnjpnkmjopaaGreatDoor
open Go.RowKit

set_option maxRecDepth 100000 in
set_option maxHeartbeats 6400000 in
theorem subF_ff (b B B1 B2 g1 g2 p0 m p1 m1 p2 m2 f0 M N : Nat) (a0 e0 E F : Int) (nz n1 n2 : Bool) (w : World) (h : FltR w b p0 m a0 f0 nz (.slice none 0 0) e0) (hB : B ≤ b) (h1 : FloatAt w B1 g1 p1 m1 1 n1 M E) (h2 : FloatAt w B2 g2 p2 m2 1 n2 N F)
    (hM : 0 < M) (hN : 0 < N) (hp1 : bl M ≤ p1) (hp2 : bl N ≤ p2) (hbM : bl M ≤ 10000) (hbN : bl N ≤ 10000) (hE : -1050000000 ≤ E ∧ E ≤ 1050000000) (hF : (-1050000000 ≤ F ∧ F ≤ 1050000000) ∧ -10000000 ≤ E - F ∧ E - F ≤ 10000000) (hb1 : b ≠ g1) (hb2 : b ≠ g2) (hp0 : p0 ≤ 64000000) (hp1' : p1 ≤ 64000000) (hp2' : p2 ≤ 64000000) (hm : m ≤ 5) :
    Calls Tryz.prog 101 #[.pointer (some ⟨b, 0, none⟩), .pointer (some ⟨g1, 0, none⟩), .pointer (some ⟨g2, 0, none⟩)] w fun e' w' => e' = .returned (.pointer (some ⟨b, 0, none⟩)) ∧
      AddR w' B b (pOf p0 (max p1 p2)) m (decide (m = 4)) (smV n1 M E (!n2) N F) (min E F) ∧ Below B w w' := by
  have hbp := bl_pos hM
  obtain ⟨q, hq⟩ : ∃ q, q = pOf p0 (max p1 p2) := ⟨_, rfl⟩
  have hq0 : 0 < q := by rw [hq]; unfold pOf; split <;> omega
  have hqb : q ≤ 64000000 := by rw [hq]; unfold pOf; split <;> omega
  rw [← hq]
  have HUA := Lib.hid (fun (W : World) (nz : Bool) (k1 : FltR W b q m a0 f0 nz (.slice none 0 0) e0) (k2 : FloatAt W B1 g1 p1 m1 1 n1 M E) (k3 : FloatAt W B2 g2 p2 m2 1 n2 N F) => uadd_at b B B1 B2 g1 g2 q m p1 m1 p2 m2 f0 M N a0 e0 E F nz n1 n2 W k1 hB k2 k3 hM hN hp1 hp2 hbM hbN hE hF hb1 hb2 hq0 hqb hm)
  have HU1 := Lib.hid (fun (W : World) (nz : Bool) (k1 : FltR W b q m a0 f0 nz (.slice none 0 0) e0) (k2 : FloatAt W B1 g1 p1 m1 1 n1 M E) (k3 : FloatAt W B2 g2 p2 m2 1 n2 N F) (k4 : lo N F (min E F) ≤ lo M E (min E F)) => usub_at b B B1 B2 g1 g2 q m p1 m1 p2 m2 f0 M N a0 e0 E F nz n1 n2 W k1 hB k2 k3 hM hN hp1 hp2 hbM hbN hE hF hb1 hb2 hq0 hqb hm k4)
  have HU2 := Lib.hid (fun (W : World) (nz : Bool) (k1 : FltR W b q m a0 f0 nz (.slice none 0 0) e0) (k2 : FloatAt W B1 g1 p1 m1 1 n1 M E) (k3 : FloatAt W B2 g2 p2 m2 1 n2 N F) (k4 : lo M E (min F E) ≤ lo N F (min F E)) => usub_at b B B2 B1 g2 g1 q m p2 m2 p1 m1 f0 N M a0 e0 F E nz n2 n1 W k1 hB k3 k2 hN hM hp2 hp1 hbN hbM hF.1 ⟨hE, by omega, by omega⟩ hb2 hb1 hq0 hqb hm k4)
  have HUC := Lib.hid (fun (W : World) (k2 : FloatAt W B1 g1 p1 m1 1 n1 M E) (k3 : FloatAt W B2 g2 p2 m2 1 n2 N F) => ucmp_at W k2 k3 hM hN hbM hbN)
  have hS0 : 0 < suM M E N F := Nat.lt_of_lt_of_le (lo_pos hM) (Nat.le_add_right _ _)
  have HSP := Lib.hid hS0
  have hne1 : ¬ b = g1 := hb1
  have hne1' : ¬ g1 = b := fun h => hne1 h.symm
  have hne2 : ¬ b = g2 := hb2
  have hne2' : ¬ g2 = b := fun h => hne2 h.symm
  obtain ⟨C, hC⟩ : ∃ C : Int, C = cmpN (lo M E (min E F)) (lo N F (min E F)) := ⟨_, rfl⟩
  rw [← hC] at HUC
  have hCb : -1 ≤ C ∧ C ≤ 1 := by rw [hC]; exact cmpN_bd _ _
  have HGT : Hid (0 < C → lo N F (min E F) ≤ lo M E (min E F)) := Lib.hid (fun h => Nat.le_of_lt (cmpN_pos.1 (hC ▸ h)))
  have HLE : Hid (¬ 0 < C → lo M E (min E F) ≤ lo N F (min E F)) := Lib.hid (fun h => Nat.le_of_not_lt (fun h' => h (hC ▸ cmpN_pos.2 h')))
  clear hC hS0
  obtain ⟨d1, d2⟩ : (∃ r x, FltR w g1 p1 m1 0 1 n1 r x) ∧ ∃ r x, FltR w g2 p2 m2 0 1 n2 r x := ⟨h1.row, h2.row⟩
  obtain ⟨r1, x1, hg1⟩ := d1
  obtain ⟨r2, x2, hg2⟩ := d2
  obtain ⟨c0, c1, c2, c3, c4, c5, c6⟩ := h.cells
  obtain ⟨f0', f1', f2', f3', f4', f5', f6'⟩ := h.free
  obtain ⟨y0, y1, y2, y3, y4, y5, y6⟩ := hg1.cells
  obtain ⟨z0, z1, z2, z3, z4, z5, z6⟩ := hg2.cells
  have HH := Lib.hid h
  have HX := Lib.hid h1
  have HY := Lib.hid h2
  clear h h1 h2 hg1 hg2 hM hN hp1 hp2 hbM hbN hE hF hbp c1 c2 c5 c6
  by_cases hz : p0 = 0
  · have t0 : ((p0 : Int) == 0) = true := by rw [hz]; rfl
    have em : max (p1 : Int) (p2 : Int) = (q : Int) := by rw [hq]; unfold pOf; rw [if_pos hz]; omega
    have H1 := Lib.hid (HH.out.s0 q)
    have X1 := Lib.hid (HH.out.at 0 (.int .u32 (q : Int)) hb1 HX.out)
    have Y1 := Lib.hid (HH.out.at 0 (.int .u32 (q : Int)) hb2 HY.out)
    have B1' := Lib.hid (bset (i := 0) (u := .int .u32 (q : Int)) (Below.refl B w) hB)
    clear hq hz
    have H2 := Lib.hid (H1.out.s4 n1)
    have X2 := Lib.hid (H1.out.at 4 (.bool n1) hb1 X1.out)
    have Y2 := Lib.hid (H1.out.at 4 (.bool n1) hb2 Y1.out)
    have B2' := Lib.hid (bset (i := 4) (u := .bool n1) B1'.out hB)
    have H3 := Lib.hid (H2.out.s4 (!n1))
    have X3 := Lib.hid (H2.out.at 4 (.bool (!n1)) hb1 X2.out)
    have Y3 := Lib.hid (H2.out.at 4 (.bool (!n1)) hb2 Y2.out)
    have B3' := Lib.hid (bset (i := 4) (u := .bool (!n1)) B2'.out hB)
    cases n1 <;> cases n2
    · by_cases hc : 0 < C
      · have t5 : decide (0 < C) = true := decide_eq_true hc
        have hcc := Lib.hid (HGT.out hc)
        clear hc
        go_enter Tryz.func101, Tryz.ntmps101
        go_wp2_with fail
        (refine wp_region_hoist 12 (by kernel_rfl) (by kernel_rfl) ⟨fun _ _ _ h => (by first | exact (hQp _ _ _ h).elim | cases h.2.1 | (obtain ⟨_, h3, _⟩ := h.2; cases h3)), fun _ _ h => (by first | exact (hQo _ _ h).elim | cases h.1 | (obtain ⟨_, h3, _⟩ := h; cases h3))⟩ ?_; simp only [List.take_succ_cons, List.take_zero, List.drop_succ_cons, List.drop_zero]; (repeat (go_big_quiet_step (fail))); refine wpQuiet_nil ?_; rintro _ ⟨nq, rfl⟩)
        go_wp2_with fail
        refine (HUC.out _ (X2.out.drewN _) (Y2.out.drewN _)).mono ?_
        rintro _ _ ⟨rfl, n5, rfl⟩
        go_wp2_with fail
        refine (HU1.out _ _ (H2.out.drewN _) (X2.out.drewN _) (Y2.out.drewN _) hcc.out).mono ?_
        rintro _ w5 ⟨rfl, hv, hb5⟩
        have HB5 := Lib.hid (B2'.out.trans (undrewN hb5))
        clear hb5
        rcases hv with ⟨hd0, v5, e5, hr5⟩ | ⟨hd0, hv⟩
        · obtain ⟨k0, k1, k2, k3, k4, k5, k6⟩ := hr5.cells
          obtain ⟨l0, l1, l2, l3, l4, l5, l6⟩ := hr5.free
          have HZ := Lib.hid (((smV_ge (n := false) hcc.out)).trans (by rw [hd0]; rfl) : smV false M E (!false) N F = 0)
          clear hd0
          have HR5 := Lib.hid hr5
          clear hr5
          by_cases hm4 : m = 4
          · have t6 : ((m : Int) == 4) = true := by rw [hm4]; rfl
            have HV := Lib.hid ((AddR.zero (B := B) (X := min E F) (HR5.out.s4 true)).cast HZ.out.symm rfl)
            have HB6 := Lib.hid (bset (i := 4) (u := .bool true) HB5.out hB)
            have HD : Hid (decide (m = 4) = true) := Lib.hid (decide_eq_true hm4)
            clear hm4
            go_wp2
            go_ret
            rw [HD.out]
            exact ⟨rfl, HV.out, HB6.out⟩
          · have t6 : ((m : Int) == 4) = false := by rw [beq_eq_false_iff_ne]; omega
            have HV := Lib.hid ((AddR.zero (B := B) (X := min E F) HR5.out).cast HZ.out.symm rfl)
            have HD : Hid (decide (m = 4) = false) := Lib.hid (decide_eq_false hm4)
            clear hm4
            go_wp2
            go_ret
            rw [HD.out]
            exact ⟨rfl, HV.out, HB5.out⟩
        · obtain ⟨v5, e5, hr5⟩ := hv.form
          obtain ⟨k0, k1, k2, k3, k4, k5, k6⟩ := hr5.cells
          have HV := Lib.hid ((AddR.pos (zn := decide (m = 4)) hd0 hv).cast ((smV_ge (n := false) hcc.out)).symm rfl)
          clear hv hr5 hd0
          go_wp2
          go_ret
          exact ⟨rfl, HV.out, HB5.out⟩
      · have t5 : decide (0 < C) = false := decide_eq_false hc
        have hcc := Lib.hid (HLE.out hc)
        have hcc2 : Hid (lo M E (min F E) ≤ lo N F (min F E)) := Lib.hid (by rw [Int.min_comm]; exact hcc.out)
        clear hc
        go_enter Tryz.func101, Tryz.ntmps101
        go_wp2_with fail
        (refine wp_region_hoist 12 (by kernel_rfl) (by kernel_rfl) ⟨fun _ _ _ h => (by first | exact (hQp _ _ _ h).elim | cases h.2.1 | (obtain ⟨_, h3, _⟩ := h.2; cases h3)), fun _ _ h => (by first | exact (hQo _ _ h).elim | cases h.1 | (obtain ⟨_, h3, _⟩ := h; cases h3))⟩ ?_; simp only [List.take_succ_cons, List.take_zero, List.drop_succ_cons, List.drop_zero]; (repeat (go_big_quiet_step (fail))); refine wpQuiet_nil ?_; rintro _ ⟨nq, rfl⟩)
        go_wp2_with fail
        refine (HUC.out _ (X2.out.drewN _) (Y2.out.drewN _)).mono ?_
        rintro _ _ ⟨rfl, n5, rfl⟩
        go_wp2_with fail
        refine (HU2.out _ _ (H3.out.drewN _) (X3.out.drewN _) (Y3.out.drewN _) hcc2.out).mono ?_
        rintro _ w5 ⟨rfl, hv, hb5⟩
        have HB5 := Lib.hid (B3'.out.trans (undrewN hb5))
        clear hb5
        rcases hv with ⟨hd0, v5, e5, hr5⟩ | ⟨hd0, hv⟩
        · obtain ⟨k0, k1, k2, k3, k4, k5, k6⟩ := hr5.cells
          obtain ⟨l0, l1, l2, l3, l4, l5, l6⟩ := hr5.free
          have HZ := Lib.hid (((smV_le (n := false) hcc.out)).trans (by rw [hd0]; rfl) : smV false M E (!false) N F = 0)
          clear hd0
          have HR5 := Lib.hid hr5
          clear hr5
          by_cases hm4 : m = 4
          · have t6 : ((m : Int) == 4) = true := by rw [hm4]; rfl
            have HV := Lib.hid ((AddR.zero (B := B) (X := min E F) (HR5.out.s4 true)).cast HZ.out.symm rfl)
            have HB6 := Lib.hid (bset (i := 4) (u := .bool true) HB5.out hB)
            have HD : Hid (decide (m = 4) = true) := Lib.hid (decide_eq_true hm4)
            clear hm4
            go_wp2
            go_ret
            rw [HD.out]
            exact ⟨rfl, HV.out, HB6.out⟩
          · have t6 : ((m : Int) == 4) = false := by rw [beq_eq_false_iff_ne]; omega
            have HV := Lib.hid ((AddR.zero (B := B) (X := min E F) HR5.out).cast HZ.out.symm rfl)
            have HD : Hid (decide (m = 4) = false) := Lib.hid (decide_eq_false hm4)
            clear hm4
            go_wp2
            go_ret
            rw [HD.out]
            exact ⟨rfl, HV.out, HB5.out⟩
        · obtain ⟨v5, e5, hr5⟩ := hv.form
          obtain ⟨k0, k1, k2, k3, k4, k5, k6⟩ := hr5.cells
          have HV := Lib.hid ((AddR.pos (zn := decide (m = 4)) hd0 hv).cast ((smV_le (n := false) hcc.out)).symm (Int.min_comm F E))
          clear hv hr5 hd0
          go_wp2
          go_ret
          exact ⟨rfl, HV.out, HB5.out⟩
    · go_enter Tryz.func101, Tryz.ntmps101
      go_wp2_with fail
      (refine wp_region_hoist 12 (by kernel_rfl) (by kernel_rfl) ⟨fun _ _ _ h => (by first | exact (hQp _ _ _ h).elim | cases h.2.1 | (obtain ⟨_, h3, _⟩ := h.2; cases h3)), fun _ _ h => (by first | exact (hQo _ _ h).elim | cases h.1 | (obtain ⟨_, h3, _⟩ := h; cases h3))⟩ ?_; simp only [List.take_succ_cons, List.take_zero, List.drop_succ_cons, List.drop_zero]; (repeat (go_big_quiet_step (fail))); refine wpQuiet_nil ?_; rintro _ ⟨nq, rfl⟩)
      go_wp2_with fail
      refine (HUA.out _ _ (H2.out.drewN _) (X2.out.drewN _) (Y2.out.drewN _)).mono ?_
      rintro _ w5 ⟨rfl, hv, hb5⟩
      obtain ⟨v5, e5, hr5⟩ := hv.form
      obtain ⟨k0, k1, k2, k3, k4, k5, k6⟩ := hr5.cells
      have HV := Lib.hid ((AddR.pos (zn := decide (m = 4)) HSP.out hv).cast (smV_same false M E N F).symm rfl)
      have HB5 := Lib.hid (B2'.out.trans (undrewN hb5))
      clear hv hb5 hr5
      go_wp2
      go_ret
      exact ⟨rfl, HV.out, HB5.out⟩
    · go_enter Tryz.func101, Tryz.ntmps101
      go_wp2_with fail
      (refine wp_region_hoist 12 (by kernel_rfl) (by kernel_rfl) ⟨fun _ _ _ h => (by first | exact (hQp _ _ _ h).elim | cases h.2.1 | (obtain ⟨_, h3, _⟩ := h.2; cases h3)), fun _ _ h => (by first | exact (hQo _ _ h).elim | cases h.1 | (obtain ⟨_, h3, _⟩ := h; cases h3))⟩ ?_; simp only [List.take_succ_cons, List.take_zero, List.drop_succ_cons, List.drop_zero]; (repeat (go_big_quiet_step (fail))); refine wpQuiet_nil ?_; rintro _ ⟨nq, rfl⟩)
      go_wp2_with fail
      refine (HUA.out _ _ (H2.out.drewN _) (X2.out.drewN _) (Y2.out.drewN _)).mono ?_
      rintro _ w5 ⟨rfl, hv, hb5⟩
      obtain ⟨v5, e5, hr5⟩ := hv.form
      obtain ⟨k0, k1, k2, k3, k4, k5, k6⟩ := hr5.cells
      have HV := Lib.hid ((AddR.pos (zn := decide (m = 4)) HSP.out hv).cast (smV_same true M E N F).symm rfl)
      have HB5 := Lib.hid (B2'.out.trans (undrewN hb5))
      clear hv hb5 hr5
      go_wp2
      go_ret
      exact ⟨rfl, HV.out, HB5.out⟩
    · by_cases hc : 0 < C
      · have t5 : decide (0 < C) = true := decide_eq_true hc
        have hcc := Lib.hid (HGT.out hc)
        clear hc
        go_enter Tryz.func101, Tryz.ntmps101
        go_wp2_with fail
        (refine wp_region_hoist 12 (by kernel_rfl) (by kernel_rfl) ⟨fun _ _ _ h => (by first | exact (hQp _ _ _ h).elim | cases h.2.1 | (obtain ⟨_, h3, _⟩ := h.2; cases h3)), fun _ _ h => (by first | exact (hQo _ _ h).elim | cases h.1 | (obtain ⟨_, h3, _⟩ := h; cases h3))⟩ ?_; simp only [List.take_succ_cons, List.take_zero, List.drop_succ_cons, List.drop_zero]; (repeat (go_big_quiet_step (fail))); refine wpQuiet_nil ?_; rintro _ ⟨nq, rfl⟩)
        go_wp2_with fail
        refine (HUC.out _ (X2.out.drewN _) (Y2.out.drewN _)).mono ?_
        rintro _ _ ⟨rfl, n5, rfl⟩
        go_wp2_with fail
        refine (HU1.out _ _ (H2.out.drewN _) (X2.out.drewN _) (Y2.out.drewN _) hcc.out).mono ?_
        rintro _ w5 ⟨rfl, hv, hb5⟩
        have HB5 := Lib.hid (B2'.out.trans (undrewN hb5))
        clear hb5
        rcases hv with ⟨hd0, v5, e5, hr5⟩ | ⟨hd0, hv⟩
        · obtain ⟨k0, k1, k2, k3, k4, k5, k6⟩ := hr5.cells
          obtain ⟨l0, l1, l2, l3, l4, l5, l6⟩ := hr5.free
          have HZ := Lib.hid (((smV_ge (n := true) hcc.out)).trans (by rw [hd0]; rfl) : smV true M E (!true) N F = 0)
          clear hd0
          have HR5 := Lib.hid hr5
          clear hr5
          by_cases hm4 : m = 4
          · have t6 : ((m : Int) == 4) = true := by rw [hm4]; rfl
            have HV := Lib.hid ((AddR.zero (B := B) (X := min E F) (HR5.out.s4 true)).cast HZ.out.symm rfl)
            have HB6 := Lib.hid (bset (i := 4) (u := .bool true) HB5.out hB)
            have HD : Hid (decide (m = 4) = true) := Lib.hid (decide_eq_true hm4)
            clear hm4
            go_wp2
            go_ret
            rw [HD.out]
            exact ⟨rfl, HV.out, HB6.out⟩
          · have t6 : ((m : Int) == 4) = false := by rw [beq_eq_false_iff_ne]; omega
            have HV := Lib.hid ((AddR.zero (B := B) (X := min E F) HR5.out).cast HZ.out.symm rfl)
            have HD : Hid (decide (m = 4) = false) := Lib.hid (decide_eq_false hm4)
            clear hm4
            go_wp2
            go_ret
            rw [HD.out]
            exact ⟨rfl, HV.out, HB5.out⟩
        · obtain ⟨v5, e5, hr5⟩ := hv.form
          obtain ⟨k0, k1, k2, k3, k4, k5, k6⟩ := hr5.cells
          have HV := Lib.hid ((AddR.pos (zn := decide (m = 4)) hd0 hv).cast ((smV_ge (n := true) hcc.out)).symm rfl)
          clear hv hr5 hd0
          go_wp2
          go_ret
          exact ⟨rfl, HV.out, HB5.out⟩
      · have t5 : decide (0 < C) = false := decide_eq_false hc
        have hcc := Lib.hid (HLE.out hc)
        have hcc2 : Hid (lo M E (min F E) ≤ lo N F (min F E)) := Lib.hid (by rw [Int.min_comm]; exact hcc.out)
        clear hc
        go_enter Tryz.func101, Tryz.ntmps101
        go_wp2_with fail
        (refine wp_region_hoist 12 (by kernel_rfl) (by kernel_rfl) ⟨fun _ _ _ h => (by first | exact (hQp _ _ _ h).elim | cases h.2.1 | (obtain ⟨_, h3, _⟩ := h.2; cases h3)), fun _ _ h => (by first | exact (hQo _ _ h).elim | cases h.1 | (obtain ⟨_, h3, _⟩ := h; cases h3))⟩ ?_; simp only [List.take_succ_cons, List.take_zero, List.drop_succ_cons, List.drop_zero]; (repeat (go_big_quiet_step (fail))); refine wpQuiet_nil ?_; rintro _ ⟨nq, rfl⟩)
        go_wp2_with fail
        refine (HUC.out _ (X2.out.drewN _) (Y2.out.drewN _)).mono ?_
        rintro _ _ ⟨rfl, n5, rfl⟩
        go_wp2_with fail
        refine (HU2.out _ _ (H3.out.drewN _) (X3.out.drewN _) (Y3.out.drewN _) hcc2.out).mono ?_
        rintro _ w5 ⟨rfl, hv, hb5⟩
        have HB5 := Lib.hid (B3'.out.trans (undrewN hb5))
        clear hb5
        rcases hv with ⟨hd0, v5, e5, hr5⟩ | ⟨hd0, hv⟩
        · obtain ⟨k0, k1, k2, k3, k4, k5, k6⟩ := hr5.cells
          obtain ⟨l0, l1, l2, l3, l4, l5, l6⟩ := hr5.free
          have HZ := Lib.hid (((smV_le (n := true) hcc.out)).trans (by rw [hd0]; rfl) : smV true M E (!true) N F = 0)
          clear hd0
          have HR5 := Lib.hid hr5
          clear hr5
          by_cases hm4 : m = 4
          · have t6 : ((m : Int) == 4) = true := by rw [hm4]; rfl
            have HV := Lib.hid ((AddR.zero (B := B) (X := min E F) (HR5.out.s4 true)).cast HZ.out.symm rfl)
            have HB6 := Lib.hid (bset (i := 4) (u := .bool true) HB5.out hB)
            have HD : Hid (decide (m = 4) = true) := Lib.hid (decide_eq_true hm4)
            clear hm4
            go_wp2
            go_ret
            rw [HD.out]
            exact ⟨rfl, HV.out, HB6.out⟩
          · have t6 : ((m : Int) == 4) = false := by rw [beq_eq_false_iff_ne]; omega
            have HV := Lib.hid ((AddR.zero (B := B) (X := min E F) HR5.out).cast HZ.out.symm rfl)
            have HD : Hid (decide (m = 4) = false) := Lib.hid (decide_eq_false hm4)
            clear hm4
            go_wp2
            go_ret
            rw [HD.out]
            exact ⟨rfl, HV.out, HB5.out⟩
        · obtain ⟨v5, e5, hr5⟩ := hv.form
          obtain ⟨k0, k1, k2, k3, k4, k5, k6⟩ := hr5.cells
          have HV := Lib.hid ((AddR.pos (zn := decide (m = 4)) hd0 hv).cast ((smV_le (n := true) hcc.out)).symm (Int.min_comm F E))
          clear hv hr5 hd0
          go_wp2
          go_ret
          exact ⟨rfl, HV.out, HB5.out⟩
  · have t0 : ((p0 : Int) == 0) = false := by rw [beq_eq_false_iff_ne]; omega
    have hqq : q = p0 := by rw [hq]; unfold pOf; rw [if_neg hz]
    have hz' : ¬ q = 0 := by omega
    clear hq hz
    subst hqq
    have H1 := HH
    have X1 := HX
    have Y1 := HY
    have B1' : Hid (Below B w w) := Lib.hid (Below.refl B w)
    have H2 := Lib.hid (H1.out.s4 n1)
    have X2 := Lib.hid (H1.out.at 4 (.bool n1) hb1 X1.out)
    have Y2 := Lib.hid (H1.out.at 4 (.bool n1) hb2 Y1.out)
    have B2' := Lib.hid (bset (i := 4) (u := .bool n1) B1'.out hB)
    have H3 := Lib.hid (H2.out.s4 (!n1))
    have X3 := Lib.hid (H2.out.at 4 (.bool (!n1)) hb1 X2.out)
    have Y3 := Lib.hid (H2.out.at 4 (.bool (!n1)) hb2 Y2.out)
    have B3' := Lib.hid (bset (i := 4) (u := .bool (!n1)) B2'.out hB)
    cases n1 <;> cases n2
    · by_cases hc : 0 < C
      · have t5 : decide (0 < C) = true := decide_eq_true hc
        have hcc := Lib.hid (HGT.out hc)
        clear hc
        go_enter Tryz.func101, Tryz.ntmps101
        go_wp2_with fail
        refine (HUC.out _ X2.out Y2.out).mono ?_
        rintro _ _ ⟨rfl, n5, rfl⟩
        go_wp2_with fail
        refine (HU1.out _ _ (H2.out.drewN _) (X2.out.drewN _) (Y2.out.drewN _) hcc.out).mono ?_
        rintro _ w5 ⟨rfl, hv, hb5⟩
        have HB5 := Lib.hid (B2'.out.trans (undrewN hb5))
        clear hb5
        rcases hv with ⟨hd0, v5, e5, hr5⟩ | ⟨hd0, hv⟩
        · obtain ⟨k0, k1, k2, k3, k4, k5, k6⟩ := hr5.cells
          obtain ⟨l0, l1, l2, l3, l4, l5, l6⟩ := hr5.free
          have HZ := Lib.hid (((smV_ge (n := false) hcc.out)).trans (by rw [hd0]; rfl) : smV false M E (!false) N F = 0)
          clear hd0
          have HR5 := Lib.hid hr5
          clear hr5
          by_cases hm4 : m = 4
          · have t6 : ((m : Int) == 4) = true := by rw [hm4]; rfl
            have HV := Lib.hid ((AddR.zero (B := B) (X := min E F) (HR5.out.s4 true)).cast HZ.out.symm rfl)
            have HB6 := Lib.hid (bset (i := 4) (u := .bool true) HB5.out hB)
            have HD : Hid (decide (m = 4) = true) := Lib.hid (decide_eq_true hm4)
            clear hm4
            go_wp2
            go_ret
            rw [HD.out]
            exact ⟨rfl, HV.out, HB6.out⟩
          · have t6 : ((m : Int) == 4) = false := by rw [beq_eq_false_iff_ne]; omega
            have HV := Lib.hid ((AddR.zero (B := B) (X := min E F) HR5.out).cast HZ.out.symm rfl)
            have HD : Hid (decide (m = 4) = false) := Lib.hid (decide_eq_false hm4)
            clear hm4
            go_wp2
            go_ret
            rw [HD.out]
            exact ⟨rfl, HV.out, HB5.out⟩
        · obtain ⟨v5, e5, hr5⟩ := hv.form
          obtain ⟨k0, k1, k2, k3, k4, k5, k6⟩ := hr5.cells
          have HV := Lib.hid ((AddR.pos (zn := decide (m = 4)) hd0 hv).cast ((smV_ge (n := false) hcc.out)).symm rfl)
          clear hv hr5 hd0
          go_wp2
          go_ret
          exact ⟨rfl, HV.out, HB5.out⟩
      · have t5 : decide (0 < C) = false := decide_eq_false hc
        have hcc := Lib.hid (HLE.out hc)
        have hcc2 : Hid (lo M E (min F E) ≤ lo N F (min F E)) := Lib.hid (by rw [Int.min_comm]; exact hcc.out)
        clear hc
        go_enter Tryz.func101, Tryz.ntmps101
        go_wp2_with fail
        refine (HUC.out _ X2.out Y2.out).mono ?_
        rintro _ _ ⟨rfl, n5, rfl⟩
        go_wp2_with fail
        refine (HU2.out _ _ (H3.out.drewN _) (X3.out.drewN _) (Y3.out.drewN _) hcc2.out).mono ?_
        rintro _ w5 ⟨rfl, hv, hb5⟩
        have HB5 := Lib.hid (B3'.out.trans (undrewN hb5))
        clear hb5
        rcases hv with ⟨hd0, v5, e5, hr5⟩ | ⟨hd0, hv⟩
        · obtain ⟨k0, k1, k2, k3, k4, k5, k6⟩ := hr5.cells
          obtain ⟨l0, l1, l2, l3, l4, l5, l6⟩ := hr5.free
          have HZ := Lib.hid (((smV_le (n := false) hcc.out)).trans (by rw [hd0]; rfl) : smV false M E (!false) N F = 0)
          clear hd0
          have HR5 := Lib.hid hr5
          clear hr5
          by_cases hm4 : m = 4
          · have t6 : ((m : Int) == 4) = true := by rw [hm4]; rfl
            have HV := Lib.hid ((AddR.zero (B := B) (X := min E F) (HR5.out.s4 true)).cast HZ.out.symm rfl)
            have HB6 := Lib.hid (bset (i := 4) (u := .bool true) HB5.out hB)
            have HD : Hid (decide (m = 4) = true) := Lib.hid (decide_eq_true hm4)
            clear hm4
            go_wp2
            go_ret
            rw [HD.out]
            exact ⟨rfl, HV.out, HB6.out⟩
          · have t6 : ((m : Int) == 4) = false := by rw [beq_eq_false_iff_ne]; omega
            have HV := Lib.hid ((AddR.zero (B := B) (X := min E F) HR5.out).cast HZ.out.symm rfl)
            have HD : Hid (decide (m = 4) = false) := Lib.hid (decide_eq_false hm4)
            clear hm4
            go_wp2
            go_ret
            rw [HD.out]
            exact ⟨rfl, HV.out, HB5.out⟩
        · obtain ⟨v5, e5, hr5⟩ := hv.form
          obtain ⟨k0, k1, k2, k3, k4, k5, k6⟩ := hr5.cells
          have HV := Lib.hid ((AddR.pos (zn := decide (m = 4)) hd0 hv).cast ((smV_le (n := false) hcc.out)).symm (Int.min_comm F E))
          clear hv hr5 hd0
          go_wp2
          go_ret
          exact ⟨rfl, HV.out, HB5.out⟩
    · go_enter Tryz.func101, Tryz.ntmps101
      go_wp2_with fail
      refine (HUA.out _ _ H2.out X2.out Y2.out).mono ?_
      rintro _ w5 ⟨rfl, hv, hb5⟩
      obtain ⟨v5, e5, hr5⟩ := hv.form
      obtain ⟨k0, k1, k2, k3, k4, k5, k6⟩ := hr5.cells
      have HV := Lib.hid ((AddR.pos (zn := decide (m = 4)) HSP.out hv).cast (smV_same false M E N F).symm rfl)
      have HB5 := Lib.hid (B2'.out.trans (hb5))
      clear hv hb5 hr5
      go_wp2
      go_ret
      exact ⟨rfl, HV.out, HB5.out⟩
    · go_enter Tryz.func101, Tryz.ntmps101
      go_wp2_with fail
      refine (HUA.out _ _ H2.out X2.out Y2.out).mono ?_
      rintro _ w5 ⟨rfl, hv, hb5⟩
      obtain ⟨v5, e5, hr5⟩ := hv.form
      obtain ⟨k0, k1, k2, k3, k4, k5, k6⟩ := hr5.cells
      have HV := Lib.hid ((AddR.pos (zn := decide (m = 4)) HSP.out hv).cast (smV_same true M E N F).symm rfl)
      have HB5 := Lib.hid (B2'.out.trans (hb5))
      clear hv hb5 hr5
      go_wp2
      go_ret
      exact ⟨rfl, HV.out, HB5.out⟩
    · by_cases hc : 0 < C
      · have t5 : decide (0 < C) = true := decide_eq_true hc
        have hcc := Lib.hid (HGT.out hc)
        clear hc
        go_enter Tryz.func101, Tryz.ntmps101
        go_wp2_with fail
        refine (HUC.out _ X2.out Y2.out).mono ?_
        rintro _ _ ⟨rfl, n5, rfl⟩
        go_wp2_with fail
        refine (HU1.out _ _ (H2.out.drewN _) (X2.out.drewN _) (Y2.out.drewN _) hcc.out).mono ?_
        rintro _ w5 ⟨rfl, hv, hb5⟩
        have HB5 := Lib.hid (B2'.out.trans (undrewN hb5))
        clear hb5
        rcases hv with ⟨hd0, v5, e5, hr5⟩ | ⟨hd0, hv⟩
        · obtain ⟨k0, k1, k2, k3, k4, k5, k6⟩ := hr5.cells
          obtain ⟨l0, l1, l2, l3, l4, l5, l6⟩ := hr5.free
          have HZ := Lib.hid (((smV_ge (n := true) hcc.out)).trans (by rw [hd0]; rfl) : smV true M E (!true) N F = 0)
          clear hd0
          have HR5 := Lib.hid hr5
          clear hr5
          by_cases hm4 : m = 4
          · have t6 : ((m : Int) == 4) = true := by rw [hm4]; rfl
            have HV := Lib.hid ((AddR.zero (B := B) (X := min E F) (HR5.out.s4 true)).cast HZ.out.symm rfl)
            have HB6 := Lib.hid (bset (i := 4) (u := .bool true) HB5.out hB)
            have HD : Hid (decide (m = 4) = true) := Lib.hid (decide_eq_true hm4)
            clear hm4
            go_wp2
            go_ret
            rw [HD.out]
            exact ⟨rfl, HV.out, HB6.out⟩
          · have t6 : ((m : Int) == 4) = false := by rw [beq_eq_false_iff_ne]; omega
            have HV := Lib.hid ((AddR.zero (B := B) (X := min E F) HR5.out).cast HZ.out.symm rfl)
            have HD : Hid (decide (m = 4) = false) := Lib.hid (decide_eq_false hm4)
            clear hm4
            go_wp2
            go_ret
            rw [HD.out]
            exact ⟨rfl, HV.out, HB5.out⟩
        · obtain ⟨v5, e5, hr5⟩ := hv.form
          obtain ⟨k0, k1, k2, k3, k4, k5, k6⟩ := hr5.cells
          have HV := Lib.hid ((AddR.pos (zn := decide (m = 4)) hd0 hv).cast ((smV_ge (n := true) hcc.out)).symm rfl)
          clear hv hr5 hd0
          go_wp2
          go_ret
          exact ⟨rfl, HV.out, HB5.out⟩
      · have t5 : decide (0 < C) = false := decide_eq_false hc
        have hcc := Lib.hid (HLE.out hc)
        have hcc2 : Hid (lo M E (min F E) ≤ lo N F (min F E)) := Lib.hid (by rw [Int.min_comm]; exact hcc.out)
        clear hc
        go_enter Tryz.func101, Tryz.ntmps101
        go_wp2_with fail
        refine (HUC.out _ X2.out Y2.out).mono ?_
        rintro _ _ ⟨rfl, n5, rfl⟩
        go_wp2_with fail
        refine (HU2.out _ _ (H3.out.drewN _) (X3.out.drewN _) (Y3.out.drewN _) hcc2.out).mono ?_
        rintro _ w5 ⟨rfl, hv, hb5⟩
        have HB5 := Lib.hid (B3'.out.trans (undrewN hb5))
        clear hb5
        rcases hv with ⟨hd0, v5, e5, hr5⟩ | ⟨hd0, hv⟩
        · obtain ⟨k0, k1, k2, k3, k4, k5, k6⟩ := hr5.cells
          obtain ⟨l0, l1, l2, l3, l4, l5, l6⟩ := hr5.free
          have HZ := Lib.hid (((smV_le (n := true) hcc.out)).trans (by rw [hd0]; rfl) : smV true M E (!true) N F = 0)
          clear hd0
          have HR5 := Lib.hid hr5
          clear hr5
          by_cases hm4 : m = 4
          · have t6 : ((m : Int) == 4) = true := by rw [hm4]; rfl
            have HV := Lib.hid ((AddR.zero (B := B) (X := min E F) (HR5.out.s4 true)).cast HZ.out.symm rfl)
            have HB6 := Lib.hid (bset (i := 4) (u := .bool true) HB5.out hB)
            have HD : Hid (decide (m = 4) = true) := Lib.hid (decide_eq_true hm4)
            clear hm4
            go_wp2
            go_ret
            rw [HD.out]
            exact ⟨rfl, HV.out, HB6.out⟩
          · have t6 : ((m : Int) == 4) = false := by rw [beq_eq_false_iff_ne]; omega
            have HV := Lib.hid ((AddR.zero (B := B) (X := min E F) HR5.out).cast HZ.out.symm rfl)
            have HD : Hid (decide (m = 4) = false) := Lib.hid (decide_eq_false hm4)
            clear hm4
            go_wp2
            go_ret
            rw [HD.out]
            exact ⟨rfl, HV.out, HB5.out⟩
        · obtain ⟨v5, e5, hr5⟩ := hv.form
          obtain ⟨k0, k1, k2, k3, k4, k5, k6⟩ := hr5.cells
          have HV := Lib.hid ((AddR.pos (zn := decide (m = 4)) hd0 hv).cast ((smV_le (n := true) hcc.out)).symm (Int.min_comm F E))
          clear hv hr5 hd0
          go_wp2
          go_ret
          exact ⟨rfl, HV.out, HB5.out⟩
end Go.Proofs.YtllhnjpnkmjopaaGreatDoor
