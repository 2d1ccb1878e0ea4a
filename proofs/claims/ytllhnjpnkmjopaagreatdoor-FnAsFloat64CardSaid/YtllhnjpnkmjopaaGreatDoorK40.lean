/-
Texts of this proof, joined: AsD. No condition.
-/
import Derived.Test.YtllhnjpnkmjopaaGreatDoorK18
import Derived.Test.YtllhnjpnkmjopaaGreatDoorK21
import Derived.Test.YtllhnjpnkmjopaaGreatDoorK36
namespace Go.Proofs.YtllhnjpnkmjopaaGreatDoor
open Go.RowKit

set_option maxRecDepth 100000 in
set_option maxHeartbeats 12800000 in
theorem usub_new (b B cx cy p m px mx py my f0 : Nat) (a0 e0 ax ay ex ey : Int) (nz nx ny : Bool) (vx vy : Value) (xs ys : List Nat) (w : World) (h : FltR w b p m a0 f0 nz (.slice none 0 0) e0) (hB : B ≤ b) (hx : FltR w cx px mx ax 1 nx vx ex) (hy : FltR w cy py my ay 1 ny vy ey) {Bx By : Nat} (hox : Own w Bx 116 vx (cellsW xs)) (hoy : Own w By 116 vy (cellsW ys))
    (hgx : Good xs px) (hgy : Good ys py) (hbx : b ≠ cx) (hby : b ≠ cy) (hp0 : 0 < p) (hp : p ≤ 64000000) (hm : m ≤ 5) (hlx : xs.length ≤ 10000) (hly : ys.length ≤ 10000) (hex1 : -1100000000 ≤ ex) (hex2 : ex ≤ 1100000000) (hey1 : -1100000000 ≤ ey) (hey2 : ey ≤ 1100000000) (hdf1 : ex - ey ≤ 20000000) (hdf2 : ey - ex ≤ 20000000) (hge : lo (wv ys) (ey - 64 * (ys.length : Int)) (min (ex - 64 * (xs.length : Int)) (ey - 64 * (ys.length : Int))) ≤ lo (wv xs) (ex - 64 * (xs.length : Int)) (min (ex - 64 * (xs.length : Int)) (ey - 64 * (ys.length : Int)))) :
    Calls Tryz.prog 147 #[.pointer (some ⟨b, 0, none⟩), .pointer (some ⟨cx, 0, none⟩), .pointer (some ⟨cy, 0, none⟩)] w fun e' w' => e' = .returned (.tuple #[]) ∧ (diM (wv xs) (ex - 64 * (xs.length : Int)) (wv ys) (ey - 64 * (ys.length : Int)) = 0 ∧ (∃ v e, FltR w' b p m 0 0 false v e) ∨ 0 < diM (wv xs) (ex - 64 * (xs.length : Int)) (wv ys) (ey - 64 * (ys.length : Int)) ∧ FVal w' B b p m (rA p m nz 0 (diM (wv xs) (ex - 64 * (xs.length : Int)) (wv ys) (ey - 64 * (ys.length : Int)))) 1 nz (rQ p m nz 0 (diM (wv xs) (ex - 64 * (xs.length : Int)) (wv ys) (ey - 64 * (ys.length : Int)))) (min (ex - 64 * (xs.length : Int)) (ey - 64 * (ys.length : Int)) + rk p (diM (wv xs) (ex - 64 * (xs.length : Int)) (wv ys) (ey - 64 * (ys.length : Int))))) ∧ Below B w w' := by
  obtain ⟨c0, c1, c2, c3, c4, c5, c6⟩ := h.cells
  obtain ⟨f0', f1', f2', f3', f4', f5', f6'⟩ := h.free
  obtain ⟨x0, x1, x2, x3, x4, x5, x6⟩ := hx.cells
  obtain ⟨y0, y1, y2, y3, y4, y5, y6⟩ := hy.cells
  have hSx := hox.isS
  have hSy := hoy.isS
  have hLx : sLen vx = xs.length := by rw [hox.len, cellsW_length]
  have hLy : sLen vy = ys.length := by rw [hoy.len, cellsW_length]
  have hbs := h.lt
  have HBW : Hid (B ≤ w.heap.size) := Lib.hid (by omega)
  have HGX := Lib.hid hgx
  have HGY := Lib.hid hgy
  obtain ⟨Lx, hLLx⟩ : ∃ Lx, Lx = xs.length := ⟨_, rfl⟩
  obtain ⟨Ly, hLLy⟩ : ∃ Ly, Ly = ys.length := ⟨_, rfl⟩
  have ROX := Lib.hid (show RO w vx (wds (wv xs)) by rw [← hgx.wds]; exact hox.ro hgx.2.2.1)
  have ROY := Lib.hid (show RO w vy (wds (wv ys)) by rw [← hgy.wds]; exact hoy.ro hgy.2.2.1)
  have hblx := hgx.bl
  have hbly := hgy.bl
  have hnwx : nw (wv xs) = xs.length := by rw [nw_bl hgx.posv, hblx]; omega
  have hnwy : nw (wv ys) = ys.length := by rw [nw_bl hgy.posv, hbly]; omega
  obtain ⟨Ex, hEx⟩ : ∃ Ex : Int, Ex = ex - 64 * (xs.length : Int) := ⟨_, rfl⟩
  obtain ⟨Ey, hEy⟩ : ∃ Ey : Int, Ey = ey - 64 * (ys.length : Int) := ⟨_, rfl⟩
  rw [← hEx, ← hEy]
  rw [← hEx, ← hEy] at hge
  rw [← hLLx] at hLx hlx hEx hblx hnwx
  rw [← hLLy] at hLy hly hEy hbly hnwy
  obtain ⟨E, hE⟩ : ∃ E, E = min Ex Ey := ⟨_, rfl⟩
  obtain ⟨S, hSS⟩ : ∃ S, S = diM (wv xs) Ex (wv ys) Ey := ⟨_, rfl⟩
  have hbS0 := bl_diM (wv xs) Ex (wv ys) Ey
  rw [← hE, ← hSS]
  rw [← hE, ← hSS] at hbS0
  rw [← hE] at hge
  have HGE := Lib.hid hge
  have HNS : Hid (nw S ≤ 400000) := Lib.hid (nw_of_bl (by omega))
  have HEB : Hid (-1110000000 ≤ E ∧ E ≤ 1110000000) := Lib.hid (by omega)
  have HSS : Hid (S = lo (wv xs) Ex E - lo (wv ys) Ey E) := Lib.hid (by rw [hSS, hE]; rfl)
  have HFIN : Hid (∀ (w7 : World) (r2 : Value) (x : Int), 0 < S → FltR w7 b p m a0 f0 nz r2 e0 → Own w7 B 116 r2 (cellsW (topN S)) → -1900000000 ≤ x → x ≤ 1900000000 → x - 64 * ((topN S).length : Int) = E - ((64 * nw S - bl S : Nat) : Int) →
      Calls Tryz.prog 131 #[.pointer (some ⟨b, 0, none⟩), .int .i64 x, .int .u64 0] w7 fun e' w' => e' = .returned (.tuple #[]) ∧ FVal w' B b p m (rA p m nz 0 S) 1 nz (rQ p m nz 0 S) (E + rk p S) ∧ Below B w7 w') := Lib.hid (fun w7 r2 x hS0 h7 o7 hx1 hx2 hxe => by
    have hns := HNS.out
    have hg : Good (topN S) (64 * nw S) := topN_good hS0 (by have := nw_bl hS0; omega) (by omega)
    have hr := setExp_any b B p m f0 0 a0 e0 x nz r2 (topN S) w7 h7 hB o7 hg.2.2.1 hg.1 hg.2.2.2.1 hg.2.1 hp0 hp hm (by decide) (.inl rfl) (by omega) (by omega)
    rw [show ((0 : Nat) : Int) = 0 from rfl] at hr
    refine hr.mono ?_
    rintro _ w' ⟨rfl, hR⟩
    have F := hR.val (rQ_pos nz 0 hp0 hg.posv)
    obtain ⟨_, _, _, -, -, -, -, hb8⟩ := hR
    refine ⟨rfl, ?_, hb8⟩
    refine fval_trans F hg.posv ?_
    rw [hxe, topN_wv hS0]
    exact ⟨0, 64 * nw S - bl S, by simp, by omega⟩)
  have hwx1 : (Lx : Int) * 64 = ((Lx * 64 : Nat) : Int) := by omega
  have hwy1 : (Ly : Int) * 64 = ((Ly * 64 : Nat) : Int) := by omega
  have hwx2 : ex - ((Lx * 64 : Nat) : Int) = Ex := by omega
  have hwy2 : ey - ((Ly * 64 : Nat) : Int) = Ey := by omega
  have hLx64 : Lx * 64 ≤ 640000 := by omega
  have hLy64 : Ly * 64 ≤ 640000 := by omega
  obtain ⟨Tx, hTx⟩ : ∃ Tx, Tx = Lx * 64 := ⟨_, rfl⟩
  obtain ⟨Ty, hTy⟩ : ∃ Ty, Ty = Ly * 64 := ⟨_, rfl⟩
  rw [← hTx] at hwx1 hwx2 hLx64
  rw [← hTy] at hwy1 hwy2 hLy64
  have HEX := Lib.hid hEx
  have HEY := Lib.hid hEy
  have HE := Lib.hid hE
  have HH := Lib.hid h
  have HX := Lib.hid hx
  have HY := Lib.hid hy
  have HNX := Lib.hid hnwx
  have HNY := Lib.hid hnwy
  have HOX := Lib.hid hox
  have HOY := Lib.hid hoy
  have hExb : -1110000000 ≤ Ex ∧ Ex ≤ 1110000000 := by omega
  have hEyb : -1110000000 ≤ Ey ∧ Ey ≤ 1110000000 ∧ Ex - Ey ≤ 21000000 ∧ Ey - Ex ≤ 21000000 := by omega
  have HNW2 : Hid (∀ s : Nat, s ≤ 21000000 → nw (wv xs * 2 ^ s) ≤ 400000 ∧ nw (wv ys * 2 ^ s) ≤ 400000) := Lib.hid (fun s hs => by
    have h1 := bl_mul (hgx.posv) s
    have h2 := bl_mul (hgy.posv) s
    exact ⟨nw_of_bl (by omega), nw_of_bl (by omega)⟩)
  have HALX := Lib.hid (fun W => alias_nil vx W hSx)
  have HALY := Lib.hid (fun W => alias_nil vy W hSy)
  clear hEx hEy hE h hx hy hnwx hnwy hox hoy hgx hgy hLLx hLLy hSS hbS0 hTx hTy hblx hbly hge
  go_enter Tryz.func147, Tryz.ntmps147
  go_wp2_with fail
  go_quiet (fail)
  generalize nq = n1
  go_wp2_with fail
  go_quiet (fail)
  generalize nq = n2
  go_wp2_with fail
  go_quiet (first
    | (go_at_call 167; with_reducible refine (HALX.out _).mono ?_; rintro _ _ ⟨rfl, n, rfl⟩; exact ⟨rfl, _, by rw [World.drewN_drewN, Nat.add_assoc]⟩)
    | (go_at_call 167; with_reducible refine (HALY.out _).mono ?_; rintro _ _ ⟨rfl, n, rfl⟩; exact ⟨rfl, _, by rw [World.drewN_drewN, Nat.add_assoc]⟩))
  generalize nq = n3
  obtain ⟨W, hW⟩ : ∃ W, W = ((w.drewN n1).drewN n2).drewN n3 := ⟨_, rfl⟩
  rw [← hW]
  have HBW0 : Hid (Below B w W) := Lib.hid (by rw [hW]; exact undrewN' (undrewN' (undrewN' (Below.refl _ _))))
  have hHW : FltR W b p m a0 f0 nz (.slice none 0 0) e0 := by rw [hW]; exact ((HH.out.drewN _).drewN _).drewN _
  have hXW : FltR W cx px mx ax 1 nx vx ex := by rw [hW]; exact ((HX.out.drewN _).drewN _).drewN _
  have hYW : FltR W cy py my ay 1 ny vy ey := by rw [hW]; exact ((HY.out.drewN _).drewN _).drewN _
  have HROX : Hid (RO W vx (wds (wv xs))) := Lib.hid (ROX.out.below (by rw [hW]; exact undrewN' (undrewN' (undrewN' (Below.refl _ _)))))
  have HROY : Hid (RO W vy (wds (wv ys))) := Lib.hid (ROY.out.below (by rw [hW]; exact undrewN' (undrewN' (undrewN' (Below.refl _ _)))))
  have HBS : Hid (B ≤ W.heap.size) := Lib.hid (by rw [hW]; exact HBW.out)
  clear hW HH HX HY ROX ROY HBW HALX HALY c0 c1 c2 c3 c4 c5 c6 f0' f1' f2' f3' f4' f5' f6' x0 x1 x2 x3 x4 x5 x6 y0 y1 y2 y3 y4 y5 y6 hwx1 hwy1 hwx2 hwy2
  obtain ⟨c0, c1, c2, c3, c4, c5, c6⟩ := hHW.cells
  obtain ⟨f0', f1', f2', f3', f4', f5', f6'⟩ := hHW.free
  obtain ⟨x0, x1, x2, x3, x4, x5, x6⟩ := hXW.cells
  obtain ⟨y0, y1, y2, y3, y4, y5, y6⟩ := hYW.cells
  have HHW := Lib.hid hHW
  have HXW := Lib.hid hXW
  have HYW := Lib.hid hYW
  clear hHW hXW hYW
  rcases Int.lt_trichotomy Ex Ey with hlt | heq | hgt
  · obtain ⟨s, hs⟩ := Int.eq_ofNat_of_zero_le (show 0 ≤ Ey - Ex by omega)
    have hEE : E = Ex := by rw [HE.out]; omega
    have HLE : Hid (lo (wv xs) Ex E = wv xs ∧ lo (wv ys) Ey E = wv ys * 2 ^ s) := Lib.hid (by rw [hEE, lo_self]; refine ⟨rfl, ?_⟩; unfold lo; rw [hs]; simp)
    have t1 : decide (Ex < Ey) = true := decide_eq_true hlt
    have t2 : decide (Ey < Ex) = false := decide_eq_false (by omega)
    have hsb : s ≤ 21000000 := by omega
    have hs0 : 0 < s := by omega
    subst hEE
    clear hlt
    have hnz := (HNW2.out s (by omega)).2
    have hnzV : nw (wv ys) = Ly := HNY.out
    have hnzO := HNX.out
    have hposV : 0 < wv ys := HGY.out.posv
    go_wp2_with fail
    (refine wp_region_hoist 13 (by kernel_rfl) (by kernel_rfl) ⟨fun _ _ _ h => (by first | exact (hQp _ _ _ h).elim | cases h.2.1 | (obtain ⟨_, h3, _⟩ := h.2; cases h3)), fun _ _ h => (by first | exact (hQo _ _ h).elim | cases h.1 | (obtain ⟨_, h3, _⟩ := h; cases h3))⟩ ?_; simp only [List.take_succ_cons, List.take_zero, List.drop_succ_cons, List.drop_zero]; (repeat (go_big_quiet_step (fail))); refine wpQuiet_nil ?_; rintro _ ⟨nq, rfl⟩)
    go_wp2_with fail
    have hl1 := lsh_nil vy (wv ys) s (W.drewN nq) (HROY.out.rw.below (undrewN' (Below.refl _ _))) hposV (by omega) (by omega) (by omega)
    refine hl1.mono ?_
    rintro _ w1 ⟨r1, rfl, ho1, hb1⟩
    have hb1' : Below W.heap.size W w1 := undrewN hb1
    have hS1 := ho1.isS
    have hH1 := HHW.out.below hb1'
    have hX1 := HXW.out.below hb1'
    have hY1 := HYW.out.below hb1'
    obtain ⟨q0, q1, q2, q3, q4, q5, q6⟩ := hH1.cells
    obtain ⟨g0, g1, g2, g3, g4, g5, g6⟩ := hH1.free
    have hH2 := hH1.s5 r1
    have hb1b : Below B W (w1.setCell ⟨b, 5, none⟩ r1) := bset (hb1'.mono HBS.out) hB
    have hO1 : Own (w1.setCell ⟨b, 5, none⟩ r1) B 116 r1 (cellsW (wds (wv ys * 2 ^ s))) := hH1.own (ho1.mono (show B ≤ _ from HBS.out)) 5 r1
    have hRr := hO1.ro (wds_all _)
    have hNR : RO (w1.setCell ⟨b, 5, none⟩ r1) vx (wds (wv xs)) := (HROX.out.below hb1').away hH1 (by decide)
    have hAl1 : Al r1 vx := fun hc he => by
      have h1 := (ho1.lt hc).1
      have h2 := HROX.out.rw.ri.lt (by rw [ints_length, wds_length, hnzO]; have := HGX.out.1; have := nw_pos HGX.out.posv; omega)
      have h3 : W.heap.size ≤ sBlk r1 := h1
      omega
    have hX2 : FltR (w1.setCell ⟨b, 5, none⟩ r1) cx px mx ax 1 nx vx ex := (heap_setCell_other _ _ _ _ (by simpa using hbx.symm)).trans hX1
    have hY2 : FltR (w1.setCell ⟨b, 5, none⟩ r1) cy py my ay 1 ny vy ey := (heap_setCell_other _ _ _ _ (by simpa using hby.symm)).trans hY1
    obtain ⟨x0', x1', x2', x3', x4', x5', x6'⟩ := hX2.cells
    obtain ⟨y0', y1', y2', y3', y4', y5', y6'⟩ := hY2.cells
    obtain ⟨e0', e1', e2', e3', e4', e5', e6'⟩ := hH2.cells
    have hBW2 : B ≤ (w1.setCell ⟨b, 5, none⟩ r1).heap.size := by have := hb1b.size; have := HBS.out; omega
    have HOP : Hid (∀ k, Calls Tryz.prog 160 #[r1, vx, r1] ((w1.setCell ⟨b, 5, none⟩ r1).drewN k) fun e w' => ∃ r, e = .returned r ∧ NatR r1 r S B (w1.setCell ⟨b, 5, none⟩ r1) w') := Lib.hid (fun k => by
      have := nsub_any r1 vx r1 (cellsW (wds (wv ys * 2 ^ s))) (wv xs) (wv ys * 2 ^ s) B ((w1.setCell ⟨b, 5, none⟩ r1).drewN k) (hO1.drewN k) (hNR.below (undrewN' (Below.refl _ _))) (hRr.below (undrewN' (Below.refl _ _))) hAl1 (fun _ _ => rfl) (by rw [← HLE.out.1, ← HLE.out.2]; exact HGE.out) (by omega) hBW2
      rw [show (wv xs) - (wv ys * 2 ^ s) = S by rw [HSS.out, HLE.out.1, HLE.out.2]] at this
      refine this.mono ?_
      rintro _ w' ⟨r, rfl, h⟩
      exact ⟨r, rfl, h.own, undrewN h.below, fun t ht hn => h.fr t ht hn, h.at'⟩)
    have HB1 := Lib.hid (HBW0.out.trans hb1b)
    have HO1 := Lib.hid hO1
    have HH2 := Lib.hid hH2
    clear hl1 ho1 hb1 hb1' hH1 hX1 hY1 hb1b hO1 hRr hNR hAl1 hX2 hY2 hH2 c0 c1 c2 c3 c4 c5 c6 f0' f1' f2' f3' f4' f5' f6' x0 x1 x2 x3 x4 x5 x6 y0 y1 y2 y3 y4 y5 y6
    go_wp2_with fail
    (refine wp_region_hoist 13 (by kernel_rfl) (by kernel_rfl) ⟨fun _ _ _ h => (by first | exact (hQp _ _ _ h).elim | cases h.2.1 | (obtain ⟨_, h3, _⟩ := h.2; cases h3)), fun _ _ h => (by first | exact (hQo _ _ h).elim | cases h.1 | (obtain ⟨_, h3, _⟩ := h; cases h3))⟩ ?_; simp only [List.take_succ_cons, List.take_zero, List.drop_succ_cons, List.drop_zero]; (repeat (go_big_quiet_step (fail))); refine wpQuiet_nil ?_; rintro _ ⟨nq, rfl⟩)
    go_wp2_with fail
    refine (HOP.out _).mono ?_
    rintro _ w2 ⟨r2, rfl, hnr⟩
    have hbne : 0 < sCap r1 → b ≠ sBlk r1 := fun hc => (HO1.out.ne_row HH2.out (by decide) hc).symm
    have hH3 : FltR w2 b p m a0 f0 nz r1 e0 := hnr.fr.row HH2.out hbne
    obtain ⟨d0, d1, d2, d3, d4, d5, d6⟩ := hH3.cells
    obtain ⟨g0', g1', g2', g3', g4', g5', g6'⟩ := hH3.free
    have hSr2 := hnr.own.isS
    have hR2 := hH3.s5 r2
    have hO2 := hH3.own hnr.own 5 r2
    have hB2 := HB1.out.trans (bset (i := 5) (u := r2) hnr.below hB)
    clear hnr hH3 HOP hbne q0 q1 q2 q3 q4 q5 q6 g0 g1 g2 g3 g4 g5 g6 e0' e1' e2' e3' e4' e5' e6' x0' x1' x2' x3' x4' x5' x6' y0' y1' y2' y3' y4' y5' y6'
    rcases Nat.eq_zero_or_pos S with hS0 | hS0
    · have HZ0 : Hid (S = 0) := Lib.hid hS0
      have hLr0 : sLen r2 = 0 := by rw [hO2.len, cellsW_length, wds_length, hS0]; rfl
      obtain ⟨k0, k1, k2, k3, k4, k5, k6⟩ := hR2.cells
      obtain ⟨l0, l1, l2, l3, l4, l5, l6⟩ := hR2.free
      have R3 := Lib.hid (((hR2.s2 0).s3 0).s4 false)
      have B3 := Lib.hid (bset (i := 4) (u := .bool false) (bset (i := 3) (u := .int .u8 (0 : Int)) (bset (i := 2) (u := .int .i8 0) hB2 hB) hB) hB)
      have hSr := hO2.isS
      clear hR2 hO2 hB2 hS0
      go_wp2_with fail
      refine bodyPost_ret (results_none rfl _ _ _) rfl ?_
      exact ⟨rfl, .inl ⟨HZ0.out, _, _, R3.out⟩, B3.out⟩
    · have hnS := HNS.out
      have hLr : sLen r2 = nw S := by rw [hO2.len, cellsW_length, wds_length]
      have hnp := nw_pos hS0
      have hnb := nw_bl hS0
      have hSr := hO2.isS
      obtain ⟨k0, k1, k2, k3, k4, k5, k6⟩ := hR2.cells
      obtain ⟨L, hL⟩ : ∃ L, L = nw S := ⟨_, rfl⟩
      obtain ⟨sh, hsh⟩ : ∃ sh, sh = 64 * nw S - bl S := ⟨_, rfl⟩
      have HSH := Lib.hid hsh
      have hLL : L ≤ 400000 := by omega
      rw [← hL] at hLr hnp hnb hsh
      have tl : ((L : Int) == 0) = false := by rw [beq_eq_false_iff_ne]; omega
      have hshb : sh ≤ 64 * L := by omega
      have hEb := HEB.out
      obtain ⟨T1, hT1⟩ : ∃ T1 : Nat, T1 = L * 64 := ⟨_, rfl⟩
      have hT1b : T1 ≤ 25600000 := by omega
      have hx1 : (L : Int) * 64 = (T1 : Int) := by omega
      have hx2 : IntKind.i64.wrap ((L : Int) * 64) = (T1 : Int) := by rw [hx1]; exact wrap_i64_id (by omega) (by omega)
      obtain ⟨T2, hT2⟩ : ∃ T2 : Int, T2 = E + (T1 : Int) := ⟨_, rfl⟩
      have hT2' : E + (T1 : Int) = T2 := hT2.symm
      have hx3 : IntKind.i64.wrap (E + (T1 : Int)) = T2 := by rw [hT2']; exact wrap_i64_id (by omega) (by omega)
      obtain ⟨x, hx⟩ : ∃ x : Int, x = T2 - (sh : Int) := ⟨_, rfl⟩
      have hx' : T2 - (sh : Int) = x := hx.symm
      have hx4 : IntKind.i64.wrap (T2 - (sh : Int)) = x := by rw [hx']; exact wrap_i64_id (by omega) (by omega)
      have hxb : -1900000000 ≤ x ∧ x ≤ 1900000000 := by omega
      have HXE : Hid (x - 64 * ((topN S).length : Int) = E - ((64 * nw S - bl S : Nat) : Int)) := Lib.hid (by rw [topN_length, ← HSH.out, ← hL]; omega)
      have HXW : Hid (IntKind.i64.wrap (IntKind.i64.wrap (E + IntKind.i64.wrap (T1 : Int)) - (sh : Int)) = x) := Lib.hid (by rw [wrap_i64_id (a := (T1 : Int)) (by omega) (by omega), hx3, hx4])
      have HL := Lib.hid hL
      have HS0 := Lib.hid hS0
      have HO2 := Lib.hid hO2
      have HR2 := Lib.hid hR2
      have HB2 := Lib.hid hB2
      clear hL hsh hx hT1 hT2 hnb hS0 hO2 hR2 hB2 hnS
      go_wp2_with fail
      first
        | (go_region_with
            (first
              | (go_at_call 143; (with_reducible refine (fnorm_val r2 S B _ (HO2.out.below (Below.drew (Below.refl _ _))) HS0.out (by rw [← HL.out]; omega)).mono ?_); rintro _ w7 ⟨rfl, ho7, hb7, hon7⟩; rw [← HSH.out]; have hne7 := HO2.out.ne_row HR2.out (by decide) (by have := HO2.out.isS.le; omega); have hR7 : FltR w7 b p m a0 f0 nz r2 e0 := (hon7 b HR2.out.lt hne7.symm).trans HR2.out; have d5 := hR7.cells.2.2.2.2.2.1; have H7 := Lib.hid hR7; have O7 := Lib.hid ho7; have B7 := Lib.hid ((Below.drew HB2.out).trans hb7); clear hR7 ho7 hb7 hon7 hne7)
              | (go_at_call 131; rw [HXW.out]; (with_reducible refine (HFIN.out w7 r2 x HS0.out H7.out O7.out hxb.1 hxb.2 HXE.out).mono ?_); rintro _ w8 ⟨rfl, hF8, hb8⟩; have F8 := Lib.hid hF8; have B8 := Lib.hid (B7.out.trans hb8); clear hF8 hb8)))
        | fail
      all_goals
        go_wp2
        go_end0
        exact ⟨rfl, .inr ⟨HS0.out, F8.out⟩, B8.out⟩
  · have hEE : E = Ex := by rw [HE.out]; omega
    have HLE : Hid (lo (wv xs) Ex E = wv xs ∧ lo (wv ys) Ey E = wv ys) := Lib.hid (by rw [hEE, lo_self, heq, lo_self]; exact ⟨rfl, rfl⟩)
    have t1 : decide (Ex < Ey) = false := decide_eq_false (by omega)
    have t2 : decide (Ey < Ex) = false := decide_eq_false (by omega)
    subst hEE
    clear heq
    have hnzO := HNX.out
    have hnzP := HNY.out
    have HOP : Hid (∀ k, Calls Tryz.prog 160 #[.slice none 0 0, vx, vy] (W.drewN k) fun e w' => ∃ r, e = .returned r ∧ NatR (.slice none 0 0) r S B W w') := Lib.hid (fun k => by
      have := nsub_any (.slice none 0 0) vx vy [] (wv xs) (wv ys) B (W.drewN k) (Own.nil _ _ _) (HROX.out.below (undrewN' (Below.refl _ _))) (HROY.out.below (undrewN' (Below.refl _ _))) (Al.nil _) (Al.nil _) (by rw [← HLE.out.1, ← HLE.out.2]; exact HGE.out) (by omega) HBS.out
      rw [show wv xs - wv ys = S by rw [HSS.out, HLE.out.1, HLE.out.2]] at this
      refine this.mono ?_
      rintro _ w' ⟨r, rfl, h⟩
      exact ⟨r, rfl, h.own, undrewN h.below, fun t ht hn => h.fr t ht hn, h.at'⟩)
    go_wp2_with fail
    (refine wp_region_hoist 13 (by kernel_rfl) (by kernel_rfl) ⟨fun _ _ _ h => (by first | exact (hQp _ _ _ h).elim | cases h.2.1 | (obtain ⟨_, h3, _⟩ := h.2; cases h3)), fun _ _ h => (by first | exact (hQo _ _ h).elim | cases h.1 | (obtain ⟨_, h3, _⟩ := h; cases h3))⟩ ?_; simp only [List.take_succ_cons, List.take_zero, List.drop_succ_cons, List.drop_zero]; (repeat (go_big_quiet_step (fail))); refine wpQuiet_nil ?_; rintro _ ⟨nq, rfl⟩)
    go_wp2_with fail
    refine (HOP.out _).mono ?_
    rintro _ w2 ⟨r2, rfl, hnr⟩
    have hH3 : FltR w2 b p m a0 f0 nz (.slice none 0 0) e0 := hnr.fr.row HHW.out (fun hc => absurd hc (by decide))
    obtain ⟨d0, d1, d2, d3, d4, d5, d6⟩ := hH3.cells
    obtain ⟨g0', g1', g2', g3', g4', g5', g6'⟩ := hH3.free
    have hSr2 := hnr.own.isS
    have hR2 := hH3.s5 r2
    have hO2 := hH3.own hnr.own 5 r2
    have hB2 := HBW0.out.trans (bset (i := 5) (u := r2) hnr.below hB)
    clear hnr hH3 HOP c0 c1 c2 c3 c4 c5 c6 f0' f1' f2' f3' f4' f5' f6' x0 x1 x2 x3 x4 x5 x6 y0 y1 y2 y3 y4 y5 y6
    rcases Nat.eq_zero_or_pos S with hS0 | hS0
    · have HZ0 : Hid (S = 0) := Lib.hid hS0
      have hLr0 : sLen r2 = 0 := by rw [hO2.len, cellsW_length, wds_length, hS0]; rfl
      obtain ⟨k0, k1, k2, k3, k4, k5, k6⟩ := hR2.cells
      obtain ⟨l0, l1, l2, l3, l4, l5, l6⟩ := hR2.free
      have R3 := Lib.hid (((hR2.s2 0).s3 0).s4 false)
      have B3 := Lib.hid (bset (i := 4) (u := .bool false) (bset (i := 3) (u := .int .u8 (0 : Int)) (bset (i := 2) (u := .int .i8 0) hB2 hB) hB) hB)
      have hSr := hO2.isS
      clear hR2 hO2 hB2 hS0
      go_wp2_with fail
      refine bodyPost_ret (results_none rfl _ _ _) rfl ?_
      exact ⟨rfl, .inl ⟨HZ0.out, _, _, R3.out⟩, B3.out⟩
    · have hnS := HNS.out
      have hLr : sLen r2 = nw S := by rw [hO2.len, cellsW_length, wds_length]
      have hnp := nw_pos hS0
      have hnb := nw_bl hS0
      have hSr := hO2.isS
      obtain ⟨k0, k1, k2, k3, k4, k5, k6⟩ := hR2.cells
      obtain ⟨L, hL⟩ : ∃ L, L = nw S := ⟨_, rfl⟩
      obtain ⟨sh, hsh⟩ : ∃ sh, sh = 64 * nw S - bl S := ⟨_, rfl⟩
      have HSH := Lib.hid hsh
      have hLL : L ≤ 400000 := by omega
      rw [← hL] at hLr hnp hnb hsh
      have tl : ((L : Int) == 0) = false := by rw [beq_eq_false_iff_ne]; omega
      have hshb : sh ≤ 64 * L := by omega
      have hEb := HEB.out
      obtain ⟨T1, hT1⟩ : ∃ T1 : Nat, T1 = L * 64 := ⟨_, rfl⟩
      have hT1b : T1 ≤ 25600000 := by omega
      have hx1 : (L : Int) * 64 = (T1 : Int) := by omega
      have hx2 : IntKind.i64.wrap ((L : Int) * 64) = (T1 : Int) := by rw [hx1]; exact wrap_i64_id (by omega) (by omega)
      obtain ⟨T2, hT2⟩ : ∃ T2 : Int, T2 = E + (T1 : Int) := ⟨_, rfl⟩
      have hT2' : E + (T1 : Int) = T2 := hT2.symm
      have hx3 : IntKind.i64.wrap (E + (T1 : Int)) = T2 := by rw [hT2']; exact wrap_i64_id (by omega) (by omega)
      obtain ⟨x, hx⟩ : ∃ x : Int, x = T2 - (sh : Int) := ⟨_, rfl⟩
      have hx' : T2 - (sh : Int) = x := hx.symm
      have hx4 : IntKind.i64.wrap (T2 - (sh : Int)) = x := by rw [hx']; exact wrap_i64_id (by omega) (by omega)
      have hxb : -1900000000 ≤ x ∧ x ≤ 1900000000 := by omega
      have HXE : Hid (x - 64 * ((topN S).length : Int) = E - ((64 * nw S - bl S : Nat) : Int)) := Lib.hid (by rw [topN_length, ← HSH.out, ← hL]; omega)
      have HXW : Hid (IntKind.i64.wrap (IntKind.i64.wrap (E + IntKind.i64.wrap (T1 : Int)) - (sh : Int)) = x) := Lib.hid (by rw [wrap_i64_id (a := (T1 : Int)) (by omega) (by omega), hx3, hx4])
      have HL := Lib.hid hL
      have HS0 := Lib.hid hS0
      have HO2 := Lib.hid hO2
      have HR2 := Lib.hid hR2
      have HB2 := Lib.hid hB2
      clear hL hsh hx hT1 hT2 hnb hS0 hO2 hR2 hB2 hnS
      go_wp2_with fail
      first
        | (go_region_with
            (first
              | (go_at_call 143; (with_reducible refine (fnorm_val r2 S B _ (HO2.out.below (Below.drew (Below.refl _ _))) HS0.out (by rw [← HL.out]; omega)).mono ?_); rintro _ w7 ⟨rfl, ho7, hb7, hon7⟩; rw [← HSH.out]; have hne7 := HO2.out.ne_row HR2.out (by decide) (by have := HO2.out.isS.le; omega); have hR7 : FltR w7 b p m a0 f0 nz r2 e0 := (hon7 b HR2.out.lt hne7.symm).trans HR2.out; have d5 := hR7.cells.2.2.2.2.2.1; have H7 := Lib.hid hR7; have O7 := Lib.hid ho7; have B7 := Lib.hid ((Below.drew HB2.out).trans hb7); clear hR7 ho7 hb7 hon7 hne7)
              | (go_at_call 131; rw [HXW.out]; (with_reducible refine (HFIN.out w7 r2 x HS0.out H7.out O7.out hxb.1 hxb.2 HXE.out).mono ?_); rintro _ w8 ⟨rfl, hF8, hb8⟩; have F8 := Lib.hid hF8; have B8 := Lib.hid (B7.out.trans hb8); clear hF8 hb8)))
        | fail
      all_goals
        go_wp2
        go_end0
        exact ⟨rfl, .inr ⟨HS0.out, F8.out⟩, B8.out⟩
  · obtain ⟨s, hs⟩ := Int.eq_ofNat_of_zero_le (show 0 ≤ Ex - Ey by omega)
    have hEE : E = Ey := by rw [HE.out]; omega
    have HLE : Hid (lo (wv xs) Ex E = wv xs * 2 ^ s ∧ lo (wv ys) Ey E = wv ys) := Lib.hid (by rw [hEE, lo_self]; refine ⟨?_, rfl⟩; unfold lo; rw [hs]; simp)
    have t1 : decide (Ex < Ey) = false := decide_eq_false (by omega)
    have t2 : decide (Ey < Ex) = true := decide_eq_true hgt
    have hsb : s ≤ 21000000 := by omega
    have hs0 : 0 < s := by omega
    subst hEE
    clear hgt
    have hnz := (HNW2.out s (by omega)).1
    have hnzV : nw (wv xs) = Lx := HNX.out
    have hnzO := HNY.out
    have hposV : 0 < wv xs := HGX.out.posv
    go_wp2_with fail
    (refine wp_region_hoist 13 (by kernel_rfl) (by kernel_rfl) ⟨fun _ _ _ h => (by first | exact (hQp _ _ _ h).elim | cases h.2.1 | (obtain ⟨_, h3, _⟩ := h.2; cases h3)), fun _ _ h => (by first | exact (hQo _ _ h).elim | cases h.1 | (obtain ⟨_, h3, _⟩ := h; cases h3))⟩ ?_; simp only [List.take_succ_cons, List.take_zero, List.drop_succ_cons, List.drop_zero]; (repeat (go_big_quiet_step (fail))); refine wpQuiet_nil ?_; rintro _ ⟨nq, rfl⟩)
    go_wp2_with fail
    have hl1 := lsh_nil vx (wv xs) s (W.drewN nq) (HROX.out.rw.below (undrewN' (Below.refl _ _))) hposV (by omega) (by omega) (by omega)
    refine hl1.mono ?_
    rintro _ w1 ⟨r1, rfl, ho1, hb1⟩
    have hb1' : Below W.heap.size W w1 := undrewN hb1
    have hS1 := ho1.isS
    have hH1 := HHW.out.below hb1'
    have hX1 := HXW.out.below hb1'
    have hY1 := HYW.out.below hb1'
    obtain ⟨q0, q1, q2, q3, q4, q5, q6⟩ := hH1.cells
    obtain ⟨g0, g1, g2, g3, g4, g5, g6⟩ := hH1.free
    have hH2 := hH1.s5 r1
    have hb1b : Below B W (w1.setCell ⟨b, 5, none⟩ r1) := bset (hb1'.mono HBS.out) hB
    have hO1 : Own (w1.setCell ⟨b, 5, none⟩ r1) B 116 r1 (cellsW (wds (wv xs * 2 ^ s))) := hH1.own (ho1.mono (show B ≤ _ from HBS.out)) 5 r1
    have hRr := hO1.ro (wds_all _)
    have hNR : RO (w1.setCell ⟨b, 5, none⟩ r1) vy (wds (wv ys)) := (HROY.out.below hb1').away hH1 (by decide)
    have hAl1 : Al r1 vy := fun hc he => by
      have h1 := (ho1.lt hc).1
      have h2 := HROY.out.rw.ri.lt (by rw [ints_length, wds_length, hnzO]; have := HGY.out.1; have := nw_pos HGY.out.posv; omega)
      have h3 : W.heap.size ≤ sBlk r1 := h1
      omega
    have hX2 : FltR (w1.setCell ⟨b, 5, none⟩ r1) cx px mx ax 1 nx vx ex := (heap_setCell_other _ _ _ _ (by simpa using hbx.symm)).trans hX1
    have hY2 : FltR (w1.setCell ⟨b, 5, none⟩ r1) cy py my ay 1 ny vy ey := (heap_setCell_other _ _ _ _ (by simpa using hby.symm)).trans hY1
    obtain ⟨x0', x1', x2', x3', x4', x5', x6'⟩ := hX2.cells
    obtain ⟨y0', y1', y2', y3', y4', y5', y6'⟩ := hY2.cells
    obtain ⟨e0', e1', e2', e3', e4', e5', e6'⟩ := hH2.cells
    have hBW2 : B ≤ (w1.setCell ⟨b, 5, none⟩ r1).heap.size := by have := hb1b.size; have := HBS.out; omega
    have HOP : Hid (∀ k, Calls Tryz.prog 160 #[r1, r1, vy] ((w1.setCell ⟨b, 5, none⟩ r1).drewN k) fun e w' => ∃ r, e = .returned r ∧ NatR r1 r S B (w1.setCell ⟨b, 5, none⟩ r1) w') := Lib.hid (fun k => by
      have := nsub_any r1 r1 vy (cellsW (wds (wv xs * 2 ^ s))) (wv xs * 2 ^ s) (wv ys) B ((w1.setCell ⟨b, 5, none⟩ r1).drewN k) (hO1.drewN k) (hRr.below (undrewN' (Below.refl _ _))) (hNR.below (undrewN' (Below.refl _ _))) (fun _ _ => rfl) hAl1 (by rw [← HLE.out.1, ← HLE.out.2]; exact HGE.out) (by omega) hBW2
      rw [show (wv xs * 2 ^ s) - (wv ys) = S by rw [HSS.out, HLE.out.1, HLE.out.2]] at this
      refine this.mono ?_
      rintro _ w' ⟨r, rfl, h⟩
      exact ⟨r, rfl, h.own, undrewN h.below, fun t ht hn => h.fr t ht hn, h.at'⟩)
    have HB1 := Lib.hid (HBW0.out.trans hb1b)
    have HO1 := Lib.hid hO1
    have HH2 := Lib.hid hH2
    clear hl1 ho1 hb1 hb1' hH1 hX1 hY1 hb1b hO1 hRr hNR hAl1 hX2 hY2 hH2 c0 c1 c2 c3 c4 c5 c6 f0' f1' f2' f3' f4' f5' f6' x0 x1 x2 x3 x4 x5 x6 y0 y1 y2 y3 y4 y5 y6
    go_wp2_with fail
    (refine wp_region_hoist 13 (by kernel_rfl) (by kernel_rfl) ⟨fun _ _ _ h => (by first | exact (hQp _ _ _ h).elim | cases h.2.1 | (obtain ⟨_, h3, _⟩ := h.2; cases h3)), fun _ _ h => (by first | exact (hQo _ _ h).elim | cases h.1 | (obtain ⟨_, h3, _⟩ := h; cases h3))⟩ ?_; simp only [List.take_succ_cons, List.take_zero, List.drop_succ_cons, List.drop_zero]; (repeat (go_big_quiet_step (fail))); refine wpQuiet_nil ?_; rintro _ ⟨nq, rfl⟩)
    go_wp2_with fail
    refine (HOP.out _).mono ?_
    rintro _ w2 ⟨r2, rfl, hnr⟩
    have hbne : 0 < sCap r1 → b ≠ sBlk r1 := fun hc => (HO1.out.ne_row HH2.out (by decide) hc).symm
    have hH3 : FltR w2 b p m a0 f0 nz r1 e0 := hnr.fr.row HH2.out hbne
    obtain ⟨d0, d1, d2, d3, d4, d5, d6⟩ := hH3.cells
    obtain ⟨g0', g1', g2', g3', g4', g5', g6'⟩ := hH3.free
    have hSr2 := hnr.own.isS
    have hR2 := hH3.s5 r2
    have hO2 := hH3.own hnr.own 5 r2
    have hB2 := HB1.out.trans (bset (i := 5) (u := r2) hnr.below hB)
    clear hnr hH3 HOP hbne q0 q1 q2 q3 q4 q5 q6 g0 g1 g2 g3 g4 g5 g6 e0' e1' e2' e3' e4' e5' e6' x0' x1' x2' x3' x4' x5' x6' y0' y1' y2' y3' y4' y5' y6'
    rcases Nat.eq_zero_or_pos S with hS0 | hS0
    · have HZ0 : Hid (S = 0) := Lib.hid hS0
      have hLr0 : sLen r2 = 0 := by rw [hO2.len, cellsW_length, wds_length, hS0]; rfl
      obtain ⟨k0, k1, k2, k3, k4, k5, k6⟩ := hR2.cells
      obtain ⟨l0, l1, l2, l3, l4, l5, l6⟩ := hR2.free
      have R3 := Lib.hid (((hR2.s2 0).s3 0).s4 false)
      have B3 := Lib.hid (bset (i := 4) (u := .bool false) (bset (i := 3) (u := .int .u8 (0 : Int)) (bset (i := 2) (u := .int .i8 0) hB2 hB) hB) hB)
      have hSr := hO2.isS
      clear hR2 hO2 hB2 hS0
      go_wp2_with fail
      refine bodyPost_ret (results_none rfl _ _ _) rfl ?_
      exact ⟨rfl, .inl ⟨HZ0.out, _, _, R3.out⟩, B3.out⟩
    · have hnS := HNS.out
      have hLr : sLen r2 = nw S := by rw [hO2.len, cellsW_length, wds_length]
      have hnp := nw_pos hS0
      have hnb := nw_bl hS0
      have hSr := hO2.isS
      obtain ⟨k0, k1, k2, k3, k4, k5, k6⟩ := hR2.cells
      obtain ⟨L, hL⟩ : ∃ L, L = nw S := ⟨_, rfl⟩
      obtain ⟨sh, hsh⟩ : ∃ sh, sh = 64 * nw S - bl S := ⟨_, rfl⟩
      have HSH := Lib.hid hsh
      have hLL : L ≤ 400000 := by omega
      rw [← hL] at hLr hnp hnb hsh
      have tl : ((L : Int) == 0) = false := by rw [beq_eq_false_iff_ne]; omega
      have hshb : sh ≤ 64 * L := by omega
      have hEb := HEB.out
      obtain ⟨T1, hT1⟩ : ∃ T1 : Nat, T1 = L * 64 := ⟨_, rfl⟩
      have hT1b : T1 ≤ 25600000 := by omega
      have hx1 : (L : Int) * 64 = (T1 : Int) := by omega
      have hx2 : IntKind.i64.wrap ((L : Int) * 64) = (T1 : Int) := by rw [hx1]; exact wrap_i64_id (by omega) (by omega)
      obtain ⟨T2, hT2⟩ : ∃ T2 : Int, T2 = E + (T1 : Int) := ⟨_, rfl⟩
      have hT2' : E + (T1 : Int) = T2 := hT2.symm
      have hx3 : IntKind.i64.wrap (E + (T1 : Int)) = T2 := by rw [hT2']; exact wrap_i64_id (by omega) (by omega)
      obtain ⟨x, hx⟩ : ∃ x : Int, x = T2 - (sh : Int) := ⟨_, rfl⟩
      have hx' : T2 - (sh : Int) = x := hx.symm
      have hx4 : IntKind.i64.wrap (T2 - (sh : Int)) = x := by rw [hx']; exact wrap_i64_id (by omega) (by omega)
      have hxb : -1900000000 ≤ x ∧ x ≤ 1900000000 := by omega
      have HXE : Hid (x - 64 * ((topN S).length : Int) = E - ((64 * nw S - bl S : Nat) : Int)) := Lib.hid (by rw [topN_length, ← HSH.out, ← hL]; omega)
      have HXW : Hid (IntKind.i64.wrap (IntKind.i64.wrap (E + IntKind.i64.wrap (T1 : Int)) - (sh : Int)) = x) := Lib.hid (by rw [wrap_i64_id (a := (T1 : Int)) (by omega) (by omega), hx3, hx4])
      have HL := Lib.hid hL
      have HS0 := Lib.hid hS0
      have HO2 := Lib.hid hO2
      have HR2 := Lib.hid hR2
      have HB2 := Lib.hid hB2
      clear hL hsh hx hT1 hT2 hnb hS0 hO2 hR2 hB2 hnS
      go_wp2_with fail
      first
        | (go_region_with
            (first
              | (go_at_call 143; (with_reducible refine (fnorm_val r2 S B _ (HO2.out.below (Below.drew (Below.refl _ _))) HS0.out (by rw [← HL.out]; omega)).mono ?_); rintro _ w7 ⟨rfl, ho7, hb7, hon7⟩; rw [← HSH.out]; have hne7 := HO2.out.ne_row HR2.out (by decide) (by have := HO2.out.isS.le; omega); have hR7 : FltR w7 b p m a0 f0 nz r2 e0 := (hon7 b HR2.out.lt hne7.symm).trans HR2.out; have d5 := hR7.cells.2.2.2.2.2.1; have H7 := Lib.hid hR7; have O7 := Lib.hid ho7; have B7 := Lib.hid ((Below.drew HB2.out).trans hb7); clear hR7 ho7 hb7 hon7 hne7)
              | (go_at_call 131; rw [HXW.out]; (with_reducible refine (HFIN.out w7 r2 x HS0.out H7.out O7.out hxb.1 hxb.2 HXE.out).mono ?_); rintro _ w8 ⟨rfl, hF8, hb8⟩; have F8 := Lib.hid hF8; have B8 := Lib.hid (B7.out.trans hb8); clear hF8 hb8)))
        | fail
      all_goals
        go_wp2
        go_end0
        exact ⟨rfl, .inr ⟨HS0.out, F8.out⟩, B8.out⟩
end Go.Proofs.YtllhnjpnkmjopaaGreatDoor
