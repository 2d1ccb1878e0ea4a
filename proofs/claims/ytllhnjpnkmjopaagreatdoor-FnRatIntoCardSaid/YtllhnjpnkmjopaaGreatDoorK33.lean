/-
Texts of this proof, joined: IsA RsA InN NgA RqA. No condition.
-/
import Derived.Test.YtllhnjpnkmjopaaGreatDoorK05
import Derived.Test.YtllhnjpnkmjopaaGreatDoorK13
import Derived.Test.YtllhnjpnkmjopaaGreatDoorK23
import Derived.Test.YtllhnjpnkmjopaaGreatDoorK32
import Derived.Defers
import Derived.Recover
import Derived.Laws.Pointers
namespace Go.Proofs.YtllhnjpnkmjopaaGreatDoor
open Go.RowKit

theorem bn_ne {m n : Bool} (h : m = !n) : (m == n) = false ∧ (m != n) = true := by subst h; cases n <;> exact ⟨rfl, rfl⟩
theorem bn_eq {m n : Bool} (h : ¬ m = !n) : (m == n) = true ∧ (m != n) = false := by cases m <;> cases n <;> first | exact ⟨rfl, rfl⟩ | exact absurd rfl h
set_option maxRecDepth 100000 in
set_option maxHeartbeats 3200000 in
theorem intSub_any (b o c p d t : Nat) (m n : Bool) (vz vx vy z0 : Value) (zs : List Value) (X Y B : Nat) (cb cc cd : Array Value) (Tb Tc Td : TypeId) (w : World)
    (hb : w.heap[b]? = some (.cells cb Tb (0, 0))) (hc : w.heap[c]? = some (.cells cc Tc (0, 0))) (hd : w.heap[d]? = some (.cells cd Td (0, 0))) (hTb : Tb ≠ 116)
    (b0 : cb[o]? = some z0) (b1 : cb[o + 1]? = some vz) (c0 : cc[p]? = some (.bool m)) (c1 : cc[p + 1]? = some vx) (d0 : cd[t]? = some (.bool n)) (d1 : cd[t + 1]? = some vy)
    (ho : Own w B 116 vz zs) (hx : RO w vx (wds X)) (hy : RO w vy (wds Y)) (ax : Al vz vx) (ay : Al vz vy) (hX : nw X ≤ 1000000) (hY : nw Y ≤ 1000000) (hB : B ≤ b) :
    Calls Tryz.prog 126 #[.pointer (some ⟨b, o, none⟩), .pointer (some ⟨c, p, none⟩), .pointer (some ⟨d, t, none⟩)] w fun e w' => e = .returned (.pointer (some ⟨b, o, none⟩)) ∧ IntRo b o cb Tb vz (decide (0 < addM m X (!n) Y) && addN m X (!n) Y) (addM m X (!n) Y) B w w' := by
  have hSz := ho.isS
  have hSx := hx.rw.isS
  have hSy := hy.rw.isS
  have hbs := get_lt hb
  have hBs : B ≤ w.heap.size := Nat.le_trans hB (Nat.le_of_lt hbs)
  have x0 : w.cell? ⟨c, p, none⟩ = some (.bool m) := (row_at hc c0).1
  have x1 : w.cell? ⟨c, p + 1, none⟩ = some vx := (row_at hc c1).1
  have y0 : w.cell? ⟨d, t, none⟩ = some (.bool n) := (row_at hd d0).1
  have y1 : w.cell? ⟨d, t + 1, none⟩ = some vy := (row_at hd d1).1
  have z1 : w.cell? ⟨b, o + 1, none⟩ = some vz := (row_at hb b1).1
  have hneb : 0 < sCap vz → b ≠ sBlk vz := ho.neRow hb hTb
  have hfin : ∀ (N k : Nat) (r : Value) (w1 : World), NatR vz r N B (w.drewN k) w1 → w1.heap[b]? = some (.cells cb Tb (0, 0)) ∧ IsS r ∧ sLen r = nw N ∧ ∀ q : Bool, IntRo b o cb Tb vz q N B w ((w1.setCell ⟨b, o + 1, none⟩ r).setCell ⟨b, o, none⟩ (.bool q)) := fun N k r w1 h => by
    have h' : NatR vz r N B w w1 := ⟨h.own, undrewN h.below, fun t ht hn => h.fr t ht hn, h.at'⟩
    exact ⟨h'.fr.row hb hneb, h.own.isS, by rw [h.own.len, cellsW_length, wds_length], fun q => .of hb hTb hB hneb h'⟩
  have HADD : Hid (∀ W, (∃ k, W = w.drewN k) → Calls Tryz.prog 158 #[vz, vx, vy] W fun e w1 => ∃ r, e = .returned r ∧ w1.heap[b]? = some (.cells cb Tb (0, 0)) ∧ IsS r ∧ sLen r = nw (X + Y) ∧ ∀ q : Bool, IntRo b o cb Tb vz q (X + Y) B w ((w1.setCell ⟨b, o + 1, none⟩ r).setCell ⟨b, o, none⟩ (.bool q))) := Lib.hid (by
    rintro _ ⟨k, rfl⟩
    refine (nadd_any vz vx vy zs X Y B (w.drewN k) (ho.drewN k) (hx.below (undrewN' (Below.refl _ _))) (hy.below (undrewN' (Below.refl _ _))) ax ay (by omega) (by omega) hBs).mono ?_
    rintro _ w1 ⟨r, rfl, h⟩
    exact ⟨r, rfl, hfin _ k r w1 h⟩)
  have HS1 : Hid (Y ≤ X → ∀ W, (∃ k, W = w.drewN k) → Calls Tryz.prog 160 #[vz, vx, vy] W fun e w1 => ∃ r, e = .returned r ∧ w1.heap[b]? = some (.cells cb Tb (0, 0)) ∧ IsS r ∧ sLen r = nw (X - Y) ∧ ∀ q : Bool, IntRo b o cb Tb vz q (X - Y) B w ((w1.setCell ⟨b, o + 1, none⟩ r).setCell ⟨b, o, none⟩ (.bool q))) := Lib.hid (by
    rintro h _ ⟨k, rfl⟩
    refine (nsub_any vz vx vy zs X Y B (w.drewN k) (ho.drewN k) (hx.below (undrewN' (Below.refl _ _))) (hy.below (undrewN' (Below.refl _ _))) ax ay h (by omega) hBs).mono ?_
    rintro _ w1 ⟨r, rfl, h⟩
    exact ⟨r, rfl, hfin _ k r w1 h⟩)
  have HS2 : Hid (X ≤ Y → ∀ W, (∃ k, W = w.drewN k) → Calls Tryz.prog 160 #[vz, vy, vx] W fun e w1 => ∃ r, e = .returned r ∧ w1.heap[b]? = some (.cells cb Tb (0, 0)) ∧ IsS r ∧ sLen r = nw (Y - X) ∧ ∀ q : Bool, IntRo b o cb Tb vz q (Y - X) B w ((w1.setCell ⟨b, o + 1, none⟩ r).setCell ⟨b, o, none⟩ (.bool q))) := Lib.hid (by
    rintro h _ ⟨k, rfl⟩
    refine (nsub_any vz vy vx zs Y X B (w.drewN k) (ho.drewN k) (hy.below (undrewN' (Below.refl _ _))) (hx.below (undrewN' (Below.refl _ _))) ay ax h (by omega) hBs).mono ?_
    rintro _ w1 ⟨r, rfl, h⟩
    exact ⟨r, rfl, hfin _ k r w1 h⟩)
  obtain ⟨C, hC⟩ : ∃ C, C = cmpN X Y := ⟨_, rfl⟩
  have HCM : Hid (∀ W, (∃ k, W = w.drewN k) → Calls Tryz.prog 159 #[vx, vy] W fun e w' => e = .returned (.int .i64 C) ∧ ∃ k, w' = w.drewN k) := Lib.hid (by
    rintro _ ⟨k, rfl⟩
    rw [hC]
    refine (cmp_any vx vy X Y (w.drewN k) (hx.rw.drewN k) (hy.rw.drewN k) (by omega) (by omega)).mono ?_
    rintro _ _ ⟨rfl, n, rfl⟩
    exact ⟨rfl, _, World.drewN_drewN _ _ _⟩)
  have HB0 := Lib.hid b0
  have HB1 := Lib.hid b1
  by_cases hmn : m = !n
  · have tmn : (m == n) = false := (bn_ne hmn).1
    have tmn' : (m != n) = true := (bn_ne hmn).2
    have e1 : addM m X (!n) Y = X + Y := if_pos hmn
    have e2 : addN m X (!n) Y = m := if_pos hmn
    rw [e1, e2]
    obtain ⟨N, hN⟩ : ∃ N, N = X + Y := ⟨_, rfl⟩
    rw [← hN] at HADD ⊢
    clear hb hc hd b0 b1 c0 c1 d0 d1 ho hx hy ax ay hX hY hB hbs hBs hneb hfin e1 e2 hC hN HS1 HS2 hmn
    go_enter Tryz.func126, Tryz.ntmps126
    go_wp2_with fail
    go_quiet (fail)
    go_wp2_with fail
    (refine wp_region_hoist 13 (by kernel_rfl) (by kernel_rfl) ⟨fun _ _ _ h => (by first | exact (hQp _ _ _ h).elim | cases h.2.1 | (obtain ⟨_, h3, _⟩ := h.2; cases h3)), fun _ _ h => (by first | exact (hQo _ _ h).elim | cases h.1 | (obtain ⟨_, h3, _⟩ := h; cases h3))⟩ ?_; simp only [List.take_succ_cons, List.take_zero, List.drop_succ_cons, List.drop_zero]; (repeat (go_big_quiet_step (fail))); refine wpQuiet_nil ?_; rintro _ ⟨nq, rfl⟩)
    go_wp2_with fail
    refine (HADD.out _ (by first | exact ⟨_, rfl⟩ | exact ⟨_, World.drewN_drewN _ _ _⟩)).mono ?_
    rintro _ w1 ⟨r, rfl, g1, hSr, hLr, hQ⟩
    obtain ⟨a0, f0⟩ : w1.cell? ⟨b, o, none⟩ = some z0 ∧ w1.frozen? ⟨b, o, none⟩ = false := ⟨(row_at g1 HB0.out).1, (row_at g1 HB0.out).2⟩
    obtain ⟨a1, f1⟩ : w1.cell? ⟨b, o + 1, none⟩ = some vz ∧ w1.frozen? ⟨b, o + 1, none⟩ = false := ⟨(row_at g1 HB1.out).1, (row_at g1 HB1.out).2⟩
    rcases Nat.eq_zero_or_pos N with h0 | h0
    · have hl0 : sLen r = 0 := by rw [hLr, h0]; rfl
      have Q : Hid (IntRo b o cb Tb vz (decide (0 < N) && m) N B w ((w1.setCell ⟨b, o + 1, none⟩ r).setCell ⟨b, o, none⟩ (.bool false))) := Lib.hid (by rw [show (decide (0 < N) && m) = false by rw [h0]; simp]; exact hQ false)
      clear g1 hLr hQ h0
      go_wp2
      go_ret
      exact ⟨rfl, Q.out⟩
    · obtain ⟨l, hl⟩ : ∃ l, l = nw N := ⟨_, rfl⟩
      have hlp : 0 < l := by rw [hl]; exact nw_pos h0
      rw [← hl] at hLr
      have tl : decide ((l : Int) > 0) = true := decide_eq_true (by omega)
      have tl' : decide (0 < l) = true := decide_eq_true hlp
      have Q : Hid (IntRo b o cb Tb vz (decide (0 < N) && m) N B w ((w1.setCell ⟨b, o + 1, none⟩ r).setCell ⟨b, o, none⟩ (.bool (m)))) := Lib.hid (by rw [show (decide (0 < N) && m) = (m) by rw [decide_eq_true h0]; simp]; exact hQ _)
      clear g1 hQ h0 hl
      go_wp2
      go_ret
      exact ⟨rfl, Q.out⟩
  · have tmn : (m == n) = true := (bn_eq hmn).1
    have tmn' : (m != n) = false := (bn_eq hmn).2
    by_cases hle : Y ≤ X
    · have e1 : addM m X (!n) Y = X - Y := by unfold addM; rw [if_neg hmn, if_pos hle]
      have e2 : addN m X (!n) Y = m := by unfold addN; rw [if_neg hmn, if_pos hle]
      have tC : decide (C ≥ 0) = true := by
        rw [hC]; unfold cmpN; rw [if_neg (by omega)]; split <;> rfl
      have tC' : decide (0 ≤ C) = true := tC
      have HSB := Lib.hid (HS1.out hle)
      rw [e1, e2]
      obtain ⟨N, hN⟩ : ∃ N, N = X - Y := ⟨_, rfl⟩
      rw [← hN] at HSB ⊢
      clear hb hc hd b0 b1 c0 c1 d0 d1 ho hx hy ax ay hX hY hB hbs hBs hneb hfin e1 e2 hC hle HS1 HS2 hmn hN
      go_enter Tryz.func126, Tryz.ntmps126
      go_wp2_with fail
      go_quiet (fail)
      go_wp2_with fail
      (refine wp_region_hoist 8 (by kernel_rfl) (by kernel_rfl) ⟨fun _ _ _ h => (by first | exact (hQp _ _ _ h).elim | cases h.2.1 | (obtain ⟨_, h3, _⟩ := h.2; cases h3)), fun _ _ h => (by first | exact (hQo _ _ h).elim | cases h.1 | (obtain ⟨_, h3, _⟩ := h; cases h3))⟩ ?_; simp only [List.take_succ_cons, List.take_zero, List.drop_succ_cons, List.drop_zero]; (repeat (go_big_quiet_step (fail))); refine wpQuiet_nil ?_; rintro _ ⟨nq, rfl⟩)
      go_wp2_with fail
      refine (HCM.out _ (by first | exact ⟨_, rfl⟩ | exact ⟨_, World.drewN_drewN _ _ _⟩)).mono ?_
      rintro _ _ ⟨rfl, k2, rfl⟩
      go_wp2_with fail
      (refine wp_region_hoist 13 (by kernel_rfl) (by kernel_rfl) ⟨fun _ _ _ h => (by first | exact (hQp _ _ _ h).elim | cases h.2.1 | (obtain ⟨_, h3, _⟩ := h.2; cases h3)), fun _ _ h => (by first | exact (hQo _ _ h).elim | cases h.1 | (obtain ⟨_, h3, _⟩ := h; cases h3))⟩ ?_; simp only [List.take_succ_cons, List.take_zero, List.drop_succ_cons, List.drop_zero]; (repeat (go_big_quiet_step (fail))); refine wpQuiet_nil ?_; rintro _ ⟨nq, rfl⟩)
      go_wp2_with fail
      refine (HSB.out _ (by first | exact ⟨_, rfl⟩ | exact ⟨_, World.drewN_drewN _ _ _⟩)).mono ?_
      rintro _ w1 ⟨r, rfl, g1, hSr, hLr, hQ⟩
      obtain ⟨a0, f0⟩ : w1.cell? ⟨b, o, none⟩ = some z0 ∧ w1.frozen? ⟨b, o, none⟩ = false := ⟨(row_at g1 HB0.out).1, (row_at g1 HB0.out).2⟩
      obtain ⟨a1, f1⟩ : w1.cell? ⟨b, o + 1, none⟩ = some vz ∧ w1.frozen? ⟨b, o + 1, none⟩ = false := ⟨(row_at g1 HB1.out).1, (row_at g1 HB1.out).2⟩
      rcases Nat.eq_zero_or_pos N with h0 | h0
      · have hl0 : sLen r = 0 := by rw [hLr, h0]; rfl
        have Q : Hid (IntRo b o cb Tb vz (decide (0 < N) && m) N B w ((w1.setCell ⟨b, o + 1, none⟩ r).setCell ⟨b, o, none⟩ (.bool false))) := Lib.hid (by rw [show (decide (0 < N) && m) = false by rw [h0]; simp]; exact hQ false)
        clear g1 hLr hQ h0
        go_wp2
        go_ret
        exact ⟨rfl, Q.out⟩
      · obtain ⟨l, hl⟩ : ∃ l, l = nw N := ⟨_, rfl⟩
        have hlp : 0 < l := by rw [hl]; exact nw_pos h0
        rw [← hl] at hLr
        have tl : decide ((l : Int) > 0) = true := decide_eq_true (by omega)
        have tl' : decide (0 < l) = true := decide_eq_true hlp
        have Q : Hid (IntRo b o cb Tb vz (decide (0 < N) && m) N B w ((w1.setCell ⟨b, o + 1, none⟩ r).setCell ⟨b, o, none⟩ (.bool (m)))) := Lib.hid (by rw [show (decide (0 < N) && m) = (m) by rw [decide_eq_true h0]; simp]; exact hQ _)
        clear g1 hQ h0 hl
        go_wp2
        go_ret
        exact ⟨rfl, Q.out⟩
    · have e1 : addM m X (!n) Y = Y - X := by unfold addM; rw [if_neg hmn, if_neg hle]
      have e2 : addN m X (!n) Y = !m := by unfold addN; rw [if_neg hmn, if_neg hle]
      have tC : decide (C ≥ 0) = false := by
        rw [hC]; unfold cmpN; rw [if_pos (by omega)]; rfl
      have tC' : decide (0 ≤ C) = false := tC
      have HSB := Lib.hid (HS2.out (by omega))
      rw [e1, e2]
      obtain ⟨N, hN⟩ : ∃ N, N = Y - X := ⟨_, rfl⟩
      rw [← hN] at HSB ⊢
      clear hb hc hd b0 b1 c0 c1 d0 d1 ho hx hy ax ay hX hY hB hbs hBs hneb hfin e1 e2 hC hle HS1 HS2 hmn hN
      go_enter Tryz.func126, Tryz.ntmps126
      go_wp2_with fail
      go_quiet (fail)
      go_wp2_with fail
      (refine wp_region_hoist 8 (by kernel_rfl) (by kernel_rfl) ⟨fun _ _ _ h => (by first | exact (hQp _ _ _ h).elim | cases h.2.1 | (obtain ⟨_, h3, _⟩ := h.2; cases h3)), fun _ _ h => (by first | exact (hQo _ _ h).elim | cases h.1 | (obtain ⟨_, h3, _⟩ := h; cases h3))⟩ ?_; simp only [List.take_succ_cons, List.take_zero, List.drop_succ_cons, List.drop_zero]; (repeat (go_big_quiet_step (fail))); refine wpQuiet_nil ?_; rintro _ ⟨nq, rfl⟩)
      go_wp2_with fail
      refine (HCM.out _ (by first | exact ⟨_, rfl⟩ | exact ⟨_, World.drewN_drewN _ _ _⟩)).mono ?_
      rintro _ _ ⟨rfl, k2, rfl⟩
      go_wp2_with fail
      (refine wp_region_hoist 13 (by kernel_rfl) (by kernel_rfl) ⟨fun _ _ _ h => (by first | exact (hQp _ _ _ h).elim | cases h.2.1 | (obtain ⟨_, h3, _⟩ := h.2; cases h3)), fun _ _ h => (by first | exact (hQo _ _ h).elim | cases h.1 | (obtain ⟨_, h3, _⟩ := h; cases h3))⟩ ?_; simp only [List.take_succ_cons, List.take_zero, List.drop_succ_cons, List.drop_zero]; (repeat (go_big_quiet_step (fail))); refine wpQuiet_nil ?_; rintro _ ⟨nq, rfl⟩)
      go_wp2_with fail
      refine (HSB.out _ (by first | exact ⟨_, rfl⟩ | exact ⟨_, World.drewN_drewN _ _ _⟩)).mono ?_
      rintro _ w1 ⟨r, rfl, g1, hSr, hLr, hQ⟩
      obtain ⟨a0, f0⟩ : w1.cell? ⟨b, o, none⟩ = some z0 ∧ w1.frozen? ⟨b, o, none⟩ = false := ⟨(row_at g1 HB0.out).1, (row_at g1 HB0.out).2⟩
      obtain ⟨a1, f1⟩ : w1.cell? ⟨b, o + 1, none⟩ = some vz ∧ w1.frozen? ⟨b, o + 1, none⟩ = false := ⟨(row_at g1 HB1.out).1, (row_at g1 HB1.out).2⟩
      rcases Nat.eq_zero_or_pos N with h0 | h0
      · have hl0 : sLen r = 0 := by rw [hLr, h0]; rfl
        have Q : Hid (IntRo b o cb Tb vz (decide (0 < N) && !m) N B w ((w1.setCell ⟨b, o + 1, none⟩ r).setCell ⟨b, o, none⟩ (.bool false))) := Lib.hid (by rw [show (decide (0 < N) && !m) = false by rw [h0]; simp]; exact hQ false)
        clear g1 hLr hQ h0
        go_wp2
        go_ret
        exact ⟨rfl, Q.out⟩
      · obtain ⟨l, hl⟩ : ∃ l, l = nw N := ⟨_, rfl⟩
        have hlp : 0 < l := by rw [hl]; exact nw_pos h0
        rw [← hl] at hLr
        have tl : decide ((l : Int) > 0) = true := decide_eq_true (by omega)
        have tl' : decide (0 < l) = true := decide_eq_true hlp
        have Q : Hid (IntRo b o cb Tb vz (decide (0 < N) && !m) N B w ((w1.setCell ⟨b, o + 1, none⟩ r).setCell ⟨b, o, none⟩ (.bool (!m)))) := Lib.hid (by rw [show (decide (0 < N) && !m) = (!m) by rw [decide_eq_true h0]; simp]; exact hQ _)
        clear g1 hQ h0 hl
        go_wp2
        go_ret
        exact ⟨rfl, Q.out⟩
set_option maxRecDepth 100000 in
set_option maxHeartbeats 3200000 in
theorem ratAdd_fk (z x y B : Nat) (nz m n : Bool) (vz uz vx ux vy uy : Value) (zs us : List Value) (X1 X2 Y1 Y2 : Nat) (w : World)
    (hz : w.heap[z]? = some (.cells #[.bool nz, vz, .bool false, uz] 112 (0, 0))) (oz : Own w B 116 vz zs) (oz2 : Own w B 116 uz us) (sz : 0 < sCap vz → 0 < sCap uz → sBlk vz ≠ sBlk uz)
    (hx : w.heap[x]? = some (.cells #[.bool m, vx, .bool false, ux] 112 (0, 0))) (ox1 : RO w vx (wds X1)) (ox2 : RO w ux (wds X2))
    (hy : w.heap[y]? = some (.cells #[.bool n, vy, .bool false, uy] 112 (0, 0))) (oy1 : RO w vy (wds Y1)) (oy2 : RO w uy (wds Y2))
    (dx : 0 < sCap vz → sBlk ux ≠ sBlk vz) (dy : 0 < sCap vz → sBlk uy ≠ sBlk vz) (hm : MdP uz ux uy X2 Y2 B) (p1 : 0 < X2) (p2 : 0 < Y2) (k1 : nw X1 < 40) (k2 : nw X2 < 40) (k3 : nw Y1 < 40) (k4 : nw Y2 < 40)
    (k5 : nw (addM m (X1 * Y2) n (Y1 * X2)) < 40) (k6 : nw (X2 * Y2) < 40) (hB : B ≤ z) (hK : KarW w) (hT : DivW w) (dg : 4 < B) (kg : 3 < B) :
    Calls Tryz.prog 76 #[.pointer (some ⟨z, 0, none⟩), .pointer (some ⟨x, 0, none⟩), .pointer (some ⟨y, 0, none⟩)] w fun e w' => e = .returned (.pointer (some ⟨z, 0, none⟩)) ∧ RatP w' B z ((decide (0 < addM m (X1 * Y2) n (Y1 * X2)) && addN m (X1 * Y2) n (Y1 * X2)) && decide (0 < addM m (X1 * Y2) n (Y1 * X2))) (addM m (X1 * Y2) n (Y1 * X2) / Nat.gcd (addM m (X1 * Y2) n (Y1 * X2)) (X2 * Y2)) (X2 * Y2 / Nat.gcd (addM m (X1 * Y2) n (Y1 * X2)) (X2 * Y2)) ∧ Below B w w' ∧ FrK w w' := by
  have hSx := ox2.rw.isS
  have hSy := oy2.rw.isS
  have hSz2 := oz2.isS
  have hxl : x < w.heap.size := get_lt hx
  have hyl : y < w.heap.size := get_lt hy
  have hzl : z < w.heap.size := get_lt hz
  obtain ⟨S, hS⟩ : ∃ S, S = addM m (X1 * Y2) n (Y1 * X2) := ⟨_, rfl⟩
  obtain ⟨sg, hsg⟩ : ∃ sg, sg = (decide (0 < addM m (X1 * Y2) n (Y1 * X2)) && addN m (X1 * Y2) n (Y1 * X2)) := ⟨_, rfl⟩
  obtain ⟨s, hs⟩ : ∃ s, s = w.heap.size := ⟨_, rfl⟩
  obtain ⟨W, hW⟩ : ∃ W, W = ((w.alloc (.cells #[.pointer none] 182)).alloc (.cells #[.bool false, .slice none 0 0] 110)).alloc (.cells #[.bool false, .slice none 0 0] 110) := ⟨_, rfl⟩
  have hWz : W.heap.size = s + 3 := by rw [hW, hs]; simp
  have hbW : Below s w W := by rw [hW, hs]; exact (((Below.refl _ w).alloc (Nat.le_refl _) _).alloc (by simp) _).alloc (by simp; omega) _
  have rs : W.heap[s]? = some (.cells #[.pointer none] 182 (0, 0)) := by rw [hW, hs]; exact keep_row (fbone _) (keep_row (fbone _) (heap_alloc_new _ _))
  have ra : W.heap[s + 1]? = some (.cells #[.bool false, .slice none 0 0] 110 (0, 0)) := by
    have e : (w.alloc (.cells #[.pointer none] 182)).heap.size = s + 1 := by rw [hs]; simp
    rw [hW, ← e]; exact keep_row (fbone _) (heap_alloc_new _ _)
  have rb : W.heap[s + 2]? = some (.cells #[.bool false, .slice none 0 0] 110 (0, 0)) := by
    have e : ((w.alloc (.cells #[.pointer none] 182)).alloc (.cells #[.bool false, .slice none 0 0] 110)).heap.size = s + 2 := by rw [hs]; simp
    rw [hW, ← e]; exact heap_alloc_new _ _
  have rzW := hbW.block z (by omega) |>.trans hz
  have rxW := hbW.block x (by omega) |>.trans hx
  have ryW := hbW.block y (by omega) |>.trans hy
  have hbw : Below w.heap.size w W := by rw [← hs]; exact hbW
  have HA : Hid (∀ w0, Below W.heap.size W w0 → Calls Tryz.prog 122 #[.pointer (some ⟨s + 1, 0, none⟩), .pointer (some ⟨s, 0, none⟩), .pointer (some ⟨x, 0, none⟩), uy] w0 fun e w' => e = .returned (.tuple #[]) ∧ ScP (s + 1) m (X1 * Y2) W w') := Lib.hid (fun w0 h0 => by
    refine (scale_any (s + 1) x m vx uy X1 Y2 _ _ w0 (keep_row h0 ra) (keep_row h0 rxW) rfl rfl (by omega) ((ox1.below hbw).below h0) ((oy2.below hbw).below h0) p2 (by omega) (by omega) ((hK.below hbw).below h0)).mono ?_
    rintro e w' ⟨h1, h2⟩
    exact ⟨h1, h2.pre h0 (by omega)⟩)
  have HB : Hid (∀ w1, ScP (s + 1) m (X1 * Y2) W w1 → ∀ w0, Below w1.heap.size w1 w0 → Calls Tryz.prog 122 #[.pointer (some ⟨s + 2, 0, none⟩), .pointer (some ⟨s, 0, none⟩), .pointer (some ⟨y, 0, none⟩), ux] w0 fun e w' => e = .returned (.tuple #[]) ∧ ScP (s + 2) n (Y1 * X2) w1 w') := Lib.hid (fun w1 hsc w0 h0 => by
    have hz1 := hsc.below.size
    have hw1 : Below w.heap.size w w1 := by rw [← hs]; exact hbW.trans (hsc.below.mono (by omega))
    have g1 := (hsc.only (s + 2) (by omega) (by omega)).trans rb
    have g2 := (hsc.only y (by omega) (by omega)).trans ryW
    refine (scale_any (s + 2) y n vy ux Y1 X2 _ _ w0 (keep_row h0 g1) (keep_row h0 g2) rfl rfl (by omega) ((oy1.below hw1).below h0) ((ox2.below hw1).below h0) p1 (by omega) (by omega) ((hK.below hw1).below h0)).mono ?_
    rintro e w' ⟨h1, h2⟩
    exact ⟨h1, h2.pre h0 (by omega)⟩)
  have HC : Hid (∀ w1, ScP (s + 1) m (X1 * Y2) W w1 → ∀ w2, ScP (s + 2) n (Y1 * X2) w1 w2 → Calls Tryz.prog 123 #[.pointer (some ⟨z, 0, none⟩), .pointer (some ⟨s + 1, 0, none⟩), .pointer (some ⟨s + 2, 0, none⟩)] w2 (fun e w' => e = .returned (.pointer (some ⟨z, 0, none⟩)) ∧ ∃ r1, SmW z s x y B S X2 Y2 sg r1 uz ux uy us w w')) := Lib.hid (fun w1 h1 w2 h2 => by
    obtain ⟨r1, g1, o1, n1⟩ := h1.row
    obtain ⟨r2, g2, o2, n2⟩ := h2.row
    have hz1 := h1.below.size
    have hz2 := h2.below.size
    have g1' := (h2.only (s + 1) (by omega) (by omega)).trans g1
    have o1' : Own w2 W.heap.size 116 r1 (cellsW (wds (X1 * Y2))) := o1.same fun hc => h2.only _ (o1.lt hc).2 (by have := (o1.lt hc).1; omega)
    have hold : ∀ j, j < w.heap.size → w2.heap[j]? = w.heap[j]? := fun j hj => ((h2.only j (by omega) (by omega)).trans (h1.only j (by omega) (by omega))).trans (hbW.block j (by omega))
    have hbw2 : Below w.heap.size w w2 := by rw [← hs]; exact (hbW.trans (h1.below.mono (by omega))).trans (h2.below.mono (by omega))
    have rz2 := (hold z hzl).trans hz
    have nl0 : ∀ {r : Value}, (0 < sCap r ∨ r = .slice none 0 0) → (0 < sCap r → w.heap.size ≤ sBlk r) → Al vz r := fun hn ha hc he => by
      have b := oz.lt hc
      rcases hn with hn | rfl
      · have := ha hn
        omega
      · have e0 : sBlk (.slice none 0 0) = 0 := rfl
        omega
    have ax : Al vz r1 := nl0 n1 (fun h => Nat.le_trans (by omega) (o1'.lt h).1)
    have o2' : Own w2 W.heap.size 116 r2 (cellsW (wds (Y1 * X2))) := o2.mono (by omega)
    have ay : Al vz r2 := nl0 n2 (fun h => Nat.le_trans (by omega) (o2'.lt h).1)
    have ozw := oz.below hbw2
    refine (intAdd_any z 0 (s + 1) 0 (s + 2) 0 m n vz r1 r2 _ zs (X1 * Y2) (Y1 * X2) B _ _ _ _ _ _ w2 rz2 g1' g2 (by decide) rfl rfl rfl rfl rfl rfl ozw (o1'.ro (fun d hd => wds_lt hd)) (o2.ro (fun d hd => wds_lt hd)) ax ay (Nat.le_trans (nw_mul_le _ _) (by omega)) (Nat.le_trans (nw_mul_le _ _) (by omega)) hB).mono ?_
    rintro e w' ⟨he, hi⟩
    obtain ⟨r, i1, i2, i3⟩ := hi.row
    have hsr : w2.heap[s]? = some (.cells #[.pointer none] 182 (0, 0)) := ((h2.only s (by omega) (by omega)).trans (h1.only s (by omega) (by omega))).trans rs
    have ozs : ∀ j, j < w.heap.size → j ≠ z → (0 < sCap vz → j ≠ sBlk vz) → w'.heap[j]? = w.heap[j]? := fun j hj hne hv => (hi.fr j (by omega) hne hv).trans (hold j hj)
    have i1' : w'.heap[z]? = some (.cells #[.bool sg, r, .bool false, uz] 112 (0, 0)) := by rw [hsg]; exact i1
    have hcell : ∀ (q : Nat) (a : Bool) (b c : Value), w.heap[q]? = some (.cells #[.bool a, b, .bool false, c] 112 (0, 0)) → w'.cell? ⟨q, 3, none⟩ = some c := fun q a b c hq => by
      by_cases hqz : q = z
      · subst hqz
        rw [hz] at hq
        injection hq with hq; injection hq with hq
        have : uz = c := by injection hq with hq; injection hq with _ hq; injection hq with _ hq; injection hq with _ hq; injection hq
        rw [← this]
        exact (row_at (i := 3) i1' rfl).1
      · exact (row_at (i := 3) ((ozs q (get_lt hq) hqz (fun hc => oz.neRow hq (by decide) hc)).trans hq) rfl).1
    have hro : ∀ {v : Value} {N : Nat}, RO w v (wds N) → (0 < sCap vz → sBlk v ≠ sBlk vz) → RO w' v (wds N) := fun {v N} hv hd => hv.same fun hl => by
      obtain ⟨c, hc⟩ := hv.row hl
      refine ozs _ (get_lt hc) (fun he => ?_) hd
      rw [he, hz] at hc
      injection hc with hc; injection hc with _ hc
      exact absurd hc (by decide)
    have hbz : Below B w w' := (hbw2.mono (by omega)).trans hi.below
    refine ⟨he, r, i1', ?_, hcell x _ _ _ hx, hcell y _ _ _ hy, by rw [hS]; exact i2, oz2.same fun hc => ozs _ (oz2.lt hc).2 (fun he => oz2.neRow hz (by decide) hc he.symm) (fun a => (sz a hc).symm), fun a b he => ?_, hro ox2 dx, hro oy2 dy, hbz, ?_, hT.belowB hbz dg, hB, by omega, dg, kg, fun k cs hk => ozs k (get_lt hk) (fun he => by rw [he, hz] at hk; injection hk with hk; injection hk with _ hk; exact absurd hk (by decide)) (fun hc => oz.neRow hk (by decide) hc)⟩
    · exact (hi.fr s (by omega) (by omega) (fun hc => by have := (oz.lt hc).2; omega)).trans hsr
    · rcases i3 a with ⟨p, q⟩ | p
      · exact sz p b (q.symm.trans he)
      · have := (oz2.lt b).2; omega
    · unfold KarW; rw [hbz.cell (p := ⟨3, 0, none⟩) kg]; exact hK)
  have HX : Hid (∀ w1, ScP (s + 1) m (X1 * Y2) W w1 → w1.cell? ⟨x, 3, none⟩ = some ux) := Lib.hid (fun w1 h1 => (row_at (i := 3) ((h1.only x (by omega) (by omega)).trans rxW) rfl).1)
  have c3 := (row_at (i := 3) ryW rfl).1
  have HP := Lib.hid (And.intro hm (And.intro p1 (And.intro p2 (And.intro (show nw S < 40 by rw [hS]; exact k5) k6))))
  have hQo : ∀ w', (Ending.outgrown = Ending.returned (.pointer (some ⟨z, 0, none⟩)) ∧ RatP w' B z (sg && decide (0 < S)) (S / Nat.gcd S (X2 * Y2)) (X2 * Y2 / Nat.gcd S (X2 * Y2)) ∧ Below B w w' ∧ FrK w w') → False := fun _ h => by cases h.1
  rw [← hsg, ← hS]
  have HW' := Lib.hid hW
  have HSs := Lib.hid hs
  clear hz oz oz2 sz hx ox1 ox2 hy oy1 oy2 dx dy hm p1 p2 k1 k2 k3 k4 k5 k6 hB hK hT dg kg ra rb rs rzW rxW ryW hbw hbW hWz hxl hyl hzl hS hsg hs hW
  go_enter_defers Tryz.func76, Tryz.ntmps76
  go_wp2_with fail
  refine (getStack_any _).mono ?_
  rintro _ _ ⟨rfl, rfl⟩
  go_upto_region 4 with fail
  rw [← HW'.out]
  simp only [← HSs.out, Nat.add_assoc, Nat.reduceAdd]
  (refine wp_region_noPanic ?_; refine wp_region_hoist 9 (by kernel_rfl) (by kernel_rfl) ⟨fun _ _ _ h => h, fun _ w'' h => hQo w'' h⟩ ?_; simp only [List.take_succ_cons, List.take_zero, List.drop_succ_cons, List.drop_zero]; (repeat (go_big_quiet_step (fail))); refine wpQuiet_nil ?_; rintro _ ⟨nq, rfl⟩)
  go_wp2_with fail
  refine (HA.out _ (undrewN' (Below.refl _ _))).mono ?_
  rintro _ w1 ⟨rfl, hsc⟩
  have HS1 := Lib.hid hsc
  have d3 := HX.out w1 hsc
  clear hsc
  go_wp2_with fail
  refine NoPanic.normal ?_
  go_upto_region 5 with fail
  (refine wp_region_noPanic ?_; refine wp_region_hoist 9 (by kernel_rfl) (by kernel_rfl) ⟨fun _ _ _ h => h, fun _ w'' h => hQo w'' h⟩ ?_; simp only [List.take_succ_cons, List.take_zero, List.drop_succ_cons, List.drop_zero]; (repeat (go_big_quiet_step (fail))); refine wpQuiet_nil ?_; rintro _ ⟨nq, rfl⟩)
  go_wp2_with fail
  refine (HB.out w1 HS1.out _ (undrewN' (Below.refl _ _))).mono ?_
  rintro _ w2 ⟨rfl, hsd⟩
  have HCC := Lib.hid (HC.out w1 HS1.out w2 hsd)
  clear hsd
  go_wp2_with fail
  refine NoPanic.normal ?_
  go_wp2_with fail
  refine HCC.out.mono ?_
  rintro _ w3 ⟨rfl, r1, hsm⟩
  have b1 := (row_at (i := 3) hsm.row rfl).1
  have b2 := hsm.c1
  have b3 := hsm.c2
  have HSM := Lib.hid hsm
  clear hsm c3 d3
  go_upto_region 7 with fail
  (refine wp_region_noPanic ?_; refine wp_region_hoistP [0, 1, 2, 3, 4, 5, 7, 8, 9, 10, 12, 13, 14, 15] [6, 11, 16] [] [17, 18, 19, 20, 21] (by kernel_rfl) (by kernel_rfl) ⟨fun _ _ _ h => h, fun _ w'' h => hQo w'' h⟩ ?_; simp only [pickOps, List.flatMap_cons, List.flatMap_nil, Option.toList_some, List.cons_append, List.nil_append, List.getElem?_toArray, List.getElem?_cons_zero, List.getElem?_cons_succ]; (repeat (go_big_quiet_step (fail))); refine wpQuiet_nil ?_; (repeat (go_big_quiet_step (fail))); refine wpQuiet_nil ?_; rintro _ ⟨nq, rfl⟩; (repeat (go_big_quiet_step (fail))); refine wpQuiet_nil ?_)
  go_wp2_with fail
  refine ((HSM.out.drewN _).den HP.out.1 HP.out.2.1 HP.out.2.2.1 HP.out.2.2.2.1 HP.out.2.2.2.2).mono ?_
  rintro _ w4 ⟨r, rfl, hSr, hrow, hnm⟩
  have HNM := Lib.hid hnm
  obtain ⟨e1, e2⟩ := row_at (i := 3) hrow rfl
  clear hnm hrow
  go_wp2_with fail
  refine NoPanic.normal ?_
  go_wp2_with fail
  refine HNM.out.mono ?_
  rintro _ w5 ⟨rfl, hst, hrt, hbl⟩
  have HQ := Lib.hid (And.intro hrt hbl)
  clear hrt hbl
  go_wp2
  refine leaves_cons (f := 121) (args := #[.pointer (some ⟨s, 0, none⟩)]) (by simp) (by simp [go_sem]) ?_
  refine (free_d s _ _ hst).mono ?_
  rintro e u' w'' ⟨rfl, rfl, rfl⟩
  simp [Leaves, settle, results, Tryz.results76, go_sem]
  exact HQ.out
set_option maxRecDepth 100000 in
set_option maxHeartbeats 3200000 in
theorem ratSub_fk (z x y B : Nat) (nz m n : Bool) (vz uz vx ux vy uy : Value) (zs us : List Value) (X1 X2 Y1 Y2 : Nat) (w : World)
    (hz : w.heap[z]? = some (.cells #[.bool nz, vz, .bool false, uz] 112 (0, 0))) (oz : Own w B 116 vz zs) (oz2 : Own w B 116 uz us) (sz : 0 < sCap vz → 0 < sCap uz → sBlk vz ≠ sBlk uz)
    (hx : w.heap[x]? = some (.cells #[.bool m, vx, .bool false, ux] 112 (0, 0))) (ox1 : RO w vx (wds X1)) (ox2 : RO w ux (wds X2))
    (hy : w.heap[y]? = some (.cells #[.bool n, vy, .bool false, uy] 112 (0, 0))) (oy1 : RO w vy (wds Y1)) (oy2 : RO w uy (wds Y2))
    (dx : 0 < sCap vz → sBlk ux ≠ sBlk vz) (dy : 0 < sCap vz → sBlk uy ≠ sBlk vz) (hm : MdP uz ux uy X2 Y2 B) (p1 : 0 < X2) (p2 : 0 < Y2) (k1 : nw X1 < 40) (k2 : nw X2 < 40) (k3 : nw Y1 < 40) (k4 : nw Y2 < 40)
    (k5 : nw (addM m (X1 * Y2) (!n) (Y1 * X2)) < 40) (k6 : nw (X2 * Y2) < 40) (hB : B ≤ z) (hK : KarW w) (hT : DivW w) (dg : 4 < B) (kg : 3 < B) :
    Calls Tryz.prog 77 #[.pointer (some ⟨z, 0, none⟩), .pointer (some ⟨x, 0, none⟩), .pointer (some ⟨y, 0, none⟩)] w fun e w' => e = .returned (.pointer (some ⟨z, 0, none⟩)) ∧ RatP w' B z ((decide (0 < addM m (X1 * Y2) (!n) (Y1 * X2)) && addN m (X1 * Y2) (!n) (Y1 * X2)) && decide (0 < addM m (X1 * Y2) (!n) (Y1 * X2))) (addM m (X1 * Y2) (!n) (Y1 * X2) / Nat.gcd (addM m (X1 * Y2) (!n) (Y1 * X2)) (X2 * Y2)) (X2 * Y2 / Nat.gcd (addM m (X1 * Y2) (!n) (Y1 * X2)) (X2 * Y2)) ∧ Below B w w' ∧ FrK w w' := by
  have hSx := ox2.rw.isS
  have hSy := oy2.rw.isS
  have hSz2 := oz2.isS
  have hxl : x < w.heap.size := get_lt hx
  have hyl : y < w.heap.size := get_lt hy
  have hzl : z < w.heap.size := get_lt hz
  obtain ⟨S, hS⟩ : ∃ S, S = addM m (X1 * Y2) (!n) (Y1 * X2) := ⟨_, rfl⟩
  obtain ⟨sg, hsg⟩ : ∃ sg, sg = (decide (0 < addM m (X1 * Y2) (!n) (Y1 * X2)) && addN m (X1 * Y2) (!n) (Y1 * X2)) := ⟨_, rfl⟩
  obtain ⟨s, hs⟩ : ∃ s, s = w.heap.size := ⟨_, rfl⟩
  obtain ⟨W, hW⟩ : ∃ W, W = ((w.alloc (.cells #[.pointer none] 182)).alloc (.cells #[.bool false, .slice none 0 0] 110)).alloc (.cells #[.bool false, .slice none 0 0] 110) := ⟨_, rfl⟩
  have hWz : W.heap.size = s + 3 := by rw [hW, hs]; simp
  have hbW : Below s w W := by rw [hW, hs]; exact (((Below.refl _ w).alloc (Nat.le_refl _) _).alloc (by simp) _).alloc (by simp; omega) _
  have rs : W.heap[s]? = some (.cells #[.pointer none] 182 (0, 0)) := by rw [hW, hs]; exact keep_row (fbone _) (keep_row (fbone _) (heap_alloc_new _ _))
  have ra : W.heap[s + 1]? = some (.cells #[.bool false, .slice none 0 0] 110 (0, 0)) := by
    have e : (w.alloc (.cells #[.pointer none] 182)).heap.size = s + 1 := by rw [hs]; simp
    rw [hW, ← e]; exact keep_row (fbone _) (heap_alloc_new _ _)
  have rb : W.heap[s + 2]? = some (.cells #[.bool false, .slice none 0 0] 110 (0, 0)) := by
    have e : ((w.alloc (.cells #[.pointer none] 182)).alloc (.cells #[.bool false, .slice none 0 0] 110)).heap.size = s + 2 := by rw [hs]; simp
    rw [hW, ← e]; exact heap_alloc_new _ _
  have rzW := hbW.block z (by omega) |>.trans hz
  have rxW := hbW.block x (by omega) |>.trans hx
  have ryW := hbW.block y (by omega) |>.trans hy
  have hbw : Below w.heap.size w W := by rw [← hs]; exact hbW
  have HA : Hid (∀ w0, Below W.heap.size W w0 → Calls Tryz.prog 122 #[.pointer (some ⟨s + 1, 0, none⟩), .pointer (some ⟨s, 0, none⟩), .pointer (some ⟨x, 0, none⟩), uy] w0 fun e w' => e = .returned (.tuple #[]) ∧ ScP (s + 1) m (X1 * Y2) W w') := Lib.hid (fun w0 h0 => by
    refine (scale_any (s + 1) x m vx uy X1 Y2 _ _ w0 (keep_row h0 ra) (keep_row h0 rxW) rfl rfl (by omega) ((ox1.below hbw).below h0) ((oy2.below hbw).below h0) p2 (by omega) (by omega) ((hK.below hbw).below h0)).mono ?_
    rintro e w' ⟨h1, h2⟩
    exact ⟨h1, h2.pre h0 (by omega)⟩)
  have HB : Hid (∀ w1, ScP (s + 1) m (X1 * Y2) W w1 → ∀ w0, Below w1.heap.size w1 w0 → Calls Tryz.prog 122 #[.pointer (some ⟨s + 2, 0, none⟩), .pointer (some ⟨s, 0, none⟩), .pointer (some ⟨y, 0, none⟩), ux] w0 fun e w' => e = .returned (.tuple #[]) ∧ ScP (s + 2) n (Y1 * X2) w1 w') := Lib.hid (fun w1 hsc w0 h0 => by
    have hz1 := hsc.below.size
    have hw1 : Below w.heap.size w w1 := by rw [← hs]; exact hbW.trans (hsc.below.mono (by omega))
    have g1 := (hsc.only (s + 2) (by omega) (by omega)).trans rb
    have g2 := (hsc.only y (by omega) (by omega)).trans ryW
    refine (scale_any (s + 2) y n vy ux Y1 X2 _ _ w0 (keep_row h0 g1) (keep_row h0 g2) rfl rfl (by omega) ((oy1.below hw1).below h0) ((ox2.below hw1).below h0) p1 (by omega) (by omega) ((hK.below hw1).below h0)).mono ?_
    rintro e w' ⟨h1, h2⟩
    exact ⟨h1, h2.pre h0 (by omega)⟩)
  have HC : Hid (∀ w1, ScP (s + 1) m (X1 * Y2) W w1 → ∀ w2, ScP (s + 2) n (Y1 * X2) w1 w2 → Calls Tryz.prog 126 #[.pointer (some ⟨z, 0, none⟩), .pointer (some ⟨s + 1, 0, none⟩), .pointer (some ⟨s + 2, 0, none⟩)] w2 (fun e w' => e = .returned (.pointer (some ⟨z, 0, none⟩)) ∧ ∃ r1, SmW z s x y B S X2 Y2 sg r1 uz ux uy us w w')) := Lib.hid (fun w1 h1 w2 h2 => by
    obtain ⟨r1, g1, o1, n1⟩ := h1.row
    obtain ⟨r2, g2, o2, n2⟩ := h2.row
    have hz1 := h1.below.size
    have hz2 := h2.below.size
    have g1' := (h2.only (s + 1) (by omega) (by omega)).trans g1
    have o1' : Own w2 W.heap.size 116 r1 (cellsW (wds (X1 * Y2))) := o1.same fun hc => h2.only _ (o1.lt hc).2 (by have := (o1.lt hc).1; omega)
    have hold : ∀ j, j < w.heap.size → w2.heap[j]? = w.heap[j]? := fun j hj => ((h2.only j (by omega) (by omega)).trans (h1.only j (by omega) (by omega))).trans (hbW.block j (by omega))
    have hbw2 : Below w.heap.size w w2 := by rw [← hs]; exact (hbW.trans (h1.below.mono (by omega))).trans (h2.below.mono (by omega))
    have rz2 := (hold z hzl).trans hz
    have nl0 : ∀ {r : Value}, (0 < sCap r ∨ r = .slice none 0 0) → (0 < sCap r → w.heap.size ≤ sBlk r) → Al vz r := fun hn ha hc he => by
      have b := oz.lt hc
      rcases hn with hn | rfl
      · have := ha hn
        omega
      · have e0 : sBlk (.slice none 0 0) = 0 := rfl
        omega
    have ax : Al vz r1 := nl0 n1 (fun h => Nat.le_trans (by omega) (o1'.lt h).1)
    have o2' : Own w2 W.heap.size 116 r2 (cellsW (wds (Y1 * X2))) := o2.mono (by omega)
    have ay : Al vz r2 := nl0 n2 (fun h => Nat.le_trans (by omega) (o2'.lt h).1)
    have ozw := oz.below hbw2
    refine (intSub_any z 0 (s + 1) 0 (s + 2) 0 m n vz r1 r2 _ zs (X1 * Y2) (Y1 * X2) B _ _ _ _ _ _ w2 rz2 g1' g2 (by decide) rfl rfl rfl rfl rfl rfl ozw (o1'.ro (fun d hd => wds_lt hd)) (o2.ro (fun d hd => wds_lt hd)) ax ay (Nat.le_trans (nw_mul_le _ _) (by omega)) (Nat.le_trans (nw_mul_le _ _) (by omega)) hB).mono ?_
    rintro e w' ⟨he, hi⟩
    obtain ⟨r, i1, i2, i3⟩ := hi.row
    have hsr : w2.heap[s]? = some (.cells #[.pointer none] 182 (0, 0)) := ((h2.only s (by omega) (by omega)).trans (h1.only s (by omega) (by omega))).trans rs
    have ozs : ∀ j, j < w.heap.size → j ≠ z → (0 < sCap vz → j ≠ sBlk vz) → w'.heap[j]? = w.heap[j]? := fun j hj hne hv => (hi.fr j (by omega) hne hv).trans (hold j hj)
    have i1' : w'.heap[z]? = some (.cells #[.bool sg, r, .bool false, uz] 112 (0, 0)) := by rw [hsg]; exact i1
    have hcell : ∀ (q : Nat) (a : Bool) (b c : Value), w.heap[q]? = some (.cells #[.bool a, b, .bool false, c] 112 (0, 0)) → w'.cell? ⟨q, 3, none⟩ = some c := fun q a b c hq => by
      by_cases hqz : q = z
      · subst hqz
        rw [hz] at hq
        injection hq with hq; injection hq with hq
        have : uz = c := by injection hq with hq; injection hq with _ hq; injection hq with _ hq; injection hq with _ hq; injection hq
        rw [← this]
        exact (row_at (i := 3) i1' rfl).1
      · exact (row_at (i := 3) ((ozs q (get_lt hq) hqz (fun hc => oz.neRow hq (by decide) hc)).trans hq) rfl).1
    have hro : ∀ {v : Value} {N : Nat}, RO w v (wds N) → (0 < sCap vz → sBlk v ≠ sBlk vz) → RO w' v (wds N) := fun {v N} hv hd => hv.same fun hl => by
      obtain ⟨c, hc⟩ := hv.row hl
      refine ozs _ (get_lt hc) (fun he => ?_) hd
      rw [he, hz] at hc
      injection hc with hc; injection hc with _ hc
      exact absurd hc (by decide)
    have hbz : Below B w w' := (hbw2.mono (by omega)).trans hi.below
    refine ⟨he, r, i1', ?_, hcell x _ _ _ hx, hcell y _ _ _ hy, by rw [hS]; exact i2, oz2.same fun hc => ozs _ (oz2.lt hc).2 (fun he => oz2.neRow hz (by decide) hc he.symm) (fun a => (sz a hc).symm), fun a b he => ?_, hro ox2 dx, hro oy2 dy, hbz, ?_, hT.belowB hbz dg, hB, by omega, dg, kg, fun k cs hk => ozs k (get_lt hk) (fun he => by rw [he, hz] at hk; injection hk with hk; injection hk with _ hk; exact absurd hk (by decide)) (fun hc => oz.neRow hk (by decide) hc)⟩
    · exact (hi.fr s (by omega) (by omega) (fun hc => by have := (oz.lt hc).2; omega)).trans hsr
    · rcases i3 a with ⟨p, q⟩ | p
      · exact sz p b (q.symm.trans he)
      · have := (oz2.lt b).2; omega
    · unfold KarW; rw [hbz.cell (p := ⟨3, 0, none⟩) kg]; exact hK)
  have HX : Hid (∀ w1, ScP (s + 1) m (X1 * Y2) W w1 → w1.cell? ⟨x, 3, none⟩ = some ux) := Lib.hid (fun w1 h1 => (row_at (i := 3) ((h1.only x (by omega) (by omega)).trans rxW) rfl).1)
  have c3 := (row_at (i := 3) ryW rfl).1
  have HP := Lib.hid (And.intro hm (And.intro p1 (And.intro p2 (And.intro (show nw S < 40 by rw [hS]; exact k5) k6))))
  have hQo : ∀ w', (Ending.outgrown = Ending.returned (.pointer (some ⟨z, 0, none⟩)) ∧ RatP w' B z (sg && decide (0 < S)) (S / Nat.gcd S (X2 * Y2)) (X2 * Y2 / Nat.gcd S (X2 * Y2)) ∧ Below B w w' ∧ FrK w w') → False := fun _ h => by cases h.1
  rw [← hsg, ← hS]
  have HW' := Lib.hid hW
  have HSs := Lib.hid hs
  clear hz oz oz2 sz hx ox1 ox2 hy oy1 oy2 dx dy hm p1 p2 k1 k2 k3 k4 k5 k6 hB hK hT dg kg ra rb rs rzW rxW ryW hbw hbW hWz hxl hyl hzl hS hsg hs hW
  go_enter_defers Tryz.func77, Tryz.ntmps77
  go_wp2_with fail
  refine (getStack_any _).mono ?_
  rintro _ _ ⟨rfl, rfl⟩
  go_upto_region 4 with fail
  rw [← HW'.out]
  simp only [← HSs.out, Nat.add_assoc, Nat.reduceAdd]
  (refine wp_region_noPanic ?_; refine wp_region_hoist 9 (by kernel_rfl) (by kernel_rfl) ⟨fun _ _ _ h => h, fun _ w'' h => hQo w'' h⟩ ?_; simp only [List.take_succ_cons, List.take_zero, List.drop_succ_cons, List.drop_zero]; (repeat (go_big_quiet_step (fail))); refine wpQuiet_nil ?_; rintro _ ⟨nq, rfl⟩)
  go_wp2_with fail
  refine (HA.out _ (undrewN' (Below.refl _ _))).mono ?_
  rintro _ w1 ⟨rfl, hsc⟩
  have HS1 := Lib.hid hsc
  have d3 := HX.out w1 hsc
  clear hsc
  go_wp2_with fail
  refine NoPanic.normal ?_
  go_upto_region 5 with fail
  (refine wp_region_noPanic ?_; refine wp_region_hoist 9 (by kernel_rfl) (by kernel_rfl) ⟨fun _ _ _ h => h, fun _ w'' h => hQo w'' h⟩ ?_; simp only [List.take_succ_cons, List.take_zero, List.drop_succ_cons, List.drop_zero]; (repeat (go_big_quiet_step (fail))); refine wpQuiet_nil ?_; rintro _ ⟨nq, rfl⟩)
  go_wp2_with fail
  refine (HB.out w1 HS1.out _ (undrewN' (Below.refl _ _))).mono ?_
  rintro _ w2 ⟨rfl, hsd⟩
  have HCC := Lib.hid (HC.out w1 HS1.out w2 hsd)
  clear hsd
  go_wp2_with fail
  refine NoPanic.normal ?_
  go_wp2_with fail
  refine HCC.out.mono ?_
  rintro _ w3 ⟨rfl, r1, hsm⟩
  have b1 := (row_at (i := 3) hsm.row rfl).1
  have b2 := hsm.c1
  have b3 := hsm.c2
  have HSM := Lib.hid hsm
  clear hsm c3 d3
  go_upto_region 7 with fail
  (refine wp_region_noPanic ?_; refine wp_region_hoistP [0, 1, 2, 3, 4, 5, 7, 8, 9, 10, 12, 13, 14, 15] [6, 11, 16] [] [17, 18, 19, 20, 21] (by kernel_rfl) (by kernel_rfl) ⟨fun _ _ _ h => h, fun _ w'' h => hQo w'' h⟩ ?_; simp only [pickOps, List.flatMap_cons, List.flatMap_nil, Option.toList_some, List.cons_append, List.nil_append, List.getElem?_toArray, List.getElem?_cons_zero, List.getElem?_cons_succ]; (repeat (go_big_quiet_step (fail))); refine wpQuiet_nil ?_; (repeat (go_big_quiet_step (fail))); refine wpQuiet_nil ?_; rintro _ ⟨nq, rfl⟩; (repeat (go_big_quiet_step (fail))); refine wpQuiet_nil ?_)
  go_wp2_with fail
  refine ((HSM.out.drewN _).den HP.out.1 HP.out.2.1 HP.out.2.2.1 HP.out.2.2.2.1 HP.out.2.2.2.2).mono ?_
  rintro _ w4 ⟨r, rfl, hSr, hrow, hnm⟩
  have HNM := Lib.hid hnm
  obtain ⟨e1, e2⟩ := row_at (i := 3) hrow rfl
  clear hnm hrow
  go_wp2_with fail
  refine NoPanic.normal ?_
  go_wp2_with fail
  refine HNM.out.mono ?_
  rintro _ w5 ⟨rfl, hst, hrt, hbl⟩
  have HQ := Lib.hid (And.intro hrt hbl)
  clear hrt hbl
  go_wp2
  refine leaves_cons (f := 121) (args := #[.pointer (some ⟨s, 0, none⟩)]) (by simp) (by simp [go_sem]) ?_
  refine (free_d s _ _ hst).mono ?_
  rintro e u' w'' ⟨rfl, rfl, rfl⟩
  simp [Leaves, settle, results, Tryz.results77, go_sem]
  exact HQ.out
theorem RatP.setNeg {w : World} {B b n d : Nat} {neg : Bool} (h : RatP w B b neg n d) (x : Bool) : RatP (w.setCell ⟨b, 0, none⟩ (.bool x)) B b x n d := by
  obtain ⟨v1, v2, h1, h2, h3, h4⟩ := h
  exact ⟨v1, v2, h1, rowset (i := 0) (.bool x) h2, h3.away h2 (by decide) 0 _, h4.away h2 (by decide) 0 _⟩
theorem rw_row3 {w : World} {k T : Nat} {a : Bool} {b c x y z v : Value} {ds : List Nat} (hv : RW w v ds) (hb : IsS b) (hc : IsS c) (h : w.heap[k]? = some (.cells #[.bool a, b, c] T (0, 0))) :
    RW (((w.setCell ⟨k, 0, none⟩ x).setCell ⟨k, 1, none⟩ y).setCell ⟨k, 2, none⟩ z) v ds := by
  refine ⟨⟨hv.ri.isS, hv.ri.len, fun i hi => ?_⟩, hv.lt⟩
  have hcell := hv.ri.cell i hi
  have hne : sBlk v ≠ k := by
    intro he
    rw [he, cell_of_row w k _ _ _ _ h] at hcell
    obtain ⟨b1, b2, b3, rfl⟩ := hb.form
    obtain ⟨c1, c2, c3, rfl⟩ := hc.form
    rcases Nat.lt_or_ge (sOff v + i) 3 with h3 | h3
    · rcases (by omega : sOff v + i = 0 ∨ sOff v + i = 1 ∨ sOff v + i = 2) with e | e | e <;> rw [e] at hcell <;> simp at hcell
    · rw [Array.getElem?_eq_none (by simpa using h3)] at hcell; cases hcell
  have hh : (((w.setCell ⟨k, 0, none⟩ x).setCell ⟨k, 1, none⟩ y).setCell ⟨k, 2, none⟩ z).heap[sBlk v]? = w.heap[sBlk v]? := by
    rw [heap_setCell_other _ _ _ _ (by simpa using hne), heap_setCell_other _ _ _ _ (by simpa using hne), heap_setCell_other _ _ _ _ (by simpa using hne)]
  exact (World.cell?_of_block hh).trans hcell
set_option maxRecDepth 100000 in
theorem negated_any (neg : Bool) (a1 a2 : Value) (n : Nat) (w : World) (hS1 : IsS a1) (hS2 : IsS a2) (hL : sLen a1 = nl n) :
    Calls Tryz.prog 12 #[.agg #[.bool neg, a1, a2]] w fun e w' => e = .returned (.agg #[.bool (!neg && decide (0 < n)), a1, a2]) ∧ Below w.heap.size w w' := by
  have hlp := len_pos_iff n
  obtain ⟨l, hl⟩ : ∃ l, l = nl n := ⟨_, rfl⟩
  rw [← hl] at hL hlp
  rw [← hlp]
  have hab := ((Below.refl w.heap.size w).alloc (Nat.le_refl _) (.cells #[.bool neg, a1, a2] 31)).alloc ((Below.refl w.heap.size w).alloc (Nat.le_refl _) (.cells #[.bool neg, a1, a2] 31)).size (.cells #[.bool false, .slice none 0 0, .slice none 0 0] 31)
  obtain ⟨W, hW⟩ : ∃ W, W = (w.alloc (.cells #[.bool neg, a1, a2] 31)).alloc (.cells #[.bool false, .slice none 0 0, .slice none 0 0] 31) := ⟨_, rfl⟩
  have hrow0 : W.heap[w.heap.size]? = some (.cells #[.bool neg, a1, a2] 31 (0, 0)) := by rw [hW]; exact box_row ((Below.refl _ _).alloc (Nat.le_refl _) _)
  have hrow1 : W.heap[w.heap.size + 1]? = some (.cells #[.bool false, .slice none 0 0, .slice none 0 0] 31 (0, 0)) := by
    rw [hW]
    have := box_row (Below.refl _ ((w.alloc (.cells #[.bool neg, a1, a2] 31)).alloc (.cells #[.bool false, .slice none 0 0, .slice none 0 0] 31)))
    simpa using this
  rw [← hW] at hab
  obtain ⟨x0, x1, x2, -, -, -⟩ := row3 hrow0
  obtain ⟨k0, k1, k2, f0, f1, f2⟩ := row3 hrow1
  have HE := Lib.hid (fun x => row3 (row3_set (x := .bool x) (y := a1) (z := a2) hrow1))
  have HB := Lib.hid (fun x => bset3 (a := .bool x) (b := a1) (c := a2) hab (show w.heap.size ≤ w.heap.size + 1 by omega))
  clear hrow0 hrow1 hl hlp
  have hcs : decide (0 < l) = true ∨ decide (0 < l) = false := by cases decide (0 < l) <;> simp
  cases neg <;> rcases hcs with t1 | t1
  all_goals
    rw [t1]
    go_enter Tryz.func12, Tryz.ntmps12
    go_upto_region 1 with fail
    rw [← hW]
    clear hW
    go_wp2
  · obtain ⟨e0, e1, e2, -, -, -⟩ := HE.out true
    refine bodyPost_ret (v := .agg #[.bool true, a1, a2]) ?_ rfl ⟨rfl, HB.out true⟩
    simp [results, Tryz.results12, go_sem, e0, e1, e2]
  all_goals
    obtain ⟨e0, e1, e2, -, -, -⟩ := HE.out false
    refine bodyPost_ret (v := .agg #[.bool false, a1, a2]) ?_ rfl ⟨rfl, HB.out false⟩
    simp [results, Tryz.results12, go_sem, e0, e1, e2]
set_option maxRecDepth 100000 in
set_option maxHeartbeats 3200000 in
theorem ratQuo_fk {nz : Bool} {vz uz : Value} (z x y B : Nat) (m n : Bool) (X1 X2 Y1 Y2 : Nat) (w : World)
    (hz : w.heap[z]? = some (.cells #[.bool nz, vz, .bool false, uz] 112 (0, 0)))
    (hx : RatP w 0 x m X1 X2) (hy : RatP w 0 y n Y1 Y2) (p1 : 0 < X2) (p2 : 0 < Y2) (p3 : 0 < Y1) (k1 : nw X1 < 40) (k2 : nw X2 < 40) (k3 : nw Y1 < 40) (k4 : nw Y2 < 40)
    (k5 : nw (X1 * Y2) < 40) (k6 : nw (Y1 * X2) < 40) (hB : B ≤ z) (hK : KarW w) (hT : DivW w) (dg : 4 < B) :
    Calls Tryz.prog 79 #[.pointer (some ⟨z, 0, none⟩), .pointer (some ⟨x, 0, none⟩), .pointer (some ⟨y, 0, none⟩)] w fun e w' => e = .returned (.pointer (some ⟨z, 0, none⟩)) ∧ RatP w' B z ((m != n) && decide (0 < X1 * Y2)) (X1 * Y2 / Nat.gcd (X1 * Y2) (Y1 * X2)) (Y1 * X2 / Nat.gcd (X1 * Y2) (Y1 * X2)) ∧ Below B w w' ∧ FrK w w' := by
  obtain ⟨vx, ux, -, rx, ox1, ox2⟩ := hx
  obtain ⟨vy, uy, -, ry, oy1, oy2⟩ := hy
  have hSx := ox2.isS
  have hSy := oy2.isS
  have hSy1 := oy1.isS
  have hxl : x < w.heap.size := get_lt rx
  have hyl : y < w.heap.size := get_lt ry
  have hzl : z < w.heap.size := get_lt hz
  obtain ⟨l, hl⟩ : ∃ l, l = nw Y1 := ⟨_, rfl⟩
  have hLy : sLen vy = l := by rw [oy1.len, cellsW_length, wds_length, hl]
  have hl0 : 0 < l := by rw [hl]; exact nw_pos p3
  have t0 : ((l : Int) == 0) = false := by rw [beq_eq_false_iff_ne]; omega
  have t1 : decide (l = 0) = false := decide_eq_false (by omega)
  obtain ⟨s, hs⟩ : ∃ s, s = w.heap.size := ⟨_, rfl⟩
  obtain ⟨W0, hW0⟩ : ∃ W, W = w.alloc (.cells #[.pointer none] 182) := ⟨_, rfl⟩
  obtain ⟨W, hW⟩ : ∃ W, W = (W0.alloc (.cells #[.bool false, .slice none 0 0] 110)).alloc (.cells #[.bool false, .slice none 0 0] 110) := ⟨_, rfl⟩
  have hW0z : W0.heap.size = s + 1 := by rw [hW0, hs]; simp
  have hWz : W.heap.size = s + 3 := by rw [hW]; simp [hW0z]
  have hbW0 : Below s w W0 := by rw [hW0, hs]; exact fbone _
  have hb0 : Below w.heap.size w W0 := by rw [hW0]; exact fbone _
  have hbW : Below s w W := by rw [hW]; exact (hbW0.alloc (by omega) _).alloc (by simp [hW0z]; omega) _
  have rs : W.heap[s]? = some (.cells #[.pointer none] 182 (0, 0)) := by rw [hW]; exact keep_row (fbone _) (keep_row (fbone _) (by rw [hW0, hs]; exact heap_alloc_new _ _))
  have ra : W.heap[s + 1]? = some (.cells #[.bool false, .slice none 0 0] 110 (0, 0)) := by
    rw [hW, ← hW0z]; exact keep_row (fbone _) (heap_alloc_new _ _)
  have rb : W.heap[s + 2]? = some (.cells #[.bool false, .slice none 0 0] 110 (0, 0)) := by
    have e : (W0.alloc (.cells #[.bool false, .slice none 0 0] 110)).heap.size = s + 2 := by simp [hW0z]
    rw [hW, ← e]; exact heap_alloc_new _ _
  have rzW := hbW.block z (by omega) |>.trans hz
  have rxW := hbW.block x (by omega) |>.trans rx
  have ryW := hbW.block y (by omega) |>.trans ry
  have hbw : Below w.heap.size w W := by rw [← hs]; exact hbW
  have HA : Hid (∀ w0, Below W.heap.size W w0 → Calls Tryz.prog 122 #[.pointer (some ⟨s + 1, 0, none⟩), .pointer (some ⟨s, 0, none⟩), .pointer (some ⟨x, 0, none⟩), uy] w0 fun e w' => e = .returned (.tuple #[]) ∧ ScP (s + 1) m (X1 * Y2) W w') := Lib.hid (fun w0 h0 => by
    refine (scale_any (s + 1) x m vx uy X1 Y2 _ _ w0 (keep_row h0 ra) (keep_row h0 rxW) rfl rfl (by omega) (((ox1.ro (fun d hd => wds_lt hd)).below hbw).below h0) (((oy2.ro (fun d hd => wds_lt hd)).below hbw).below h0) p2 (by omega) (by omega) ((hK.below hbw).below h0)).mono ?_
    rintro e w' ⟨h1, h2⟩
    exact ⟨h1, h2.pre h0 (by omega)⟩)
  have HB : Hid (∀ w1, ScP (s + 1) m (X1 * Y2) W w1 → ∀ w0, Below w1.heap.size w1 w0 → Calls Tryz.prog 122 #[.pointer (some ⟨s + 2, 0, none⟩), .pointer (some ⟨s, 0, none⟩), .pointer (some ⟨y, 0, none⟩), ux] w0 fun e w' => e = .returned (.tuple #[]) ∧ ScP (s + 2) n (Y1 * X2) w1 w') := Lib.hid (fun w1 hsc w0 h0 => by
    have hz1 := hsc.below.size
    have hw1 : Below w.heap.size w w1 := by rw [← hs]; exact hbW.trans (hsc.below.mono (by omega))
    have g1 := (hsc.only (s + 2) (by omega) (by omega)).trans rb
    have g2 := (hsc.only y (by omega) (by omega)).trans ryW
    refine (scale_any (s + 2) y n vy ux Y1 X2 _ _ w0 (keep_row h0 g1) (keep_row h0 g2) rfl rfl (by omega) (((oy1.ro (fun d hd => wds_lt hd)).below hw1).below h0) (((ox2.ro (fun d hd => wds_lt hd)).below hw1).below h0) p1 (by omega) (by omega) ((hK.below hw1).below h0)).mono ?_
    rintro e w' ⟨h1, h2⟩
    exact ⟨h1, h2.pre h0 (by omega)⟩)
  have HC : Hid (∀ w1, ScP (s + 1) m (X1 * Y2) W w1 → ∀ w2, ScP (s + 2) n (Y1 * X2) w1 w2 → ∃ r1 r2, IsS r1 ∧ IsS r2 ∧ w2.heap[s + 1]? = some (.cells #[.bool m, r1] 110 (0, 0)) ∧ w2.heap[s + 2]? = some (.cells #[.bool n, r2] 110 (0, 0)) ∧ w2.heap[z]? = some (.cells #[.bool nz, vz, .bool false, uz] 112 (0, 0)) ∧
      Calls Tryz.prog 125 #[.pointer (some ⟨z, 0, none⟩)] (((w2.setCell ⟨z, 1, none⟩ r1).setCell ⟨z, 3, none⟩ r2).setCell ⟨z, 0, none⟩ (.bool (!(m == n)))) fun e w' => e = .returned (.pointer (some ⟨z, 0, none⟩)) ∧ w'.cell? ⟨s, 0, none⟩ = some (.pointer none) ∧ RatP w' B z ((m != n) && decide (0 < X1 * Y2)) (X1 * Y2 / Nat.gcd (X1 * Y2) (Y1 * X2)) (Y1 * X2 / Nat.gcd (X1 * Y2) (Y1 * X2)) ∧ Below B w w' ∧ FrK w w') := Lib.hid (fun w1 h1 w2 h2 => by
    obtain ⟨r1, g1, o1, -⟩ := h1.row
    obtain ⟨r2, g2, o2, -⟩ := h2.row
    have hz1 := h1.below.size
    have hz2 := h2.below.size
    have g1' := (h2.only (s + 1) (by omega) (by omega)).trans g1
    have o1' : Own w2 W.heap.size 116 r1 (cellsW (wds (X1 * Y2))) := o1.same fun hc => h2.only _ (o1.lt hc).2 (by have := (o1.lt hc).1; omega)
    have hbw2 : Below w.heap.size w w2 := by rw [← hs]; exact (hbW.trans (h1.below.mono (by omega))).trans (h2.below.mono (by omega))
    have rz2 : w2.heap[z]? = some (.cells #[.bool nz, vz, .bool false, uz] 112 (0, 0)) := keep_row hbw2 hz
    have rs2 : w2.heap[s]? = some (.cells #[.pointer none] 182 (0, 0)) := ((h2.only s (by omega) (by omega)).trans (h1.only s (by omega) (by omega))).trans rs
    have q1 := rowset (i := 1) r1 rz2
    have q2 := rowset (i := 3) r2 q1
    have q3 := rowset (i := 0) (.bool (!(m == n))) q2
    have oa := (((o1'.mono (show B ≤ W.heap.size by omega)).away rz2 (by decide) 1 r1).away q1 (by decide) 3 r2).away q2 (by decide) 0 (.bool (!(m == n)))
    have ob := (((o2.mono (show B ≤ w1.heap.size by omega)).away rz2 (by decide) 1 r1).away q1 (by decide) 3 r2).away q2 (by decide) 0 (.bool (!(m == n)))
    have hbz : Below B w (((w2.setCell ⟨z, 1, none⟩ r1).setCell ⟨z, 3, none⟩ r2).setCell ⟨z, 0, none⟩ (.bool (!(m == n)))) := bset (bset (bset (hbw2.mono (by omega)) hB) hB) hB
    have rs3 : (((w2.setCell ⟨z, 1, none⟩ r1).setCell ⟨z, 3, none⟩ r2).setCell ⟨z, 0, none⟩ (.bool (!(m == n)))).heap[s]? = some (.cells #[.pointer none] 182 (0, 0)) := by
      rw [heap_setCell_other _ _ _ _ (by simp only; omega), heap_setCell_other _ _ _ _ (by simp only; omega), heap_setCell_other _ _ _ _ (by simp only; omega)]
      exact rs2
    refine ⟨r1, r2, o1.isS, o2.isS, g1', g2, rz2, (norm_full z B (X1 * Y2) (Y1 * X2) _ r1 r2 _ q3 oa ob (fun a b => ?_) (Nat.mul_pos p3 p1) k5 k6 hB (hT.belowB hbz dg) dg).mono ?_⟩
    · have e1 := (o1'.lt a).1
      have e2 := (o1.lt a).2
      have e3 := (o2.lt b).1
      omega
    · rintro e w' ⟨he, hn⟩
      refine ⟨he, ?_, hn.rat, hbz.trans hn.bl, ((((FrK.ofBelow hbw2).set rz2 (by decide)).set q1 (by decide)).set q2 (by decide)).trans (FrK.ofNm q3 oa ob hn.fr)⟩
      have h5 := hn.fr s (get_lt rs3) (by omega) (fun hc => oa.neRow rs3 (by decide) hc) (fun hc => ob.neRow rs3 (by decide) hc)
      exact (row_at (i := 0) (h5.trans rs3) rfl).1)
  have HX : Hid (∀ w1, ScP (s + 1) m (X1 * Y2) W w1 → w1.cell? ⟨x, 3, none⟩ = some ux) := Lib.hid (fun w1 h1 => (row_at (i := 3) ((h1.only x (by omega) (by omega)).trans rxW) rfl).1)
  have c1 : W0.cell? ⟨y, 1, none⟩ = some vy := (row_at (i := 1) (keep_row hb0 ry) rfl).1
  have c3 := (row_at (i := 3) ryW rfl).1
  have hQo : ∀ w', (Ending.outgrown = Ending.returned (.pointer (some ⟨z, 0, none⟩)) ∧ RatP w' B z ((m != n) && decide (0 < X1 * Y2)) (X1 * Y2 / Nat.gcd (X1 * Y2) (Y1 * X2)) (Y1 * X2 / Nat.gcd (X1 * Y2) (Y1 * X2)) ∧ Below B w w' ∧ FrK w w') → False := fun _ h => by cases h.1
  have HW' := Lib.hid hW
  have HW0 := Lib.hid hW0
  have HWZ := Lib.hid hW0z
  have HSs := Lib.hid hs
  clear hz rx ox1 ox2 ry oy1 oy2 p1 p2 p3 k1 k2 k3 k4 k5 k6 hB hK hT dg ra rb rs rzW rxW ryW hbw hbW hWz hxl hyl hzl hs hW hW0 hW0z hbW0 hb0 hl hl0
  go_enter_defers Tryz.func79, Tryz.ntmps79
  go_wp2_with fail
  refine (getStack_any _).mono ?_
  rintro _ _ ⟨rfl, rfl⟩
  rw [← HW0.out, ← HSs.out]
  go_upto_region 6 with fail
  rw [← HW'.out]
  simp only [HWZ.out, Nat.add_assoc, Nat.reduceAdd]
  (refine wp_region_noPanic ?_; refine wp_region_hoist 9 (by kernel_rfl) (by kernel_rfl) ⟨fun _ _ _ h => h, fun _ w'' h => hQo w'' h⟩ ?_; simp only [List.take_succ_cons, List.take_zero, List.drop_succ_cons, List.drop_zero]; (repeat (go_big_quiet_step (fail))); refine wpQuiet_nil ?_; rintro _ ⟨nq, rfl⟩)
  go_wp2_with fail
  refine (HA.out _ (undrewN' (Below.refl _ _))).mono ?_
  rintro _ w1 ⟨rfl, hsc⟩
  have HS1 := Lib.hid hsc
  have d3 := HX.out w1 hsc
  clear hsc
  go_wp2_with fail
  refine NoPanic.normal ?_
  go_upto_region 7 with fail
  (refine wp_region_noPanic ?_; refine wp_region_hoist 9 (by kernel_rfl) (by kernel_rfl) ⟨fun _ _ _ h => h, fun _ w'' h => hQo w'' h⟩ ?_; simp only [List.take_succ_cons, List.take_zero, List.drop_succ_cons, List.drop_zero]; (repeat (go_big_quiet_step (fail))); refine wpQuiet_nil ?_; rintro _ ⟨nq, rfl⟩)
  go_wp2_with fail
  refine (HB.out w1 HS1.out _ (undrewN' (Below.refl _ _))).mono ?_
  rintro _ w2 ⟨rfl, hsd⟩
  obtain ⟨r1, r2, hSr1, hSr2, g1, g2, g3, hcc⟩ := HC.out w1 HS1.out w2 hsd
  have HCC := Lib.hid hcc
  clear hsd hcc c3 d3
  go_wp2_with fail
  refine NoPanic.normal ?_
  have q1 := rowset (i := 1) r1 g3
  have q2 := rowset (i := 3) r2 q1
  have hne1 : s + 1 ≠ z := fun hc => by rw [hc, g3] at g1; injection g1 with g1; injection g1 with _ g1; exact absurd g1 (by decide)
  have hne2 : s + 2 ≠ z := fun hc => by rw [hc, g3] at g2; injection g2 with g2; injection g2 with _ g2; exact absurd g2 (by decide)
  obtain ⟨a0, -⟩ := row_at (i := 0) g1 rfl
  obtain ⟨a1, -⟩ := row_at (i := 1) g1 rfl
  obtain ⟨z1, y1⟩ := row_at (i := 1) g3 rfl
  have b1 : (w2.setCell ⟨z, 1, none⟩ r1).cell? ⟨s + 2, 1, none⟩ = some r2 := (cell_other (by simpa using Ne.symm hne2)).trans (row_at (i := 1) g2 rfl).1
  obtain ⟨z3, y3⟩ := row_at (i := 3) q1 rfl
  have b0 : ((w2.setCell ⟨z, 1, none⟩ r1).setCell ⟨z, 3, none⟩ r2).cell? ⟨s + 2, 0, none⟩ = some (.bool n) := (cell_other (by simpa using Ne.symm hne2)).trans ((cell_other (by simpa using Ne.symm hne2)).trans (row_at (i := 0) g2 rfl).1)
  have b2 : ((w2.setCell ⟨z, 1, none⟩ r1).setCell ⟨z, 3, none⟩ r2).cell? ⟨s + 1, 0, none⟩ = some (.bool m) := (cell_other (by simpa using Ne.symm hne1)).trans ((cell_other (by simpa using Ne.symm hne1)).trans a0)
  obtain ⟨z0, y0⟩ := row_at (i := 0) q2 rfl
  clear g1 g2 g3 q1 q2 hne1 hne2 a0
  go_wp2_with fail
  refine HCC.out.mono ?_
  rintro _ w5 ⟨rfl, hst, hrt, hbl⟩
  have HQ := Lib.hid (And.intro hrt hbl)
  clear hrt hbl
  go_wp2
  refine leaves_cons (f := 121) (args := #[.pointer (some ⟨s, 0, none⟩)]) (by simp) (by simp [go_sem]) ?_
  refine (free_d s _ _ hst).mono ?_
  rintro e u' w'' ⟨rfl, rfl, rfl⟩
  simp [Leaves, settle, results, Tryz.results79, go_sem]
  exact HQ.out
end Go.Proofs.YtllhnjpnkmjopaaGreatDoor
