/-
Texts of this proof, joined: GcE. No condition.
-/
import Derived.Test.YtllhnjpnkmjopaaGreatDoorK13
import Derived.Test.YtllhnjpnkmjopaaGreatDoorK22
namespace Go.Proofs.YtllhnjpnkmjopaaGreatDoor
open Go.RowKit

def addN (m : Bool) (X : Nat) (n : Bool) (Y : Nat) : Bool := if m = n then m else if Y ≤ X then m else !m
def addM (m : Bool) (X : Nat) (n : Bool) (Y : Nat) : Nat := if m = n then X + Y else if Y ≤ X then X - Y else Y - X
structure IntRo (b o : Nat) (cs : Array Value) (T : TypeId) (vz : Value) (neg : Bool) (N B : Nat) (w w' : World) : Prop where
  row : ∃ r, w'.heap[b]? = some (.cells ((cs.setIfInBounds (o + 1) r).setIfInBounds o (.bool neg)) T (0, 0)) ∧ Own w' B 116 r (cellsW (wds N)) ∧ (0 < sCap r → (0 < sCap vz ∧ sBlk r = sBlk vz) ∨ w.heap.size ≤ sBlk r)
  below : Below B w w'
  fr : ∀ k, k < w.heap.size → k ≠ b → (0 < sCap vz → k ≠ sBlk vz) → w'.heap[k]? = w.heap[k]?
theorem IntRo.of {b o : Nat} {cs : Array Value} {T : TypeId} {vz r : Value} {neg : Bool} {N B : Nat} {w w1 : World} (hz : w.heap[b]? = some (.cells cs T (0, 0))) (hT : T ≠ 116) (hb : B ≤ b) (hne : 0 < sCap vz → b ≠ sBlk vz) (h : NatR vz r N B w w1) :
    IntRo b o cs T vz neg N B w ((w1.setCell ⟨b, o + 1, none⟩ r).setCell ⟨b, o, none⟩ (.bool neg)) := by
  have hr1 := h.fr.row hz hne
  have r1 := rowset (i := o + 1) r hr1
  have r2 := rowset (i := o) (.bool neg) r1
  refine ⟨⟨r, r2, (h.own.away hr1 hT (o + 1) r).away r1 hT o (.bool neg), h.at'⟩, bset (bset h.below hb) hb, fun k hk h1 h2 => ?_⟩
  rw [heap_setCell_other _ _ _ _ (by simpa using h1), heap_setCell_other _ _ _ _ (by simpa using h1)]
  exact h.fr k hk h2
set_option maxRecDepth 100000 in
set_option maxHeartbeats 3200000 in
theorem intAdd_any (b o c p d t : Nat) (m n : Bool) (vz vx vy z0 : Value) (zs : List Value) (X Y B : Nat) (cb cc cd : Array Value) (Tb Tc Td : TypeId) (w : World)
    (hb : w.heap[b]? = some (.cells cb Tb (0, 0))) (hc : w.heap[c]? = some (.cells cc Tc (0, 0))) (hd : w.heap[d]? = some (.cells cd Td (0, 0))) (hTb : Tb ≠ 116)
    (b0 : cb[o]? = some z0) (b1 : cb[o + 1]? = some vz) (c0 : cc[p]? = some (.bool m)) (c1 : cc[p + 1]? = some vx) (d0 : cd[t]? = some (.bool n)) (d1 : cd[t + 1]? = some vy)
    (ho : Own w B 116 vz zs) (hx : RO w vx (wds X)) (hy : RO w vy (wds Y)) (ax : Al vz vx) (ay : Al vz vy) (hX : nw X ≤ 1000000) (hY : nw Y ≤ 1000000) (hB : B ≤ b) :
    Calls Tryz.prog 123 #[.pointer (some ⟨b, o, none⟩), .pointer (some ⟨c, p, none⟩), .pointer (some ⟨d, t, none⟩)] w fun e w' => e = .returned (.pointer (some ⟨b, o, none⟩)) ∧ IntRo b o cb Tb vz (decide (0 < addM m X n Y) && addN m X n Y) (addM m X n Y) B w w' := by
  have hSz := ho.isS
  have hSx := hx.rw.isS
  have hSy := hy.rw.isS
  have hbs := get_lt hb
  have hBs : B ≤ w.heap.size := Nat.le_trans hB (Nat.le_of_lt hbs)
  have x0 : w.cell? ⟨c, p, none⟩ = some (.bool m) := (row_at hc c0).1
  have x1 : w.cell? ⟨c, p + 1, none⟩ = some vx := (row_at hc c1).1
  have y0 : w.cell? ⟨d, t, none⟩ = some (.bool n) := (row_at hd d0).1
  have y1 : w.cell? ⟨d, t + 1, none⟩ = some vy := (row_at hd d1).1
  have z1 : w.cell? ⟨b, o + 1, none⟩ = some vz := (row_at hb b1).1
  have hneb : 0 < sCap vz → b ≠ sBlk vz := ho.neRow hb hTb
  have hfin : ∀ (N k : Nat) (r : Value) (w1 : World), NatR vz r N B (w.drewN k) w1 → w1.heap[b]? = some (.cells cb Tb (0, 0)) ∧ IsS r ∧ sLen r = nw N ∧ ∀ q : Bool, IntRo b o cb Tb vz q N B w ((w1.setCell ⟨b, o + 1, none⟩ r).setCell ⟨b, o, none⟩ (.bool q)) := fun N k r w1 h => by
    have h' : NatR vz r N B w w1 := ⟨h.own, undrewN h.below, fun t ht hn => h.fr t ht hn, h.at'⟩
    exact ⟨h'.fr.row hb hneb, h.own.isS, by rw [h.own.len, cellsW_length, wds_length], fun q => .of hb hTb hB hneb h'⟩
  have HADD : Hid (∀ W, (∃ k, W = w.drewN k) → Calls Tryz.prog 158 #[vz, vx, vy] W fun e w1 => ∃ r, e = .returned r ∧ w1.heap[b]? = some (.cells cb Tb (0, 0)) ∧ IsS r ∧ sLen r = nw (X + Y) ∧ ∀ q : Bool, IntRo b o cb Tb vz q (X + Y) B w ((w1.setCell ⟨b, o + 1, none⟩ r).setCell ⟨b, o, none⟩ (.bool q))) := Lib.hid (by
    rintro _ ⟨k, rfl⟩
    refine (nadd_any vz vx vy zs X Y B (w.drewN k) (ho.drewN k) (hx.below (undrewN' (Below.refl _ _))) (hy.below (undrewN' (Below.refl _ _))) ax ay (by omega) (by omega) hBs).mono ?_
    rintro _ w1 ⟨r, rfl, h⟩
    exact ⟨r, rfl, hfin _ k r w1 h⟩)
  have HS1 : Hid (Y ≤ X → ∀ W, (∃ k, W = w.drewN k) → Calls Tryz.prog 160 #[vz, vx, vy] W fun e w1 => ∃ r, e = .returned r ∧ w1.heap[b]? = some (.cells cb Tb (0, 0)) ∧ IsS r ∧ sLen r = nw (X - Y) ∧ ∀ q : Bool, IntRo b o cb Tb vz q (X - Y) B w ((w1.setCell ⟨b, o + 1, none⟩ r).setCell ⟨b, o, none⟩ (.bool q))) := Lib.hid (by
    rintro h _ ⟨k, rfl⟩
    refine (nsub_any vz vx vy zs X Y B (w.drewN k) (ho.drewN k) (hx.below (undrewN' (Below.refl _ _))) (hy.below (undrewN' (Below.refl _ _))) ax ay h (by omega) hBs).mono ?_
    rintro _ w1 ⟨r, rfl, h⟩
    exact ⟨r, rfl, hfin _ k r w1 h⟩)
  have HS2 : Hid (X ≤ Y → ∀ W, (∃ k, W = w.drewN k) → Calls Tryz.prog 160 #[vz, vy, vx] W fun e w1 => ∃ r, e = .returned r ∧ w1.heap[b]? = some (.cells cb Tb (0, 0)) ∧ IsS r ∧ sLen r = nw (Y - X) ∧ ∀ q : Bool, IntRo b o cb Tb vz q (Y - X) B w ((w1.setCell ⟨b, o + 1, none⟩ r).setCell ⟨b, o, none⟩ (.bool q))) := Lib.hid (by
    rintro h _ ⟨k, rfl⟩
    refine (nsub_any vz vy vx zs Y X B (w.drewN k) (ho.drewN k) (hy.below (undrewN' (Below.refl _ _))) (hx.below (undrewN' (Below.refl _ _))) ay ax h (by omega) hBs).mono ?_
    rintro _ w1 ⟨r, rfl, h⟩
    exact ⟨r, rfl, hfin _ k r w1 h⟩)
  obtain ⟨C, hC⟩ : ∃ C, C = cmpN X Y := ⟨_, rfl⟩
  have HCM : Hid (∀ W, (∃ k, W = w.drewN k) → Calls Tryz.prog 159 #[vx, vy] W fun e w' => e = .returned (.int .i64 C) ∧ ∃ k, w' = w.drewN k) := Lib.hid (by
    rintro _ ⟨k, rfl⟩
    rw [hC]
    refine (cmp_any vx vy X Y (w.drewN k) (hx.rw.drewN k) (hy.rw.drewN k) (by omega) (by omega)).mono ?_
    rintro _ _ ⟨rfl, n, rfl⟩
    exact ⟨rfl, _, World.drewN_drewN _ _ _⟩)
  have HB0 := Lib.hid b0
  have HB1 := Lib.hid b1
  by_cases hmn : m = n
  · subst hmn
    have e1 : addM m X m Y = X + Y := if_pos rfl
    have e2 : addN m X m Y = m := if_pos rfl
    rw [e1, e2]
    obtain ⟨N, hN⟩ : ∃ N, N = X + Y := ⟨_, rfl⟩
    rw [← hN] at HADD ⊢
    clear hb hc hd b0 b1 c0 c1 d0 d1 ho hx hy ax ay hX hY hB hbs hBs hneb hfin e1 e2 hC hN HS1 HS2
    go_enter Tryz.func123, Tryz.ntmps123
    go_wp2_with fail
    go_quiet (fail)
    go_wp2_with fail
    (refine wp_region_hoist 13 (by kernel_rfl) (by kernel_rfl) ⟨fun _ _ _ h => (by first | exact (hQp _ _ _ h).elim | cases h.2.1 | (obtain ⟨_, h3, _⟩ := h.2; cases h3)), fun _ _ h => (by first | exact (hQo _ _ h).elim | cases h.1 | (obtain ⟨_, h3, _⟩ := h; cases h3))⟩ ?_; simp only [List.take_succ_cons, List.take_zero, List.drop_succ_cons, List.drop_zero]; (repeat (go_big_quiet_step (fail))); refine wpQuiet_nil ?_; rintro _ ⟨nq, rfl⟩)
    go_wp2_with fail
    refine (HADD.out _ (by first | exact ⟨_, rfl⟩ | exact ⟨_, World.drewN_drewN _ _ _⟩)).mono ?_
    rintro _ w1 ⟨r, rfl, g1, hSr, hLr, hQ⟩
    obtain ⟨a0, f0⟩ : w1.cell? ⟨b, o, none⟩ = some z0 ∧ w1.frozen? ⟨b, o, none⟩ = false := ⟨(row_at g1 HB0.out).1, (row_at g1 HB0.out).2⟩
    obtain ⟨a1, f1⟩ : w1.cell? ⟨b, o + 1, none⟩ = some vz ∧ w1.frozen? ⟨b, o + 1, none⟩ = false := ⟨(row_at g1 HB1.out).1, (row_at g1 HB1.out).2⟩
    rcases Nat.eq_zero_or_pos N with h0 | h0
    · have hl0 : sLen r = 0 := by rw [hLr, h0]; rfl
      have Q : Hid (IntRo b o cb Tb vz (decide (0 < N) && m) N B w ((w1.setCell ⟨b, o + 1, none⟩ r).setCell ⟨b, o, none⟩ (.bool false))) := Lib.hid (by rw [show (decide (0 < N) && m) = false by rw [h0]; simp]; exact hQ false)
      clear g1 hLr hQ h0
      go_wp2
      go_ret
      exact ⟨rfl, Q.out⟩
    · obtain ⟨l, hl⟩ : ∃ l, l = nw N := ⟨_, rfl⟩
      have hlp : 0 < l := by rw [hl]; exact nw_pos h0
      rw [← hl] at hLr
      have tl : decide ((l : Int) > 0) = true := decide_eq_true (by omega)
      have tl' : decide (0 < l) = true := decide_eq_true hlp
      have Q : Hid (IntRo b o cb Tb vz (decide (0 < N) && m) N B w ((w1.setCell ⟨b, o + 1, none⟩ r).setCell ⟨b, o, none⟩ (.bool (m)))) := Lib.hid (by rw [show (decide (0 < N) && m) = (m) by rw [decide_eq_true h0]; simp]; exact hQ _)
      clear g1 hQ h0 hl
      go_wp2
      go_ret
      exact ⟨rfl, Q.out⟩
  · have tmn : (m == n) = false := by rw [beq_eq_false_iff_ne]; exact hmn
    have tmn' : ¬ m = n := hmn
    by_cases hle : Y ≤ X
    · have e1 : addM m X n Y = X - Y := by unfold addM; rw [if_neg hmn, if_pos hle]
      have e2 : addN m X n Y = m := by unfold addN; rw [if_neg hmn, if_pos hle]
      have tC : decide (C ≥ 0) = true := by
        rw [hC]; unfold cmpN; rw [if_neg (by omega)]; split <;> rfl
      have tC' : decide (0 ≤ C) = true := tC
      have HSB := Lib.hid (HS1.out hle)
      rw [e1, e2]
      obtain ⟨N, hN⟩ : ∃ N, N = X - Y := ⟨_, rfl⟩
      rw [← hN] at HSB ⊢
      clear hb hc hd b0 b1 c0 c1 d0 d1 ho hx hy ax ay hX hY hB hbs hBs hneb hfin e1 e2 hC hle HS1 HS2 hmn hN
      go_enter Tryz.func123, Tryz.ntmps123
      go_wp2_with fail
      go_quiet (fail)
      go_wp2_with fail
      (refine wp_region_hoist 8 (by kernel_rfl) (by kernel_rfl) ⟨fun _ _ _ h => (by first | exact (hQp _ _ _ h).elim | cases h.2.1 | (obtain ⟨_, h3, _⟩ := h.2; cases h3)), fun _ _ h => (by first | exact (hQo _ _ h).elim | cases h.1 | (obtain ⟨_, h3, _⟩ := h; cases h3))⟩ ?_; simp only [List.take_succ_cons, List.take_zero, List.drop_succ_cons, List.drop_zero]; (repeat (go_big_quiet_step (fail))); refine wpQuiet_nil ?_; rintro _ ⟨nq, rfl⟩)
      go_wp2_with fail
      refine (HCM.out _ (by first | exact ⟨_, rfl⟩ | exact ⟨_, World.drewN_drewN _ _ _⟩)).mono ?_
      rintro _ _ ⟨rfl, k2, rfl⟩
      go_wp2_with fail
      (refine wp_region_hoist 13 (by kernel_rfl) (by kernel_rfl) ⟨fun _ _ _ h => (by first | exact (hQp _ _ _ h).elim | cases h.2.1 | (obtain ⟨_, h3, _⟩ := h.2; cases h3)), fun _ _ h => (by first | exact (hQo _ _ h).elim | cases h.1 | (obtain ⟨_, h3, _⟩ := h; cases h3))⟩ ?_; simp only [List.take_succ_cons, List.take_zero, List.drop_succ_cons, List.drop_zero]; (repeat (go_big_quiet_step (fail))); refine wpQuiet_nil ?_; rintro _ ⟨nq, rfl⟩)
      go_wp2_with fail
      refine (HSB.out _ (by first | exact ⟨_, rfl⟩ | exact ⟨_, World.drewN_drewN _ _ _⟩)).mono ?_
      rintro _ w1 ⟨r, rfl, g1, hSr, hLr, hQ⟩
      obtain ⟨a0, f0⟩ : w1.cell? ⟨b, o, none⟩ = some z0 ∧ w1.frozen? ⟨b, o, none⟩ = false := ⟨(row_at g1 HB0.out).1, (row_at g1 HB0.out).2⟩
      obtain ⟨a1, f1⟩ : w1.cell? ⟨b, o + 1, none⟩ = some vz ∧ w1.frozen? ⟨b, o + 1, none⟩ = false := ⟨(row_at g1 HB1.out).1, (row_at g1 HB1.out).2⟩
      rcases Nat.eq_zero_or_pos N with h0 | h0
      · have hl0 : sLen r = 0 := by rw [hLr, h0]; rfl
        have Q : Hid (IntRo b o cb Tb vz (decide (0 < N) && m) N B w ((w1.setCell ⟨b, o + 1, none⟩ r).setCell ⟨b, o, none⟩ (.bool false))) := Lib.hid (by rw [show (decide (0 < N) && m) = false by rw [h0]; simp]; exact hQ false)
        clear g1 hLr hQ h0
        go_wp2
        go_ret
        exact ⟨rfl, Q.out⟩
      · obtain ⟨l, hl⟩ : ∃ l, l = nw N := ⟨_, rfl⟩
        have hlp : 0 < l := by rw [hl]; exact nw_pos h0
        rw [← hl] at hLr
        have tl : decide ((l : Int) > 0) = true := decide_eq_true (by omega)
        have tl' : decide (0 < l) = true := decide_eq_true hlp
        have Q : Hid (IntRo b o cb Tb vz (decide (0 < N) && m) N B w ((w1.setCell ⟨b, o + 1, none⟩ r).setCell ⟨b, o, none⟩ (.bool (m)))) := Lib.hid (by rw [show (decide (0 < N) && m) = (m) by rw [decide_eq_true h0]; simp]; exact hQ _)
        clear g1 hQ h0 hl
        go_wp2
        go_ret
        exact ⟨rfl, Q.out⟩
    · have e1 : addM m X n Y = Y - X := by unfold addM; rw [if_neg hmn, if_neg hle]
      have e2 : addN m X n Y = !m := by unfold addN; rw [if_neg hmn, if_neg hle]
      have tC : decide (C ≥ 0) = false := by
        rw [hC]; unfold cmpN; rw [if_pos (by omega)]; rfl
      have tC' : decide (0 ≤ C) = false := tC
      have HSB := Lib.hid (HS2.out (by omega))
      rw [e1, e2]
      obtain ⟨N, hN⟩ : ∃ N, N = Y - X := ⟨_, rfl⟩
      rw [← hN] at HSB ⊢
      clear hb hc hd b0 b1 c0 c1 d0 d1 ho hx hy ax ay hX hY hB hbs hBs hneb hfin e1 e2 hC hle HS1 HS2 hmn hN
      go_enter Tryz.func123, Tryz.ntmps123
      go_wp2_with fail
      go_quiet (fail)
      go_wp2_with fail
      (refine wp_region_hoist 8 (by kernel_rfl) (by kernel_rfl) ⟨fun _ _ _ h => (by first | exact (hQp _ _ _ h).elim | cases h.2.1 | (obtain ⟨_, h3, _⟩ := h.2; cases h3)), fun _ _ h => (by first | exact (hQo _ _ h).elim | cases h.1 | (obtain ⟨_, h3, _⟩ := h; cases h3))⟩ ?_; simp only [List.take_succ_cons, List.take_zero, List.drop_succ_cons, List.drop_zero]; (repeat (go_big_quiet_step (fail))); refine wpQuiet_nil ?_; rintro _ ⟨nq, rfl⟩)
      go_wp2_with fail
      refine (HCM.out _ (by first | exact ⟨_, rfl⟩ | exact ⟨_, World.drewN_drewN _ _ _⟩)).mono ?_
      rintro _ _ ⟨rfl, k2, rfl⟩
      go_wp2_with fail
      (refine wp_region_hoist 13 (by kernel_rfl) (by kernel_rfl) ⟨fun _ _ _ h => (by first | exact (hQp _ _ _ h).elim | cases h.2.1 | (obtain ⟨_, h3, _⟩ := h.2; cases h3)), fun _ _ h => (by first | exact (hQo _ _ h).elim | cases h.1 | (obtain ⟨_, h3, _⟩ := h; cases h3))⟩ ?_; simp only [List.take_succ_cons, List.take_zero, List.drop_succ_cons, List.drop_zero]; (repeat (go_big_quiet_step (fail))); refine wpQuiet_nil ?_; rintro _ ⟨nq, rfl⟩)
      go_wp2_with fail
      refine (HSB.out _ (by first | exact ⟨_, rfl⟩ | exact ⟨_, World.drewN_drewN _ _ _⟩)).mono ?_
      rintro _ w1 ⟨r, rfl, g1, hSr, hLr, hQ⟩
      obtain ⟨a0, f0⟩ : w1.cell? ⟨b, o, none⟩ = some z0 ∧ w1.frozen? ⟨b, o, none⟩ = false := ⟨(row_at g1 HB0.out).1, (row_at g1 HB0.out).2⟩
      obtain ⟨a1, f1⟩ : w1.cell? ⟨b, o + 1, none⟩ = some vz ∧ w1.frozen? ⟨b, o + 1, none⟩ = false := ⟨(row_at g1 HB1.out).1, (row_at g1 HB1.out).2⟩
      rcases Nat.eq_zero_or_pos N with h0 | h0
      · have hl0 : sLen r = 0 := by rw [hLr, h0]; rfl
        have Q : Hid (IntRo b o cb Tb vz (decide (0 < N) && !m) N B w ((w1.setCell ⟨b, o + 1, none⟩ r).setCell ⟨b, o, none⟩ (.bool false))) := Lib.hid (by rw [show (decide (0 < N) && !m) = false by rw [h0]; simp]; exact hQ false)
        clear g1 hLr hQ h0
        go_wp2
        go_ret
        exact ⟨rfl, Q.out⟩
      · obtain ⟨l, hl⟩ : ∃ l, l = nw N := ⟨_, rfl⟩
        have hlp : 0 < l := by rw [hl]; exact nw_pos h0
        rw [← hl] at hLr
        have tl : decide ((l : Int) > 0) = true := decide_eq_true (by omega)
        have tl' : decide (0 < l) = true := decide_eq_true hlp
        have Q : Hid (IntRo b o cb Tb vz (decide (0 < N) && !m) N B w ((w1.setCell ⟨b, o + 1, none⟩ r).setCell ⟨b, o, none⟩ (.bool (!m)))) := Lib.hid (by rw [show (decide (0 < N) && !m) = (!m) by rw [decide_eq_true h0]; simp]; exact hQ _)
        clear g1 hQ h0 hl
        go_wp2
        go_ret
        exact ⟨rfl, Q.out⟩
end Go.Proofs.YtllhnjpnkmjopaaGreatDoor
