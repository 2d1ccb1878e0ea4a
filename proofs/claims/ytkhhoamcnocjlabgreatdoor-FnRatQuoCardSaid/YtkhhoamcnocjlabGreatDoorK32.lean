/-
Texts of this proof, joined: RmA RmC RmB TmA. No condition.
-/
import Derived.Test.YtkhhoamcnocjlabGreatDoorK06
import Derived.Test.YtkhhoamcnocjlabGreatDoorK11
import Derived.Test.YtkhhoamcnocjlabGreatDoorK17
import Derived.Test.YtkhhoamcnocjlabGreatDoorK18
import Derived.Test.YtkhhoamcnocjlabGreatDoorK30
/-
Int.mul of two boxes into a third; Rat.Mul of two fractions in boxes of their own. No condition but the thresholds.
-/
namespace Go.Proofs.YtkhhoamcnocjlabGreatDoor
open Go.RowKit

/-- What nat.mul does with a receiver and two factors. -/
def MlP (z x y : Value) (X Y B : Nat) : Prop := ∀ (pk : Option Addr) (zs : List Value) (w : World), Own w B 120 z zs → RO w x (wds X) → RO w y (wds Y) → B ≤ w.heap.size → KarW w →
  Calls Tryz.prog 109 #[z, .pointer pk, x, y] w fun e w' => ∃ r, e = .returned r ∧ NatR z r (X * Y) B w w'
theorem mlP_nil (x y : Value) (X Y B : Nat) (hk : nw X < 40 ∨ nw Y < 40) (hl : nw X ≤ 100000000) (hl2 : nw Y ≤ 100000000) : MlP (.slice none 0 0) x y X Y B := by
  intro pk zs w _ hx hy hB hK
  refine (nmul_any (pk := pk) x y X Y w hx hy hk hl hl2 hK).mono ?_
  rintro e w' ⟨r, he, ho, hb⟩
  exact ⟨r, he, ho.mono hB, hb.mono hB, Fr.ofBelow hb, fun hc => .inr (ho.lt hc).1⟩
set_option maxRecDepth 100000 in
set_option maxHeartbeats 3200000 in
theorem intMul_any {pk : Option Addr} (b o c p d t : Nat) (m n : Bool) (vz vx vy z0 : Value) (zs : List Value) (X Y B : Nat) (cb cc cd : Array Value) (Tb Tc Td : TypeId) (w : World)
    (hb : w.heap[b]? = some (.cells cb Tb (0, 0))) (hc : w.heap[c]? = some (.cells cc Tc (0, 0))) (hd : w.heap[d]? = some (.cells cd Td (0, 0))) (hTb : Tb ≠ 120) (hTc : Tc ≠ 120) (hTd : Td ≠ 120)
    (b0 : cb[o]? = some z0) (b1 : cb[o + 1]? = some vz) (c0 : cc[p]? = some (.bool m)) (c1 : cc[p + 1]? = some vx) (d0 : cd[t]? = some (.bool n)) (d1 : cd[t + 1]? = some vy)
    (hcd : c ≠ d) (hp : p ≠ o + 1) (ht : t ≠ o + 1) (ho : Own w B 120 vz zs) (hx : RO w vx (wds X)) (hy : RO w vy (wds Y)) (hm : MlP vz vx vy X Y B) (hB : B ≤ b) (hK : KarW w) :
    Calls Tryz.prog 85 #[.pointer (some ⟨b, o, none⟩), .pointer pk, .pointer (some ⟨c, p, none⟩), .pointer (some ⟨d, t, none⟩)] w fun e w' => e = .returned (.tuple #[]) ∧ IntRo b o cb Tb vz (decide (0 < X * Y) && (m != n)) (X * Y) B w w' := by
  have hSz := ho.isS
  have hSx := hx.rw.isS
  have hSy := hy.rw.isS
  have hbs := get_lt hb
  have hBs : B ≤ w.heap.size := Nat.le_trans hB (Nat.le_of_lt hbs)
  have heq := eqlI w (o := p) (q := t) hcd hc hd
  have x1 : w.cell? ⟨c, p + 1, none⟩ = some vx := (row_at hc c1).1
  have y1 : w.cell? ⟨d, t + 1, none⟩ = some vy := (row_at hd d1).1
  have z1 : w.cell? ⟨b, o + 1, none⟩ = some vz := (row_at hb b1).1
  have hneb : 0 < sCap vz → b ≠ sBlk vz := ho.neRow hb hTb
  obtain ⟨N, hN⟩ : ∃ N, N = X * Y := ⟨_, rfl⟩
  have HM : Hid (∀ k, Calls Tryz.prog 109 #[vz, .pointer pk, vx, vy] (w.drewN k) fun e w1 => ∃ r, e = .returned r ∧ IsS r ∧ sLen r = nw N ∧ (w1.cell? ⟨b, o + 1, none⟩ = some vz ∧ w1.frozen? ⟨b, o + 1, none⟩ = false) ∧
      ((w1.setCell ⟨b, o + 1, none⟩ r).cell? ⟨b, o, none⟩ = some z0 ∧ (w1.setCell ⟨b, o + 1, none⟩ r).frozen? ⟨b, o, none⟩ = false) ∧ (w1.setCell ⟨b, o + 1, none⟩ r).cell? ⟨b, o + 1, none⟩ = some r ∧ (w1.setCell ⟨b, o + 1, none⟩ r).cell? ⟨c, p, none⟩ = some (.bool m) ∧ (w1.setCell ⟨b, o + 1, none⟩ r).cell? ⟨d, t, none⟩ = some (.bool n) ∧
      ∀ (q : Bool) (j : Nat), IntRo b o cb Tb vz q N B w (((w1.setCell ⟨b, o + 1, none⟩ r).drewN j).setCell ⟨b, o, none⟩ (.bool q))) := Lib.hid (fun k => by
    refine (hm pk zs (w.drewN k) (ho.drewN k) (hx.below (undrewN' (Below.refl _ _))) (hy.below (undrewN' (Below.refl _ _))) hBs (hK.drewN k)).mono ?_
    rintro e w1 ⟨r, he, h⟩
    have h' : NatR vz r N B w w1 := by rw [hN]; exact ⟨h.own, undrewN h.below, fun t ht hn => h.fr t ht hn, h.at'⟩
    have rb := h'.fr.row hb hneb
    have rc := h'.fr.row hc (fun hz => ho.neRow hc hTc hz)
    have rd := h'.fr.row hd (fun hz => ho.neRow hd hTd hz)
    have rs := rowset (i := o + 1) r rb
    have lt1 : o + 1 < cb.size := (Array.getElem?_eq_some_iff.1 b1).1
    have oth : ∀ (e i : Nat) (ce : Array Value) (Te : TypeId) (u : Value), w1.heap[e]? = some (.cells ce Te (0, 0)) → ce[i]? = some u → i ≠ o + 1 → (w1.setCell ⟨b, o + 1, none⟩ r).cell? ⟨e, i, none⟩ = some u := fun e i ce Te u he hu hi => by
      by_cases heb : e = b
      · subst heb
        rw [rb] at he
        injection he with he; injection he with he _ _
        rw [cell_of_row _ e i _ _ _ rs, Array.getElem?_setIfInBounds, if_neg (Ne.symm hi), he]
        exact hu
      · exact (cell_other (by simpa using (Ne.symm heb))).trans ((cell_of_row _ e i _ _ _ he).trans hu)
    refine ⟨r, he, h'.own.isS, by rw [h'.own.len, cellsW_length, wds_length], row_at rb b1, ⟨oth b o cb Tb z0 rb b0 (by omega), frozen_of_row _ b o _ _ rs⟩, ?_, oth c p cc Tc _ rc c0 hp, oth d t cd Td _ rd d0 ht, fun q j => ?_⟩
    · rw [cell_of_row _ b (o + 1) _ _ _ rs, Array.getElem?_setIfInBounds, if_pos rfl, if_pos lt1]
    · have hi := IntRo.of (o := o) (neg := q) hb hTb hB hneb h'
      have e : ((w1.setCell ⟨b, o + 1, none⟩ r).drewN j).setCell ⟨b, o, none⟩ (.bool q) = ((w1.setCell ⟨b, o + 1, none⟩ r).setCell ⟨b, o, none⟩ (.bool q)).drewN j := rfl
      rw [e]
      obtain ⟨r0, i1, i2, i3⟩ := hi.row
      exact ⟨⟨r0, i1, i2.drewN j, i3⟩, undrewN' hi.below, hi.fr⟩)
  rw [← hN]
  rcases Nat.eq_zero_or_pos N with h0 | h0
  · have e1 : (decide (0 < N) && (m != n)) = false := by rw [h0]; rfl
    rw [e1]
    have hl0 : nw N = 0 := by rw [h0]; rfl
    rw [hl0] at HM
    clear hb hc hd b0 b1 c0 c1 d0 d1 ho hx hy hm hK hB hbs hBs hneb hN h0 hl0 e1
    go_enter Tryz.func85, Tryz.ntmps85
    go_upto_region 3 with fail
    (refine wp_region_hoist 14 (by kernel_rfl) (by kernel_rfl) ⟨fun _ _ _ h => (by first | exact (hQp _ _ _ h).elim | cases h.2.1 | (obtain ⟨_, h3, _⟩ := h.2; cases h3)), fun _ _ h => (by first | exact (hQo _ _ h).elim | cases h.1 | (obtain ⟨_, h3, _⟩ := h; cases h3))⟩ ?_; simp only [List.take_succ_cons, List.take_zero, List.drop_succ_cons, List.drop_zero]; (repeat (go_big_quiet_step (fail))); refine wpQuiet_nil ?_; rintro _ ⟨nq, rfl⟩)
    go_wp2_with fail
    refine (HM.out _).mono ?_
    rintro _ w1 ⟨r, rfl, hSr, hLr, ⟨a1, f1⟩, ⟨a0, f0⟩, a2, a3, a4, hQ⟩
    have HQ := Lib.hid hQ
    clear hQ
    go_wp2_with fail
    obtain ⟨w2, hw2⟩ : ∃ w2, w2 = w1.setCell ⟨b, o + 1, none⟩ r := ⟨_, rfl⟩
    rw [← hw2] at a0 f0 a2 a3 a4 HQ ⊢
    clear hw2 a1 f1
    (refine wp_region_hoist 20 (by kernel_rfl) (by kernel_rfl) ⟨fun _ _ _ h => (by first | exact (hQp _ _ _ h).elim | cases h.2.1 | (obtain ⟨_, h3, _⟩ := h.2; cases h3)), fun _ _ h => (by first | exact (hQo _ _ h).elim | cases h.1 | (obtain ⟨_, h3, _⟩ := h; cases h3))⟩ ?_; simp only [List.take_succ_cons, List.take_zero, List.drop_succ_cons, List.drop_zero]; (repeat (go_big_quiet_step (fail))); refine wpQuiet_nil ?_; rintro _ ⟨nq, rfl⟩)
    go_wp2
    go_end0
    exact ⟨rfl, HQ.out false _⟩
  · obtain ⟨l, hl⟩ : ∃ l, l = nw N := ⟨_, rfl⟩
    have hlp : 0 < l := by rw [hl]; exact nw_pos h0
    rw [← hl] at HM
    have tl : decide ((l : Int) > 0) = true := decide_eq_true (by omega)
    have tl' : decide (0 < l) = true := decide_eq_true hlp
    have e1 : (decide (0 < N) && (m != n)) = (m != n) := by rw [decide_eq_true h0]; rfl
    rw [e1]
    clear hb hc hd b0 b1 c0 c1 d0 d1 ho hx hy hm hK hB hbs hBs hneb hN h0 hl e1
    go_enter Tryz.func85, Tryz.ntmps85
    go_upto_region 3 with fail
    (refine wp_region_hoist 14 (by kernel_rfl) (by kernel_rfl) ⟨fun _ _ _ h => (by first | exact (hQp _ _ _ h).elim | cases h.2.1 | (obtain ⟨_, h3, _⟩ := h.2; cases h3)), fun _ _ h => (by first | exact (hQo _ _ h).elim | cases h.1 | (obtain ⟨_, h3, _⟩ := h; cases h3))⟩ ?_; simp only [List.take_succ_cons, List.take_zero, List.drop_succ_cons, List.drop_zero]; (repeat (go_big_quiet_step (fail))); refine wpQuiet_nil ?_; rintro _ ⟨nq, rfl⟩)
    go_wp2_with fail
    refine (HM.out _).mono ?_
    rintro _ w1 ⟨r, rfl, hSr, hLr, ⟨a1, f1⟩, ⟨a0, f0⟩, a2, a3, a4, hQ⟩
    have HQ := Lib.hid hQ
    clear hQ
    go_wp2_with fail
    obtain ⟨w2, hw2⟩ : ∃ w2, w2 = w1.setCell ⟨b, o + 1, none⟩ r := ⟨_, rfl⟩
    rw [← hw2] at a0 f0 a2 a3 a4 HQ ⊢
    clear hw2 a1 f1
    (refine wp_region_hoist 20 (by kernel_rfl) (by kernel_rfl) ⟨fun _ _ _ h => (by first | exact (hQp _ _ _ h).elim | cases h.2.1 | (obtain ⟨_, h3, _⟩ := h.2; cases h3)), fun _ _ h => (by first | exact (hQo _ _ h).elim | cases h.1 | (obtain ⟨_, h3, _⟩ := h; cases h3))⟩ ?_; simp only [List.take_succ_cons, List.take_zero, List.drop_succ_cons, List.drop_zero]; (repeat (go_big_quiet_step (fail))); refine wpQuiet_nil ?_; rintro _ ⟨nq, rfl⟩)
    go_wp2
    go_end0
    exact ⟨rfl, HQ.out _ _⟩
end Go.Proofs.YtkhhoamcnocjlabGreatDoor

/-
Rat.Mul of two fractions in boxes of their own. No condition but the thresholds.
-/
namespace Go.Proofs.YtkhhoamcnocjlabGreatDoor
open Go.RowKit

theorem eqlR (w : World) {b o c q : Nat} {cb cc : Array Value} {tb tc : TypeId} (hne : b ≠ c) (hb : w.heap[b]? = some (.cells cb tb (0, 0))) (hc : w.heap[c]? = some (.cells cc tc (0, 0))) :
    (binOp .eql 74 (.pointer (some ⟨b, o, none⟩)) (.pointer (some ⟨c, q, none⟩))).run Tryz.prog w = .ok (.bool false) w := by
  obtain ⟨j, hj, hz⟩ := info_size sizeR
  exact run_eql_ptr_other w Tryz.underlying74 hj (by omega) (by simp) hb hc
set_option maxRecDepth 100000 in
set_option maxHeartbeats 3200000 in
theorem ratMul_any (z x y B : Nat) (nz m n : Bool) (vz uz vx ux vy uy : Value) (zs us : List Value) (X1 X2 Y1 Y2 : Nat) (w : World)
    (hz : w.heap[z]? = some (.cells #[.bool nz, vz, .bool false, uz] 80 (0, 0))) (oz : Own w B 120 vz zs) (oz2 : Own w B 120 uz us) (sz : 0 < sCap vz → 0 < sCap uz → sBlk vz ≠ sBlk uz)
    (hx : w.heap[x]? = some (.cells #[.bool m, vx, .bool false, ux] 80 (0, 0))) (ox1 : RO w vx (wds X1)) (ox2 : RO w ux (wds X2))
    (hy : w.heap[y]? = some (.cells #[.bool n, vy, .bool false, uy] 80 (0, 0))) (oy1 : RO w vy (wds Y1)) (oy2 : RO w uy (wds Y2)) (hxy : x ≠ y)
    (dx : 0 < sCap vz → sBlk ux ≠ sBlk vz) (dy : 0 < sCap vz → sBlk uy ≠ sBlk vz) (hml : MlP vz vx vy X1 Y1 B) (hm : MdP uz ux uy X2 Y2 B) (p1 : 0 < X2) (p2 : 0 < Y2)
    (k5 : nw (X1 * Y1) < 40) (k6 : nw (X2 * Y2) < 40) (hB : B ≤ z) (hK : KarW w) (hT : DivW w) (dg : 4 < B) (kg : 3 < B) :
    Calls Tryz.prog 46 #[.pointer (some ⟨z, 0, none⟩), .pointer (some ⟨x, 0, none⟩), .pointer (some ⟨y, 0, none⟩)] w fun e w' => e = .returned (.pointer (some ⟨z, 0, none⟩)) ∧ RatP w' B z ((decide (0 < X1 * Y1) && (m != n)) && decide (0 < X1 * Y1)) (X1 * Y1 / Nat.gcd (X1 * Y1) (X2 * Y2)) (X2 * Y2 / Nat.gcd (X1 * Y1) (X2 * Y2)) ∧ Below B w w' := by
  have hSx := ox2.rw.isS
  have hSy := oy2.rw.isS
  have hSz2 := oz2.isS
  have hxl : x < w.heap.size := get_lt hx
  have hyl : y < w.heap.size := get_lt hy
  have hzl : z < w.heap.size := get_lt hz
  obtain ⟨S, hS⟩ : ∃ S, S = X1 * Y1 := ⟨_, rfl⟩
  obtain ⟨sg, hsg⟩ : ∃ sg, sg = (decide (0 < X1 * Y1) && (m != n)) := ⟨_, rfl⟩
  obtain ⟨s, hs⟩ : ∃ s, s = w.heap.size := ⟨_, rfl⟩
  obtain ⟨W, hW⟩ : ∃ W, W = w.alloc (.cells #[.pointer none] 156) := ⟨_, rfl⟩
  have hWz : W.heap.size = s + 1 := by rw [hW, hs]; simp
  have hbw : Below w.heap.size w W := by rw [hW]; exact fbone _
  have rs : W.heap[s]? = some (.cells #[.pointer none] 156 (0, 0)) := by rw [hW, hs]; exact heap_alloc_new _ _
  have rzW := keep_row hbw hz
  have rxW := keep_row hbw hx
  have ryW := keep_row hbw hy
  have heq := eqlR W (o := 0) (q := 0) hxy rxW ryW
  have HC : Hid (∀ k, Calls Tryz.prog 85 #[.pointer (some ⟨z, 0, none⟩), .pointer (some ⟨s, 0, none⟩), .pointer (some ⟨x, 0, none⟩), .pointer (some ⟨y, 0, none⟩)] (W.drewN k) (fun e w' => e = .returned (.tuple #[]) ∧ ∃ r1, SmW z s x y B S X2 Y2 sg r1 uz ux uy us w w')) := Lib.hid (fun k => by
    have hbk : Below w.heap.size w (W.drewN k) := undrewN' hbw
    have ozw := oz.below hbk
    refine (intMul_any z 0 x 0 y 0 m n vz vx vy _ zs X1 Y1 B _ _ _ _ _ _ (W.drewN k) rzW rxW ryW (by decide) (by decide) (by decide) rfl rfl rfl rfl rfl rfl hxy (by decide) (by decide) ozw (ox1.below hbk) (oy1.below hbk) hml hB (hK.below hbk)).mono ?_
    rintro e w' ⟨he, hi⟩
    obtain ⟨r, i1, i2, i3⟩ := hi.row
    have hwz : (W.drewN k).heap.size = s + 1 := hWz
    have ozs : ∀ j, j < w.heap.size → j ≠ z → (0 < sCap vz → j ≠ sBlk vz) → w'.heap[j]? = w.heap[j]? := fun j hj hne hv => (hi.fr j (by omega) hne hv).trans (hbk.block j hj)
    have i1' : w'.heap[z]? = some (.cells #[.bool sg, r, .bool false, uz] 80 (0, 0)) := by rw [hsg]; exact i1
    have hcell : ∀ (q : Nat) (a : Bool) (b c : Value), w.heap[q]? = some (.cells #[.bool a, b, .bool false, c] 80 (0, 0)) → w'.cell? ⟨q, 3, none⟩ = some c := fun q a b c hq => by
      by_cases hqz : q = z
      · subst hqz
        rw [hz] at hq
        injection hq with hq; injection hq with hq
        have : uz = c := by injection hq with hq; injection hq with _ hq; injection hq with _ hq; injection hq with _ hq; injection hq
        rw [← this]
        exact (row_at (i := 3) i1' rfl).1
      · exact (row_at (i := 3) ((ozs q (get_lt hq) hqz (fun hc => oz.neRow hq (by decide) hc)).trans hq) rfl).1
    have hro : ∀ {v : Value} {N : Nat}, RO w v (wds N) → (0 < sCap vz → sBlk v ≠ sBlk vz) → RO w' v (wds N) := fun {v N} hv hd => hv.same fun hl => by
      obtain ⟨c, hc⟩ := hv.row hl
      refine ozs _ (get_lt hc) (fun he => ?_) hd
      rw [he, hz] at hc
      injection hc with hc; injection hc with _ hc
      exact absurd hc (by decide)
    have hbz : Below B w w' := (hbk.mono (by omega)).trans hi.below
    refine ⟨he, r, i1', ?_, hcell x _ _ _ hx, hcell y _ _ _ hy, by rw [hS]; exact i2, oz2.same fun hc => ozs _ (oz2.lt hc).2 (fun he => oz2.neRow hz (by decide) hc he.symm) (fun a => (sz a hc).symm), fun a b he => ?_, hro ox2 dx, hro oy2 dy, hbz, ?_, hT.belowB hbz dg, hB, by omega, dg, kg⟩
    · exact (hi.fr s (by omega) (by omega) (fun hc => by have := (oz.lt hc).2; omega)).trans rs
    · rcases i3 a with ⟨p, q⟩ | p
      · exact sz p b (q.symm.trans he)
      · have := (oz2.lt b).2; omega
    · unfold KarW; rw [hbz.cell (p := ⟨3, 0, none⟩) kg]; exact hK)
  have HP := Lib.hid (And.intro hm (And.intro p1 (And.intro p2 (And.intro (show nw S < 40 by rw [hS]; exact k5) k6))))
  have hQo : ∀ w', (Ending.outgrown = Ending.returned (.pointer (some ⟨z, 0, none⟩)) ∧ RatP w' B z (sg && decide (0 < S)) (S / Nat.gcd S (X2 * Y2)) (X2 * Y2 / Nat.gcd S (X2 * Y2)) ∧ Below B w w') → False := fun _ h => by cases h.1
  rw [← hsg, ← hS]
  have HW' := Lib.hid hW
  have HSs := Lib.hid hs
  clear hz oz oz2 sz hx ox1 ox2 hy oy1 oy2 dx dy hml hm p1 p2 k5 k6 hB hK hT dg kg rs rzW rxW ryW hbw hWz hxl hyl hzl hS hsg hs hW hxy
  go_enter_defers Tryz.func46, Tryz.ntmps46
  go_wp2_with fail
  refine (getStack_any _).mono ?_
  rintro _ _ ⟨rfl, rfl⟩
  rw [← HW'.out, ← HSs.out]
  go_upto_region 10 with fail
  (refine wp_region_noPanic ?_; refine wp_region_hoist 10 (by kernel_rfl) (by kernel_rfl) ⟨fun _ _ _ h => h, fun _ w'' h => hQo w'' h⟩ ?_; simp only [List.take_succ_cons, List.take_zero, List.drop_succ_cons, List.drop_zero]; (repeat (go_big_quiet_step (fail))); refine wpQuiet_nil ?_; rintro _ ⟨nq, rfl⟩)
  go_wp2_with fail
  refine (HC.out _).mono ?_
  rintro _ w3 ⟨rfl, r1, hsm⟩
  have b1 := (row_at (i := 3) hsm.row rfl).1
  have b2 := hsm.c1
  have b3 := hsm.c2
  have HSM := Lib.hid hsm
  clear hsm
  go_wp2_with fail
  refine NoPanic.normal ?_
  go_upto_region 11 with fail
  (refine wp_region_noPanic ?_; refine wp_region_hoistP [0, 1, 2, 3, 4, 5, 7, 8, 9, 10, 12, 13, 14, 15] [6, 11, 16] [] [17, 18, 19, 20, 21] (by kernel_rfl) (by kernel_rfl) ⟨fun _ _ _ h => h, fun _ w'' h => hQo w'' h⟩ ?_; simp only [pickOps, List.flatMap_cons, List.flatMap_nil, Option.toList_some, List.cons_append, List.nil_append, List.getElem?_toArray, List.getElem?_cons_zero, List.getElem?_cons_succ]; (repeat (go_big_quiet_step (fail))); refine wpQuiet_nil ?_; (repeat (go_big_quiet_step (fail))); refine wpQuiet_nil ?_; rintro _ ⟨nq, rfl⟩; (repeat (go_big_quiet_step (fail))); refine wpQuiet_nil ?_)
  go_wp2_with fail
  refine ((HSM.out.drewN _).den HP.out.1 HP.out.2.1 HP.out.2.2.1 HP.out.2.2.2.1 HP.out.2.2.2.2).mono ?_
  rintro _ w4 ⟨r, rfl, hSr, hrow, hnm⟩
  have HNM := Lib.hid hnm
  obtain ⟨e1, e2⟩ := row_at (i := 3) hrow rfl
  clear hnm hrow
  go_wp2_with fail
  refine NoPanic.normal ?_
  go_wp2_with fail
  refine HNM.out.mono ?_
  rintro _ w5 ⟨rfl, hst, hrt, hbl⟩
  have HQ := Lib.hid (And.intro hrt hbl)
  clear hrt hbl
  go_wp2
  refine leaves_cons (f := 75) (args := #[.pointer (some ⟨s, 0, none⟩)]) (by simp) (by simp [go_sem]) ?_
  refine (free_d s _ _ hst).mono ?_
  rintro e u' w'' ⟨rfl, rfl, rfl⟩
  simp [Leaves, settle, results, Tryz.results46, go_sem]
  exact HQ.out
end Go.Proofs.YtkhhoamcnocjlabGreatDoor

/-
impl.RatMul. No condition but the thresholds.
-/
namespace Go.Proofs.YtkhhoamcnocjlabGreatDoor
open Go.RowKit

theorem natAbs_nwMul (b1 b2 : Bool) (X1 X2 Y1 Y2 : Nat) (_h1 : nw X1 + nw Y2 ≤ 37) (_h2 : nw Y1 + nw X2 ≤ 37) (h3 : nw X1 + nw Y1 ≤ 37) : nw (rI (b1 != b2) (X1 * Y1)).natAbs ≤ 100 := by
  rw [rI_abs]; exact Nat.le_trans (nw_mul_le _ _) (by omega)
set_option maxRecDepth 100000 in
set_option maxHeartbeats 3200000 in
theorem impRatMul (b1 b2 : Bool) (v1 u1 v2 u2 : Value) (ns1 ds1 ns2 ds2 : List Nat) (w : World) (hv1 : RW w v1 ns1) (hu1 : RW w u1 ds1) (hv2 : RW w v2 ns2) (hu2 : RW w u2 ds2)
    (l1 : ns1.length ≤ 30) (l2 : ds1.length ≤ 30) (l3 : ns2.length ≤ 30) (l4 : ds2.length ≤ 30) (l5 : ns1.length + ds2.length ≤ 37) (l6 : ns2.length + ds1.length ≤ 37) (l7 : ds1.length + ds2.length ≤ 37) (l8 : ns1.length + ns2.length ≤ 37) (p1 : 0 < wv ds1) (p2 : 0 < wv ds2) (hK : KarW w) (hT : DivW w) :
    Calls Tryz.prog 15 #[.agg #[.bool b1, v1, u1], .agg #[.bool b2, v2, u2]] w fun e w' => ∃ v, e = .returned v ∧ FracV w' v (rI (b1 != b2) (wv ns1 * wv ns2)) (wv ds1 * wv ds2) ∧ Below w.heap.size w w' := by
  have hS1 := hv1.isS
  have hS2 := hv2.isS
  have hS3 := hu1.isS
  have hS4 := hu2.isS
  obtain ⟨V, hV⟩ : ∃ V : Int, V = rI (b1 != b2) (wv ns1 * wv ns2) := ⟨_, rfl⟩
  obtain ⟨D, hD⟩ : ∃ D : Nat, D = wv ds1 * wv ds2 := ⟨_, rfl⟩
  have hD0 : 0 < D := by rw [hD]; exact Nat.mul_pos p1 p2
  obtain ⟨X, hX⟩ : ∃ X, X = ((w.alloc (.cells #[.bool b1, v1, u1] 26)).alloc (.cells #[.bool b2, v2, u2] 26)).alloc (.cells #[.bool false, .slice none 0 0, .slice none 0 0] 26) := ⟨_, rfl⟩
  have hac : Below w.heap.size w X := by rw [hX]; exact (((Below.refl _ w).alloc (Nat.le_refl _) _).alloc (by simp) _).alloc (by simp; omega) _
  have hr1 : X.heap[w.heap.size]? = some (.cells #[.bool b1, v1, u1] 26 (0, 0)) := by
    rw [hX]; exact keep_row (fbone _) (keep_row (fbone _) (box_row (Below.refl _ _)))
  have hr2 : X.heap[w.heap.size + 1]? = some (.cells #[.bool b2, v2, u2] 26 (0, 0)) := by
    have e : (w.alloc (.cells #[.bool b1, v1, u1] 26)).heap.size = w.heap.size + 1 := by simp
    rw [hX, ← e]; exact keep_row (fbone _) (heap_alloc_new _ _)
  have hr3 : X.heap[w.heap.size + 1 + 1]? = some (.cells #[.bool false, .slice none 0 0, .slice none 0 0] 26 (0, 0)) := by
    have e : ((w.alloc (.cells #[.bool b1, v1, u1] 26)).alloc (.cells #[.bool b2, v2, u2] 26)).heap.size = w.heap.size + 1 + 1 := by simp
    rw [hX, ← e]; exact heap_alloc_new _ _
  have hKX := hK.below hac
  have hTX := hT.below hac
  have dg : 4 < X.heap.size := World.block_lt_of_cell? X _ hTX
  have kg : 3 < X.heap.size := World.block_lt_of_cell? X _ hKX
  have k1 := nw_le (wv_lt hv1.lt)
  have k2 := nw_le (wv_lt hu1.lt)
  have k3 := nw_le (wv_lt hv2.lt)
  have k4 := nw_le (wv_lt hu2.lt)
  have V1 := Lib.hid (hv1.below hac)
  have V2 := Lib.hid (hv2.below hac)
  have U1 := Lib.hid (hu1.below hac)
  have U2 := Lib.hid (hu2.below hac)
  have HR1 := Lib.hid hr1
  have HR2 := Lib.hid hr2
  have HR3 := Lib.hid hr3
  have hwX := Lib.hid hac
  have hcc := Below.refl X.heap.size X
  have hXs := hac.size
  have HF1 : Hid (∀ w', Below X.heap.size X w' → Calls Tryz.prog 41 #[.agg #[.bool b1, v1, u1]] w' fun e w3 => ∃ g, e = .returned (.pointer (some ⟨g, 0, none⟩)) ∧ RatP w3 0 g (b1 && decide (0 < wv ns1)) (wv ns1) (wv ds1) ∧ Below w'.heap.size w' w3) := Lib.hid (fun w' h => by
    refine (rat_any b1 v1 u1 ns1 ds1 w' (V1.out.below h) (U1.out.below h) (by omega) (by omega)).mono ?_
    rintro e w3 ⟨g, h1, h2, h3⟩
    exact ⟨g, h1, h2.mono (Nat.zero_le _), h3⟩)
  have HF2 : Hid (∀ w', Below X.heap.size X w' → Calls Tryz.prog 41 #[.agg #[.bool b2, v2, u2]] w' fun e w3 => ∃ g, e = .returned (.pointer (some ⟨g, 0, none⟩)) ∧ RatP w3 0 g (b2 && decide (0 < wv ns2)) (wv ns2) (wv ds2) ∧ Below w'.heap.size w' w3 ∧ w'.heap.size ≤ g) := Lib.hid (fun w' h => by
    refine (rat_any b2 v2 u2 ns2 ds2 w' (V2.out.below h) (U2.out.below h) (by omega) (by omega)).mono ?_
    rintro e w3 ⟨g, h1, h2, h3⟩
    exact ⟨g, h1, h2.mono (Nat.zero_le _), h3, by obtain ⟨_, _, hb, _⟩ := h2; exact hb⟩)
  have HC : Hid (∀ g g1 g2 w', w'.heap[g]? = some (.cells #[.bool false, .slice none 0 0, .bool false, .slice none 0 0] 80 (0, 0)) → X.heap.size ≤ g → RatP w' 0 g1 (b1 && decide (0 < wv ns1)) (wv ns1) (wv ds1) → RatP w' 0 g2 (b2 && decide (0 < wv ns2)) (wv ns2) (wv ds2) → g1 ≠ g2 → Below X.heap.size X w' →
      Calls Tryz.prog 46 #[.pointer (some ⟨g, 0, none⟩), .pointer (some ⟨g1, 0, none⟩), .pointer (some ⟨g2, 0, none⟩)] w' fun e w4 => e = .returned (.pointer (some ⟨g, 0, none⟩)) ∧ RatP w4 X.heap.size g (decide (V < 0)) (V.natAbs / Nat.gcd V.natAbs D) (D / Nat.gcd V.natAbs D) ∧ Below X.heap.size X w4) := Lib.hid (fun g g1 g2 w' hg hg0 h1 h2 hgg h3 => by
    obtain ⟨vx, ux, -, rx, ox1, ox2⟩ := h1
    obtain ⟨vy, uy, -, ry, oy1, oy2⟩ := h2
    have e0 : ((b1 && decide (0 < wv ns1)) != (b2 && decide (0 < wv ns2)) && decide (0 < wv ns1 * wv ns2)) = decide (V < 0) := by
      rw [hV, rI_neg]
      rcases Nat.eq_zero_or_pos (wv ns1) with h | h
      · rw [h, Nat.zero_mul]; simp
      · rcases Nat.eq_zero_or_pos (wv ns2) with h' | h'
        · rw [h', Nat.mul_zero]; simp
        · rw [decide_eq_true h, decide_eq_true h', Bool.and_true, Bool.and_true]
    have a1 : wv ns1 * wv ns2 = V.natAbs := by rw [hV, rI_abs]
    have k5 : nw (wv ns1 * wv ns2) < 40 := Nat.lt_of_le_of_lt (nw_mul_le _ _) (by omega)
    refine (ratMul_any g g1 g2 X.heap.size false _ _ (.slice none 0 0) (.slice none 0 0) vx ux vy uy [] [] (wv ns1) (wv ds1) (wv ns2) (wv ds2) w' hg (Own.nil _ _ _) (Own.nil _ _ _) (fun h => absurd h nil_cap) rx (ox1.ro (fun d hd => wds_lt hd)) (ox2.ro (fun d hd => wds_lt hd)) ry (oy1.ro (fun d hd => wds_lt hd)) (oy2.ro (fun d hd => wds_lt hd)) hgg (fun h => absurd h nil_cap) (fun h => absurd h nil_cap)
      (mlP_nil vx vy _ _ _ (.inl (by omega)) (by omega) (by omega)) (mulDenom_nil ux uy _ _ _ p1 p2 (by omega) (by omega)) p1 p2 k5 (Nat.lt_of_le_of_lt (nw_mul_le _ _) (by omega)) hg0 (hKX.below h3) (hTX.below h3) dg kg).mono ?_
    rintro e w4 ⟨h4, h5, h6⟩
    have e1 : ((decide (0 < wv ns1 * wv ns2) && ((b1 && decide (0 < wv ns1)) != (b2 && decide (0 < wv ns2)))) && decide (0 < wv ns1 * wv ns2)) = decide (V < 0) := by
      rw [← e0, Bool.and_comm (decide (0 < wv ns1 * wv ns2)), Bool.and_assoc, Bool.and_self]
    rw [e1, a1, ← hD] at h5
    exact ⟨h4, h5, h3.trans h6⟩)
  have HFR : Hid (∀ g w', RatP w' X.heap.size g (decide (V < 0)) (V.natAbs / Nat.gcd V.natAbs D) (D / Nat.gcd V.natAbs D) → Below X.heap.size X w' → Calls Tryz.prog 39 #[.pointer (some ⟨g, 0, none⟩)] w' fun e w4 => ∃ r1 r2, e = .returned (.agg #[.bool (decide (V < 0)), r1, r2]) ∧ IsS r1 ∧ IsS r2 ∧ RW w4 r1 (wds (V.natAbs / Nat.gcd V.natAbs D)) ∧ RW w4 r2 (wds (D / Nat.gcd V.natAbs D)) ∧ Below X.heap.size X w4) := Lib.hid (fun g w' h1 h2 => by
    have n1 : nw V.natAbs ≤ 100 := by rw [hV]; exact natAbs_nwMul b1 b2 _ (wv ds1) _ (wv ds2) (by omega) (by omega) (by omega)
    have n2 : nw D ≤ 100 := by rw [hD]; exact Nat.le_trans (nw_mul_le _ _) (by omega)
    refine (frac_any g X.heap.size (decide (V < 0)) _ _ w' h1 (gcd_div_pos hD0) (Nat.le_trans (nw_mono (Nat.div_le_self _ _)) (by omega)) (Nat.le_trans (nw_mono (Nat.div_le_self _ _)) (by omega))).mono ?_
    rintro e w4 ⟨r1, r2, h4, h5, h6, h7⟩
    refine ⟨r1, r2, ?_, h5.isS, h6.isS, h5, h6, bthen h2 h7⟩
    rw [h4, neg_div V hD0])
  rw [← hV, ← hD]
  clear hv1 hv2 hu1 hu2 hac hr1 hr2 hr3 hK hT hKX hTX dg kg k1 k2 k3 k4 l1 l2 l3 l4 l5 l6 l7 l8 p1 p2 hV hD
  obtain ⟨N1, hN1⟩ : ∃ N1, N1 = V.natAbs / Nat.gcd V.natAbs D := ⟨_, rfl⟩
  obtain ⟨N2, hN2⟩ : ∃ N2, N2 = D / Nat.gcd V.natAbs D := ⟨_, rfl⟩
  rw [← hN1, ← hN2] at HC HFR
  have HN := Lib.hid (And.intro hN1 hN2)
  obtain ⟨sg, hsg⟩ : ∃ sg, sg = decide (V < 0) := ⟨_, rfl⟩
  rw [← hsg] at HC HFR
  have HG := Lib.hid hsg
  clear hN1 hN2 hsg
  go_enter Tryz.func15, Tryz.ntmps15
  go_upto_region 1 with fail
  rw [← hX]
  clear hX
  first
    | (go_region_held3 (fun w' => Below w.heap.size w w' ∧ w'.cell? ⟨w.heap.size, 0, none⟩ = some (.bool b1) ∧ w'.cell? ⟨w.heap.size, 1, none⟩ = some v1 ∧ w'.cell? ⟨w.heap.size, 2, none⟩ = some u1 ∧ w'.cell? ⟨w.heap.size + 1, 0, none⟩ = some (.bool b2) ∧ w'.cell? ⟨w.heap.size + 1, 1, none⟩ = some v2 ∧ w'.cell? ⟨w.heap.size + 1, 2, none⟩ = some u2)
        ((first | (refine ksP2 HR1.out HR2.out hwX.out hXs ?_; (repeat (with_reducible first | assumption | refine Below.drew ?_ | refine ballc ?_ _)); done) | (refine ksP2S (by omega) (by omega) (by omega) (ksP2S (by omega) (by omega) (by omega) (ksP2S (by omega) (by omega) (by omega) (ksP2 HR1.out HR2.out hwX.out hXs ?_))); with_reducible assumption)))
        (first
          | (go_at_call 39; (with_reducible refine (HFR.out _ _ hrat hb5).mono ?_); rintro _ w6 ⟨r1, r2, rfl, hT1, hT2, hw1, hw2, hb6⟩; have W1 := Lib.hid hw1; have W2 := Lib.hid hw2; have HRw := Lib.hid (keep_row hb6 HR3.out); obtain ⟨z0, z1, z2, z3, z4, z5⟩ := row3 HRw.out; clear hw1 hw2)
          | (go_at_call 46; first
              | (with_reducible refine (HC.out _ _ _ _ hrU2 (Nat.le_refl _) G1.out G2.out hg12 hb4).mono ?_)
              | (with_reducible refine (HC.out _ _ _ _ hrV2 hz3 G1.out G2.out hg12 hb4).mono ?_)
              | (with_reducible refine (HC.out _ _ _ _ (heap_alloc_new w4 _) hz4 (G1.out.below (fbone _)) (G2.out.below (fbone _)) hg12 (ballc hb4 _)).mono ?_)
             rintro _ w5 ⟨rfl, hrat, hb5⟩)
          | (go_at_call 41; (with_reducible refine (HF2.out _ (by repeat (with_reducible first | assumption | refine Below.drew ?_ | refine ballc ?_ _))).mono ?_); rintro _ w4 ⟨g2, rfl, hG2, hb34, hbase⟩; have hg12 : g1 ≠ g2 := Nat.ne_of_lt (Nat.lt_of_lt_of_le (by first | exact hF1.lt | exact (hF1.below (fbone _)).lt) hbase); have G1 := Lib.hid (show RatP w4 0 g1 (b1 && decide (0 < wv ns1)) (wv ns1) (wv ds1) from by first | exact hF1.below hb34 | exact (hF1.below (fbone _)).below hb34); have G2 := Lib.hid hG2; clear hF1 hG2; have hb4 : Below X.heap.size X w4 := bthen (by repeat (with_reducible first | assumption | refine Below.drew ?_ | refine ballc ?_ _)) hb34; have hz4 := hb4.size;
              (first | (have hrU2 := keep_row hb34 hrU) | (have hrV2 := box_row hb34) | skip))
          | (go_at_call 41; (with_reducible refine (HF1.out _ (by repeat (with_reducible first | assumption | refine Below.drew ?_ | refine ballc ?_ _))).mono ?_); rintro _ w3 ⟨g1, rfl, hF1, hb3'⟩; have hb3 : Below X.heap.size X w3 := bthen (by repeat (with_reducible first | assumption | refine Below.drew ?_ | refine ballc ?_ _)) hb3'; have hz3 := hb3.size;
              (first | (have hrU := box_rowD hb3') | skip))))
    | fail
  all_goals
    go_wp2
    obtain ⟨hx0, hx1, hx2, -, -, -⟩ := row3 (row3_set (x := .bool sg) (y := r1) (z := r2) HRw.out)
    refine bodyPost_ret (v := .agg #[.bool sg, r1, r2]) ?_ rfl ⟨_, rfl, ⟨r1, r2, by rw [HG.out], ?_, ?_⟩, bset (bset (bset (hwX.out.trans (hb6.mono hXs)) (by omega)) (by omega)) (by omega)⟩
    · simp [results, Tryz.results15, go_sem, hx0, hx1, hx2]
    · rw [← HN.out.1]; exact rw_row3 (x := .bool sg) (y := r1) (z := r2) W1.out IsS.nil IsS.nil HRw.out
    · rw [← HN.out.2]; exact rw_row3 (x := .bool sg) (y := r1) (z := r2) W2.out IsS.nil IsS.nil HRw.out
end Go.Proofs.YtkhhoamcnocjlabGreatDoor

/-
spec.Times. No condition.
-/
namespace Go.Proofs.YtkhhoamcnocjlabGreatDoor
open Go.RowKit

set_option maxRecDepth 100000 in
set_option maxHeartbeats 3200000 in
theorem times_any (m n : Bool) (a1 a2 c1 c2 : Value) (X1 X2 Y1 Y2 : Nat) (w : World) (ha1 : NatV w a1 X1) (ha2 : NatV w a2 X2) (hc1 : NatV w c1 Y1) (hc2 : NatV w c2 Y2)
    (l1 : nl X1 ≤ 1000000) (l2 : nl X2 ≤ 1000000) (l3 : nl Y1 ≤ 1000000) (l4 : nl Y2 ≤ 1000000) (p1 : 0 < X2) (p2 : 0 < Y2) :
    Calls Tryz.prog 16 #[.agg #[.bool m, a1, a2], .agg #[.bool n, c1, c2]] w fun e w' => ∃ v, e = .returned v ∧ RtV w' v (m != n) (X1 * Y1) (X2 * Y2) ∧ Below w.heap.size w w' := by
  have hS1 := ha1.isS
  have hS2 := ha2.isS
  have hS3 := hc1.isS
  have hS4 := hc2.isS
  obtain ⟨W, hW⟩ : ∃ W, W = ((w.alloc (.cells #[.bool m, a1, a2] 31)).alloc (.cells #[.bool n, c1, c2] 31)).alloc (.cells #[.bool false, .slice none 0 0, .slice none 0 0] 31) := ⟨_, rfl⟩
  have hab : Below w.heap.size w W := by rw [hW]; exact (((Below.refl _ w).alloc (Nat.le_refl _) _).alloc (by simp) _).alloc (by simp; omega) _
  have hr1 : W.heap[w.heap.size]? = some (.cells #[.bool m, a1, a2] 31 (0, 0)) := by rw [hW]; exact keep_row (fbone _) (keep_row (fbone _) (box_row (Below.refl _ _)))
  have hr2 : W.heap[w.heap.size + 1]? = some (.cells #[.bool n, c1, c2] 31 (0, 0)) := by
    have e : (w.alloc (.cells #[.bool m, a1, a2] 31)).heap.size = w.heap.size + 1 := by simp
    rw [hW, ← e]; exact keep_row (fbone _) (heap_alloc_new _ _)
  have hr3 : W.heap[w.heap.size + 1 + 1]? = some (.cells #[.bool false, .slice none 0 0, .slice none 0 0] 31 (0, 0)) := by
    have e : ((w.alloc (.cells #[.bool m, a1, a2] 31)).alloc (.cells #[.bool n, c1, c2] 31)).heap.size = w.heap.size + 1 + 1 := by simp
    rw [hW, ← e]; exact heap_alloc_new _ _
  have HR1 := Lib.hid hr1
  have HR2 := Lib.hid hr2
  have HR3 := Lib.hid hr3
  have HM1 : Hid (∀ w', Below W.heap.size W w' → Calls Tryz.prog 42 #[a1, c1] w' fun e w3 => ∃ r, e = .returned r ∧ NatV w3 r (X1 * Y1) ∧ Below W.heap.size W w3) := Lib.hid (fun w' h => (spMul a1 c1 X1 Y1 w' ((ha1.below hab).below h) ((hc1.below hab).below h) (by omega) (by omega)).mono (by rintro e w3 ⟨r, h1, h2, h3⟩; exact ⟨r, h1, h2, bthen h h3⟩))
  have HM2 : Hid (∀ w', Below W.heap.size W w' → Calls Tryz.prog 42 #[a2, c2] w' fun e w3 => ∃ r, e = .returned r ∧ NatV w3 r (X2 * Y2) ∧ Below W.heap.size W w3 ∧ Below w'.heap.size w' w3) := Lib.hid (fun w' h => (spMul a2 c2 X2 Y2 w' ((ha2.below hab).below h) ((hc2.below hab).below h) (by omega) (by omega)).mono (by rintro e w3 ⟨r, h1, h2, h3⟩; exact ⟨r, h1, h2, bthen h h3, h3⟩))
  have HO : Hid (∀ w' q1 q2, Below W.heap.size W w' → NatV w' q1 (X1 * Y1) → NatV w' q2 (X2 * Y2) → Calls Tryz.prog 22 #[.bool (!(m == n)), q1, q2] w' fun e w4 => ∃ z q r, e = .returned (.agg #[.bool z, q, r]) ∧ Hid (z = ((m != n) && decide (0 < X1 * Y1))) ∧ IsS q ∧ IsS r ∧ NatV w4 q (X1 * Y1 / Nat.gcd (X1 * Y1) (X2 * Y2)) ∧ NatV w4 r (X2 * Y2 / Nat.gcd (X1 * Y1) (X2 * Y2)) ∧ Below W.heap.size W w4) := Lib.hid (fun w' q1 q2 h h1 h2 => by
    refine (over_any (m != n) q1 q2 (X1 * Y1) (X2 * Y2) w' h1 h2 (Nat.le_trans (nl_mul_le _ _) (by omega)) (Nat.le_trans (nl_mul_le _ _) (by omega)) (Nat.mul_pos p1 p2)).mono ?_
    rintro e w4 ⟨q, r, g1, g2, g3, g4⟩
    exact ⟨_, q, r, g1, Lib.hid rfl, g2.isS, g3.isS, g2, g3, bthen h g4⟩)
  have hwX := Lib.hid hab
  have hXs := hab.size
  have hcc := Below.refl W.heap.size W
  obtain ⟨A, hA⟩ : ∃ A, A = X1 * Y1 := ⟨_, rfl⟩
  obtain ⟨D, hD⟩ : ∃ D, D = X2 * Y2 := ⟨_, rfl⟩
  rw [← hA] at HM1 HO ⊢
  rw [← hD] at HM2 HO ⊢
  clear hr1 hr2 hr3 ha1 ha2 hc1 hc2 hab hA hD l1 l2 l3 l4 p1 p2
  go_enter Tryz.func16, Tryz.ntmps16
  go_upto_region 1 with fail
  rw [← hW]
  clear hW
  first
    | (go_region_held3 (fun w' => Below w.heap.size w w' ∧ w'.cell? ⟨w.heap.size, 0, none⟩ = some (.bool m) ∧ w'.cell? ⟨w.heap.size, 1, none⟩ = some a1 ∧ w'.cell? ⟨w.heap.size, 2, none⟩ = some a2 ∧ w'.cell? ⟨w.heap.size + 1, 0, none⟩ = some (.bool n) ∧ w'.cell? ⟨w.heap.size + 1, 1, none⟩ = some c1 ∧ w'.cell? ⟨w.heap.size + 1, 2, none⟩ = some c2)
        ((first | (refine ksP2 HR1.out HR2.out hwX.out hXs ?_; with_reducible first | assumption | exact Below.drew hcc) | (refine ksP2S (by omega) (by omega) (by omega) (ksP2S (by omega) (by omega) (by omega) (ksP2S (by omega) (by omega) (by omega) (ksP2 HR1.out HR2.out hwX.out hXs ?_))); with_reducible assumption)))
        (first
          | (go_at_call 22; (with_reducible refine (HO.out _ _ _ hb4 G1.out G2.out).mono ?_); rintro _ w5 ⟨zz, q, r, rfl, HZZ, hT1, hT2, hq, hr, hb5⟩; have HRw := Lib.hid (keep_row hb5 HR3.out); obtain ⟨z0, z1, z2, z3, z4, z5⟩ := row3 HRw.out; have Q1 := Lib.hid hq; have Q2 := Lib.hid hr; clear hq hr)
          | (go_at_call 42; (with_reducible refine (HM2.out _ hb3).mono ?_); rintro _ w4 ⟨k2, rfl, hN2, hb4, hb34⟩; have hS6 := hN2.isS; have G1 := Lib.hid (hN1.below hb34); have G2 := Lib.hid hN2; clear hN1 hN2 hb34)
          | (go_at_call 42; (with_reducible refine (HM1.out _ (by first | assumption | exact Below.drew hcc)).mono ?_); rintro _ w3 ⟨k1, rfl, hN1, hb3⟩; have hS5 := hN1.isS)))
    | fail
  all_goals
    go_wp2
    obtain ⟨hx0, hx1, hx2, -, -, -⟩ := row3 (row3_set (x := .bool zz) (y := q) (z := r) HRw.out)
    refine bodyPost_ret (v := .agg #[.bool zz, q, r]) ?_ rfl ⟨_, rfl, ⟨q, r, by rw [HZZ.out], natv_row3 (x := .bool zz) (y := q) (z := r) IsS.nil IsS.nil Q1.out HRw.out, natv_row3 (x := .bool zz) (y := q) (z := r) IsS.nil IsS.nil Q2.out HRw.out⟩, bset (bset (bset (hwX.out.trans (hb5.mono hXs)) (by omega)) (by omega)) (by omega)⟩
    simp [results, Tryz.results16, go_sem, hx0, hx1, hx2]
end Go.Proofs.YtkhhoamcnocjlabGreatDoor
