/-
Texts of this proof, joined: NmF RcC RsZ RmA RmC RiD RiE RiA RiF RiG. No condition.
-/
import Derived.Test.YtllhnjpnkmjopaaGreatDoorK14
import Derived.Test.YtllhnjpnkmjopaaGreatDoorK19
import Derived.Test.YtllhnjpnkmjopaaGreatDoorK23
import Derived.Test.YtllhnjpnkmjopaaGreatDoorK24
import Derived.Test.YtllhnjpnkmjopaaGreatDoorK31
import Derived.Deep.RegionHeld3
import Derived.LaidEqlPtr
namespace Go.Proofs.YtllhnjpnkmjopaaGreatDoor
open Go.RowKit

set_option maxHeartbeats 1600000 in
theorem norm_full (g B N D : Nat) (n : Bool) (va vb : Value) (w : World) (row : w.heap[g]? = some (.cells #[.bool n, va, .bool false, vb] 112 (0, 0))) (oa : Own w B 116 va (cellsW (wds N))) (ob : Own w B 116 vb (cellsW (wds D)))
    (hab : 0 < sCap va → 0 < sCap vb → sBlk va ≠ sBlk vb) (hD0 : 0 < D) (hN : nw N < 40) (hD : nw D < 40) (hB : B ≤ g) (hT : DivW w) (hg : 4 < B) :
    Calls Tryz.prog 125 #[.pointer (some ⟨g, 0, none⟩)] w fun e w' => e = .returned (.pointer (some ⟨g, 0, none⟩)) ∧ NmP g B (N / Nat.gcd N D) (D / Nat.gcd N D) (n && decide (0 < N)) va vb w w' := by
  rcases Nat.eq_zero_or_pos N with h0 | h0
  · subst h0
    have hBw : B ≤ w.heap.size := Nat.le_trans hB (Nat.le_of_lt (get_lt row))
    have la : sLen va = 0 := oa.len
    refine (norm_zero g B n false va vb _ w row oa.isS la ob hBw).mono ?_
    rintro e w' ⟨he, r, w1, hr, rfl⟩
    rw [Nat.gcd_zero_left, Nat.zero_div, Nat.div_self hD0, decide_eq_false (show ¬ 0 < 0 by omega), Bool.and_false]
    have row2 := rowset (i := 0) (.bool false) row
    have ob2 := ob.away row (by decide) 0 (.bool false)
    have oa2 := oa.away row (by decide) 0 (.bool false)
    have h1 := (hr.fr g (get_lt row2) (fun hc => ob2.neRow row2 (by decide) hc)).trans row2
    have h2 := rowset (i := 3) r h1
    have oa3 := oa2.frz hr.fr (fun a b => hab a b)
    refine ⟨he, ⟨va, r, hB, h2, oa3.away h1 (by decide) 3 r, by have h := hr.own.away h1 (by decide) 3 r; exact h⟩, bset ((bset (Below.refl B w) hB).trans hr.below) hB, fun k hk a b c => ?_⟩
    rw [heap_setCell_other _ _ _ _ (by simpa using a)]
    refine (hr.fr k (by simpa using hk) c).trans ?_
    exact heap_setCell_other _ _ _ _ (by simpa using a)
  · rw [decide_eq_true h0, Bool.and_true]
    exact norm_rat g B N D n false va vb w row oa ob hab h0 hD0 hN hD hB hT hg
theorem nw_mul_le (a b : Nat) : nw (a * b) ≤ nw a + nw b := nw_le (by rw [Nat.pow_add]; exact Nat.mul_lt_mul'' (lt_nw a) (lt_nw b))
theorem ScP.pre {b N : Nat} {neg : Bool} {w w0 w1 : World} (hw : Below w.heap.size w w0) (hb : b < w.heap.size) (h : ScP b neg N w0 w1) : ScP b neg N w w1 := by
  obtain ⟨⟨r, h1, h2, h5⟩, h3, h4⟩ := h
  exact ⟨⟨r, h1, h2.mono hw.size, h5⟩, (hw.mono (Nat.le_of_lt hb)).trans h3, fun j hj hne => (h4 j (Nat.lt_of_lt_of_le hj hw.size) hne).trans (hw.block j hj)⟩
def FrK (w w' : World) : Prop := ∀ (k : Nat) (cs : Array Value), w.heap[k]? = some (.cells cs 26 (0, 0)) → w'.heap[k]? = w.heap[k]?
theorem FrK.trans {w w1 w2 : World} (h1 : FrK w w1) (h2 : FrK w1 w2) : FrK w w2 := fun k cs hk => (h2 k cs ((h1 k cs hk).trans hk)).trans (h1 k cs hk)
theorem FrK.ofBelow {w w' : World} (hb : Below w.heap.size w w') : FrK w w' := fun _ _ hk => (keep_row hb hk).trans hk.symm
theorem FrK.set {w w' : World} {z i : Nat} {u : Value} {cs : Array Value} {T : TypeId} (h : FrK w w') (hr : w'.heap[z]? = some (.cells cs T (0, 0))) (hT : T ≠ 26) : FrK w (w'.setCell ⟨z, i, none⟩ u) := fun k ds hk => by
  refine (heap_setCell_other _ _ _ _ ?_).trans (h k ds hk)
  simp only
  intro he
  have h2 := (h k ds hk).trans hk
  rw [he, hr] at h2
  injection h2 with h2; injection h2 with _ h2; exact hT h2
theorem FrK.ofNm {w w' : World} {B g : Nat} {va vb : Value} {xs ys : List Value} {cs : Array Value} (hr : w.heap[g]? = some (.cells cs 112 (0, 0))) (oa : Own w B 116 va xs) (ob : Own w B 116 vb ys) (h : NmF g va vb w w') : FrK w w' := fun k ds hk => by
  refine h k (get_lt hk) (fun he => ?_) (fun hc => oa.neRow hk (by decide) hc) (fun hc => ob.neRow hk (by decide) hc)
  rw [he, hr] at hk
  injection hk with hk; injection hk with _ hk; exact absurd hk (by decide)
def MdP (z x y : Value) (X Y B : Nat) : Prop := ∀ (s : Nat) (zs : List Value) (w : World), Own w B 116 z zs → RO w x (wds X) → RO w y (wds Y) → B ≤ w.heap.size → KarW w →
  Calls Tryz.prog 124 #[.pointer (some ⟨s, 0, none⟩), z, x, y] w fun e w' => ∃ r, e = .returned r ∧ NatR z r (X * Y) B w w'
structure SmW (z s x y B S X2 Y2 : Nat) (sg : Bool) (r1 uz ux uy : Value) (us : List Value) (w0 w : World) : Prop where
  row : w.heap[z]? = some (.cells #[.bool sg, r1, .bool false, uz] 112 (0, 0))
  rs : w.heap[s]? = some (.cells #[.pointer none] 182 (0, 0))
  c1 : w.cell? ⟨x, 3, none⟩ = some ux
  c2 : w.cell? ⟨y, 3, none⟩ = some uy
  o1 : Own w B 116 r1 (cellsW (wds S))
  oz : Own w B 116 uz us
  ne : 0 < sCap r1 → 0 < sCap uz → sBlk r1 ≠ sBlk uz
  vx : RO w ux (wds X2)
  vy : RO w uy (wds Y2)
  bl : Below B w0 w
  kw : KarW w
  tw : DivW w
  hz : B ≤ z
  sz : w0.heap.size ≤ s
  dg : 4 < B
  kg : 3 < B
  fk : FrK w0 w
section
variable {z s x y B S X2 Y2 : Nat} {sg : Bool} {r1 uz ux uy : Value} {us : List Value} {w0 w : World}
theorem SmW.drewN (h : SmW z s x y B S X2 Y2 sg r1 uz ux uy us w0 w) (k : Nat) : SmW z s x y B S X2 Y2 sg r1 uz ux uy us w0 (w.drewN k) :=
  ⟨h.row, h.rs, h.c1, h.c2, h.o1.drewN k, h.oz.drewN k, h.ne, h.vx.below (undrewN' (Below.refl _ _)), h.vy.below (undrewN' (Below.refl _ _)), undrewN' h.bl, h.kw, h.tw, h.hz, h.sz, h.dg, h.kg, h.fk.trans (FrK.ofBelow (undrewN' (Below.refl _ _)))⟩
theorem SmW.den (h : SmW z s x y B S X2 Y2 sg r1 uz ux uy us w0 w) (hm : MdP uz ux uy X2 Y2 B) (hX : 0 < X2) (hY : 0 < Y2) (hS : nw S < 40) (hD : nw (X2 * Y2) < 40) :
    Calls Tryz.prog 124 #[.pointer (some ⟨s, 0, none⟩), uz, ux, uy] w fun e w' => ∃ r, e = .returned r ∧ IsS r ∧ w'.heap[z]? = some (.cells #[.bool sg, r1, .bool false, uz] 112 (0, 0)) ∧
      Calls Tryz.prog 125 #[.pointer (some ⟨z, 0, none⟩)] (w'.setCell ⟨z, 3, none⟩ r) fun e2 w2 => e2 = .returned (.pointer (some ⟨z, 0, none⟩)) ∧ w2.cell? ⟨s, 0, none⟩ = some (.pointer none) ∧ RatP w2 B z (sg && decide (0 < S)) (S / Nat.gcd S (X2 * Y2)) (X2 * Y2 / Nat.gcd S (X2 * Y2)) ∧ Below B w0 w2 ∧ FrK w0 w2 := by
  have hBw : B ≤ w.heap.size := Nat.le_trans h.hz (Nat.le_of_lt (get_lt h.row))
  refine (hm s us w h.oz h.vx h.vy hBw h.kw).mono ?_
  rintro e w' ⟨r, he, hr⟩
  have hz1 := hr.below.size
  have hzl := get_lt h.row
  have hsl := get_lt h.rs
  have q1 : w'.heap[z]? = some (.cells #[.bool sg, r1, .bool false, uz] 112 (0, 0)) := hr.fr.row h.row (fun hc => h.oz.neRow h.row (by decide) hc)
  have q2 : w'.heap[s]? = some (.cells #[.pointer none] 182 (0, 0)) := hr.fr.row h.rs (fun hc => h.oz.neRow h.rs (by decide) hc)
  have o1 : Own w' B 116 r1 (cellsW (wds S)) := h.o1.frz hr.fr h.ne
  have hne : 0 < sCap r1 → 0 < sCap r → sBlk r1 ≠ sBlk r := fun a b hc => by
    rcases hr.at' b with ⟨p, q⟩ | p
    · exact h.ne a p (hc.trans q)
    · have := (h.o1.lt a).2; omega
  have p1 := rowset (i := 3) r q1
  have hzs : s ≠ z := fun hc => by
    have h1 := h.rs
    rw [hc, h.row] at h1
    injection h1 with h1; injection h1 with _ h2
    exact absurd h2 (by decide)
  have p2 : (w'.setCell ⟨z, 3, none⟩ r).heap[s]? = some (.cells #[.pointer none] 182 (0, 0)) := by
    rw [heap_setCell_other _ _ _ _ (by simpa using hzs)]; exact q2
  have oa := o1.away q1 (by decide) 3 r
  have ob := hr.own.away q1 (by decide) 3 r
  have hb' : Below B w (w'.setCell ⟨z, 3, none⟩ r) := bset hr.below h.hz
  refine ⟨r, he, hr.own.isS, q1, (norm_full z B S (X2 * Y2) sg r1 r _ p1 oa ob hne (Nat.mul_pos hX hY) hS hD h.hz (h.tw.belowB hb' h.dg) h.dg).mono ?_⟩
  rintro e2 w2 ⟨he2, hn⟩
  have f1 : FrK w w' := fun k cs hk => hr.fr.row hk (fun hc => h.oz.neRow hk (by decide) hc) |>.trans hk.symm
  have f2 : FrK w (w'.setCell ⟨z, 3, none⟩ r) := f1.set q1 (by decide)
  refine ⟨he2, ?_, hn.rat, h.bl.trans (hb'.trans hn.bl), h.fk.trans (f2.trans (FrK.ofNm p1 oa ob hn.fr))⟩
  have h5 := hn.fr s (get_lt p2) hzs (fun hc => oa.neRow p2 (by decide) hc) (fun hc => ob.neRow p2 (by decide) hc)
  exact (row_at (i := 0) (h5.trans p2) rfl).1
end
def MlP (z x y : Value) (X Y B : Nat) : Prop := ∀ (pk : Option Addr) (zs : List Value) (w : World), Own w B 116 z zs → RO w x (wds X) → RO w y (wds Y) → B ≤ w.heap.size → KarW w →
  Calls Tryz.prog 144 #[z, .pointer pk, x, y] w fun e w' => ∃ r, e = .returned r ∧ NatR z r (X * Y) B w w'
set_option maxRecDepth 100000 in
set_option maxHeartbeats 3200000 in
theorem intMul_any {pk : Option Addr} (b o c p d t : Nat) (m n : Bool) (vz vx vy z0 : Value) (zs : List Value) (X Y B : Nat) (cb cc cd : Array Value) (Tb Tc Td : TypeId) (w : World)
    (hb : w.heap[b]? = some (.cells cb Tb (0, 0))) (hc : w.heap[c]? = some (.cells cc Tc (0, 0))) (hd : w.heap[d]? = some (.cells cd Td (0, 0))) (hTb : Tb ≠ 116) (hTc : Tc ≠ 116) (hTd : Td ≠ 116)
    (b0 : cb[o]? = some z0) (b1 : cb[o + 1]? = some vz) (c0 : cc[p]? = some (.bool m)) (c1 : cc[p + 1]? = some vx) (d0 : cd[t]? = some (.bool n)) (d1 : cd[t + 1]? = some vy)
    (hcd : c ≠ d) (hp : p ≠ o + 1) (ht : t ≠ o + 1) (ho : Own w B 116 vz zs) (hx : RO w vx (wds X)) (hy : RO w vy (wds Y)) (hm : MlP vz vx vy X Y B) (hB : B ≤ b) (hK : KarW w) :
    Calls Tryz.prog 128 #[.pointer (some ⟨b, o, none⟩), .pointer pk, .pointer (some ⟨c, p, none⟩), .pointer (some ⟨d, t, none⟩)] w fun e w' => e = .returned (.tuple #[]) ∧ IntRo b o cb Tb vz (decide (0 < X * Y) && (m != n)) (X * Y) B w w' := by
  have hSz := ho.isS
  have hSx := hx.rw.isS
  have hSy := hy.rw.isS
  have hbs := get_lt hb
  have hBs : B ≤ w.heap.size := Nat.le_trans hB (Nat.le_of_lt hbs)
  have heq := eqlI w (o := p) (q := t) hcd hc hd
  have x1 : w.cell? ⟨c, p + 1, none⟩ = some vx := (row_at hc c1).1
  have y1 : w.cell? ⟨d, t + 1, none⟩ = some vy := (row_at hd d1).1
  have z1 : w.cell? ⟨b, o + 1, none⟩ = some vz := (row_at hb b1).1
  have hneb : 0 < sCap vz → b ≠ sBlk vz := ho.neRow hb hTb
  obtain ⟨N, hN⟩ : ∃ N, N = X * Y := ⟨_, rfl⟩
  have HM : Hid (∀ k, Calls Tryz.prog 144 #[vz, .pointer pk, vx, vy] (w.drewN k) fun e w1 => ∃ r, e = .returned r ∧ IsS r ∧ sLen r = nw N ∧ (w1.cell? ⟨b, o + 1, none⟩ = some vz ∧ w1.frozen? ⟨b, o + 1, none⟩ = false) ∧
      ((w1.setCell ⟨b, o + 1, none⟩ r).cell? ⟨b, o, none⟩ = some z0 ∧ (w1.setCell ⟨b, o + 1, none⟩ r).frozen? ⟨b, o, none⟩ = false) ∧ (w1.setCell ⟨b, o + 1, none⟩ r).cell? ⟨b, o + 1, none⟩ = some r ∧ (w1.setCell ⟨b, o + 1, none⟩ r).cell? ⟨c, p, none⟩ = some (.bool m) ∧ (w1.setCell ⟨b, o + 1, none⟩ r).cell? ⟨d, t, none⟩ = some (.bool n) ∧
      ∀ (q : Bool) (j : Nat), IntRo b o cb Tb vz q N B w (((w1.setCell ⟨b, o + 1, none⟩ r).drewN j).setCell ⟨b, o, none⟩ (.bool q))) := Lib.hid (fun k => by
    refine (hm pk zs (w.drewN k) (ho.drewN k) (hx.below (undrewN' (Below.refl _ _))) (hy.below (undrewN' (Below.refl _ _))) hBs (hK.drewN k)).mono ?_
    rintro e w1 ⟨r, he, h⟩
    have h' : NatR vz r N B w w1 := by rw [hN]; exact ⟨h.own, undrewN h.below, fun t ht hn => h.fr t ht hn, h.at'⟩
    have rb := h'.fr.row hb hneb
    have rc := h'.fr.row hc (fun hz => ho.neRow hc hTc hz)
    have rd := h'.fr.row hd (fun hz => ho.neRow hd hTd hz)
    have rs := rowset (i := o + 1) r rb
    have lt1 : o + 1 < cb.size := (Array.getElem?_eq_some_iff.1 b1).1
    have oth : ∀ (e i : Nat) (ce : Array Value) (Te : TypeId) (u : Value), w1.heap[e]? = some (.cells ce Te (0, 0)) → ce[i]? = some u → i ≠ o + 1 → (w1.setCell ⟨b, o + 1, none⟩ r).cell? ⟨e, i, none⟩ = some u := fun e i ce Te u he hu hi => by
      by_cases heb : e = b
      · subst heb
        rw [rb] at he
        injection he with he; injection he with he _ _
        rw [cell_of_row _ e i _ _ _ rs, Array.getElem?_setIfInBounds, if_neg (Ne.symm hi), he]
        exact hu
      · exact (cell_other (by simpa using (Ne.symm heb))).trans ((cell_of_row _ e i _ _ _ he).trans hu)
    refine ⟨r, he, h'.own.isS, by rw [h'.own.len, cellsW_length, wds_length], row_at rb b1, ⟨oth b o cb Tb z0 rb b0 (by omega), frozen_of_row _ b o _ _ rs⟩, ?_, oth c p cc Tc _ rc c0 hp, oth d t cd Td _ rd d0 ht, fun q j => ?_⟩
    · rw [cell_of_row _ b (o + 1) _ _ _ rs, Array.getElem?_setIfInBounds, if_pos rfl, if_pos lt1]
    · have hi := IntRo.of (o := o) (neg := q) hb hTb hB hneb h'
      have e : ((w1.setCell ⟨b, o + 1, none⟩ r).drewN j).setCell ⟨b, o, none⟩ (.bool q) = ((w1.setCell ⟨b, o + 1, none⟩ r).setCell ⟨b, o, none⟩ (.bool q)).drewN j := rfl
      rw [e]
      obtain ⟨r0, i1, i2, i3⟩ := hi.row
      exact ⟨⟨r0, i1, i2.drewN j, i3⟩, undrewN' hi.below, hi.fr⟩)
  rw [← hN]
  rcases Nat.eq_zero_or_pos N with h0 | h0
  · have e1 : (decide (0 < N) && (m != n)) = false := by rw [h0]; rfl
    rw [e1]
    have hl0 : nw N = 0 := by rw [h0]; rfl
    rw [hl0] at HM
    clear hb hc hd b0 b1 c0 c1 d0 d1 ho hx hy hm hK hB hbs hBs hneb hN h0 hl0 e1
    go_enter Tryz.func128, Tryz.ntmps128
    go_upto_region 3 with fail
    (refine wp_region_hoist 14 (by kernel_rfl) (by kernel_rfl) ⟨fun _ _ _ h => (by first | exact (hQp _ _ _ h).elim | cases h.2.1 | (obtain ⟨_, h3, _⟩ := h.2; cases h3)), fun _ _ h => (by first | exact (hQo _ _ h).elim | cases h.1 | (obtain ⟨_, h3, _⟩ := h; cases h3))⟩ ?_; simp only [List.take_succ_cons, List.take_zero, List.drop_succ_cons, List.drop_zero]; (repeat (go_big_quiet_step (fail))); refine wpQuiet_nil ?_; rintro _ ⟨nq, rfl⟩)
    go_wp2_with fail
    refine (HM.out _).mono ?_
    rintro _ w1 ⟨r, rfl, hSr, hLr, ⟨a1, f1⟩, ⟨a0, f0⟩, a2, a3, a4, hQ⟩
    have HQ := Lib.hid hQ
    clear hQ
    go_wp2_with fail
    obtain ⟨w2, hw2⟩ : ∃ w2, w2 = w1.setCell ⟨b, o + 1, none⟩ r := ⟨_, rfl⟩
    rw [← hw2] at a0 f0 a2 a3 a4 HQ ⊢
    clear hw2 a1 f1
    (refine wp_region_hoist 20 (by kernel_rfl) (by kernel_rfl) ⟨fun _ _ _ h => (by first | exact (hQp _ _ _ h).elim | cases h.2.1 | (obtain ⟨_, h3, _⟩ := h.2; cases h3)), fun _ _ h => (by first | exact (hQo _ _ h).elim | cases h.1 | (obtain ⟨_, h3, _⟩ := h; cases h3))⟩ ?_; simp only [List.take_succ_cons, List.take_zero, List.drop_succ_cons, List.drop_zero]; (repeat (go_big_quiet_step (fail))); refine wpQuiet_nil ?_; rintro _ ⟨nq, rfl⟩)
    go_wp2
    go_end0
    exact ⟨rfl, HQ.out false _⟩
  · obtain ⟨l, hl⟩ : ∃ l, l = nw N := ⟨_, rfl⟩
    have hlp : 0 < l := by rw [hl]; exact nw_pos h0
    rw [← hl] at HM
    have tl : decide ((l : Int) > 0) = true := decide_eq_true (by omega)
    have tl' : decide (0 < l) = true := decide_eq_true hlp
    have e1 : (decide (0 < N) && (m != n)) = (m != n) := by rw [decide_eq_true h0]; rfl
    rw [e1]
    clear hb hc hd b0 b1 c0 c1 d0 d1 ho hx hy hm hK hB hbs hBs hneb hN h0 hl e1
    go_enter Tryz.func128, Tryz.ntmps128
    go_upto_region 3 with fail
    (refine wp_region_hoist 14 (by kernel_rfl) (by kernel_rfl) ⟨fun _ _ _ h => (by first | exact (hQp _ _ _ h).elim | cases h.2.1 | (obtain ⟨_, h3, _⟩ := h.2; cases h3)), fun _ _ h => (by first | exact (hQo _ _ h).elim | cases h.1 | (obtain ⟨_, h3, _⟩ := h; cases h3))⟩ ?_; simp only [List.take_succ_cons, List.take_zero, List.drop_succ_cons, List.drop_zero]; (repeat (go_big_quiet_step (fail))); refine wpQuiet_nil ?_; rintro _ ⟨nq, rfl⟩)
    go_wp2_with fail
    refine (HM.out _).mono ?_
    rintro _ w1 ⟨r, rfl, hSr, hLr, ⟨a1, f1⟩, ⟨a0, f0⟩, a2, a3, a4, hQ⟩
    have HQ := Lib.hid hQ
    clear hQ
    go_wp2_with fail
    obtain ⟨w2, hw2⟩ : ∃ w2, w2 = w1.setCell ⟨b, o + 1, none⟩ r := ⟨_, rfl⟩
    rw [← hw2] at a0 f0 a2 a3 a4 HQ ⊢
    clear hw2 a1 f1
    (refine wp_region_hoist 20 (by kernel_rfl) (by kernel_rfl) ⟨fun _ _ _ h => (by first | exact (hQp _ _ _ h).elim | cases h.2.1 | (obtain ⟨_, h3, _⟩ := h.2; cases h3)), fun _ _ h => (by first | exact (hQo _ _ h).elim | cases h.1 | (obtain ⟨_, h3, _⟩ := h; cases h3))⟩ ?_; simp only [List.take_succ_cons, List.take_zero, List.drop_succ_cons, List.drop_zero]; (repeat (go_big_quiet_step (fail))); refine wpQuiet_nil ?_; rintro _ ⟨nq, rfl⟩)
    go_wp2
    go_end0
    exact ⟨rfl, HQ.out _ _⟩
theorem eqlR (w : World) {b o c q : Nat} {cb cc : Array Value} {tb tc : TypeId} (hne : b ≠ c) (hb : w.heap[b]? = some (.cells cb tb (0, 0))) (hc : w.heap[c]? = some (.cells cc tc (0, 0))) :
    (binOp .eql 77 (.pointer (some ⟨b, o, none⟩)) (.pointer (some ⟨c, q, none⟩))).run Tryz.prog w = .ok (.bool false) w := by
  obtain ⟨j, hj, hz⟩ := info_size sizeR
  exact run_eql_ptr_other w Tryz.underlying77 hj (by omega) (by simp) hb hc
set_option maxRecDepth 100000 in
set_option maxHeartbeats 3200000 in
theorem ratMul_fk (z x y B : Nat) (nz m n : Bool) (vz uz vx ux vy uy : Value) (zs us : List Value) (X1 X2 Y1 Y2 : Nat) (w : World)
    (hz : w.heap[z]? = some (.cells #[.bool nz, vz, .bool false, uz] 112 (0, 0))) (oz : Own w B 116 vz zs) (oz2 : Own w B 116 uz us) (sz : 0 < sCap vz → 0 < sCap uz → sBlk vz ≠ sBlk uz)
    (hx : w.heap[x]? = some (.cells #[.bool m, vx, .bool false, ux] 112 (0, 0))) (ox1 : RO w vx (wds X1)) (ox2 : RO w ux (wds X2))
    (hy : w.heap[y]? = some (.cells #[.bool n, vy, .bool false, uy] 112 (0, 0))) (oy1 : RO w vy (wds Y1)) (oy2 : RO w uy (wds Y2)) (hxy : x ≠ y)
    (dx : 0 < sCap vz → sBlk ux ≠ sBlk vz) (dy : 0 < sCap vz → sBlk uy ≠ sBlk vz) (hml : MlP vz vx vy X1 Y1 B) (hm : MdP uz ux uy X2 Y2 B) (p1 : 0 < X2) (p2 : 0 < Y2)
    (k5 : nw (X1 * Y1) < 40) (k6 : nw (X2 * Y2) < 40) (hB : B ≤ z) (hK : KarW w) (hT : DivW w) (dg : 4 < B) (kg : 3 < B) :
    Calls Tryz.prog 78 #[.pointer (some ⟨z, 0, none⟩), .pointer (some ⟨x, 0, none⟩), .pointer (some ⟨y, 0, none⟩)] w fun e w' => e = .returned (.pointer (some ⟨z, 0, none⟩)) ∧ RatP w' B z ((decide (0 < X1 * Y1) && (m != n)) && decide (0 < X1 * Y1)) (X1 * Y1 / Nat.gcd (X1 * Y1) (X2 * Y2)) (X2 * Y2 / Nat.gcd (X1 * Y1) (X2 * Y2)) ∧ Below B w w' ∧ FrK w w' := by
  have hSx := ox2.rw.isS
  have hSy := oy2.rw.isS
  have hSz2 := oz2.isS
  have hxl : x < w.heap.size := get_lt hx
  have hyl : y < w.heap.size := get_lt hy
  have hzl : z < w.heap.size := get_lt hz
  obtain ⟨S, hS⟩ : ∃ S, S = X1 * Y1 := ⟨_, rfl⟩
  obtain ⟨sg, hsg⟩ : ∃ sg, sg = (decide (0 < X1 * Y1) && (m != n)) := ⟨_, rfl⟩
  obtain ⟨s, hs⟩ : ∃ s, s = w.heap.size := ⟨_, rfl⟩
  obtain ⟨W, hW⟩ : ∃ W, W = w.alloc (.cells #[.pointer none] 182) := ⟨_, rfl⟩
  have hWz : W.heap.size = s + 1 := by rw [hW, hs]; simp
  have hbw : Below w.heap.size w W := by rw [hW]; exact fbone _
  have rs : W.heap[s]? = some (.cells #[.pointer none] 182 (0, 0)) := by rw [hW, hs]; exact heap_alloc_new _ _
  have rzW := keep_row hbw hz
  have rxW := keep_row hbw hx
  have ryW := keep_row hbw hy
  have heq := eqlR W (o := 0) (q := 0) hxy rxW ryW
  have HC : Hid (∀ k, Calls Tryz.prog 128 #[.pointer (some ⟨z, 0, none⟩), .pointer (some ⟨s, 0, none⟩), .pointer (some ⟨x, 0, none⟩), .pointer (some ⟨y, 0, none⟩)] (W.drewN k) (fun e w' => e = .returned (.tuple #[]) ∧ ∃ r1, SmW z s x y B S X2 Y2 sg r1 uz ux uy us w w')) := Lib.hid (fun k => by
    have hbk : Below w.heap.size w (W.drewN k) := undrewN' hbw
    have ozw := oz.below hbk
    refine (intMul_any z 0 x 0 y 0 m n vz vx vy _ zs X1 Y1 B _ _ _ _ _ _ (W.drewN k) rzW rxW ryW (by decide) (by decide) (by decide) rfl rfl rfl rfl rfl rfl hxy (by decide) (by decide) ozw (ox1.below hbk) (oy1.below hbk) hml hB (hK.below hbk)).mono ?_
    rintro e w' ⟨he, hi⟩
    obtain ⟨r, i1, i2, i3⟩ := hi.row
    have hwz : (W.drewN k).heap.size = s + 1 := hWz
    have ozs : ∀ j, j < w.heap.size → j ≠ z → (0 < sCap vz → j ≠ sBlk vz) → w'.heap[j]? = w.heap[j]? := fun j hj hne hv => (hi.fr j (by omega) hne hv).trans (hbk.block j hj)
    have i1' : w'.heap[z]? = some (.cells #[.bool sg, r, .bool false, uz] 112 (0, 0)) := by rw [hsg]; exact i1
    have hcell : ∀ (q : Nat) (a : Bool) (b c : Value), w.heap[q]? = some (.cells #[.bool a, b, .bool false, c] 112 (0, 0)) → w'.cell? ⟨q, 3, none⟩ = some c := fun q a b c hq => by
      by_cases hqz : q = z
      · subst hqz
        rw [hz] at hq
        injection hq with hq; injection hq with hq
        have : uz = c := by injection hq with hq; injection hq with _ hq; injection hq with _ hq; injection hq with _ hq; injection hq
        rw [← this]
        exact (row_at (i := 3) i1' rfl).1
      · exact (row_at (i := 3) ((ozs q (get_lt hq) hqz (fun hc => oz.neRow hq (by decide) hc)).trans hq) rfl).1
    have hro : ∀ {v : Value} {N : Nat}, RO w v (wds N) → (0 < sCap vz → sBlk v ≠ sBlk vz) → RO w' v (wds N) := fun {v N} hv hd => hv.same fun hl => by
      obtain ⟨c, hc⟩ := hv.row hl
      refine ozs _ (get_lt hc) (fun he => ?_) hd
      rw [he, hz] at hc
      injection hc with hc; injection hc with _ hc
      exact absurd hc (by decide)
    have hbz : Below B w w' := (hbk.mono (by omega)).trans hi.below
    refine ⟨he, r, i1', ?_, hcell x _ _ _ hx, hcell y _ _ _ hy, by rw [hS]; exact i2, oz2.same fun hc => ozs _ (oz2.lt hc).2 (fun he => oz2.neRow hz (by decide) hc he.symm) (fun a => (sz a hc).symm), fun a b he => ?_, hro ox2 dx, hro oy2 dy, hbz, ?_, hT.belowB hbz dg, hB, by omega, dg, kg, fun k cs hk => ozs k (get_lt hk) (fun he => by rw [he, hz] at hk; injection hk with hk; injection hk with _ hk; exact absurd hk (by decide)) (fun hc => oz.neRow hk (by decide) hc)⟩
    · exact (hi.fr s (by omega) (by omega) (fun hc => by have := (oz.lt hc).2; omega)).trans rs
    · rcases i3 a with ⟨p, q⟩ | p
      · exact sz p b (q.symm.trans he)
      · have := (oz2.lt b).2; omega
    · unfold KarW; rw [hbz.cell (p := ⟨3, 0, none⟩) kg]; exact hK)
  have HP := Lib.hid (And.intro hm (And.intro p1 (And.intro p2 (And.intro (show nw S < 40 by rw [hS]; exact k5) k6))))
  have hQo : ∀ w', (Ending.outgrown = Ending.returned (.pointer (some ⟨z, 0, none⟩)) ∧ RatP w' B z (sg && decide (0 < S)) (S / Nat.gcd S (X2 * Y2)) (X2 * Y2 / Nat.gcd S (X2 * Y2)) ∧ Below B w w' ∧ FrK w w') → False := fun _ h => by cases h.1
  rw [← hsg, ← hS]
  have HW' := Lib.hid hW
  have HSs := Lib.hid hs
  clear hz oz oz2 sz hx ox1 ox2 hy oy1 oy2 dx dy hml hm p1 p2 k5 k6 hB hK hT dg kg rs rzW rxW ryW hbw hWz hxl hyl hzl hS hsg hs hW hxy
  go_enter_defers Tryz.func78, Tryz.ntmps78
  go_wp2_with fail
  refine (getStack_any _).mono ?_
  rintro _ _ ⟨rfl, rfl⟩
  rw [← HW'.out, ← HSs.out]
  go_upto_region 10 with fail
  (refine wp_region_noPanic ?_; refine wp_region_hoist 10 (by kernel_rfl) (by kernel_rfl) ⟨fun _ _ _ h => h, fun _ w'' h => hQo w'' h⟩ ?_; simp only [List.take_succ_cons, List.take_zero, List.drop_succ_cons, List.drop_zero]; (repeat (go_big_quiet_step (fail))); refine wpQuiet_nil ?_; rintro _ ⟨nq, rfl⟩)
  go_wp2_with fail
  refine (HC.out _).mono ?_
  rintro _ w3 ⟨rfl, r1, hsm⟩
  have b1 := (row_at (i := 3) hsm.row rfl).1
  have b2 := hsm.c1
  have b3 := hsm.c2
  have HSM := Lib.hid hsm
  clear hsm
  go_wp2_with fail
  refine NoPanic.normal ?_
  go_upto_region 11 with fail
  (refine wp_region_noPanic ?_; refine wp_region_hoistP [0, 1, 2, 3, 4, 5, 7, 8, 9, 10, 12, 13, 14, 15] [6, 11, 16] [] [17, 18, 19, 20, 21] (by kernel_rfl) (by kernel_rfl) ⟨fun _ _ _ h => h, fun _ w'' h => hQo w'' h⟩ ?_; simp only [pickOps, List.flatMap_cons, List.flatMap_nil, Option.toList_some, List.cons_append, List.nil_append, List.getElem?_toArray, List.getElem?_cons_zero, List.getElem?_cons_succ]; (repeat (go_big_quiet_step (fail))); refine wpQuiet_nil ?_; (repeat (go_big_quiet_step (fail))); refine wpQuiet_nil ?_; rintro _ ⟨nq, rfl⟩; (repeat (go_big_quiet_step (fail))); refine wpQuiet_nil ?_)
  go_wp2_with fail
  refine ((HSM.out.drewN _).den HP.out.1 HP.out.2.1 HP.out.2.2.1 HP.out.2.2.2.1 HP.out.2.2.2.2).mono ?_
  rintro _ w4 ⟨r, rfl, hSr, hrow, hnm⟩
  have HNM := Lib.hid hnm
  obtain ⟨e1, e2⟩ := row_at (i := 3) hrow rfl
  clear hnm hrow
  go_wp2_with fail
  refine NoPanic.normal ?_
  go_wp2_with fail
  refine HNM.out.mono ?_
  rintro _ w5 ⟨rfl, hst, hrt, hbl⟩
  have HQ := Lib.hid (And.intro hrt hbl)
  clear hrt hbl
  go_wp2
  refine leaves_cons (f := 121) (args := #[.pointer (some ⟨s, 0, none⟩)]) (by simp) (by simp [go_sem]) ?_
  refine (free_d s _ _ hst).mono ?_
  rintro e u' w'' ⟨rfl, rfl, rfl⟩
  simp [Leaves, settle, results, Tryz.results78, go_sem]
  exact HQ.out
structure SrW (x s B N D : Nat) (o : Option (Nat × Value)) (neg : Bool) (v1 v2 : Value) (w0 w : World) : Prop where
  row : w.heap[x]? = some (.cells #[.bool neg, v1, .bool false, v2] 112 (0, 0))
  o1 : Own w B 116 v1 (cellsW (wds N))
  o2 : Own w B 116 v2 (cellsW (wds D))
  ne : 0 < sCap v1 → 0 < sCap v2 → sBlk v1 ≠ sBlk v2
  st : StO w B s 0 o
  n1 : 0 < sCap v1 → ¬ SBk s o (sBlk v1)
  n2 : 0 < sCap v2 → ¬ SBk s o (sBlk v2)
  hx : B ≤ x
  sq : SqrW w
  bl : Below B w0 w
  fk : FrK w0 w
section
variable {x s B N D : Nat} {o : Option (Nat × Value)} {neg : Bool} {v1 v2 : Value} {w0 w : World}
theorem SrW.below {w' : World} (h : SrW x s B N D o neg v1 v2 w0 w) (hb : Below w.heap.size w w') : SrW x s B N D o neg v1 v2 w0 w' :=
  ⟨keep_row hb h.row, h.o1.below hb, h.o2.below hb, h.ne, h.st.below hb, h.n1, h.n2, h.hx, h.sq.below hb, h.bl.trans (hb.mono (Nat.le_trans h.hx (Nat.le_of_lt (get_lt h.row)))), h.fk.trans (FrK.ofBelow hb)⟩
theorem SrW.drewN (h : SrW x s B N D o neg v1 v2 w0 w) (k : Nat) : SrW x s B N D o neg v1 v2 w0 (w.drewN k) := h.below (undrewN' (Below.refl _ _))
theorem SrW.put {i : Nat} {u : Value} {neg' : Bool} (h : SrW x s B N D o neg v1 v2 w0 w) (hg : ∀ w', Below B w w' → SqrW w') (he : (#[.bool neg, v1, .bool false, v2] : Array Value).setIfInBounds i u = #[.bool neg', v1, .bool false, v2]) : SrW x s B N D o neg' v1 v2 w0 (w.setCell ⟨x, i, none⟩ u) := by
  have h1 := rowset (i := i) u h.row
  rw [he] at h1
  have hns : ¬ SBk s o x := h.st.nrow h.row (by decide) (by decide) (by decide)
  refine ⟨h1, h.o1.away h.row (by decide) i u, h.o2.away h.row (by decide) i u, h.ne, h.st.keep fun k hk => ?_, h.n1, h.n2, h.hx, hg _ (bset (Below.refl _ _) h.hx), bset h.bl h.hx, h.fk.set h.row (by decide)⟩
  exact heap_setCell_other _ _ _ _ (by simp only; intro he2; exact hns (he2 ▸ hk))
theorem SrW.sq1 (h : SrW x s B N D o neg v1 v2 w0 w) (hg : ∀ w', Below B w w' → SqrW w') (h80 : nw N < 80) :
    Calls Tryz.prog 127 #[v1, .pointer (some ⟨s, 0, none⟩), v1] w fun e w' => ∃ r, e = .returned r ∧ IsS r ∧ w'.heap[x]? = some (.cells #[.bool neg, v1, .bool false, v2] 112 (0, 0)) ∧ ∃ o', SrW x s B (N * N) D o' neg r v2 w0 (w'.setCell ⟨x, 1, none⟩ r) := by
  have hxl := get_lt h.row
  refine (nsqr_st v1 v1 _ N B s o w h.st h.o1 (Opn.of h.o1) (Av.self _) h.n1 h.n1 h80 (Nat.le_trans h.hx (Nat.le_of_lt hxl)) h.sq).mono ?_
  rintro e w' ⟨r, he, hS, o', Q⟩
  have hnx : ¬ SBk s o x := h.st.nrow h.row (by decide) (by decide) (by decide)
  have hx1 : 0 < sCap v1 → x ≠ sBlk v1 := fun hc he => h.o1.neRow h.row (by decide) hc he
  have hr : w'.heap[x]? = some (.cells #[.bool neg, v1, .bool false, v2] 112 (0, 0)) := (Q.fr x hxl hnx hx1).trans h.row
  have hst : (#[.bool neg, v1, .bool false, v2] : Array Value).setIfInBounds 1 r = #[.bool neg, r, .bool false, v2] := rfl
  have hr' := rowset (i := 1) r hr
  rw [hst] at hr'
  have hns' : ¬ SBk s o' x := Q.st.nrow hr (by decide) (by decide) (by decide)
  have ho2 : Own w' B 116 v2 (cellsW (wds D)) := h.o2.same fun hc => Q.fr _ (h.o2.lt hc).2 (h.n2 hc) (fun hc1 he => h.ne hc1 hc he.symm)
  have fq : FrK w w' := fun k cs hk => Q.fr k (get_lt hk) (h.st.nrow hk (by decide) (by decide) (by decide)) (fun hc he => h.o1.neRow hk (by decide) hc he)
  have hb := h.bl.trans Q.below
  refine ⟨r, he, hS, hr, o', hr', Q.own.away hr (by decide) 1 r, ho2.away hr (by decide) 1 r, fun a b hab => ?_, Q.st.keep fun k hk => ?_, Q.ns, fun hc hk => ?_, h.hx, hg _ (bset Q.below h.hx), bset hb h.hx, (h.fk.trans fq).set hr (by decide)⟩
  · rcases Q.at' a with ⟨c, d⟩ | c
    · exact h.ne c b (d.symm.trans hab)
    · have := (h.o2.lt b).2; omega
  · exact heap_setCell_other _ _ _ _ (by simp only; intro he2; exact hns' (he2 ▸ hk))
  · rcases Q.sb _ hk with c | c
    · exact h.n2 hc c
    · have := (h.o2.lt hc).2; omega
theorem SrW.sq2 (h : SrW x s B N D o neg v1 v2 w0 w) (hg : ∀ w', Below B w w' → SqrW w') (h80 : nw D < 80) :
    Calls Tryz.prog 127 #[v2, .pointer (some ⟨s, 0, none⟩), v2] w fun e w' => ∃ r, e = .returned r ∧ IsS r ∧ w'.heap[x]? = some (.cells #[.bool neg, v1, .bool false, v2] 112 (0, 0)) ∧ ∃ o', SrW x s B N (D * D) o' neg v1 r w0 (w'.setCell ⟨x, 3, none⟩ r) := by
  have hxl := get_lt h.row
  refine (nsqr_st v2 v2 _ D B s o w h.st h.o2 (Opn.of h.o2) (Av.self _) h.n2 h.n2 h80 (Nat.le_trans h.hx (Nat.le_of_lt hxl)) h.sq).mono ?_
  rintro e w' ⟨r, he, hS, o', Q⟩
  have hnx : ¬ SBk s o x := h.st.nrow h.row (by decide) (by decide) (by decide)
  have hx1 : 0 < sCap v2 → x ≠ sBlk v2 := fun hc he => h.o2.neRow h.row (by decide) hc he
  have hr : w'.heap[x]? = some (.cells #[.bool neg, v1, .bool false, v2] 112 (0, 0)) := (Q.fr x hxl hnx hx1).trans h.row
  have hst : (#[.bool neg, v1, .bool false, v2] : Array Value).setIfInBounds 3 r = #[.bool neg, v1, .bool false, r] := rfl
  have hr' := rowset (i := 3) r hr
  rw [hst] at hr'
  have hns' : ¬ SBk s o' x := Q.st.nrow hr (by decide) (by decide) (by decide)
  have ho1 : Own w' B 116 v1 (cellsW (wds N)) := h.o1.same fun hc => Q.fr _ (h.o1.lt hc).2 (h.n1 hc) (fun hc1 he => h.ne hc hc1 he)
  have fq : FrK w w' := fun k cs hk => Q.fr k (get_lt hk) (h.st.nrow hk (by decide) (by decide) (by decide)) (fun hc he => h.o2.neRow hk (by decide) hc he)
  have hb := h.bl.trans Q.below
  refine ⟨r, he, hS, hr, o', hr', ho1.away hr (by decide) 3 r, Q.own.away hr (by decide) 3 r, fun a b hab => ?_, Q.st.keep fun k hk => ?_, fun hc hk => ?_, Q.ns, h.hx, hg _ (bset Q.below h.hx), bset hb h.hx, (h.fk.trans fq).set hr (by decide)⟩
  · rcases Q.at' b with ⟨c, d⟩ | c
    · exact h.ne a c (hab.trans d)
    · have := (h.o1.lt a).2; omega
  · exact heap_setCell_other _ _ _ _ (by simp only; intro he2; exact hns' (he2 ▸ hk))
  · rcases Q.sb _ hk with c | c
    · exact h.n1 hc c
    · have := (h.o1.lt hc).2; omega
theorem SrW.rat (h : SrW x s B N D o neg v1 v2 w0 w) : RatP w B x neg N D ∧ Below B w0 w ∧ FrK w0 w := ⟨⟨v1, v2, h.hx, h.row, h.o1, h.o2⟩, h.bl, h.fk⟩
theorem SrW.fin {q0 : Nat} {v0 : Value} (h : SrW x s B N D (some (q0, v0)) neg v1 v2 w0 w) : w.heap[s]? = some (.cells #[.pointer (some ⟨q0, 0, none⟩)] 182 (0, 0)) ∧ w.heap[q0]? = some (.cells #[v0] 204 (0, 0)) ∧ IsS v0 ∧ RatP (w.setCell ⟨q0, 0, none⟩ (subS v0 0 0)) B x neg N D ∧ Below B w0 (w.setCell ⟨q0, 0, none⟩ (subS v0 0 0)) ∧ FrK w0 (w.setCell ⟨q0, 0, none⟩ (subS v0 0 0)) := by
  obtain ⟨_, h1, h2, h3, xs, h4, _⟩ := h.st
  simp only at h1 h2 h3 h4
  have hne : x ≠ q0 := fun he => by
    have hr := h.row
    rw [he, h3] at hr
    injection hr with hr; injection hr with _ hr; exact absurd hr (by decide)
  refine ⟨h2, h3, h4.isS, ⟨v1, v2, h.hx, ?_, h.o1.away h3 (by decide) 0 _, h.o2.away h3 (by decide) 0 _⟩, bset h.bl h1, h.fk.set h3 (by decide)⟩
  rw [heap_setCell_other _ _ _ _ (by simpa using hne)]; exact h.row
end
theorem eqlR_same (w : World) (a : Addr) : (binOp .eql 77 (.pointer (some a)) (.pointer (some a))).run Tryz.prog w = .ok (.bool true) w := by
  obtain ⟨j, hj, hz⟩ := info_size sizeR
  exact run_eql_ptr_same w a Tryz.underlying77 hj
theorem SqrW.belowB {B : Nat} {w w' : World} (h : SqrW w) (hb : Below B w w') (k1 : 1 < B) (k2 : 2 < B) : SqrW w' := by
  unfold SqrW
  rw [hb.cell (p := ⟨1, 0, none⟩) k1, hb.cell (p := ⟨2, 0, none⟩) k2]
  exact h
set_option maxRecDepth 100000 in
set_option maxHeartbeats 3200000 in
theorem ratSqr_any (x B : Nat) (neg : Bool) (N D : Nat) (w : World) (hx : RatQ w B x neg N D) (p2 : 0 < D) (k1 : nw N < 80) (k2 : nw D < 80) (hB : B ≤ w.heap.size) (hK : SqrW w) (g1 : 1 < B) (g2 : 2 < B) :
    Calls Tryz.prog 78 #[.pointer (some ⟨x, 0, none⟩), .pointer (some ⟨x, 0, none⟩), .pointer (some ⟨x, 0, none⟩)] w fun e w' => e = .returned (.pointer (some ⟨x, 0, none⟩)) ∧ RatP w' B x false (N * N) (D * D) ∧ Below B w w' ∧ FrK w w' := by
  obtain ⟨v1, v2, hBx, hrow, o1, o2, hne⟩ := hx
  obtain ⟨s, hs⟩ : ∃ s, s = w.heap.size := ⟨_, rfl⟩
  obtain ⟨W, hW⟩ : ∃ W, W = w.alloc (.cells #[.pointer none] 182) := ⟨_, rfl⟩
  have hbw : Below w.heap.size w W := by rw [hW]; exact fbone _
  have rs : W.heap[s]? = some (.cells #[.pointer none] 182 (0, 0)) := by rw [hW, hs]; exact heap_alloc_new _ _
  have hst : StO W B s 0 none := ⟨by omega, rs, rfl⟩
  have hn1 : ∀ v : Value, 0 < sCap v → sBlk v < w.heap.size → ¬ SBk s none (sBlk v) := fun v _ hl hk => by
    rcases hk with h | ⟨_, h, _⟩
    · omega
    · cases h
  have hbB : Below B w W := hbw.mono hB
  have hg : ∀ w', Below B w w' → SqrW w' := fun w' hb => hK.belowB hb g1 g2
  have hS0 : SrW x s B N D none neg v1 v2 w W := ⟨keep_row hbw hrow, o1.below hbw, o2.below hbw, hne, hst, fun hc => hn1 v1 hc (o1.lt hc).2, fun hc => hn1 v2 hc (o2.lt hc).2, hBx, hg _ hbB, hbB, FrK.ofBelow hbw⟩
  obtain ⟨a0, c0⟩ : W.cell? ⟨x, 0, none⟩ = some (.bool neg) ∧ W.frozen? ⟨x, 0, none⟩ = false := row_at (i := 0) hS0.row rfl
  have hS1 := hS0.put (i := 0) (u := .bool false) (neg' := false) (fun w' hb => hg w' (hbB.trans hb)) rfl
  have heq := eqlR_same W ⟨x, 0, none⟩
  obtain ⟨W1, hW1⟩ : ∃ W1, W1 = W.setCell ⟨x, 0, none⟩ (.bool false) := ⟨_, rfl⟩
  rw [← hW1] at hS1
  have HS1 := Lib.hid hS1
  have HG := Lib.hid hg
  have HK := Lib.hid (And.intro k1 (And.intro k2 p2))
  have HW := Lib.hid hW
  have HW1 := Lib.hid hW1
  have HSs := Lib.hid hs
  have b1 : W1.cell? ⟨x, 1, none⟩ = some v1 := (row_at (i := 1) hS1.row rfl).1
  have hQo : ∀ w', (Ending.outgrown = Ending.returned (.pointer (some ⟨x, 0, none⟩)) ∧ RatP w' B x false (N * N) (D * D) ∧ Below B w w' ∧ FrK w w') → False := fun _ h => by cases h.1
  clear hrow o1 o2 hne hs hW hbw rs hst hn1 hbB hg hS0 hS1 hW1 p2 k1 k2 hB hK g1 g2 hBx
  go_enter_defers Tryz.func78, Tryz.ntmps78
  go_wp2_with fail
  refine (getStack_any _).mono ?_
  rintro _ _ ⟨rfl, rfl⟩
  rw [← HW.out, ← HSs.out]
  go_upto_region 5 with fail
  rw [← HW1.out]
  (refine wp_region_noPanic ?_; refine wp_region_hoistP [0, 1, 2, 3, 4, 6, 7, 8, 9, 10] [5, 11] [] [12, 13, 14, 15, 16] (by kernel_rfl) (by kernel_rfl) ⟨fun _ _ _ h => h, fun _ w'' h => hQo w'' h⟩ ?_; simp only [pickOps, List.flatMap_cons, List.flatMap_nil, Option.toList_some, List.cons_append, List.nil_append, List.getElem?_toArray, List.getElem?_cons_zero, List.getElem?_cons_succ]; (repeat (go_big_quiet_step (fail))); refine wpQuiet_nil ?_; (repeat (go_big_quiet_step (fail))); refine wpQuiet_nil ?_; rintro _ ⟨nq, rfl⟩; (repeat (go_big_quiet_step (fail))); refine wpQuiet_nil ?_)
  go_wp2_with fail
  refine ((HS1.out.drewN _).sq1 (fun w' hb => HG.out w' ((undrewN' HS1.out.bl).trans hb)) HK.out.1).mono ?_
  rintro _ w2 ⟨r1, rfl, hSr1, hrow2, o1, hS2⟩
  have HS2 := Lib.hid hS2
  obtain ⟨a1, c1⟩ : w2.cell? ⟨x, 1, none⟩ = some v1 ∧ w2.frozen? ⟨x, 1, none⟩ = false := row_at (i := 1) hrow2 rfl
  have b3 : (w2.setCell ⟨x, 1, none⟩ r1).cell? ⟨x, 3, none⟩ = some v2 := (row_at (i := 3) hS2.row rfl).1
  have hSv2 := hS2.o2.isS
  have hL2 : sLen v2 = nw D := by rw [(Opn.of hS2.o2).len]
  have t0 : ((nw D : Int) == 0) = false := by rw [beq_eq_false_iff_ne]; have := nw_pos HK.out.2.2; omega
  clear hS2 hrow2
  go_wp2_with fail
  refine NoPanic.normal ?_
  go_upto_region 8 with fail
  (refine wp_region_noPanic ?_; refine wp_region_hoistP [0, 1, 2, 3, 4, 6, 7, 8, 9, 10] [5, 11] [] [12, 13, 14, 15, 16] (by kernel_rfl) (by kernel_rfl) ⟨fun _ _ _ h => h, fun _ w'' h => hQo w'' h⟩ ?_; simp only [pickOps, List.flatMap_cons, List.flatMap_nil, Option.toList_some, List.cons_append, List.nil_append, List.getElem?_toArray, List.getElem?_cons_zero, List.getElem?_cons_succ]; (repeat (go_big_quiet_step (fail))); refine wpQuiet_nil ?_; (repeat (go_big_quiet_step (fail))); refine wpQuiet_nil ?_; rintro _ ⟨nq, rfl⟩; (repeat (go_big_quiet_step (fail))); refine wpQuiet_nil ?_)
  go_wp2_with fail
  refine ((HS2.out.drewN _).sq2 (fun w' hb => HG.out w' ((undrewN' HS2.out.bl).trans hb)) HK.out.2.1).mono ?_
  rintro _ w3 ⟨r2, rfl, hSr2, hrow3, o2, hS3⟩
  have HS3 := Lib.hid hS3
  obtain ⟨a3, c3⟩ : w3.cell? ⟨x, 3, none⟩ = some v2 ∧ w3.frozen? ⟨x, 3, none⟩ = false := row_at (i := 3) hrow3 rfl
  clear hS3 hrow3
  go_wp2_with fail
  refine NoPanic.normal ?_
  match o2, HS3 with
  | none, HS3 =>
    have hst := HS3.out.st
    have HR := Lib.hid (free_d s .returning (w3.setCell ⟨x, 3, none⟩ r2) (row_at (i := 0) hst.2.1 rfl).1)
    clear hst
    go_wp2
    refine leaves_cons (f := 121) (args := #[.pointer (some ⟨s, 0, none⟩)]) (by simp) (by simp [go_sem]) ?_
    refine HR.out.mono ?_
    rintro e u' w'' ⟨rfl, rfl, rfl⟩
    simp [Leaves, settle, results, Tryz.results78, go_sem]
    exact HS3.out.rat
  | some (q0, v0), HS3 =>
    obtain ⟨f1, f2, f3, hfin⟩ := HS3.out.fin
    have HR := Lib.hid (free_some s q0 v0 .returning (w3.setCell ⟨x, 3, none⟩ r2) f1 f2 f3)
    have Q := Lib.hid hfin
    clear f1 f2 f3 hfin
    go_wp2
    refine leaves_cons (f := 121) (args := #[.pointer (some ⟨s, 0, none⟩)]) (by simp) (by simp [go_sem]) ?_
    refine HR.out.mono ?_
    rintro e u' w'' ⟨rfl, rfl, rfl⟩
    simp [Leaves, settle, results, Tryz.results78, go_sem]
    exact Q.out
theorem mlP_gen (z x y : Value) (X Y B : Nat) (hk : nw X < 40 ∨ nw Y < 40) (hl : nw X ≤ 100000000) (hl2 : nw Y ≤ 100000000) (cx : sCap x ≤ maxLen) (cy : sCap y ≤ maxLen) (ax : Av z x) (ay : Av z y) : MlP z x y X Y B := by
  intro pk zs w hz hx hy hB hK
  refine (nmul_gen (pk := pk) z x y zs X Y B w hz ⟨hx, cx⟩ ⟨hy, cy⟩ ax ay hk hl hl2 hB hK).mono ?_
  rintro e w' ⟨r, he, -, ho⟩
  exact ⟨r, he, ho⟩
set_option maxRecDepth 100000 in
set_option maxHeartbeats 800000 in
theorem mulDenom_gen (z x y : Value) (X Y B : Nat) (hX : 0 < X) (hY : 0 < Y) (hX40 : nw X < 40) (hY40 : nw Y < 40) (cx : sCap x ≤ maxLen) (cy : sCap y ≤ maxLen) (ax : Av z x) (ay : Av z y) : MdP z x y X Y B := by
  intro s zs w hz hx hy hB hK
  have hSz := hz.isS
  have hSx := hx.rw.isS
  have hSy := hy.rw.isS
  obtain ⟨m, hm⟩ : ∃ m, m = nw X := ⟨_, rfl⟩
  obtain ⟨n, hn⟩ : ∃ n, n = nw Y := ⟨_, rfl⟩
  have hLx : sLen x = m := by rw [hx.rw.len, wds_length, hm]
  have hLy : sLen y = n := by rw [hy.rw.len, wds_length, hn]
  have hm0 : 0 < m := by rw [hm]; exact nw_pos hX
  have hn0 : 0 < n := by rw [hn]; exact nw_pos hY
  have t1 : ((m : Int) == 0) = false := by rw [beq_eq_false_iff_ne]; omega
  have t1' : decide (m = 0) = false := decide_eq_false (by omega)
  have t2 : ((n : Int) == 0) = false := by rw [beq_eq_false_iff_ne]; omega
  have t2' : decide (n = 0) = false := decide_eq_false (by omega)
  have HC := Lib.hid (nmul_gen (pk := some ⟨s, 0, none⟩) z x y zs X Y B w hz ⟨hx, cx⟩ ⟨hy, cy⟩ ax ay (.inl hX40) (by omega) (by omega) hB hK)
  clear hz hx hy hB hK hm hn hX hY hX40 hY40 hm0 hn0 cx cy ax ay
  go_enter Tryz.func124, Tryz.ntmps124
  go_wp2_with fail
  refine HC.out.mono ?_
  rintro _ w1 ⟨r, rfl, hSr, hr⟩
  have Q := Lib.hid hr
  clear hr
  go_wp2
  go_ret
  exact ⟨_, rfl, Q.out⟩
def Ap (a b : Value) : Prop := 0 < sCap a → 0 < sCap b → sBlk a ≠ sBlk b
theorem Ap.symm {a b : Value} (h : Ap a b) : Ap b a := fun h1 h2 he => h h2 h1 he.symm
theorem Own.capPos {w : World} {B N : Nat} {v : Value} (h : Own w B 116 v (cellsW (wds N))) (hN : 0 < N) : 0 < sCap v := by
  have h1 := h.isS.le
  rw [(Opn.of h).len] at h1
  have := nw_pos hN
  omega
theorem Ap.av {a b : Value} (h : Ap a b) (hb : 0 < sCap b) : Av a b := .inr fun ha => h ha hb
structure TwoQ (w : World) (B x y : Nat) (m n : Bool) (X1 X2 Y1 Y2 : Nat) (vx ux vy uy : Value) : Prop where
  bx : B ≤ x
  rx : w.heap[x]? = some (.cells #[.bool m, vx, .bool false, ux] 112 (0, 0))
  x1 : Own w B 116 vx (cellsW (wds X1))
  x2 : Own w B 116 ux (cellsW (wds X2))
  xx : Ap vx ux
  bY : B ≤ y
  ry : w.heap[y]? = some (.cells #[.bool n, vy, .bool false, uy] 112 (0, 0))
  y1 : Own w B 116 vy (cellsW (wds Y1))
  y2 : Own w B 116 uy (cellsW (wds Y2))
  yy : Ap vy uy
  ne : x ≠ y
  c11 : Ap vx vy
  c12 : Ap vx uy
  c21 : Ap ux vy
  c22 : Ap ux uy
theorem TwoQ.symm {w : World} {B x y X1 X2 Y1 Y2 : Nat} {m n : Bool} {vx ux vy uy : Value} (h : TwoQ w B x y m n X1 X2 Y1 Y2 vx ux vy uy) : TwoQ w B y x n m Y1 Y2 X1 X2 vy uy vx ux :=
  ⟨h.bY, h.ry, h.y1, h.y2, h.yy, h.bx, h.rx, h.x1, h.x2, h.xx, h.ne.symm, h.c11.symm, h.c21.symm, h.c12.symm, h.c22.symm⟩
theorem Own.apart {w1 w : World} {B N M : Nat} {a b : Value} (ha : Own w1 B 116 a (cellsW (wds N))) (hb : Own w w1.heap.size 116 b (cellsW (wds M))) : Ap a b := fun h1 h2 he => by
  have k1 := (ha.lt h1).2
  have k2 := (hb.lt h2).1
  omega
theorem TwoQ.of {w1 w : World} {B x y X1 X2 Y1 Y2 : Nat} {m n : Bool} (hx : RatQ w1 B x m X1 X2) (hb : Below w1.heap.size w1 w) (hy : RatQ w w1.heap.size y n Y1 Y2) (hB : B ≤ w1.heap.size) : ∃ vx ux vy uy, TwoQ w B x y m n X1 X2 Y1 Y2 vx ux vy uy := by
  obtain ⟨vx, ux, h1, h2, h3, h4, h5⟩ := hx
  obtain ⟨vy, uy, k1, k2, k3, k4, k5⟩ := hy
  have hl := get_lt h2
  exact ⟨vx, ux, vy, uy, h1, keep_row hb h2, h3.below hb, h4.below hb, h5, Nat.le_trans hB k1, k2, k3.mono hB, k4.mono hB, k5, by omega, h3.apart k3, h3.apart k4, h4.apart k3, h4.apart k4⟩
structure Rcv (w : World) (B z X1 Y1 : Nat) (vx ux vy uy : Value) (nz : Bool) (vz uz : Value) (zs us : List Value) : Prop where
  hB : B ≤ z
  rz : w.heap[z]? = some (.cells #[.bool nz, vz, .bool false, uz] 112 (0, 0))
  o1 : Own w B 116 vz zs
  o2 : Own w B 116 uz us
  zz : Ap vz uz
  a11 : 0 < X1 → 0 < Y1 → Av vz vx
  a12 : 0 < X1 → 0 < Y1 → Av vz vy
  a21 : Av uz ux
  a22 : Av uz uy
  dx : 0 < sCap vz → sBlk ux ≠ sBlk vz
  dy : 0 < sCap vz → sBlk uy ≠ sBlk vz
section
variable {w : World} {B x y X1 X2 Y1 Y2 : Nat} {m n : Bool} {vx ux vy uy : Value}
theorem TwoQ.rcvL (h : TwoQ w B x y m n X1 X2 Y1 Y2 vx ux vy uy) (p2 : 0 < X2) (p3 : 0 < Y2) : Rcv w B x X1 Y1 vx ux vy uy m vx ux (cellsW (wds X1)) (cellsW (wds X2)) :=
  ⟨h.bx, h.rx, h.x1, h.x2, h.xx, fun _ _ => Av.self _, fun _ p1 => h.c11.av (h.y1.capPos p1), Av.self _, h.c22.av (h.y2.capPos p3), fun hc => (h.xx hc (h.x2.capPos p2)).symm, fun hc => (h.c12 hc (h.y2.capPos p3)).symm⟩
theorem TwoQ.rcvR (h : TwoQ w B x y m n X1 X2 Y1 Y2 vx ux vy uy) (p2 : 0 < X2) (p3 : 0 < Y2) : Rcv w B y X1 Y1 vx ux vy uy n vy uy (cellsW (wds Y1)) (cellsW (wds Y2)) :=
  ⟨h.bY, h.ry, h.y1, h.y2, h.yy, fun p1 _ => h.c11.symm.av (h.x1.capPos p1), fun _ _ => Av.self _, h.c22.symm.av (h.x2.capPos p2), Av.self _, fun hc => (h.c21.symm hc (h.x2.capPos p2)).symm, fun hc => (h.yy hc (h.y2.capPos p3)).symm⟩
end
set_option maxRecDepth 100000 in
set_option maxHeartbeats 800000 in
theorem nmul_zr {pk : Option Addr} (z x y : Value) (zs : List Value) (X B : Nat) (w : World) (hz : Own w B 116 z zs) (hx : RO w x (wds X)) (hy : RO w y (wds 0)) :
    Calls Tryz.prog 144 #[z, .pointer pk, x, y] w fun e w' => ∃ r, e = .returned r ∧ IsS r ∧ NatR z r 0 B w w' := by
  have hSz := hz.isS
  have hSx := hx.rw.isS
  have hSy := hy.rw.isS
  obtain ⟨m, hm⟩ : ∃ m, m = nw X := ⟨_, rfl⟩
  have hLx : sLen x = m := by rw [hx.rw.len, wds_length, hm]
  have hLy : sLen y = 0 := by rw [hy.rw.len, wds_length]; decide
  have Q : Hid (NatR z (subS z 0 0) 0 B w w) := Lib.hid (NatR.zero z zs B w hz)
  have hS0 : IsS (subS z 0 0) := subS_isS hSz (Nat.zero_le _) (Nat.zero_le _)
  clear hz hx hy hm
  by_cases hm0 : m = 0
  · subst hm0
    go_enter Tryz.func144, Tryz.ntmps144
    go_wp2
    go_ret
    exact ⟨_, rfl, hS0, Q.out⟩
  · have t2 : ((m : Int) == 0) = false := by rw [beq_eq_false_iff_ne]; omega
    have t3 : decide ((m : Int) < 0) = false := decide_eq_false (by omega)
    clear hm0
    go_enter Tryz.func144, Tryz.ntmps144
    go_wp2
    go_ret
    exact ⟨_, rfl, hS0, Q.out⟩
set_option maxRecDepth 100000 in
set_option maxHeartbeats 800000 in
theorem nmul_zl {pk : Option Addr} (z x y : Value) (zs : List Value) (Y B : Nat) (w : World) (hz : Own w B 116 z zs) (hx : RO w x (wds 0)) (hy : RO w y (wds Y)) :
    Calls Tryz.prog 144 #[z, .pointer pk, x, y] w fun e w' => ∃ r, e = .returned r ∧ IsS r ∧ NatR z r 0 B w w' := by
  rcases Nat.eq_zero_or_pos (nw Y) with h0 | h0
  · have hY0 : Y = 0 := nw_eq_zero.1 h0
    subst hY0
    exact nmul_zr z x y zs 0 B w hz hx hy
  · have HR := Lib.hid (nmul_zr (pk := pk) z y x zs Y B w hz hy hx)
    have hSz := hz.isS
    have hSx := hx.rw.isS
    have hSy := hy.rw.isS
    obtain ⟨n, hn⟩ : ∃ n, n = nw Y := ⟨_, rfl⟩
    have hLx : sLen x = 0 := by rw [hx.rw.len, wds_length]; decide
    have hLy : sLen y = n := by rw [hy.rw.len, wds_length, hn]
    have t1 : decide ((0 : Int) < (n : Int)) = true := decide_eq_true (by omega)
    have t1' : decide (0 < n) = true := decide_eq_true (by omega)
    clear hz hx hy hn h0
    go_enter Tryz.func144, Tryz.ntmps144
    go_wp2_with fail
    refine HR.out.mono ?_
    rintro _ w1 ⟨r, rfl, hSq, h⟩
    have Q := Lib.hid h
    clear h
    go_wp2
    go_ret
    exact ⟨_, rfl, hSq, Q.out⟩
theorem mlP_rcv (z x y : Value) (X Y B : Nat) (hk : nw X < 40 ∨ nw Y < 40) (hl : nw X ≤ 100000000) (hl2 : nw Y ≤ 100000000) (cx : sCap x ≤ maxLen) (cy : sCap y ≤ maxLen) (ax : 0 < X → 0 < Y → Av z x) (ay : 0 < X → 0 < Y → Av z y) : MlP z x y X Y B := by
  rcases Nat.eq_zero_or_pos X with h0 | h0
  · subst h0
    intro pk zs w hz hx hy _ _
    rw [Nat.zero_mul]
    refine (nmul_zl (pk := pk) z x y zs Y B w hz hx hy).mono ?_
    rintro e w' ⟨r, he, -, ho⟩
    exact ⟨r, he, ho⟩
  rcases Nat.eq_zero_or_pos Y with h1 | h1
  · subst h1
    intro pk zs w hz hx hy _ _
    rw [Nat.mul_zero]
    refine (nmul_zr (pk := pk) z x y zs X B w hz hx hy).mono ?_
    rintro e w' ⟨r, he, -, ho⟩
    exact ⟨r, he, ho⟩
  exact mlP_gen z x y X Y B hk hl hl2 cx cy (ax h0 h1) (ay h0 h1)
end Go.Proofs.YtllhnjpnkmjopaaGreatDoor
