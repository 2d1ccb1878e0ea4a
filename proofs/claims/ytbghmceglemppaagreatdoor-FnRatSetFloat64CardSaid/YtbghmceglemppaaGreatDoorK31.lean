/-
Texts of this proof, joined: NmF RcC RsZ IsA RsA RcD KsP RcE NgA. No condition.
-/
import Derived.Test.YtbghmceglemppaaGreatDoorK02
import Derived.Test.YtbghmceglemppaaGreatDoorK04
import Derived.Test.YtbghmceglemppaaGreatDoorK15
import Derived.Test.YtbghmceglemppaaGreatDoorK23
import Derived.Test.YtbghmceglemppaaGreatDoorK30
import Derived.Deep.RegionHeld3
/-
Rat.norm in all its cases with a denominator that has words. No condition but the threshold of recursive division.
-/
namespace Go.Proofs.YtbghmceglemppaaGreatDoor
open Go.RowKit

set_option maxHeartbeats 1600000 in
theorem norm_full (g B N D : Nat) (n : Bool) (va vb : Value) (w : World) (row : w.heap[g]? = some (.cells #[.bool n, va, .bool false, vb] 113 (0, 0))) (oa : Own w B 181 va (cellsW (wds N))) (ob : Own w B 181 vb (cellsW (wds D)))
    (hab : 0 < sCap va → 0 < sCap vb → sBlk va ≠ sBlk vb) (hD0 : 0 < D) (hN : nw N < 40) (hD : nw D < 40) (hB : B ≤ g) (hT : DivW w) (hg : 4 < B) :
    Calls Tryz.prog 124 #[.pointer (some ⟨g, 0, none⟩)] w fun e w' => e = .returned (.pointer (some ⟨g, 0, none⟩)) ∧ NmP g B (N / Nat.gcd N D) (D / Nat.gcd N D) (n && decide (0 < N)) va vb w w' := by
  rcases Nat.eq_zero_or_pos N with h0 | h0
  · subst h0
    have hBw : B ≤ w.heap.size := Nat.le_trans hB (Nat.le_of_lt (get_lt row))
    have la : sLen va = 0 := oa.len
    refine (norm_zero g B n false va vb _ w row oa.isS la ob hBw).mono ?_
    rintro e w' ⟨he, r, w1, hr, rfl⟩
    rw [Nat.gcd_zero_left, Nat.zero_div, Nat.div_self hD0, decide_eq_false (show ¬ 0 < 0 by omega), Bool.and_false]
    have row2 := rowset (i := 0) (.bool false) row
    have ob2 := ob.away row (by decide) 0 (.bool false)
    have oa2 := oa.away row (by decide) 0 (.bool false)
    have h1 := (hr.fr g (get_lt row2) (fun hc => ob2.neRow row2 (by decide) hc)).trans row2
    have h2 := rowset (i := 3) r h1
    have oa3 := oa2.frz hr.fr (fun a b => hab a b)
    refine ⟨he, ⟨va, r, hB, h2, oa3.away h1 (by decide) 3 r, by have h := hr.own.away h1 (by decide) 3 r; exact h⟩, bset ((bset (Below.refl B w) hB).trans hr.below) hB, fun k hk a b c => ?_⟩
    rw [heap_setCell_other _ _ _ _ (by simpa using a)]
    refine (hr.fr k (by simpa using hk) c).trans ?_
    exact heap_setCell_other _ _ _ _ (by simpa using a)
  · rw [decide_eq_true h0, Bool.and_true]
    exact norm_rat g B N D n false va vb w row oa ob hab h0 hD0 hN hD hB hT hg
end Go.Proofs.YtbghmceglemppaaGreatDoor

/-
Rat.Cmp. No condition but the threshold of Karatsuba.
-/
namespace Go.Proofs.YtbghmceglemppaaGreatDoor
open Go.RowKit

theorem nw_mul_le (a b : Nat) : nw (a * b) ≤ nw a + nw b := nw_le (by rw [Nat.pow_add]; exact Nat.mul_lt_mul'' (lt_nw a) (lt_nw b))
theorem ScP.pre {b N : Nat} {neg : Bool} {w w0 w1 : World} (hw : Below w.heap.size w w0) (hb : b < w.heap.size) (h : ScP b neg N w0 w1) : ScP b neg N w w1 := by
  obtain ⟨⟨r, h1, h2⟩, h3, h4⟩ := h
  exact ⟨⟨r, h1, h2.mono hw.size⟩, (hw.mono (Nat.le_of_lt hb)).trans h3, fun j hj hne => (h4 j (Nat.lt_of_lt_of_le hj hw.size) hne).trans (hw.block j hj)⟩
end Go.Proofs.YtbghmceglemppaaGreatDoor

/-
mulDenom of two denominators that have words; what lies once a sum's numerator is written. No condition but the thresholds.
-/
namespace Go.Proofs.YtbghmceglemppaaGreatDoor
open Go.RowKit

/-- What mulDenom does with a receiver and two denominators. -/
def MdP (z x y : Value) (X Y B : Nat) : Prop := ∀ (s : Nat) (zs : List Value) (w : World), Own w B 181 z zs → RO w x (wds X) → RO w y (wds Y) → B ≤ w.heap.size → KarW w →
  Calls Tryz.prog 140 #[.pointer (some ⟨s, 0, none⟩), z, x, y] w fun e w' => ∃ r, e = .returned r ∧ NatR z r (X * Y) B w w'
set_option maxRecDepth 100000 in
set_option maxHeartbeats 800000 in
theorem mulDenom_nil (x y : Value) (X Y B : Nat) (hX : 0 < X) (hY : 0 < Y) (hX40 : nw X < 40) (hY40 : nw Y < 40) : MdP (.slice none 0 0) x y X Y B := by
  intro s zs w _ hx hy hB hK
  have hSx := hx.rw.isS
  have hSy := hy.rw.isS
  obtain ⟨m, hm⟩ : ∃ m, m = nw X := ⟨_, rfl⟩
  obtain ⟨n, hn⟩ : ∃ n, n = nw Y := ⟨_, rfl⟩
  have hLx : sLen x = m := by rw [hx.rw.len, wds_length, hm]
  have hLy : sLen y = n := by rw [hy.rw.len, wds_length, hn]
  have hm0 : 0 < m := by rw [hm]; exact nw_pos hX
  have hn0 : 0 < n := by rw [hn]; exact nw_pos hY
  have t1 : ((m : Int) == 0) = false := by rw [beq_eq_false_iff_ne]; omega
  have t1' : decide (m = 0) = false := decide_eq_false (by omega)
  have t2 : ((n : Int) == 0) = false := by rw [beq_eq_false_iff_ne]; omega
  have t2' : decide (n = 0) = false := decide_eq_false (by omega)
  have HC := Lib.hid (nmul_any (pk := some ⟨s, 0, none⟩) x y X Y w hx hy (.inl hX40) (by omega) (by omega) hK)
  have HB := Lib.hid hB
  clear hx hy hB hK hm hn hX hY hX40 hY40 hm0 hn0
  go_enter Tryz.func140, Tryz.ntmps140
  go_wp2_with fail
  refine HC.out.mono ?_
  rintro _ w1 ⟨r, rfl, ho, hb⟩
  have hSr := ho.isS
  have Q : Hid (NatR (.slice none 0 0) r (X * Y) B w w1) := Lib.hid ⟨ho.mono HB.out, hb.mono HB.out, Fr.ofBelow hb, fun hc => .inr (ho.lt hc).1⟩
  clear ho hb
  go_wp2
  go_ret
  exact ⟨_, rfl, Q.out⟩
/-- The state of Rat.Add and Rat.Sub once the numerator is written: the receiver, the stack, what is still read. -/
structure SmW (z s x y B S X2 Y2 : Nat) (sg : Bool) (r1 uz ux uy : Value) (us : List Value) (w0 w : World) : Prop where
  row : w.heap[z]? = some (.cells #[.bool sg, r1, .bool false, uz] 113 (0, 0))
  rs : w.heap[s]? = some (.cells #[.pointer none] 226 (0, 0))
  c1 : w.cell? ⟨x, 3, none⟩ = some ux
  c2 : w.cell? ⟨y, 3, none⟩ = some uy
  o1 : Own w B 181 r1 (cellsW (wds S))
  oz : Own w B 181 uz us
  ne : 0 < sCap r1 → 0 < sCap uz → sBlk r1 ≠ sBlk uz
  vx : RO w ux (wds X2)
  vy : RO w uy (wds Y2)
  bl : Below B w0 w
  kw : KarW w
  tw : DivW w
  hz : B ≤ z
  sz : w0.heap.size ≤ s
  dg : 4 < B
  kg : 3 < B
section
variable {z s x y B S X2 Y2 : Nat} {sg : Bool} {r1 uz ux uy : Value} {us : List Value} {w0 w : World}
theorem SmW.drewN (h : SmW z s x y B S X2 Y2 sg r1 uz ux uy us w0 w) (k : Nat) : SmW z s x y B S X2 Y2 sg r1 uz ux uy us w0 (w.drewN k) :=
  ⟨h.row, h.rs, h.c1, h.c2, h.o1.drewN k, h.oz.drewN k, h.ne, h.vx.below (undrewN' (Below.refl _ _)), h.vy.below (undrewN' (Below.refl _ _)), undrewN' h.bl, h.kw, h.tw, h.hz, h.sz, h.dg, h.kg⟩
/-- mulDenom's call, and norm's behind the store. -/
theorem SmW.den (h : SmW z s x y B S X2 Y2 sg r1 uz ux uy us w0 w) (hm : MdP uz ux uy X2 Y2 B) (hX : 0 < X2) (hY : 0 < Y2) (hS : nw S < 40) (hD : nw (X2 * Y2) < 40) :
    Calls Tryz.prog 140 #[.pointer (some ⟨s, 0, none⟩), uz, ux, uy] w fun e w' => ∃ r, e = .returned r ∧ IsS r ∧ w'.heap[z]? = some (.cells #[.bool sg, r1, .bool false, uz] 113 (0, 0)) ∧
      Calls Tryz.prog 124 #[.pointer (some ⟨z, 0, none⟩)] (w'.setCell ⟨z, 3, none⟩ r) fun e2 w2 => e2 = .returned (.pointer (some ⟨z, 0, none⟩)) ∧ w2.cell? ⟨s, 0, none⟩ = some (.pointer none) ∧ RatP w2 B z (sg && decide (0 < S)) (S / Nat.gcd S (X2 * Y2)) (X2 * Y2 / Nat.gcd S (X2 * Y2)) ∧ Below B w0 w2 := by
  have hBw : B ≤ w.heap.size := Nat.le_trans h.hz (Nat.le_of_lt (get_lt h.row))
  refine (hm s us w h.oz h.vx h.vy hBw h.kw).mono ?_
  rintro e w' ⟨r, he, hr⟩
  have hz1 := hr.below.size
  have hzl := get_lt h.row
  have hsl := get_lt h.rs
  have q1 : w'.heap[z]? = some (.cells #[.bool sg, r1, .bool false, uz] 113 (0, 0)) := hr.fr.row h.row (fun hc => h.oz.neRow h.row (by decide) hc)
  have q2 : w'.heap[s]? = some (.cells #[.pointer none] 226 (0, 0)) := hr.fr.row h.rs (fun hc => h.oz.neRow h.rs (by decide) hc)
  have o1 : Own w' B 181 r1 (cellsW (wds S)) := h.o1.frz hr.fr h.ne
  have hne : 0 < sCap r1 → 0 < sCap r → sBlk r1 ≠ sBlk r := fun a b hc => by
    rcases hr.at' b with ⟨p, q⟩ | p
    · exact h.ne a p (hc.trans q)
    · have := (h.o1.lt a).2; omega
  have p1 := rowset (i := 3) r q1
  have hzs : s ≠ z := fun hc => by
    have h1 := h.rs
    rw [hc, h.row] at h1
    injection h1 with h1; injection h1 with _ h2
    exact absurd h2 (by decide)
  have p2 : (w'.setCell ⟨z, 3, none⟩ r).heap[s]? = some (.cells #[.pointer none] 226 (0, 0)) := by
    rw [heap_setCell_other _ _ _ _ (by simpa using hzs)]; exact q2
  have oa := o1.away q1 (by decide) 3 r
  have ob := hr.own.away q1 (by decide) 3 r
  have hb' : Below B w (w'.setCell ⟨z, 3, none⟩ r) := bset hr.below h.hz
  refine ⟨r, he, hr.own.isS, q1, (norm_full z B S (X2 * Y2) sg r1 r _ p1 oa ob hne (Nat.mul_pos hX hY) hS hD h.hz (h.tw.belowB hb' h.dg) h.dg).mono ?_⟩
  rintro e2 w2 ⟨he2, hn⟩
  refine ⟨he2, ?_, hn.rat, h.bl.trans (hb'.trans hn.bl)⟩
  have h5 := hn.fr s (get_lt p2) hzs (fun hc => oa.neRow p2 (by decide) hc) (fun hc => ob.neRow p2 (by decide) hc)
  exact (row_at (i := 0) (h5.trans p2) rfl).1
end
end Go.Proofs.YtbghmceglemppaaGreatDoor

/-
Int.Sub of two boxes into a third. No condition.
-/
namespace Go.Proofs.YtbghmceglemppaaGreatDoor
open Go.RowKit

theorem bn_ne {m n : Bool} (h : m = !n) : (m == n) = false ∧ (m != n) = true := by subst h; cases n <;> exact ⟨rfl, rfl⟩
theorem bn_eq {m n : Bool} (h : ¬ m = !n) : (m == n) = true ∧ (m != n) = false := by cases m <;> cases n <;> first | exact ⟨rfl, rfl⟩ | exact absurd rfl h
set_option maxRecDepth 100000 in
set_option maxHeartbeats 3200000 in
theorem intSub_any (b o c p d t : Nat) (m n : Bool) (vz vx vy z0 : Value) (zs : List Value) (X Y B : Nat) (cb cc cd : Array Value) (Tb Tc Td : TypeId) (w : World)
    (hb : w.heap[b]? = some (.cells cb Tb (0, 0))) (hc : w.heap[c]? = some (.cells cc Tc (0, 0))) (hd : w.heap[d]? = some (.cells cd Td (0, 0))) (hTb : Tb ≠ 181)
    (b0 : cb[o]? = some z0) (b1 : cb[o + 1]? = some vz) (c0 : cc[p]? = some (.bool m)) (c1 : cc[p + 1]? = some vx) (d0 : cd[t]? = some (.bool n)) (d1 : cd[t + 1]? = some vy)
    (ho : Own w B 181 vz zs) (hx : RO w vx (wds X)) (hy : RO w vy (wds Y)) (ax : Al vz vx) (ay : Al vz vy) (hX : nw X ≤ 1000000) (hY : nw Y ≤ 1000000) (hB : B ≤ b) :
    Calls Tryz.prog 144 #[.pointer (some ⟨b, o, none⟩), .pointer (some ⟨c, p, none⟩), .pointer (some ⟨d, t, none⟩)] w fun e w' => e = .returned (.pointer (some ⟨b, o, none⟩)) ∧ IntRo b o cb Tb vz (decide (0 < addM m X (!n) Y) && addN m X (!n) Y) (addM m X (!n) Y) B w w' := by
  have hSz := ho.isS
  have hSx := hx.rw.isS
  have hSy := hy.rw.isS
  have hbs := get_lt hb
  have hBs : B ≤ w.heap.size := Nat.le_trans hB (Nat.le_of_lt hbs)
  have x0 : w.cell? ⟨c, p, none⟩ = some (.bool m) := (row_at hc c0).1
  have x1 : w.cell? ⟨c, p + 1, none⟩ = some vx := (row_at hc c1).1
  have y0 : w.cell? ⟨d, t, none⟩ = some (.bool n) := (row_at hd d0).1
  have y1 : w.cell? ⟨d, t + 1, none⟩ = some vy := (row_at hd d1).1
  have z1 : w.cell? ⟨b, o + 1, none⟩ = some vz := (row_at hb b1).1
  have hneb : 0 < sCap vz → b ≠ sBlk vz := ho.neRow hb hTb
  have hfin : ∀ (N k : Nat) (r : Value) (w1 : World), NatR vz r N B (w.drewN k) w1 → w1.heap[b]? = some (.cells cb Tb (0, 0)) ∧ IsS r ∧ sLen r = nw N ∧ ∀ q : Bool, IntRo b o cb Tb vz q N B w ((w1.setCell ⟨b, o + 1, none⟩ r).setCell ⟨b, o, none⟩ (.bool q)) := fun N k r w1 h => by
    have h' : NatR vz r N B w w1 := ⟨h.own, undrewN h.below, fun t ht hn => h.fr t ht hn, h.at'⟩
    exact ⟨h'.fr.row hb hneb, h.own.isS, by rw [h.own.len, cellsW_length, wds_length], fun q => .of hb hTb hB hneb h'⟩
  have HADD : Hid (∀ W, (∃ k, W = w.drewN k) → Calls Tryz.prog 172 #[vz, vx, vy] W fun e w1 => ∃ r, e = .returned r ∧ w1.heap[b]? = some (.cells cb Tb (0, 0)) ∧ IsS r ∧ sLen r = nw (X + Y) ∧ ∀ q : Bool, IntRo b o cb Tb vz q (X + Y) B w ((w1.setCell ⟨b, o + 1, none⟩ r).setCell ⟨b, o, none⟩ (.bool q))) := Lib.hid (by
    rintro _ ⟨k, rfl⟩
    refine (nadd_any vz vx vy zs X Y B (w.drewN k) (ho.drewN k) (hx.below (undrewN' (Below.refl _ _))) (hy.below (undrewN' (Below.refl _ _))) ax ay (by omega) (by omega) hBs).mono ?_
    rintro _ w1 ⟨r, rfl, h⟩
    exact ⟨r, rfl, hfin _ k r w1 h⟩)
  have HS1 : Hid (Y ≤ X → ∀ W, (∃ k, W = w.drewN k) → Calls Tryz.prog 175 #[vz, vx, vy] W fun e w1 => ∃ r, e = .returned r ∧ w1.heap[b]? = some (.cells cb Tb (0, 0)) ∧ IsS r ∧ sLen r = nw (X - Y) ∧ ∀ q : Bool, IntRo b o cb Tb vz q (X - Y) B w ((w1.setCell ⟨b, o + 1, none⟩ r).setCell ⟨b, o, none⟩ (.bool q))) := Lib.hid (by
    rintro h _ ⟨k, rfl⟩
    refine (nsub_any vz vx vy zs X Y B (w.drewN k) (ho.drewN k) (hx.below (undrewN' (Below.refl _ _))) (hy.below (undrewN' (Below.refl _ _))) ax ay h (by omega) hBs).mono ?_
    rintro _ w1 ⟨r, rfl, h⟩
    exact ⟨r, rfl, hfin _ k r w1 h⟩)
  have HS2 : Hid (X ≤ Y → ∀ W, (∃ k, W = w.drewN k) → Calls Tryz.prog 175 #[vz, vy, vx] W fun e w1 => ∃ r, e = .returned r ∧ w1.heap[b]? = some (.cells cb Tb (0, 0)) ∧ IsS r ∧ sLen r = nw (Y - X) ∧ ∀ q : Bool, IntRo b o cb Tb vz q (Y - X) B w ((w1.setCell ⟨b, o + 1, none⟩ r).setCell ⟨b, o, none⟩ (.bool q))) := Lib.hid (by
    rintro h _ ⟨k, rfl⟩
    refine (nsub_any vz vy vx zs Y X B (w.drewN k) (ho.drewN k) (hy.below (undrewN' (Below.refl _ _))) (hx.below (undrewN' (Below.refl _ _))) ay ax h (by omega) hBs).mono ?_
    rintro _ w1 ⟨r, rfl, h⟩
    exact ⟨r, rfl, hfin _ k r w1 h⟩)
  obtain ⟨C, hC⟩ : ∃ C, C = cmpN X Y := ⟨_, rfl⟩
  have HCM : Hid (∀ W, (∃ k, W = w.drewN k) → Calls Tryz.prog 195 #[vx, vy] W fun e w' => e = .returned (.int .i64 C) ∧ ∃ k, w' = w.drewN k) := Lib.hid (by
    rintro _ ⟨k, rfl⟩
    rw [hC]
    refine (cmp_any vx vy X Y (w.drewN k) (hx.rw.drewN k) (hy.rw.drewN k) (by omega) (by omega)).mono ?_
    rintro _ _ ⟨rfl, n, rfl⟩
    exact ⟨rfl, _, World.drewN_drewN _ _ _⟩)
  have HB0 := Lib.hid b0
  have HB1 := Lib.hid b1
  by_cases hmn : m = !n
  · have tmn : (m == n) = false := (bn_ne hmn).1
    have tmn' : (m != n) = true := (bn_ne hmn).2
    have e1 : addM m X (!n) Y = X + Y := if_pos hmn
    have e2 : addN m X (!n) Y = m := if_pos hmn
    rw [e1, e2]
    obtain ⟨N, hN⟩ : ∃ N, N = X + Y := ⟨_, rfl⟩
    rw [← hN] at HADD ⊢
    clear hb hc hd b0 b1 c0 c1 d0 d1 ho hx hy ax ay hX hY hB hbs hBs hneb hfin e1 e2 hC hN HS1 HS2 hmn
    go_enter Tryz.func144, Tryz.ntmps144
    go_wp2_with fail
    go_quiet (fail)
    go_wp2_with fail
    (refine wp_region_hoist 13 (by kernel_rfl) (by kernel_rfl) ⟨fun _ _ _ h => (by first | exact (hQp _ _ _ h).elim | cases h.2.1 | (obtain ⟨_, h3, _⟩ := h.2; cases h3)), fun _ _ h => (by first | exact (hQo _ _ h).elim | cases h.1 | (obtain ⟨_, h3, _⟩ := h; cases h3))⟩ ?_; simp only [List.take_succ_cons, List.take_zero, List.drop_succ_cons, List.drop_zero]; (repeat (go_big_quiet_step (fail))); refine wpQuiet_nil ?_; rintro _ ⟨nq, rfl⟩)
    go_wp2_with fail
    refine (HADD.out _ (by first | exact ⟨_, rfl⟩ | exact ⟨_, World.drewN_drewN _ _ _⟩)).mono ?_
    rintro _ w1 ⟨r, rfl, g1, hSr, hLr, hQ⟩
    obtain ⟨a0, f0⟩ : w1.cell? ⟨b, o, none⟩ = some z0 ∧ w1.frozen? ⟨b, o, none⟩ = false := ⟨(row_at g1 HB0.out).1, (row_at g1 HB0.out).2⟩
    obtain ⟨a1, f1⟩ : w1.cell? ⟨b, o + 1, none⟩ = some vz ∧ w1.frozen? ⟨b, o + 1, none⟩ = false := ⟨(row_at g1 HB1.out).1, (row_at g1 HB1.out).2⟩
    rcases Nat.eq_zero_or_pos N with h0 | h0
    · have hl0 : sLen r = 0 := by rw [hLr, h0]; rfl
      have Q : Hid (IntRo b o cb Tb vz (decide (0 < N) && m) N B w ((w1.setCell ⟨b, o + 1, none⟩ r).setCell ⟨b, o, none⟩ (.bool false))) := Lib.hid (by rw [show (decide (0 < N) && m) = false by rw [h0]; simp]; exact hQ false)
      clear g1 hLr hQ h0
      go_wp2
      go_ret
      exact ⟨rfl, Q.out⟩
    · obtain ⟨l, hl⟩ : ∃ l, l = nw N := ⟨_, rfl⟩
      have hlp : 0 < l := by rw [hl]; exact nw_pos h0
      rw [← hl] at hLr
      have tl : decide ((l : Int) > 0) = true := decide_eq_true (by omega)
      have tl' : decide (0 < l) = true := decide_eq_true hlp
      have Q : Hid (IntRo b o cb Tb vz (decide (0 < N) && m) N B w ((w1.setCell ⟨b, o + 1, none⟩ r).setCell ⟨b, o, none⟩ (.bool (m)))) := Lib.hid (by rw [show (decide (0 < N) && m) = (m) by rw [decide_eq_true h0]; simp]; exact hQ _)
      clear g1 hQ h0 hl
      go_wp2
      go_ret
      exact ⟨rfl, Q.out⟩
  · have tmn : (m == n) = true := (bn_eq hmn).1
    have tmn' : (m != n) = false := (bn_eq hmn).2
    by_cases hle : Y ≤ X
    · have e1 : addM m X (!n) Y = X - Y := by unfold addM; rw [if_neg hmn, if_pos hle]
      have e2 : addN m X (!n) Y = m := by unfold addN; rw [if_neg hmn, if_pos hle]
      have tC : decide (C ≥ 0) = true := by
        rw [hC]; unfold cmpN; rw [if_neg (by omega)]; split <;> rfl
      have tC' : decide (0 ≤ C) = true := tC
      have HSB := Lib.hid (HS1.out hle)
      rw [e1, e2]
      obtain ⟨N, hN⟩ : ∃ N, N = X - Y := ⟨_, rfl⟩
      rw [← hN] at HSB ⊢
      clear hb hc hd b0 b1 c0 c1 d0 d1 ho hx hy ax ay hX hY hB hbs hBs hneb hfin e1 e2 hC hle HS1 HS2 hmn hN
      go_enter Tryz.func144, Tryz.ntmps144
      go_wp2_with fail
      go_quiet (fail)
      go_wp2_with fail
      (refine wp_region_hoist 8 (by kernel_rfl) (by kernel_rfl) ⟨fun _ _ _ h => (by first | exact (hQp _ _ _ h).elim | cases h.2.1 | (obtain ⟨_, h3, _⟩ := h.2; cases h3)), fun _ _ h => (by first | exact (hQo _ _ h).elim | cases h.1 | (obtain ⟨_, h3, _⟩ := h; cases h3))⟩ ?_; simp only [List.take_succ_cons, List.take_zero, List.drop_succ_cons, List.drop_zero]; (repeat (go_big_quiet_step (fail))); refine wpQuiet_nil ?_; rintro _ ⟨nq, rfl⟩)
      go_wp2_with fail
      refine (HCM.out _ (by first | exact ⟨_, rfl⟩ | exact ⟨_, World.drewN_drewN _ _ _⟩)).mono ?_
      rintro _ _ ⟨rfl, k2, rfl⟩
      go_wp2_with fail
      (refine wp_region_hoist 13 (by kernel_rfl) (by kernel_rfl) ⟨fun _ _ _ h => (by first | exact (hQp _ _ _ h).elim | cases h.2.1 | (obtain ⟨_, h3, _⟩ := h.2; cases h3)), fun _ _ h => (by first | exact (hQo _ _ h).elim | cases h.1 | (obtain ⟨_, h3, _⟩ := h; cases h3))⟩ ?_; simp only [List.take_succ_cons, List.take_zero, List.drop_succ_cons, List.drop_zero]; (repeat (go_big_quiet_step (fail))); refine wpQuiet_nil ?_; rintro _ ⟨nq, rfl⟩)
      go_wp2_with fail
      refine (HSB.out _ (by first | exact ⟨_, rfl⟩ | exact ⟨_, World.drewN_drewN _ _ _⟩)).mono ?_
      rintro _ w1 ⟨r, rfl, g1, hSr, hLr, hQ⟩
      obtain ⟨a0, f0⟩ : w1.cell? ⟨b, o, none⟩ = some z0 ∧ w1.frozen? ⟨b, o, none⟩ = false := ⟨(row_at g1 HB0.out).1, (row_at g1 HB0.out).2⟩
      obtain ⟨a1, f1⟩ : w1.cell? ⟨b, o + 1, none⟩ = some vz ∧ w1.frozen? ⟨b, o + 1, none⟩ = false := ⟨(row_at g1 HB1.out).1, (row_at g1 HB1.out).2⟩
      rcases Nat.eq_zero_or_pos N with h0 | h0
      · have hl0 : sLen r = 0 := by rw [hLr, h0]; rfl
        have Q : Hid (IntRo b o cb Tb vz (decide (0 < N) && m) N B w ((w1.setCell ⟨b, o + 1, none⟩ r).setCell ⟨b, o, none⟩ (.bool false))) := Lib.hid (by rw [show (decide (0 < N) && m) = false by rw [h0]; simp]; exact hQ false)
        clear g1 hLr hQ h0
        go_wp2
        go_ret
        exact ⟨rfl, Q.out⟩
      · obtain ⟨l, hl⟩ : ∃ l, l = nw N := ⟨_, rfl⟩
        have hlp : 0 < l := by rw [hl]; exact nw_pos h0
        rw [← hl] at hLr
        have tl : decide ((l : Int) > 0) = true := decide_eq_true (by omega)
        have tl' : decide (0 < l) = true := decide_eq_true hlp
        have Q : Hid (IntRo b o cb Tb vz (decide (0 < N) && m) N B w ((w1.setCell ⟨b, o + 1, none⟩ r).setCell ⟨b, o, none⟩ (.bool (m)))) := Lib.hid (by rw [show (decide (0 < N) && m) = (m) by rw [decide_eq_true h0]; simp]; exact hQ _)
        clear g1 hQ h0 hl
        go_wp2
        go_ret
        exact ⟨rfl, Q.out⟩
    · have e1 : addM m X (!n) Y = Y - X := by unfold addM; rw [if_neg hmn, if_neg hle]
      have e2 : addN m X (!n) Y = !m := by unfold addN; rw [if_neg hmn, if_neg hle]
      have tC : decide (C ≥ 0) = false := by
        rw [hC]; unfold cmpN; rw [if_pos (by omega)]; rfl
      have tC' : decide (0 ≤ C) = false := tC
      have HSB := Lib.hid (HS2.out (by omega))
      rw [e1, e2]
      obtain ⟨N, hN⟩ : ∃ N, N = Y - X := ⟨_, rfl⟩
      rw [← hN] at HSB ⊢
      clear hb hc hd b0 b1 c0 c1 d0 d1 ho hx hy ax ay hX hY hB hbs hBs hneb hfin e1 e2 hC hle HS1 HS2 hmn hN
      go_enter Tryz.func144, Tryz.ntmps144
      go_wp2_with fail
      go_quiet (fail)
      go_wp2_with fail
      (refine wp_region_hoist 8 (by kernel_rfl) (by kernel_rfl) ⟨fun _ _ _ h => (by first | exact (hQp _ _ _ h).elim | cases h.2.1 | (obtain ⟨_, h3, _⟩ := h.2; cases h3)), fun _ _ h => (by first | exact (hQo _ _ h).elim | cases h.1 | (obtain ⟨_, h3, _⟩ := h; cases h3))⟩ ?_; simp only [List.take_succ_cons, List.take_zero, List.drop_succ_cons, List.drop_zero]; (repeat (go_big_quiet_step (fail))); refine wpQuiet_nil ?_; rintro _ ⟨nq, rfl⟩)
      go_wp2_with fail
      refine (HCM.out _ (by first | exact ⟨_, rfl⟩ | exact ⟨_, World.drewN_drewN _ _ _⟩)).mono ?_
      rintro _ _ ⟨rfl, k2, rfl⟩
      go_wp2_with fail
      (refine wp_region_hoist 13 (by kernel_rfl) (by kernel_rfl) ⟨fun _ _ _ h => (by first | exact (hQp _ _ _ h).elim | cases h.2.1 | (obtain ⟨_, h3, _⟩ := h.2; cases h3)), fun _ _ h => (by first | exact (hQo _ _ h).elim | cases h.1 | (obtain ⟨_, h3, _⟩ := h; cases h3))⟩ ?_; simp only [List.take_succ_cons, List.take_zero, List.drop_succ_cons, List.drop_zero]; (repeat (go_big_quiet_step (fail))); refine wpQuiet_nil ?_; rintro _ ⟨nq, rfl⟩)
      go_wp2_with fail
      refine (HSB.out _ (by first | exact ⟨_, rfl⟩ | exact ⟨_, World.drewN_drewN _ _ _⟩)).mono ?_
      rintro _ w1 ⟨r, rfl, g1, hSr, hLr, hQ⟩
      obtain ⟨a0, f0⟩ : w1.cell? ⟨b, o, none⟩ = some z0 ∧ w1.frozen? ⟨b, o, none⟩ = false := ⟨(row_at g1 HB0.out).1, (row_at g1 HB0.out).2⟩
      obtain ⟨a1, f1⟩ : w1.cell? ⟨b, o + 1, none⟩ = some vz ∧ w1.frozen? ⟨b, o + 1, none⟩ = false := ⟨(row_at g1 HB1.out).1, (row_at g1 HB1.out).2⟩
      rcases Nat.eq_zero_or_pos N with h0 | h0
      · have hl0 : sLen r = 0 := by rw [hLr, h0]; rfl
        have Q : Hid (IntRo b o cb Tb vz (decide (0 < N) && !m) N B w ((w1.setCell ⟨b, o + 1, none⟩ r).setCell ⟨b, o, none⟩ (.bool false))) := Lib.hid (by rw [show (decide (0 < N) && !m) = false by rw [h0]; simp]; exact hQ false)
        clear g1 hLr hQ h0
        go_wp2
        go_ret
        exact ⟨rfl, Q.out⟩
      · obtain ⟨l, hl⟩ : ∃ l, l = nw N := ⟨_, rfl⟩
        have hlp : 0 < l := by rw [hl]; exact nw_pos h0
        rw [← hl] at hLr
        have tl : decide ((l : Int) > 0) = true := decide_eq_true (by omega)
        have tl' : decide (0 < l) = true := decide_eq_true hlp
        have Q : Hid (IntRo b o cb Tb vz (decide (0 < N) && !m) N B w ((w1.setCell ⟨b, o + 1, none⟩ r).setCell ⟨b, o, none⟩ (.bool (!m)))) := Lib.hid (by rw [show (decide (0 < N) && !m) = (!m) by rw [decide_eq_true h0]; simp]; exact hQ _)
        clear g1 hQ h0 hl
        go_wp2
        go_ret
        exact ⟨rfl, Q.out⟩
end Go.Proofs.YtbghmceglemppaaGreatDoor

/-
Rat.Add and Rat.Sub of whatever receiver. No condition but the thresholds.
-/
namespace Go.Proofs.YtbghmceglemppaaGreatDoor
open Go.RowKit

set_option maxRecDepth 100000 in
set_option maxHeartbeats 3200000 in
theorem ratAdd_any (z x y B : Nat) (nz m n : Bool) (vz uz vx ux vy uy : Value) (zs us : List Value) (X1 X2 Y1 Y2 : Nat) (w : World)
    (hz : w.heap[z]? = some (.cells #[.bool nz, vz, .bool false, uz] 113 (0, 0))) (oz : Own w B 181 vz zs) (oz2 : Own w B 181 uz us) (sz : 0 < sCap vz → 0 < sCap uz → sBlk vz ≠ sBlk uz)
    (hx : w.heap[x]? = some (.cells #[.bool m, vx, .bool false, ux] 113 (0, 0))) (ox1 : RO w vx (wds X1)) (ox2 : RO w ux (wds X2))
    (hy : w.heap[y]? = some (.cells #[.bool n, vy, .bool false, uy] 113 (0, 0))) (oy1 : RO w vy (wds Y1)) (oy2 : RO w uy (wds Y2))
    (dx : 0 < sCap vz → sBlk ux ≠ sBlk vz) (dy : 0 < sCap vz → sBlk uy ≠ sBlk vz) (hal : 0 < sCap vz → 0 < X1 * Y2 ∧ 0 < Y1 * X2) (hm : MdP uz ux uy X2 Y2 B) (p1 : 0 < X2) (p2 : 0 < Y2) (k1 : nw X1 < 40) (k2 : nw X2 < 40) (k3 : nw Y1 < 40) (k4 : nw Y2 < 40)
    (k5 : nw (addM m (X1 * Y2) n (Y1 * X2)) < 40) (k6 : nw (X2 * Y2) < 40) (hB : B ≤ z) (hK : KarW w) (hT : DivW w) (dg : 4 < B) (kg : 3 < B) :
    Calls Tryz.prog 87 #[.pointer (some ⟨z, 0, none⟩), .pointer (some ⟨x, 0, none⟩), .pointer (some ⟨y, 0, none⟩)] w fun e w' => e = .returned (.pointer (some ⟨z, 0, none⟩)) ∧ RatP w' B z ((decide (0 < addM m (X1 * Y2) n (Y1 * X2)) && addN m (X1 * Y2) n (Y1 * X2)) && decide (0 < addM m (X1 * Y2) n (Y1 * X2))) (addM m (X1 * Y2) n (Y1 * X2) / Nat.gcd (addM m (X1 * Y2) n (Y1 * X2)) (X2 * Y2)) (X2 * Y2 / Nat.gcd (addM m (X1 * Y2) n (Y1 * X2)) (X2 * Y2)) ∧ Below B w w' := by
  have hSx := ox2.rw.isS
  have hSy := oy2.rw.isS
  have hSz2 := oz2.isS
  have hxl : x < w.heap.size := get_lt hx
  have hyl : y < w.heap.size := get_lt hy
  have hzl : z < w.heap.size := get_lt hz
  obtain ⟨S, hS⟩ : ∃ S, S = addM m (X1 * Y2) n (Y1 * X2) := ⟨_, rfl⟩
  obtain ⟨sg, hsg⟩ : ∃ sg, sg = (decide (0 < addM m (X1 * Y2) n (Y1 * X2)) && addN m (X1 * Y2) n (Y1 * X2)) := ⟨_, rfl⟩
  obtain ⟨s, hs⟩ : ∃ s, s = w.heap.size := ⟨_, rfl⟩
  obtain ⟨W, hW⟩ : ∃ W, W = ((w.alloc (.cells #[.pointer none] 226)).alloc (.cells #[.bool false, .slice none 0 0] 111)).alloc (.cells #[.bool false, .slice none 0 0] 111) := ⟨_, rfl⟩
  have hWz : W.heap.size = s + 3 := by rw [hW, hs]; simp
  have hbW : Below s w W := by rw [hW, hs]; exact (((Below.refl _ w).alloc (Nat.le_refl _) _).alloc (by simp) _).alloc (by simp; omega) _
  have rs : W.heap[s]? = some (.cells #[.pointer none] 226 (0, 0)) := by rw [hW, hs]; exact keep_row (fbone _) (keep_row (fbone _) (heap_alloc_new _ _))
  have ra : W.heap[s + 1]? = some (.cells #[.bool false, .slice none 0 0] 111 (0, 0)) := by
    have e : (w.alloc (.cells #[.pointer none] 226)).heap.size = s + 1 := by rw [hs]; simp
    rw [hW, ← e]; exact keep_row (fbone _) (heap_alloc_new _ _)
  have rb : W.heap[s + 2]? = some (.cells #[.bool false, .slice none 0 0] 111 (0, 0)) := by
    have e : ((w.alloc (.cells #[.pointer none] 226)).alloc (.cells #[.bool false, .slice none 0 0] 111)).heap.size = s + 2 := by rw [hs]; simp
    rw [hW, ← e]; exact heap_alloc_new _ _
  have rzW := hbW.block z (by omega) |>.trans hz
  have rxW := hbW.block x (by omega) |>.trans hx
  have ryW := hbW.block y (by omega) |>.trans hy
  have hbw : Below w.heap.size w W := by rw [← hs]; exact hbW
  have HA : Hid (∀ w0, Below W.heap.size W w0 → Calls Tryz.prog 138 #[.pointer (some ⟨s + 1, 0, none⟩), .pointer (some ⟨s, 0, none⟩), .pointer (some ⟨x, 0, none⟩), uy] w0 fun e w' => e = .returned (.tuple #[]) ∧ ScP (s + 1) m (X1 * Y2) W w') := Lib.hid (fun w0 h0 => by
    refine (scale_any (s + 1) x m vx uy X1 Y2 _ _ w0 (keep_row h0 ra) (keep_row h0 rxW) rfl rfl (by omega) ((ox1.below hbw).below h0) ((oy2.below hbw).below h0) p2 (by omega) (by omega) ((hK.below hbw).below h0)).mono ?_
    rintro e w' ⟨h1, h2⟩
    exact ⟨h1, h2.pre h0 (by omega)⟩)
  have HB : Hid (∀ w1, ScP (s + 1) m (X1 * Y2) W w1 → ∀ w0, Below w1.heap.size w1 w0 → Calls Tryz.prog 138 #[.pointer (some ⟨s + 2, 0, none⟩), .pointer (some ⟨s, 0, none⟩), .pointer (some ⟨y, 0, none⟩), ux] w0 fun e w' => e = .returned (.tuple #[]) ∧ ScP (s + 2) n (Y1 * X2) w1 w') := Lib.hid (fun w1 hsc w0 h0 => by
    have hz1 := hsc.below.size
    have hw1 : Below w.heap.size w w1 := by rw [← hs]; exact hbW.trans (hsc.below.mono (by omega))
    have g1 := (hsc.only (s + 2) (by omega) (by omega)).trans rb
    have g2 := (hsc.only y (by omega) (by omega)).trans ryW
    refine (scale_any (s + 2) y n vy ux Y1 X2 _ _ w0 (keep_row h0 g1) (keep_row h0 g2) rfl rfl (by omega) ((oy1.below hw1).below h0) ((ox2.below hw1).below h0) p1 (by omega) (by omega) ((hK.below hw1).below h0)).mono ?_
    rintro e w' ⟨h1, h2⟩
    exact ⟨h1, h2.pre h0 (by omega)⟩)
  have HC : Hid (∀ w1, ScP (s + 1) m (X1 * Y2) W w1 → ∀ w2, ScP (s + 2) n (Y1 * X2) w1 w2 → Calls Tryz.prog 139 #[.pointer (some ⟨z, 0, none⟩), .pointer (some ⟨s + 1, 0, none⟩), .pointer (some ⟨s + 2, 0, none⟩)] w2 (fun e w' => e = .returned (.pointer (some ⟨z, 0, none⟩)) ∧ ∃ r1, SmW z s x y B S X2 Y2 sg r1 uz ux uy us w w')) := Lib.hid (fun w1 h1 w2 h2 => by
    obtain ⟨r1, g1, o1⟩ := h1.row
    obtain ⟨r2, g2, o2⟩ := h2.row
    have hz1 := h1.below.size
    have hz2 := h2.below.size
    have g1' := (h2.only (s + 1) (by omega) (by omega)).trans g1
    have o1' : Own w2 W.heap.size 181 r1 (cellsW (wds (X1 * Y2))) := o1.same fun hc => h2.only _ (o1.lt hc).2 (by have := (o1.lt hc).1; omega)
    have hold : ∀ j, j < w.heap.size → w2.heap[j]? = w.heap[j]? := fun j hj => ((h2.only j (by omega) (by omega)).trans (h1.only j (by omega) (by omega))).trans (hbW.block j (by omega))
    have hbw2 : Below w.heap.size w w2 := by rw [← hs]; exact (hbW.trans (h1.below.mono (by omega))).trans (h2.below.mono (by omega))
    have rz2 := (hold z hzl).trans hz
    have nz1 : ∀ {N : Nat} {r : Value}, 0 < N → Own w2 W.heap.size 181 r (cellsW (wds N)) → 0 < sCap r := fun hN ho => by
      have a := ho.len
      have b := ho.isS.le
      rw [cellsW_length, wds_length] at a
      have := nw_pos hN
      omega
    have ax : Al vz r1 := fun hc he => by
      have a := (o1'.lt (nz1 (hal hc).1 o1')).1
      have b := (oz.lt hc).2
      omega
    have o2' : Own w2 W.heap.size 181 r2 (cellsW (wds (Y1 * X2))) := o2.mono (by omega)
    have ay : Al vz r2 := fun hc he => by
      have a := (o2'.lt (nz1 (hal hc).2 o2')).1
      have b := (oz.lt hc).2
      omega
    have ozw := oz.below hbw2
    refine (intAdd_any z 0 (s + 1) 0 (s + 2) 0 m n vz r1 r2 _ zs (X1 * Y2) (Y1 * X2) B _ _ _ _ _ _ w2 rz2 g1' g2 (by decide) rfl rfl rfl rfl rfl rfl ozw (o1'.ro (fun d hd => wds_lt hd)) (o2.ro (fun d hd => wds_lt hd)) ax ay (Nat.le_trans (nw_mul_le _ _) (by omega)) (Nat.le_trans (nw_mul_le _ _) (by omega)) hB).mono ?_
    rintro e w' ⟨he, hi⟩
    obtain ⟨r, i1, i2, i3⟩ := hi.row
    have hsr : w2.heap[s]? = some (.cells #[.pointer none] 226 (0, 0)) := ((h2.only s (by omega) (by omega)).trans (h1.only s (by omega) (by omega))).trans rs
    have ozs : ∀ j, j < w.heap.size → j ≠ z → (0 < sCap vz → j ≠ sBlk vz) → w'.heap[j]? = w.heap[j]? := fun j hj hne hv => (hi.fr j (by omega) hne hv).trans (hold j hj)
    have i1' : w'.heap[z]? = some (.cells #[.bool sg, r, .bool false, uz] 113 (0, 0)) := by rw [hsg]; exact i1
    have hcell : ∀ (q : Nat) (a : Bool) (b c : Value), w.heap[q]? = some (.cells #[.bool a, b, .bool false, c] 113 (0, 0)) → w'.cell? ⟨q, 3, none⟩ = some c := fun q a b c hq => by
      by_cases hqz : q = z
      · subst hqz
        rw [hz] at hq
        injection hq with hq; injection hq with hq
        have : uz = c := by injection hq with hq; injection hq with _ hq; injection hq with _ hq; injection hq with _ hq; injection hq
        rw [← this]
        exact (row_at (i := 3) i1' rfl).1
      · exact (row_at (i := 3) ((ozs q (get_lt hq) hqz (fun hc => oz.neRow hq (by decide) hc)).trans hq) rfl).1
    have hro : ∀ {v : Value} {N : Nat}, RO w v (wds N) → (0 < sCap vz → sBlk v ≠ sBlk vz) → RO w' v (wds N) := fun {v N} hv hd => hv.same fun hl => by
      obtain ⟨c, hc⟩ := hv.row hl
      refine ozs _ (get_lt hc) (fun he => ?_) hd
      rw [he, hz] at hc
      injection hc with hc; injection hc with _ hc
      exact absurd hc (by decide)
    have hbz : Below B w w' := (hbw2.mono (by omega)).trans hi.below
    refine ⟨he, r, i1', ?_, hcell x _ _ _ hx, hcell y _ _ _ hy, by rw [hS]; exact i2, oz2.same fun hc => ozs _ (oz2.lt hc).2 (fun he => oz2.neRow hz (by decide) hc he.symm) (fun a => (sz a hc).symm), fun a b he => ?_, hro ox2 dx, hro oy2 dy, hbz, ?_, hT.belowB hbz dg, hB, by omega, dg, kg⟩
    · exact (hi.fr s (by omega) (by omega) (fun hc => by have := (oz.lt hc).2; omega)).trans hsr
    · rcases i3 a with ⟨p, q⟩ | p
      · exact sz p b (q.symm.trans he)
      · have := (oz2.lt b).2; omega
    · unfold KarW; rw [hbz.cell (p := ⟨3, 0, none⟩) kg]; exact hK)
  have HX : Hid (∀ w1, ScP (s + 1) m (X1 * Y2) W w1 → w1.cell? ⟨x, 3, none⟩ = some ux) := Lib.hid (fun w1 h1 => (row_at (i := 3) ((h1.only x (by omega) (by omega)).trans rxW) rfl).1)
  have c3 := (row_at (i := 3) ryW rfl).1
  have HP := Lib.hid (And.intro hm (And.intro p1 (And.intro p2 (And.intro (show nw S < 40 by rw [hS]; exact k5) k6))))
  have hQo : ∀ w', (Ending.outgrown = Ending.returned (.pointer (some ⟨z, 0, none⟩)) ∧ RatP w' B z (sg && decide (0 < S)) (S / Nat.gcd S (X2 * Y2)) (X2 * Y2 / Nat.gcd S (X2 * Y2)) ∧ Below B w w') → False := fun _ h => by cases h.1
  rw [← hsg, ← hS]
  have HW' := Lib.hid hW
  have HSs := Lib.hid hs
  clear hz oz oz2 sz hx ox1 ox2 hy oy1 oy2 dx dy hal hm p1 p2 k1 k2 k3 k4 k5 k6 hB hK hT dg kg ra rb rs rzW rxW ryW hbw hbW hWz hxl hyl hzl hS hsg hs hW
  go_enter_defers Tryz.func87, Tryz.ntmps87
  go_wp2_with fail
  refine (getStack_any _).mono ?_
  rintro _ _ ⟨rfl, rfl⟩
  go_upto_region 4 with fail
  rw [← HW'.out]
  simp only [← HSs.out, Nat.add_assoc, Nat.reduceAdd]
  (refine wp_region_noPanic ?_; refine wp_region_hoist 9 (by kernel_rfl) (by kernel_rfl) ⟨fun _ _ _ h => h, fun _ w'' h => hQo w'' h⟩ ?_; simp only [List.take_succ_cons, List.take_zero, List.drop_succ_cons, List.drop_zero]; (repeat (go_big_quiet_step (fail))); refine wpQuiet_nil ?_; rintro _ ⟨nq, rfl⟩)
  go_wp2_with fail
  refine (HA.out _ (undrewN' (Below.refl _ _))).mono ?_
  rintro _ w1 ⟨rfl, hsc⟩
  have HS1 := Lib.hid hsc
  have d3 := HX.out w1 hsc
  clear hsc
  go_wp2_with fail
  refine NoPanic.normal ?_
  go_upto_region 5 with fail
  (refine wp_region_noPanic ?_; refine wp_region_hoist 9 (by kernel_rfl) (by kernel_rfl) ⟨fun _ _ _ h => h, fun _ w'' h => hQo w'' h⟩ ?_; simp only [List.take_succ_cons, List.take_zero, List.drop_succ_cons, List.drop_zero]; (repeat (go_big_quiet_step (fail))); refine wpQuiet_nil ?_; rintro _ ⟨nq, rfl⟩)
  go_wp2_with fail
  refine (HB.out w1 HS1.out _ (undrewN' (Below.refl _ _))).mono ?_
  rintro _ w2 ⟨rfl, hsd⟩
  have HCC := Lib.hid (HC.out w1 HS1.out w2 hsd)
  clear hsd
  go_wp2_with fail
  refine NoPanic.normal ?_
  go_wp2_with fail
  refine HCC.out.mono ?_
  rintro _ w3 ⟨rfl, r1, hsm⟩
  have b1 := (row_at (i := 3) hsm.row rfl).1
  have b2 := hsm.c1
  have b3 := hsm.c2
  have HSM := Lib.hid hsm
  clear hsm c3 d3
  go_upto_region 7 with fail
  (refine wp_region_noPanic ?_; refine wp_region_hoistP [0, 1, 2, 3, 4, 5, 7, 8, 9, 10, 12, 13, 14, 15] [6, 11, 16] [] [17, 18, 19, 20, 21] (by kernel_rfl) (by kernel_rfl) ⟨fun _ _ _ h => h, fun _ w'' h => hQo w'' h⟩ ?_; simp only [pickOps, List.flatMap_cons, List.flatMap_nil, Option.toList_some, List.cons_append, List.nil_append, List.getElem?_toArray, List.getElem?_cons_zero, List.getElem?_cons_succ]; (repeat (go_big_quiet_step (fail))); refine wpQuiet_nil ?_; (repeat (go_big_quiet_step (fail))); refine wpQuiet_nil ?_; rintro _ ⟨nq, rfl⟩; (repeat (go_big_quiet_step (fail))); refine wpQuiet_nil ?_)
  go_wp2_with fail
  refine ((HSM.out.drewN _).den HP.out.1 HP.out.2.1 HP.out.2.2.1 HP.out.2.2.2.1 HP.out.2.2.2.2).mono ?_
  rintro _ w4 ⟨r, rfl, hSr, hrow, hnm⟩
  have HNM := Lib.hid hnm
  obtain ⟨e1, e2⟩ := row_at (i := 3) hrow rfl
  clear hnm hrow
  go_wp2_with fail
  refine NoPanic.normal ?_
  go_wp2_with fail
  refine HNM.out.mono ?_
  rintro _ w5 ⟨rfl, hst, hrt, hbl⟩
  have HQ := Lib.hid (And.intro hrt hbl)
  clear hrt hbl
  go_wp2
  refine leaves_cons (f := 135) (args := #[.pointer (some ⟨s, 0, none⟩)]) (by simp) (by simp [go_sem]) ?_
  refine (free_d s _ _ hst).mono ?_
  rintro e u' w'' ⟨rfl, rfl, rfl⟩
  simp [Leaves, settle, results, Tryz.results87, go_sem]
  exact HQ.out
set_option maxRecDepth 100000 in
set_option maxHeartbeats 3200000 in
theorem ratSub_any (z x y B : Nat) (nz m n : Bool) (vz uz vx ux vy uy : Value) (zs us : List Value) (X1 X2 Y1 Y2 : Nat) (w : World)
    (hz : w.heap[z]? = some (.cells #[.bool nz, vz, .bool false, uz] 113 (0, 0))) (oz : Own w B 181 vz zs) (oz2 : Own w B 181 uz us) (sz : 0 < sCap vz → 0 < sCap uz → sBlk vz ≠ sBlk uz)
    (hx : w.heap[x]? = some (.cells #[.bool m, vx, .bool false, ux] 113 (0, 0))) (ox1 : RO w vx (wds X1)) (ox2 : RO w ux (wds X2))
    (hy : w.heap[y]? = some (.cells #[.bool n, vy, .bool false, uy] 113 (0, 0))) (oy1 : RO w vy (wds Y1)) (oy2 : RO w uy (wds Y2))
    (dx : 0 < sCap vz → sBlk ux ≠ sBlk vz) (dy : 0 < sCap vz → sBlk uy ≠ sBlk vz) (hal : 0 < sCap vz → 0 < X1 * Y2 ∧ 0 < Y1 * X2) (hm : MdP uz ux uy X2 Y2 B) (p1 : 0 < X2) (p2 : 0 < Y2) (k1 : nw X1 < 40) (k2 : nw X2 < 40) (k3 : nw Y1 < 40) (k4 : nw Y2 < 40)
    (k5 : nw (addM m (X1 * Y2) (!n) (Y1 * X2)) < 40) (k6 : nw (X2 * Y2) < 40) (hB : B ≤ z) (hK : KarW w) (hT : DivW w) (dg : 4 < B) (kg : 3 < B) :
    Calls Tryz.prog 90 #[.pointer (some ⟨z, 0, none⟩), .pointer (some ⟨x, 0, none⟩), .pointer (some ⟨y, 0, none⟩)] w fun e w' => e = .returned (.pointer (some ⟨z, 0, none⟩)) ∧ RatP w' B z ((decide (0 < addM m (X1 * Y2) (!n) (Y1 * X2)) && addN m (X1 * Y2) (!n) (Y1 * X2)) && decide (0 < addM m (X1 * Y2) (!n) (Y1 * X2))) (addM m (X1 * Y2) (!n) (Y1 * X2) / Nat.gcd (addM m (X1 * Y2) (!n) (Y1 * X2)) (X2 * Y2)) (X2 * Y2 / Nat.gcd (addM m (X1 * Y2) (!n) (Y1 * X2)) (X2 * Y2)) ∧ Below B w w' := by
  have hSx := ox2.rw.isS
  have hSy := oy2.rw.isS
  have hSz2 := oz2.isS
  have hxl : x < w.heap.size := get_lt hx
  have hyl : y < w.heap.size := get_lt hy
  have hzl : z < w.heap.size := get_lt hz
  obtain ⟨S, hS⟩ : ∃ S, S = addM m (X1 * Y2) (!n) (Y1 * X2) := ⟨_, rfl⟩
  obtain ⟨sg, hsg⟩ : ∃ sg, sg = (decide (0 < addM m (X1 * Y2) (!n) (Y1 * X2)) && addN m (X1 * Y2) (!n) (Y1 * X2)) := ⟨_, rfl⟩
  obtain ⟨s, hs⟩ : ∃ s, s = w.heap.size := ⟨_, rfl⟩
  obtain ⟨W, hW⟩ : ∃ W, W = ((w.alloc (.cells #[.pointer none] 226)).alloc (.cells #[.bool false, .slice none 0 0] 111)).alloc (.cells #[.bool false, .slice none 0 0] 111) := ⟨_, rfl⟩
  have hWz : W.heap.size = s + 3 := by rw [hW, hs]; simp
  have hbW : Below s w W := by rw [hW, hs]; exact (((Below.refl _ w).alloc (Nat.le_refl _) _).alloc (by simp) _).alloc (by simp; omega) _
  have rs : W.heap[s]? = some (.cells #[.pointer none] 226 (0, 0)) := by rw [hW, hs]; exact keep_row (fbone _) (keep_row (fbone _) (heap_alloc_new _ _))
  have ra : W.heap[s + 1]? = some (.cells #[.bool false, .slice none 0 0] 111 (0, 0)) := by
    have e : (w.alloc (.cells #[.pointer none] 226)).heap.size = s + 1 := by rw [hs]; simp
    rw [hW, ← e]; exact keep_row (fbone _) (heap_alloc_new _ _)
  have rb : W.heap[s + 2]? = some (.cells #[.bool false, .slice none 0 0] 111 (0, 0)) := by
    have e : ((w.alloc (.cells #[.pointer none] 226)).alloc (.cells #[.bool false, .slice none 0 0] 111)).heap.size = s + 2 := by rw [hs]; simp
    rw [hW, ← e]; exact heap_alloc_new _ _
  have rzW := hbW.block z (by omega) |>.trans hz
  have rxW := hbW.block x (by omega) |>.trans hx
  have ryW := hbW.block y (by omega) |>.trans hy
  have hbw : Below w.heap.size w W := by rw [← hs]; exact hbW
  have HA : Hid (∀ w0, Below W.heap.size W w0 → Calls Tryz.prog 138 #[.pointer (some ⟨s + 1, 0, none⟩), .pointer (some ⟨s, 0, none⟩), .pointer (some ⟨x, 0, none⟩), uy] w0 fun e w' => e = .returned (.tuple #[]) ∧ ScP (s + 1) m (X1 * Y2) W w') := Lib.hid (fun w0 h0 => by
    refine (scale_any (s + 1) x m vx uy X1 Y2 _ _ w0 (keep_row h0 ra) (keep_row h0 rxW) rfl rfl (by omega) ((ox1.below hbw).below h0) ((oy2.below hbw).below h0) p2 (by omega) (by omega) ((hK.below hbw).below h0)).mono ?_
    rintro e w' ⟨h1, h2⟩
    exact ⟨h1, h2.pre h0 (by omega)⟩)
  have HB : Hid (∀ w1, ScP (s + 1) m (X1 * Y2) W w1 → ∀ w0, Below w1.heap.size w1 w0 → Calls Tryz.prog 138 #[.pointer (some ⟨s + 2, 0, none⟩), .pointer (some ⟨s, 0, none⟩), .pointer (some ⟨y, 0, none⟩), ux] w0 fun e w' => e = .returned (.tuple #[]) ∧ ScP (s + 2) n (Y1 * X2) w1 w') := Lib.hid (fun w1 hsc w0 h0 => by
    have hz1 := hsc.below.size
    have hw1 : Below w.heap.size w w1 := by rw [← hs]; exact hbW.trans (hsc.below.mono (by omega))
    have g1 := (hsc.only (s + 2) (by omega) (by omega)).trans rb
    have g2 := (hsc.only y (by omega) (by omega)).trans ryW
    refine (scale_any (s + 2) y n vy ux Y1 X2 _ _ w0 (keep_row h0 g1) (keep_row h0 g2) rfl rfl (by omega) ((oy1.below hw1).below h0) ((ox2.below hw1).below h0) p1 (by omega) (by omega) ((hK.below hw1).below h0)).mono ?_
    rintro e w' ⟨h1, h2⟩
    exact ⟨h1, h2.pre h0 (by omega)⟩)
  have HC : Hid (∀ w1, ScP (s + 1) m (X1 * Y2) W w1 → ∀ w2, ScP (s + 2) n (Y1 * X2) w1 w2 → Calls Tryz.prog 144 #[.pointer (some ⟨z, 0, none⟩), .pointer (some ⟨s + 1, 0, none⟩), .pointer (some ⟨s + 2, 0, none⟩)] w2 (fun e w' => e = .returned (.pointer (some ⟨z, 0, none⟩)) ∧ ∃ r1, SmW z s x y B S X2 Y2 sg r1 uz ux uy us w w')) := Lib.hid (fun w1 h1 w2 h2 => by
    obtain ⟨r1, g1, o1⟩ := h1.row
    obtain ⟨r2, g2, o2⟩ := h2.row
    have hz1 := h1.below.size
    have hz2 := h2.below.size
    have g1' := (h2.only (s + 1) (by omega) (by omega)).trans g1
    have o1' : Own w2 W.heap.size 181 r1 (cellsW (wds (X1 * Y2))) := o1.same fun hc => h2.only _ (o1.lt hc).2 (by have := (o1.lt hc).1; omega)
    have hold : ∀ j, j < w.heap.size → w2.heap[j]? = w.heap[j]? := fun j hj => ((h2.only j (by omega) (by omega)).trans (h1.only j (by omega) (by omega))).trans (hbW.block j (by omega))
    have hbw2 : Below w.heap.size w w2 := by rw [← hs]; exact (hbW.trans (h1.below.mono (by omega))).trans (h2.below.mono (by omega))
    have rz2 := (hold z hzl).trans hz
    have nz1 : ∀ {N : Nat} {r : Value}, 0 < N → Own w2 W.heap.size 181 r (cellsW (wds N)) → 0 < sCap r := fun hN ho => by
      have a := ho.len
      have b := ho.isS.le
      rw [cellsW_length, wds_length] at a
      have := nw_pos hN
      omega
    have ax : Al vz r1 := fun hc he => by
      have a := (o1'.lt (nz1 (hal hc).1 o1')).1
      have b := (oz.lt hc).2
      omega
    have o2' : Own w2 W.heap.size 181 r2 (cellsW (wds (Y1 * X2))) := o2.mono (by omega)
    have ay : Al vz r2 := fun hc he => by
      have a := (o2'.lt (nz1 (hal hc).2 o2')).1
      have b := (oz.lt hc).2
      omega
    have ozw := oz.below hbw2
    refine (intSub_any z 0 (s + 1) 0 (s + 2) 0 m n vz r1 r2 _ zs (X1 * Y2) (Y1 * X2) B _ _ _ _ _ _ w2 rz2 g1' g2 (by decide) rfl rfl rfl rfl rfl rfl ozw (o1'.ro (fun d hd => wds_lt hd)) (o2.ro (fun d hd => wds_lt hd)) ax ay (Nat.le_trans (nw_mul_le _ _) (by omega)) (Nat.le_trans (nw_mul_le _ _) (by omega)) hB).mono ?_
    rintro e w' ⟨he, hi⟩
    obtain ⟨r, i1, i2, i3⟩ := hi.row
    have hsr : w2.heap[s]? = some (.cells #[.pointer none] 226 (0, 0)) := ((h2.only s (by omega) (by omega)).trans (h1.only s (by omega) (by omega))).trans rs
    have ozs : ∀ j, j < w.heap.size → j ≠ z → (0 < sCap vz → j ≠ sBlk vz) → w'.heap[j]? = w.heap[j]? := fun j hj hne hv => (hi.fr j (by omega) hne hv).trans (hold j hj)
    have i1' : w'.heap[z]? = some (.cells #[.bool sg, r, .bool false, uz] 113 (0, 0)) := by rw [hsg]; exact i1
    have hcell : ∀ (q : Nat) (a : Bool) (b c : Value), w.heap[q]? = some (.cells #[.bool a, b, .bool false, c] 113 (0, 0)) → w'.cell? ⟨q, 3, none⟩ = some c := fun q a b c hq => by
      by_cases hqz : q = z
      · subst hqz
        rw [hz] at hq
        injection hq with hq; injection hq with hq
        have : uz = c := by injection hq with hq; injection hq with _ hq; injection hq with _ hq; injection hq with _ hq; injection hq
        rw [← this]
        exact (row_at (i := 3) i1' rfl).1
      · exact (row_at (i := 3) ((ozs q (get_lt hq) hqz (fun hc => oz.neRow hq (by decide) hc)).trans hq) rfl).1
    have hro : ∀ {v : Value} {N : Nat}, RO w v (wds N) → (0 < sCap vz → sBlk v ≠ sBlk vz) → RO w' v (wds N) := fun {v N} hv hd => hv.same fun hl => by
      obtain ⟨c, hc⟩ := hv.row hl
      refine ozs _ (get_lt hc) (fun he => ?_) hd
      rw [he, hz] at hc
      injection hc with hc; injection hc with _ hc
      exact absurd hc (by decide)
    have hbz : Below B w w' := (hbw2.mono (by omega)).trans hi.below
    refine ⟨he, r, i1', ?_, hcell x _ _ _ hx, hcell y _ _ _ hy, by rw [hS]; exact i2, oz2.same fun hc => ozs _ (oz2.lt hc).2 (fun he => oz2.neRow hz (by decide) hc he.symm) (fun a => (sz a hc).symm), fun a b he => ?_, hro ox2 dx, hro oy2 dy, hbz, ?_, hT.belowB hbz dg, hB, by omega, dg, kg⟩
    · exact (hi.fr s (by omega) (by omega) (fun hc => by have := (oz.lt hc).2; omega)).trans hsr
    · rcases i3 a with ⟨p, q⟩ | p
      · exact sz p b (q.symm.trans he)
      · have := (oz2.lt b).2; omega
    · unfold KarW; rw [hbz.cell (p := ⟨3, 0, none⟩) kg]; exact hK)
  have HX : Hid (∀ w1, ScP (s + 1) m (X1 * Y2) W w1 → w1.cell? ⟨x, 3, none⟩ = some ux) := Lib.hid (fun w1 h1 => (row_at (i := 3) ((h1.only x (by omega) (by omega)).trans rxW) rfl).1)
  have c3 := (row_at (i := 3) ryW rfl).1
  have HP := Lib.hid (And.intro hm (And.intro p1 (And.intro p2 (And.intro (show nw S < 40 by rw [hS]; exact k5) k6))))
  have hQo : ∀ w', (Ending.outgrown = Ending.returned (.pointer (some ⟨z, 0, none⟩)) ∧ RatP w' B z (sg && decide (0 < S)) (S / Nat.gcd S (X2 * Y2)) (X2 * Y2 / Nat.gcd S (X2 * Y2)) ∧ Below B w w') → False := fun _ h => by cases h.1
  rw [← hsg, ← hS]
  have HW' := Lib.hid hW
  have HSs := Lib.hid hs
  clear hz oz oz2 sz hx ox1 ox2 hy oy1 oy2 dx dy hal hm p1 p2 k1 k2 k3 k4 k5 k6 hB hK hT dg kg ra rb rs rzW rxW ryW hbw hbW hWz hxl hyl hzl hS hsg hs hW
  go_enter_defers Tryz.func90, Tryz.ntmps90
  go_wp2_with fail
  refine (getStack_any _).mono ?_
  rintro _ _ ⟨rfl, rfl⟩
  go_upto_region 4 with fail
  rw [← HW'.out]
  simp only [← HSs.out, Nat.add_assoc, Nat.reduceAdd]
  (refine wp_region_noPanic ?_; refine wp_region_hoist 9 (by kernel_rfl) (by kernel_rfl) ⟨fun _ _ _ h => h, fun _ w'' h => hQo w'' h⟩ ?_; simp only [List.take_succ_cons, List.take_zero, List.drop_succ_cons, List.drop_zero]; (repeat (go_big_quiet_step (fail))); refine wpQuiet_nil ?_; rintro _ ⟨nq, rfl⟩)
  go_wp2_with fail
  refine (HA.out _ (undrewN' (Below.refl _ _))).mono ?_
  rintro _ w1 ⟨rfl, hsc⟩
  have HS1 := Lib.hid hsc
  have d3 := HX.out w1 hsc
  clear hsc
  go_wp2_with fail
  refine NoPanic.normal ?_
  go_upto_region 5 with fail
  (refine wp_region_noPanic ?_; refine wp_region_hoist 9 (by kernel_rfl) (by kernel_rfl) ⟨fun _ _ _ h => h, fun _ w'' h => hQo w'' h⟩ ?_; simp only [List.take_succ_cons, List.take_zero, List.drop_succ_cons, List.drop_zero]; (repeat (go_big_quiet_step (fail))); refine wpQuiet_nil ?_; rintro _ ⟨nq, rfl⟩)
  go_wp2_with fail
  refine (HB.out w1 HS1.out _ (undrewN' (Below.refl _ _))).mono ?_
  rintro _ w2 ⟨rfl, hsd⟩
  have HCC := Lib.hid (HC.out w1 HS1.out w2 hsd)
  clear hsd
  go_wp2_with fail
  refine NoPanic.normal ?_
  go_wp2_with fail
  refine HCC.out.mono ?_
  rintro _ w3 ⟨rfl, r1, hsm⟩
  have b1 := (row_at (i := 3) hsm.row rfl).1
  have b2 := hsm.c1
  have b3 := hsm.c2
  have HSM := Lib.hid hsm
  clear hsm c3 d3
  go_upto_region 7 with fail
  (refine wp_region_noPanic ?_; refine wp_region_hoistP [0, 1, 2, 3, 4, 5, 7, 8, 9, 10, 12, 13, 14, 15] [6, 11, 16] [] [17, 18, 19, 20, 21] (by kernel_rfl) (by kernel_rfl) ⟨fun _ _ _ h => h, fun _ w'' h => hQo w'' h⟩ ?_; simp only [pickOps, List.flatMap_cons, List.flatMap_nil, Option.toList_some, List.cons_append, List.nil_append, List.getElem?_toArray, List.getElem?_cons_zero, List.getElem?_cons_succ]; (repeat (go_big_quiet_step (fail))); refine wpQuiet_nil ?_; (repeat (go_big_quiet_step (fail))); refine wpQuiet_nil ?_; rintro _ ⟨nq, rfl⟩; (repeat (go_big_quiet_step (fail))); refine wpQuiet_nil ?_)
  go_wp2_with fail
  refine ((HSM.out.drewN _).den HP.out.1 HP.out.2.1 HP.out.2.2.1 HP.out.2.2.2.1 HP.out.2.2.2.2).mono ?_
  rintro _ w4 ⟨r, rfl, hSr, hrow, hnm⟩
  have HNM := Lib.hid hnm
  obtain ⟨e1, e2⟩ := row_at (i := 3) hrow rfl
  clear hnm hrow
  go_wp2_with fail
  refine NoPanic.normal ?_
  go_wp2_with fail
  refine HNM.out.mono ?_
  rintro _ w5 ⟨rfl, hst, hrt, hbl⟩
  have HQ := Lib.hid (And.intro hrt hbl)
  clear hrt hbl
  go_wp2
  refine leaves_cons (f := 135) (args := #[.pointer (some ⟨s, 0, none⟩)]) (by simp) (by simp [go_sem]) ?_
  refine (free_d s _ _ hst).mono ?_
  rintro e u' w'' ⟨rfl, rfl, rfl⟩
  simp [Leaves, settle, results, Tryz.results90, go_sem]
  exact HQ.out
end Go.Proofs.YtbghmceglemppaaGreatDoor

/-
The thin package's RatCmp. No condition but the threshold of Karatsuba.
-/
namespace Go.Proofs.YtbghmceglemppaaGreatDoor
open Go.RowKit

theorem ks6F {W X : World} {k g T U : Nat} {a b c d e f : Value} (h1 : W.heap[k]? = some (.cells #[a, b, c] T (0, 0))) (h2 : W.heap[g]? = some (.cells #[d, e, f] U (0, 0))) (h : Below W.heap.size W X) :
    Below W.heap.size W X ∧ X.cell? ⟨k, 0, none⟩ = some a ∧ X.cell? ⟨k, 1, none⟩ = some b ∧ X.cell? ⟨k, 2, none⟩ = some c ∧ X.cell? ⟨g, 0, none⟩ = some d ∧ X.cell? ⟨g, 1, none⟩ = some e ∧ X.cell? ⟨g, 2, none⟩ = some f :=
  ⟨h, ks6 (row3 h1).1 (row3 h1).2.1 (row3 h1).2.2.1 (row3 h2).1 (row3 h2).2.1 (row3 h2).2.2.1 h⟩
end Go.Proofs.YtbghmceglemppaaGreatDoor

/-
Cells of two boxes while a third is written. No condition.
-/
namespace Go.Proofs.YtbghmceglemppaaGreatDoor
open Go.RowKit

theorem ksP2 {B : Nat} {w W X : World} {k l : Nat} {a b c a' b' c' : Value} {T T' : TypeId} (h1 : W.heap[k]? = some (.cells #[a, b, c] T (0, 0))) (h2 : W.heap[l]? = some (.cells #[a', b', c'] T' (0, 0))) (hB : Below B w W) (hs : B ≤ W.heap.size) (h : Below W.heap.size W X) :
    Below B w X ∧ X.cell? ⟨k, 0, none⟩ = some a ∧ X.cell? ⟨k, 1, none⟩ = some b ∧ X.cell? ⟨k, 2, none⟩ = some c ∧ X.cell? ⟨l, 0, none⟩ = some a' ∧ X.cell? ⟨l, 1, none⟩ = some b' ∧ X.cell? ⟨l, 2, none⟩ = some c' := by
  obtain ⟨x0, x1, x2, -, -, -⟩ := row3 (keep_row h h1)
  obtain ⟨y0, y1, y2, -, -, -⟩ := row3 (keep_row h h2)
  exact ⟨hB.trans (h.mono hs), x0, x1, x2, y0, y1, y2⟩
theorem ksP2S {B g i : Nat} {w X : World} {k l : Nat} {a b c a' b' c' u : Value} (hg : B ≤ g) (hk : g ≠ k) (hl : g ≠ l) (h : Below B w X ∧ X.cell? ⟨k, 0, none⟩ = some a ∧ X.cell? ⟨k, 1, none⟩ = some b ∧ X.cell? ⟨k, 2, none⟩ = some c ∧ X.cell? ⟨l, 0, none⟩ = some a' ∧ X.cell? ⟨l, 1, none⟩ = some b' ∧ X.cell? ⟨l, 2, none⟩ = some c') :
    Below B w (X.setCell ⟨g, i, none⟩ u) ∧ (X.setCell ⟨g, i, none⟩ u).cell? ⟨k, 0, none⟩ = some a ∧ (X.setCell ⟨g, i, none⟩ u).cell? ⟨k, 1, none⟩ = some b ∧ (X.setCell ⟨g, i, none⟩ u).cell? ⟨k, 2, none⟩ = some c ∧ (X.setCell ⟨g, i, none⟩ u).cell? ⟨l, 0, none⟩ = some a' ∧ (X.setCell ⟨g, i, none⟩ u).cell? ⟨l, 1, none⟩ = some b' ∧ (X.setCell ⟨g, i, none⟩ u).cell? ⟨l, 2, none⟩ = some c' := by
  have hk' : ∀ j, (X.setCell ⟨g, i, none⟩ u).cell? ⟨k, j, none⟩ = X.cell? ⟨k, j, none⟩ := fun j => cell_other (by simpa using hk)
  have hl' : ∀ j, (X.setCell ⟨g, i, none⟩ u).cell? ⟨l, j, none⟩ = X.cell? ⟨l, j, none⟩ := fun j => cell_other (by simpa using hl)
  simp only [hk', hl']
  exact ⟨bset h.1 hg, h.2⟩
end Go.Proofs.YtbghmceglemppaaGreatDoor

/-
A fraction in lowest terms, as the reference makes it: Over. No condition.
-/
namespace Go.Proofs.YtbghmceglemppaaGreatDoor
open Go.RowKit

set_option maxRecDepth 100000 in
set_option maxHeartbeats 1600000 in
theorem over_any (neg : Bool) (a b : Value) (x y : Nat) (w : World) (ha : NatV w a x) (hb : NatV w b y) (hx : nl x ≤ 100000000) (hy : nl y ≤ 100000000) (hy0 : 0 < y) :
    Calls Tryz.prog 26 #[.bool neg, a, b] w fun e w' => ∃ q r, e = .returned (.agg #[.bool (neg && decide (0 < x)), q, r]) ∧ NatV w' q (x / Nat.gcd x y) ∧ NatV w' r (y / Nat.gcd x y) ∧ Below w.heap.size w w' := by
  have hSa := ha.isS
  have hSb := hb.isS
  have hLa := ha.len
  obtain ⟨G, hG⟩ : ∃ G, G = Nat.gcd x y := ⟨_, rfl⟩
  have hG0 : 0 < G := by rw [hG]; exact Nat.gcd_pos_of_pos_right x hy0
  have hGl : nl G ≤ 100000000 := by rw [hG]; exact Nat.le_trans (nl_mono (Nat.gcd_le_right x hy0)) hy
  obtain ⟨W, hW⟩ : ∃ W, W = w.alloc (.cells #[.bool false, .slice none 0 0, .slice none 0 0] 49) := ⟨_, rfl⟩
  have hrow : W.heap[w.heap.size]? = some (.cells #[.bool false, .slice none 0 0, .slice none 0 0] 49 (0, 0)) := by rw [hW]; exact box_row (Below.refl _ _)
  have hab : Below w.heap.size w W := by rw [hW]; exact (Below.refl _ _).alloc (Nat.le_refl _) _
  have HA := Lib.hid (ha.below hab)
  have HB := Lib.hid (hb.below hab)
  have HR := Lib.hid hrow
  have HG := Lib.hid hG
  rw [← hG]
  obtain ⟨l, hl⟩ : ∃ l, l = nl x := ⟨_, rfl⟩
  rw [← hl] at hLa
  have hdx : decide (0 < x) = decide (0 < l) := by
    rw [decide_eq_decide, hl]
    exact ⟨nl_pos, fun h => by rcases Nat.eq_zero_or_pos x with h0 | h0; (rw [h0, nl_zero] at h; omega); exact h0⟩
  rw [hdx]
  clear ha hb hrow hG hdx hl
  go_enter Tryz.func26, Tryz.ntmps26
  go_upto_region 1 with fail
  rw [← hW]
  clear hW
  go_wp2_with fail
  refine (spGcd a b x y W HA.out HB.out (by omega) (by omega)).mono ?_
  rintro _ w1 ⟨g, rfl, hg, hb1⟩
  rw [← HG.out] at hg
  have hSg := hg.isS
  have HGv := Lib.hid hg
  clear hg
  go_wp2_with fail
  refine (spDivMod a g x G w1 (HA.out.below hb1) HGv.out (by omega) (by omega) hG0).mono ?_
  rintro _ w2 ⟨_, rfl, q1, q2, rfl, hq1, hq2, hb2⟩
  have hSq1 := hq1.isS
  have hSq2 := hq2.isS
  have HQ1 := Lib.hid hq1
  have hb12 := bthen hb1 hb2
  clear hq1 hq2
  go_wp2_with fail
  refine (spDivMod b g y G w2 (HB.out.below hb12) (HGv.out.below hb2) (by omega) (by omega) hG0).mono ?_
  rintro _ w3 ⟨_, rfl, r1, r2, rfl, hr1, hr2, hb3⟩
  have hSr1 := hr1.isS
  have hSr2 := hr2.isS
  have HR1 := Lib.hid hr1
  have HQ1' := Lib.hid (HQ1.out.below hb3)
  have hb13 := bthen hb12 hb3
  have hrow3 := keep_row hb13 HR.out
  obtain ⟨k0, k1, k2, f0, f1, f2⟩ := row3 hrow3
  have hwB := hab.trans (hb13.mono hab.size)
  have HE := Lib.hid (fun z => row3 (row3_set (x := .bool z) (y := q1) (z := r1) hrow3))
  have HN := Lib.hid (fun z => natv_row3 (x := .bool z) (y := q1) (z := r1) IsS.nil IsS.nil HQ1'.out hrow3)
  have HM := Lib.hid (fun z => natv_row3 (x := .bool z) (y := q1) (z := r1) IsS.nil IsS.nil HR1.out hrow3)
  have HBB := Lib.hid (fun z => bset (i := 2) (u := r1) (bset (i := 1) (u := q1) (bset (i := 0) (u := .bool z) hwB (Nat.le_refl _)) (Nat.le_refl _)) (Nat.le_refl _))
  clear hr1 hr2 hrow3
  have hcs : decide (0 < l) = true ∨ decide (0 < l) = false := by cases decide (0 < l) <;> simp
  cases neg <;> rcases hcs with t1 | t1
  all_goals
    go_wp2
  · obtain ⟨e0, e1, e2, -, -, -⟩ := HE.out false
    refine bodyPost_ret (v := .agg #[.bool false, q1, r1]) ?_ rfl ⟨q1, r1, (by simp [t1]), HN.out false, HM.out false, HBB.out false⟩
    simp [results, Tryz.results26, go_sem, e0, e1, e2]
  · obtain ⟨e0, e1, e2, -, -, -⟩ := HE.out false
    refine bodyPost_ret (v := .agg #[.bool false, q1, r1]) ?_ rfl ⟨q1, r1, (by simp [t1]), HN.out false, HM.out false, HBB.out false⟩
    simp [results, Tryz.results26, go_sem, e0, e1, e2]
  · obtain ⟨e0, e1, e2, -, -, -⟩ := HE.out true
    refine bodyPost_ret (v := .agg #[.bool true, q1, r1]) ?_ rfl ⟨q1, r1, (by simp [t1]), HN.out true, HM.out true, HBB.out true⟩
    simp [results, Tryz.results26, go_sem, e0, e1, e2]
  · obtain ⟨e0, e1, e2, -, -, -⟩ := HE.out false
    refine bodyPost_ret (v := .agg #[.bool false, q1, r1]) ?_ rfl ⟨q1, r1, (by simp [t1]), HN.out false, HM.out false, HBB.out false⟩
    simp [results, Tryz.results26, go_sem, e0, e1, e2]
end Go.Proofs.YtbghmceglemppaaGreatDoor

/-
A fraction's opposite, as the reference tells it. No condition.
-/
namespace Go.Proofs.YtbghmceglemppaaGreatDoor
open Go.RowKit

set_option maxRecDepth 100000 in
theorem negated_any (neg : Bool) (a1 a2 : Value) (n : Nat) (w : World) (hS1 : IsS a1) (hS2 : IsS a2) (hL : sLen a1 = nl n) :
    Calls Tryz.prog 42 #[.agg #[.bool neg, a1, a2]] w fun e w' => e = .returned (.agg #[.bool (!neg && decide (0 < n)), a1, a2]) ∧ Below w.heap.size w w' := by
  have hlp := len_pos_iff n
  obtain ⟨l, hl⟩ : ∃ l, l = nl n := ⟨_, rfl⟩
  rw [← hl] at hL hlp
  rw [← hlp]
  have hab := ((Below.refl w.heap.size w).alloc (Nat.le_refl _) (.cells #[.bool neg, a1, a2] 49)).alloc ((Below.refl w.heap.size w).alloc (Nat.le_refl _) (.cells #[.bool neg, a1, a2] 49)).size (.cells #[.bool false, .slice none 0 0, .slice none 0 0] 49)
  obtain ⟨W, hW⟩ : ∃ W, W = (w.alloc (.cells #[.bool neg, a1, a2] 49)).alloc (.cells #[.bool false, .slice none 0 0, .slice none 0 0] 49) := ⟨_, rfl⟩
  have hrow0 : W.heap[w.heap.size]? = some (.cells #[.bool neg, a1, a2] 49 (0, 0)) := by rw [hW]; exact box_row ((Below.refl _ _).alloc (Nat.le_refl _) _)
  have hrow1 : W.heap[w.heap.size + 1]? = some (.cells #[.bool false, .slice none 0 0, .slice none 0 0] 49 (0, 0)) := by
    rw [hW]
    have := box_row (Below.refl _ ((w.alloc (.cells #[.bool neg, a1, a2] 49)).alloc (.cells #[.bool false, .slice none 0 0, .slice none 0 0] 49)))
    simpa using this
  rw [← hW] at hab
  obtain ⟨x0, x1, x2, -, -, -⟩ := row3 hrow0
  obtain ⟨k0, k1, k2, f0, f1, f2⟩ := row3 hrow1
  have HE := Lib.hid (fun x => row3 (row3_set (x := .bool x) (y := a1) (z := a2) hrow1))
  have HB := Lib.hid (fun x => bset3 (a := .bool x) (b := a1) (c := a2) hab (show w.heap.size ≤ w.heap.size + 1 by omega))
  clear hrow0 hrow1 hl hlp
  have hcs : decide (0 < l) = true ∨ decide (0 < l) = false := by cases decide (0 < l) <;> simp
  cases neg <;> rcases hcs with t1 | t1
  all_goals
    rw [t1]
    go_enter Tryz.func42, Tryz.ntmps42
    go_upto_region 1 with fail
    rw [← hW]
    clear hW
    go_wp2
  · obtain ⟨e0, e1, e2, -, -, -⟩ := HE.out true
    refine bodyPost_ret (v := .agg #[.bool true, a1, a2]) ?_ rfl ⟨rfl, HB.out true⟩
    simp [results, Tryz.results42, go_sem, e0, e1, e2]
  all_goals
    obtain ⟨e0, e1, e2, -, -, -⟩ := HE.out false
    refine bodyPost_ret (v := .agg #[.bool false, a1, a2]) ?_ rfl ⟨rfl, HB.out false⟩
    simp [results, Tryz.results42, go_sem, e0, e1, e2]
end Go.Proofs.YtbghmceglemppaaGreatDoor
