/-
Texts of this proof, joined: NmF RsZ IsA RsA KsP InM InN RsB. No condition.
-/
import Derived.Test.YtkhhoamcnocjlaaGreatDoorK04
import Derived.Test.YtkhhoamcnocjlaaGreatDoorK06
import Derived.Test.YtkhhoamcnocjlaaGreatDoorK11
import Derived.Test.YtkhhoamcnocjlaaGreatDoorK17
import Derived.Test.YtkhhoamcnocjlaaGreatDoorK18
import Derived.Test.YtkhhoamcnocjlaaGreatDoorK29
/-
Rat.norm in all its cases with a denominator that has words. No condition but the threshold of recursive division.
-/
namespace Go.Proofs.YtkhhoamcnocjlaaGreatDoor
open Go.RowKit

set_option maxHeartbeats 1600000 in
theorem norm_full (g B N D : Nat) (n : Bool) (va vb : Value) (w : World) (row : w.heap[g]? = some (.cells #[.bool n, va, .bool false, vb] 98 (0, 0))) (oa : Own w B 147 va (cellsW (wds N))) (ob : Own w B 147 vb (cellsW (wds D)))
    (hab : 0 < sCap va → 0 < sCap vb → sBlk va ≠ sBlk vb) (hD0 : 0 < D) (hN : nw N < 40) (hD : nw D < 40) (hB : B ≤ g) (hT : DivW w) (hg : 1 < B) :
    Calls Tryz.prog 92 #[.pointer (some ⟨g, 0, none⟩)] w fun e w' => e = .returned (.pointer (some ⟨g, 0, none⟩)) ∧ NmP g B (N / Nat.gcd N D) (D / Nat.gcd N D) (n && decide (0 < N)) va vb w w' := by
  rcases Nat.eq_zero_or_pos N with h0 | h0
  · subst h0
    have hBw : B ≤ w.heap.size := Nat.le_trans hB (Nat.le_of_lt (get_lt row))
    have la : sLen va = 0 := oa.len
    refine (norm_zero g B n false va vb _ w row oa.isS la ob hBw).mono ?_
    rintro e w' ⟨he, r, w1, hr, rfl⟩
    rw [Nat.gcd_zero_left, Nat.zero_div, Nat.div_self hD0, decide_eq_false (show ¬ 0 < 0 by omega), Bool.and_false]
    have row2 := rowset (i := 0) (.bool false) row
    have ob2 := ob.away row (by decide) 0 (.bool false)
    have oa2 := oa.away row (by decide) 0 (.bool false)
    have h1 := (hr.fr g (get_lt row2) (fun hc => ob2.neRow row2 (by decide) hc)).trans row2
    have h2 := rowset (i := 3) r h1
    have oa3 := oa2.frz hr.fr (fun a b => hab a b)
    refine ⟨he, ⟨va, r, hB, h2, oa3.away h1 (by decide) 3 r, by have h := hr.own.away h1 (by decide) 3 r; exact h⟩, bset ((bset (Below.refl B w) hB).trans hr.below) hB, fun k hk a b c => ?_⟩
    rw [heap_setCell_other _ _ _ _ (by simpa using a)]
    refine (hr.fr k (by simpa using hk) c).trans ?_
    exact heap_setCell_other _ _ _ _ (by simpa using a)
  · rw [decide_eq_true h0, Bool.and_true]
    exact norm_rat g B N D n false va vb w row oa ob hab h0 hD0 hN hD hB hT hg
end Go.Proofs.YtkhhoamcnocjlaaGreatDoor

/-
mulDenom of two denominators that have words; what lies once a sum's numerator is written. No condition but the thresholds.
-/
namespace Go.Proofs.YtkhhoamcnocjlaaGreatDoor
open Go.RowKit

/-- What mulDenom does with a receiver and two denominators. -/
def MdP (z x y : Value) (X Y B : Nat) : Prop := ∀ (s : Nat) (zs : List Value) (w : World), Own w B 147 z zs → RO w x (wds X) → RO w y (wds Y) → B ≤ w.heap.size → KarW w →
  Calls Tryz.prog 106 #[.pointer (some ⟨s, 0, none⟩), z, x, y] w fun e w' => ∃ r, e = .returned r ∧ NatR z r (X * Y) B w w'
set_option maxRecDepth 100000 in
set_option maxHeartbeats 800000 in
theorem mulDenom_nil (x y : Value) (X Y B : Nat) (hX : 0 < X) (hY : 0 < Y) (hX40 : nw X < 40) (hY40 : nw Y < 40) : MdP (.slice none 0 0) x y X Y B := by
  intro s zs w _ hx hy hB hK
  have hSx := hx.rw.isS
  have hSy := hy.rw.isS
  obtain ⟨m, hm⟩ : ∃ m, m = nw X := ⟨_, rfl⟩
  obtain ⟨n, hn⟩ : ∃ n, n = nw Y := ⟨_, rfl⟩
  have hLx : sLen x = m := by rw [hx.rw.len, wds_length, hm]
  have hLy : sLen y = n := by rw [hy.rw.len, wds_length, hn]
  have hm0 : 0 < m := by rw [hm]; exact nw_pos hX
  have hn0 : 0 < n := by rw [hn]; exact nw_pos hY
  have t1 : ((m : Int) == 0) = false := by rw [beq_eq_false_iff_ne]; omega
  have t1' : decide (m = 0) = false := decide_eq_false (by omega)
  have t2 : ((n : Int) == 0) = false := by rw [beq_eq_false_iff_ne]; omega
  have t2' : decide (n = 0) = false := decide_eq_false (by omega)
  have HC := Lib.hid (nmul_any (pk := some ⟨s, 0, none⟩) x y X Y w hx hy (.inl hX40) (by omega) (by omega) hK)
  have HB := Lib.hid hB
  clear hx hy hB hK hm hn hX hY hX40 hY40 hm0 hn0
  go_enter Tryz.func106, Tryz.ntmps106
  go_wp2_with fail
  refine HC.out.mono ?_
  rintro _ w1 ⟨r, rfl, ho, hb⟩
  have hSr := ho.isS
  have Q : Hid (NatR (.slice none 0 0) r (X * Y) B w w1) := Lib.hid ⟨ho.mono HB.out, hb.mono HB.out, Fr.ofBelow hb, fun hc => .inr (ho.lt hc).1⟩
  clear ho hb
  go_wp2
  go_ret
  exact ⟨_, rfl, Q.out⟩
/-- The state of Rat.Add and Rat.Sub once the numerator is written: the receiver, the stack, what is still read. -/
structure SmW (z s x y B S X2 Y2 : Nat) (sg : Bool) (r1 uz ux uy : Value) (us : List Value) (w0 w : World) : Prop where
  row : w.heap[z]? = some (.cells #[.bool sg, r1, .bool false, uz] 98 (0, 0))
  rs : w.heap[s]? = some (.cells #[.pointer none] 184 (0, 0))
  c1 : w.cell? ⟨x, 3, none⟩ = some ux
  c2 : w.cell? ⟨y, 3, none⟩ = some uy
  o1 : Own w B 147 r1 (cellsW (wds S))
  oz : Own w B 147 uz us
  ne : 0 < sCap r1 → 0 < sCap uz → sBlk r1 ≠ sBlk uz
  vx : RO w ux (wds X2)
  vy : RO w uy (wds Y2)
  bl : Below B w0 w
  kw : KarW w
  tw : DivW w
  hz : B ≤ z
  sz : w0.heap.size ≤ s
  dg : 1 < B
  kg : 0 < B
section
variable {z s x y B S X2 Y2 : Nat} {sg : Bool} {r1 uz ux uy : Value} {us : List Value} {w0 w : World}
theorem SmW.drewN (h : SmW z s x y B S X2 Y2 sg r1 uz ux uy us w0 w) (k : Nat) : SmW z s x y B S X2 Y2 sg r1 uz ux uy us w0 (w.drewN k) :=
  ⟨h.row, h.rs, h.c1, h.c2, h.o1.drewN k, h.oz.drewN k, h.ne, h.vx.below (undrewN' (Below.refl _ _)), h.vy.below (undrewN' (Below.refl _ _)), undrewN' h.bl, h.kw, h.tw, h.hz, h.sz, h.dg, h.kg⟩
/-- mulDenom's call, and norm's behind the store. -/
theorem SmW.den (h : SmW z s x y B S X2 Y2 sg r1 uz ux uy us w0 w) (hm : MdP uz ux uy X2 Y2 B) (hX : 0 < X2) (hY : 0 < Y2) (hS : nw S < 40) (hD : nw (X2 * Y2) < 40) :
    Calls Tryz.prog 106 #[.pointer (some ⟨s, 0, none⟩), uz, ux, uy] w fun e w' => ∃ r, e = .returned r ∧ IsS r ∧ w'.heap[z]? = some (.cells #[.bool sg, r1, .bool false, uz] 98 (0, 0)) ∧
      Calls Tryz.prog 92 #[.pointer (some ⟨z, 0, none⟩)] (w'.setCell ⟨z, 3, none⟩ r) fun e2 w2 => e2 = .returned (.pointer (some ⟨z, 0, none⟩)) ∧ w2.cell? ⟨s, 0, none⟩ = some (.pointer none) ∧ RatP w2 B z (sg && decide (0 < S)) (S / Nat.gcd S (X2 * Y2)) (X2 * Y2 / Nat.gcd S (X2 * Y2)) ∧ Below B w0 w2 := by
  have hBw : B ≤ w.heap.size := Nat.le_trans h.hz (Nat.le_of_lt (get_lt h.row))
  refine (hm s us w h.oz h.vx h.vy hBw h.kw).mono ?_
  rintro e w' ⟨r, he, hr⟩
  have hz1 := hr.below.size
  have hzl := get_lt h.row
  have hsl := get_lt h.rs
  have q1 : w'.heap[z]? = some (.cells #[.bool sg, r1, .bool false, uz] 98 (0, 0)) := hr.fr.row h.row (fun hc => h.oz.neRow h.row (by decide) hc)
  have q2 : w'.heap[s]? = some (.cells #[.pointer none] 184 (0, 0)) := hr.fr.row h.rs (fun hc => h.oz.neRow h.rs (by decide) hc)
  have o1 : Own w' B 147 r1 (cellsW (wds S)) := h.o1.frz hr.fr h.ne
  have hne : 0 < sCap r1 → 0 < sCap r → sBlk r1 ≠ sBlk r := fun a b hc => by
    rcases hr.at' b with ⟨p, q⟩ | p
    · exact h.ne a p (hc.trans q)
    · have := (h.o1.lt a).2; omega
  have p1 := rowset (i := 3) r q1
  have hzs : s ≠ z := fun hc => by
    have h1 := h.rs
    rw [hc, h.row] at h1
    injection h1 with h1; injection h1 with _ h2
    exact absurd h2 (by decide)
  have p2 : (w'.setCell ⟨z, 3, none⟩ r).heap[s]? = some (.cells #[.pointer none] 184 (0, 0)) := by
    rw [heap_setCell_other _ _ _ _ (by simpa using hzs)]; exact q2
  have oa := o1.away q1 (by decide) 3 r
  have ob := hr.own.away q1 (by decide) 3 r
  have hb' : Below B w (w'.setCell ⟨z, 3, none⟩ r) := bset hr.below h.hz
  refine ⟨r, he, hr.own.isS, q1, (norm_full z B S (X2 * Y2) sg r1 r _ p1 oa ob hne (Nat.mul_pos hX hY) hS hD h.hz (h.tw.belowB hb' h.dg) h.dg).mono ?_⟩
  rintro e2 w2 ⟨he2, hn⟩
  refine ⟨he2, ?_, hn.rat, h.bl.trans (hb'.trans hn.bl)⟩
  have h5 := hn.fr s (get_lt p2) hzs (fun hc => oa.neRow p2 (by decide) hc) (fun hc => ob.neRow p2 (by decide) hc)
  exact (row_at (i := 0) (h5.trans p2) rfl).1
end
end Go.Proofs.YtkhhoamcnocjlaaGreatDoor

/-
Int.Sub of two boxes into a third. No condition.
-/
namespace Go.Proofs.YtkhhoamcnocjlaaGreatDoor
open Go.RowKit

theorem bn_ne {m n : Bool} (h : m = !n) : (m == n) = false ∧ (m != n) = true := by subst h; cases n <;> exact ⟨rfl, rfl⟩
theorem bn_eq {m n : Bool} (h : ¬ m = !n) : (m == n) = true ∧ (m != n) = false := by cases m <;> cases n <;> first | exact ⟨rfl, rfl⟩ | exact absurd rfl h
set_option maxRecDepth 100000 in
set_option maxHeartbeats 3200000 in
theorem intSub_any (b o c p d t : Nat) (m n : Bool) (vz vx vy z0 : Value) (zs : List Value) (X Y B : Nat) (cb cc cd : Array Value) (Tb Tc Td : TypeId) (w : World)
    (hb : w.heap[b]? = some (.cells cb Tb (0, 0))) (hc : w.heap[c]? = some (.cells cc Tc (0, 0))) (hd : w.heap[d]? = some (.cells cd Td (0, 0))) (hTb : Tb ≠ 147)
    (b0 : cb[o]? = some z0) (b1 : cb[o + 1]? = some vz) (c0 : cc[p]? = some (.bool m)) (c1 : cc[p + 1]? = some vx) (d0 : cd[t]? = some (.bool n)) (d1 : cd[t + 1]? = some vy)
    (ho : Own w B 147 vz zs) (hx : RO w vx (wds X)) (hy : RO w vy (wds Y)) (ax : Al vz vx) (ay : Al vz vy) (hX : nw X ≤ 1000000) (hY : nw Y ≤ 1000000) (hB : B ≤ b) :
    Calls Tryz.prog 158 #[.pointer (some ⟨b, o, none⟩), .pointer (some ⟨c, p, none⟩), .pointer (some ⟨d, t, none⟩)] w fun e w' => e = .returned (.pointer (some ⟨b, o, none⟩)) ∧ IntRo b o cb Tb vz (decide (0 < addM m X (!n) Y) && addN m X (!n) Y) (addM m X (!n) Y) B w w' := by
  have hSz := ho.isS
  have hSx := hx.rw.isS
  have hSy := hy.rw.isS
  have hbs := get_lt hb
  have hBs : B ≤ w.heap.size := Nat.le_trans hB (Nat.le_of_lt hbs)
  have x0 : w.cell? ⟨c, p, none⟩ = some (.bool m) := (row_at hc c0).1
  have x1 : w.cell? ⟨c, p + 1, none⟩ = some vx := (row_at hc c1).1
  have y0 : w.cell? ⟨d, t, none⟩ = some (.bool n) := (row_at hd d0).1
  have y1 : w.cell? ⟨d, t + 1, none⟩ = some vy := (row_at hd d1).1
  have z1 : w.cell? ⟨b, o + 1, none⟩ = some vz := (row_at hb b1).1
  have hneb : 0 < sCap vz → b ≠ sBlk vz := ho.neRow hb hTb
  have hfin : ∀ (N k : Nat) (r : Value) (w1 : World), NatR vz r N B (w.drewN k) w1 → w1.heap[b]? = some (.cells cb Tb (0, 0)) ∧ IsS r ∧ sLen r = nw N ∧ ∀ q : Bool, IntRo b o cb Tb vz q N B w ((w1.setCell ⟨b, o + 1, none⟩ r).setCell ⟨b, o, none⟩ (.bool q)) := fun N k r w1 h => by
    have h' : NatR vz r N B w w1 := ⟨h.own, undrewN h.below, fun t ht hn => h.fr t ht hn, h.at'⟩
    exact ⟨h'.fr.row hb hneb, h.own.isS, by rw [h.own.len, cellsW_length, wds_length], fun q => .of hb hTb hB hneb h'⟩
  have HADD : Hid (∀ W, (∃ k, W = w.drewN k) → Calls Tryz.prog 124 #[vz, vx, vy] W fun e w1 => ∃ r, e = .returned r ∧ w1.heap[b]? = some (.cells cb Tb (0, 0)) ∧ IsS r ∧ sLen r = nw (X + Y) ∧ ∀ q : Bool, IntRo b o cb Tb vz q (X + Y) B w ((w1.setCell ⟨b, o + 1, none⟩ r).setCell ⟨b, o, none⟩ (.bool q))) := Lib.hid (by
    rintro _ ⟨k, rfl⟩
    refine (nadd_any vz vx vy zs X Y B (w.drewN k) (ho.drewN k) (hx.below (undrewN' (Below.refl _ _))) (hy.below (undrewN' (Below.refl _ _))) ax ay (by omega) (by omega) hBs).mono ?_
    rintro _ w1 ⟨r, rfl, h⟩
    exact ⟨r, rfl, hfin _ k r w1 h⟩)
  have HS1 : Hid (Y ≤ X → ∀ W, (∃ k, W = w.drewN k) → Calls Tryz.prog 125 #[vz, vx, vy] W fun e w1 => ∃ r, e = .returned r ∧ w1.heap[b]? = some (.cells cb Tb (0, 0)) ∧ IsS r ∧ sLen r = nw (X - Y) ∧ ∀ q : Bool, IntRo b o cb Tb vz q (X - Y) B w ((w1.setCell ⟨b, o + 1, none⟩ r).setCell ⟨b, o, none⟩ (.bool q))) := Lib.hid (by
    rintro h _ ⟨k, rfl⟩
    refine (nsub_any vz vx vy zs X Y B (w.drewN k) (ho.drewN k) (hx.below (undrewN' (Below.refl _ _))) (hy.below (undrewN' (Below.refl _ _))) ax ay h (by omega) hBs).mono ?_
    rintro _ w1 ⟨r, rfl, h⟩
    exact ⟨r, rfl, hfin _ k r w1 h⟩)
  have HS2 : Hid (X ≤ Y → ∀ W, (∃ k, W = w.drewN k) → Calls Tryz.prog 125 #[vz, vy, vx] W fun e w1 => ∃ r, e = .returned r ∧ w1.heap[b]? = some (.cells cb Tb (0, 0)) ∧ IsS r ∧ sLen r = nw (Y - X) ∧ ∀ q : Bool, IntRo b o cb Tb vz q (Y - X) B w ((w1.setCell ⟨b, o + 1, none⟩ r).setCell ⟨b, o, none⟩ (.bool q))) := Lib.hid (by
    rintro h _ ⟨k, rfl⟩
    refine (nsub_any vz vy vx zs Y X B (w.drewN k) (ho.drewN k) (hy.below (undrewN' (Below.refl _ _))) (hx.below (undrewN' (Below.refl _ _))) ay ax h (by omega) hBs).mono ?_
    rintro _ w1 ⟨r, rfl, h⟩
    exact ⟨r, rfl, hfin _ k r w1 h⟩)
  obtain ⟨C, hC⟩ : ∃ C, C = cmpN X Y := ⟨_, rfl⟩
  have HCM : Hid (∀ W, (∃ k, W = w.drewN k) → Calls Tryz.prog 137 #[vx, vy] W fun e w' => e = .returned (.int .i64 C) ∧ ∃ k, w' = w.drewN k) := Lib.hid (by
    rintro _ ⟨k, rfl⟩
    rw [hC]
    refine (cmp_any vx vy X Y (w.drewN k) (hx.rw.drewN k) (hy.rw.drewN k) (by omega) (by omega)).mono ?_
    rintro _ _ ⟨rfl, n, rfl⟩
    exact ⟨rfl, _, World.drewN_drewN _ _ _⟩)
  have HB0 := Lib.hid b0
  have HB1 := Lib.hid b1
  by_cases hmn : m = !n
  · have tmn : (m == n) = false := (bn_ne hmn).1
    have tmn' : (m != n) = true := (bn_ne hmn).2
    have e1 : addM m X (!n) Y = X + Y := if_pos hmn
    have e2 : addN m X (!n) Y = m := if_pos hmn
    rw [e1, e2]
    obtain ⟨N, hN⟩ : ∃ N, N = X + Y := ⟨_, rfl⟩
    rw [← hN] at HADD ⊢
    clear hb hc hd b0 b1 c0 c1 d0 d1 ho hx hy ax ay hX hY hB hbs hBs hneb hfin e1 e2 hC hN HS1 HS2 hmn
    go_enter Tryz.func158, Tryz.ntmps158
    go_wp2_with fail
    go_quiet (fail)
    go_wp2_with fail
    (refine wp_region_hoist 13 (by kernel_rfl) (by kernel_rfl) ⟨fun _ _ _ h => (by first | exact (hQp _ _ _ h).elim | cases h.2.1 | (obtain ⟨_, h3, _⟩ := h.2; cases h3)), fun _ _ h => (by first | exact (hQo _ _ h).elim | cases h.1 | (obtain ⟨_, h3, _⟩ := h; cases h3))⟩ ?_; simp only [List.take_succ_cons, List.take_zero, List.drop_succ_cons, List.drop_zero]; (repeat (go_big_quiet_step (fail))); refine wpQuiet_nil ?_; rintro _ ⟨nq, rfl⟩)
    go_wp2_with fail
    refine (HADD.out _ (by first | exact ⟨_, rfl⟩ | exact ⟨_, World.drewN_drewN _ _ _⟩)).mono ?_
    rintro _ w1 ⟨r, rfl, g1, hSr, hLr, hQ⟩
    obtain ⟨a0, f0⟩ : w1.cell? ⟨b, o, none⟩ = some z0 ∧ w1.frozen? ⟨b, o, none⟩ = false := ⟨(row_at g1 HB0.out).1, (row_at g1 HB0.out).2⟩
    obtain ⟨a1, f1⟩ : w1.cell? ⟨b, o + 1, none⟩ = some vz ∧ w1.frozen? ⟨b, o + 1, none⟩ = false := ⟨(row_at g1 HB1.out).1, (row_at g1 HB1.out).2⟩
    rcases Nat.eq_zero_or_pos N with h0 | h0
    · have hl0 : sLen r = 0 := by rw [hLr, h0]; rfl
      have Q : Hid (IntRo b o cb Tb vz (decide (0 < N) && m) N B w ((w1.setCell ⟨b, o + 1, none⟩ r).setCell ⟨b, o, none⟩ (.bool false))) := Lib.hid (by rw [show (decide (0 < N) && m) = false by rw [h0]; simp]; exact hQ false)
      clear g1 hLr hQ h0
      go_wp2
      go_ret
      exact ⟨rfl, Q.out⟩
    · obtain ⟨l, hl⟩ : ∃ l, l = nw N := ⟨_, rfl⟩
      have hlp : 0 < l := by rw [hl]; exact nw_pos h0
      rw [← hl] at hLr
      have tl : decide ((l : Int) > 0) = true := decide_eq_true (by omega)
      have tl' : decide (0 < l) = true := decide_eq_true hlp
      have Q : Hid (IntRo b o cb Tb vz (decide (0 < N) && m) N B w ((w1.setCell ⟨b, o + 1, none⟩ r).setCell ⟨b, o, none⟩ (.bool (m)))) := Lib.hid (by rw [show (decide (0 < N) && m) = (m) by rw [decide_eq_true h0]; simp]; exact hQ _)
      clear g1 hQ h0 hl
      go_wp2
      go_ret
      exact ⟨rfl, Q.out⟩
  · have tmn : (m == n) = true := (bn_eq hmn).1
    have tmn' : (m != n) = false := (bn_eq hmn).2
    by_cases hle : Y ≤ X
    · have e1 : addM m X (!n) Y = X - Y := by unfold addM; rw [if_neg hmn, if_pos hle]
      have e2 : addN m X (!n) Y = m := by unfold addN; rw [if_neg hmn, if_pos hle]
      have tC : decide (C ≥ 0) = true := by
        rw [hC]; unfold cmpN; rw [if_neg (by omega)]; split <;> rfl
      have tC' : decide (0 ≤ C) = true := tC
      have HSB := Lib.hid (HS1.out hle)
      rw [e1, e2]
      obtain ⟨N, hN⟩ : ∃ N, N = X - Y := ⟨_, rfl⟩
      rw [← hN] at HSB ⊢
      clear hb hc hd b0 b1 c0 c1 d0 d1 ho hx hy ax ay hX hY hB hbs hBs hneb hfin e1 e2 hC hle HS1 HS2 hmn hN
      go_enter Tryz.func158, Tryz.ntmps158
      go_wp2_with fail
      go_quiet (fail)
      go_wp2_with fail
      (refine wp_region_hoist 8 (by kernel_rfl) (by kernel_rfl) ⟨fun _ _ _ h => (by first | exact (hQp _ _ _ h).elim | cases h.2.1 | (obtain ⟨_, h3, _⟩ := h.2; cases h3)), fun _ _ h => (by first | exact (hQo _ _ h).elim | cases h.1 | (obtain ⟨_, h3, _⟩ := h; cases h3))⟩ ?_; simp only [List.take_succ_cons, List.take_zero, List.drop_succ_cons, List.drop_zero]; (repeat (go_big_quiet_step (fail))); refine wpQuiet_nil ?_; rintro _ ⟨nq, rfl⟩)
      go_wp2_with fail
      refine (HCM.out _ (by first | exact ⟨_, rfl⟩ | exact ⟨_, World.drewN_drewN _ _ _⟩)).mono ?_
      rintro _ _ ⟨rfl, k2, rfl⟩
      go_wp2_with fail
      (refine wp_region_hoist 13 (by kernel_rfl) (by kernel_rfl) ⟨fun _ _ _ h => (by first | exact (hQp _ _ _ h).elim | cases h.2.1 | (obtain ⟨_, h3, _⟩ := h.2; cases h3)), fun _ _ h => (by first | exact (hQo _ _ h).elim | cases h.1 | (obtain ⟨_, h3, _⟩ := h; cases h3))⟩ ?_; simp only [List.take_succ_cons, List.take_zero, List.drop_succ_cons, List.drop_zero]; (repeat (go_big_quiet_step (fail))); refine wpQuiet_nil ?_; rintro _ ⟨nq, rfl⟩)
      go_wp2_with fail
      refine (HSB.out _ (by first | exact ⟨_, rfl⟩ | exact ⟨_, World.drewN_drewN _ _ _⟩)).mono ?_
      rintro _ w1 ⟨r, rfl, g1, hSr, hLr, hQ⟩
      obtain ⟨a0, f0⟩ : w1.cell? ⟨b, o, none⟩ = some z0 ∧ w1.frozen? ⟨b, o, none⟩ = false := ⟨(row_at g1 HB0.out).1, (row_at g1 HB0.out).2⟩
      obtain ⟨a1, f1⟩ : w1.cell? ⟨b, o + 1, none⟩ = some vz ∧ w1.frozen? ⟨b, o + 1, none⟩ = false := ⟨(row_at g1 HB1.out).1, (row_at g1 HB1.out).2⟩
      rcases Nat.eq_zero_or_pos N with h0 | h0
      · have hl0 : sLen r = 0 := by rw [hLr, h0]; rfl
        have Q : Hid (IntRo b o cb Tb vz (decide (0 < N) && m) N B w ((w1.setCell ⟨b, o + 1, none⟩ r).setCell ⟨b, o, none⟩ (.bool false))) := Lib.hid (by rw [show (decide (0 < N) && m) = false by rw [h0]; simp]; exact hQ false)
        clear g1 hLr hQ h0
        go_wp2
        go_ret
        exact ⟨rfl, Q.out⟩
      · obtain ⟨l, hl⟩ : ∃ l, l = nw N := ⟨_, rfl⟩
        have hlp : 0 < l := by rw [hl]; exact nw_pos h0
        rw [← hl] at hLr
        have tl : decide ((l : Int) > 0) = true := decide_eq_true (by omega)
        have tl' : decide (0 < l) = true := decide_eq_true hlp
        have Q : Hid (IntRo b o cb Tb vz (decide (0 < N) && m) N B w ((w1.setCell ⟨b, o + 1, none⟩ r).setCell ⟨b, o, none⟩ (.bool (m)))) := Lib.hid (by rw [show (decide (0 < N) && m) = (m) by rw [decide_eq_true h0]; simp]; exact hQ _)
        clear g1 hQ h0 hl
        go_wp2
        go_ret
        exact ⟨rfl, Q.out⟩
    · have e1 : addM m X (!n) Y = Y - X := by unfold addM; rw [if_neg hmn, if_neg hle]
      have e2 : addN m X (!n) Y = !m := by unfold addN; rw [if_neg hmn, if_neg hle]
      have tC : decide (C ≥ 0) = false := by
        rw [hC]; unfold cmpN; rw [if_pos (by omega)]; rfl
      have tC' : decide (0 ≤ C) = false := tC
      have HSB := Lib.hid (HS2.out (by omega))
      rw [e1, e2]
      obtain ⟨N, hN⟩ : ∃ N, N = Y - X := ⟨_, rfl⟩
      rw [← hN] at HSB ⊢
      clear hb hc hd b0 b1 c0 c1 d0 d1 ho hx hy ax ay hX hY hB hbs hBs hneb hfin e1 e2 hC hle HS1 HS2 hmn hN
      go_enter Tryz.func158, Tryz.ntmps158
      go_wp2_with fail
      go_quiet (fail)
      go_wp2_with fail
      (refine wp_region_hoist 8 (by kernel_rfl) (by kernel_rfl) ⟨fun _ _ _ h => (by first | exact (hQp _ _ _ h).elim | cases h.2.1 | (obtain ⟨_, h3, _⟩ := h.2; cases h3)), fun _ _ h => (by first | exact (hQo _ _ h).elim | cases h.1 | (obtain ⟨_, h3, _⟩ := h; cases h3))⟩ ?_; simp only [List.take_succ_cons, List.take_zero, List.drop_succ_cons, List.drop_zero]; (repeat (go_big_quiet_step (fail))); refine wpQuiet_nil ?_; rintro _ ⟨nq, rfl⟩)
      go_wp2_with fail
      refine (HCM.out _ (by first | exact ⟨_, rfl⟩ | exact ⟨_, World.drewN_drewN _ _ _⟩)).mono ?_
      rintro _ _ ⟨rfl, k2, rfl⟩
      go_wp2_with fail
      (refine wp_region_hoist 13 (by kernel_rfl) (by kernel_rfl) ⟨fun _ _ _ h => (by first | exact (hQp _ _ _ h).elim | cases h.2.1 | (obtain ⟨_, h3, _⟩ := h.2; cases h3)), fun _ _ h => (by first | exact (hQo _ _ h).elim | cases h.1 | (obtain ⟨_, h3, _⟩ := h; cases h3))⟩ ?_; simp only [List.take_succ_cons, List.take_zero, List.drop_succ_cons, List.drop_zero]; (repeat (go_big_quiet_step (fail))); refine wpQuiet_nil ?_; rintro _ ⟨nq, rfl⟩)
      go_wp2_with fail
      refine (HSB.out _ (by first | exact ⟨_, rfl⟩ | exact ⟨_, World.drewN_drewN _ _ _⟩)).mono ?_
      rintro _ w1 ⟨r, rfl, g1, hSr, hLr, hQ⟩
      obtain ⟨a0, f0⟩ : w1.cell? ⟨b, o, none⟩ = some z0 ∧ w1.frozen? ⟨b, o, none⟩ = false := ⟨(row_at g1 HB0.out).1, (row_at g1 HB0.out).2⟩
      obtain ⟨a1, f1⟩ : w1.cell? ⟨b, o + 1, none⟩ = some vz ∧ w1.frozen? ⟨b, o + 1, none⟩ = false := ⟨(row_at g1 HB1.out).1, (row_at g1 HB1.out).2⟩
      rcases Nat.eq_zero_or_pos N with h0 | h0
      · have hl0 : sLen r = 0 := by rw [hLr, h0]; rfl
        have Q : Hid (IntRo b o cb Tb vz (decide (0 < N) && !m) N B w ((w1.setCell ⟨b, o + 1, none⟩ r).setCell ⟨b, o, none⟩ (.bool false))) := Lib.hid (by rw [show (decide (0 < N) && !m) = false by rw [h0]; simp]; exact hQ false)
        clear g1 hLr hQ h0
        go_wp2
        go_ret
        exact ⟨rfl, Q.out⟩
      · obtain ⟨l, hl⟩ : ∃ l, l = nw N := ⟨_, rfl⟩
        have hlp : 0 < l := by rw [hl]; exact nw_pos h0
        rw [← hl] at hLr
        have tl : decide ((l : Int) > 0) = true := decide_eq_true (by omega)
        have tl' : decide (0 < l) = true := decide_eq_true hlp
        have Q : Hid (IntRo b o cb Tb vz (decide (0 < N) && !m) N B w ((w1.setCell ⟨b, o + 1, none⟩ r).setCell ⟨b, o, none⟩ (.bool (!m)))) := Lib.hid (by rw [show (decide (0 < N) && !m) = (!m) by rw [decide_eq_true h0]; simp]; exact hQ _)
        clear g1 hQ h0 hl
        go_wp2
        go_ret
        exact ⟨rfl, Q.out⟩
end Go.Proofs.YtkhhoamcnocjlaaGreatDoor

/-
Rat.Add and Rat.Sub of whatever receiver. No condition but the thresholds.
-/
namespace Go.Proofs.YtkhhoamcnocjlaaGreatDoor
open Go.RowKit

set_option maxRecDepth 100000 in
set_option maxHeartbeats 3200000 in
theorem ratAdd_any (z x y B : Nat) (nz m n : Bool) (vz uz vx ux vy uy : Value) (zs us : List Value) (X1 X2 Y1 Y2 : Nat) (w : World)
    (hz : w.heap[z]? = some (.cells #[.bool nz, vz, .bool false, uz] 98 (0, 0))) (oz : Own w B 147 vz zs) (oz2 : Own w B 147 uz us) (sz : 0 < sCap vz → 0 < sCap uz → sBlk vz ≠ sBlk uz)
    (hx : w.heap[x]? = some (.cells #[.bool m, vx, .bool false, ux] 98 (0, 0))) (ox1 : RO w vx (wds X1)) (ox2 : RO w ux (wds X2))
    (hy : w.heap[y]? = some (.cells #[.bool n, vy, .bool false, uy] 98 (0, 0))) (oy1 : RO w vy (wds Y1)) (oy2 : RO w uy (wds Y2))
    (dx : 0 < sCap vz → sBlk ux ≠ sBlk vz) (dy : 0 < sCap vz → sBlk uy ≠ sBlk vz) (hal : 0 < sCap vz → 0 < X1 * Y2 ∧ 0 < Y1 * X2) (hm : MdP uz ux uy X2 Y2 B) (p1 : 0 < X2) (p2 : 0 < Y2) (k1 : nw X1 < 40) (k2 : nw X2 < 40) (k3 : nw Y1 < 40) (k4 : nw Y2 < 40)
    (k5 : nw (addM m (X1 * Y2) n (Y1 * X2)) < 40) (k6 : nw (X2 * Y2) < 40) (hB : B ≤ z) (hK : KarW w) (hT : DivW w) (dg : 1 < B) (kg : 0 < B) :
    Calls Tryz.prog 55 #[.pointer (some ⟨z, 0, none⟩), .pointer (some ⟨x, 0, none⟩), .pointer (some ⟨y, 0, none⟩)] w fun e w' => e = .returned (.pointer (some ⟨z, 0, none⟩)) ∧ RatP w' B z ((decide (0 < addM m (X1 * Y2) n (Y1 * X2)) && addN m (X1 * Y2) n (Y1 * X2)) && decide (0 < addM m (X1 * Y2) n (Y1 * X2))) (addM m (X1 * Y2) n (Y1 * X2) / Nat.gcd (addM m (X1 * Y2) n (Y1 * X2)) (X2 * Y2)) (X2 * Y2 / Nat.gcd (addM m (X1 * Y2) n (Y1 * X2)) (X2 * Y2)) ∧ Below B w w' := by
  have hSx := ox2.rw.isS
  have hSy := oy2.rw.isS
  have hSz2 := oz2.isS
  have hxl : x < w.heap.size := get_lt hx
  have hyl : y < w.heap.size := get_lt hy
  have hzl : z < w.heap.size := get_lt hz
  obtain ⟨S, hS⟩ : ∃ S, S = addM m (X1 * Y2) n (Y1 * X2) := ⟨_, rfl⟩
  obtain ⟨sg, hsg⟩ : ∃ sg, sg = (decide (0 < addM m (X1 * Y2) n (Y1 * X2)) && addN m (X1 * Y2) n (Y1 * X2)) := ⟨_, rfl⟩
  obtain ⟨s, hs⟩ : ∃ s, s = w.heap.size := ⟨_, rfl⟩
  obtain ⟨W, hW⟩ : ∃ W, W = ((w.alloc (.cells #[.pointer none] 184)).alloc (.cells #[.bool false, .slice none 0 0] 96)).alloc (.cells #[.bool false, .slice none 0 0] 96) := ⟨_, rfl⟩
  have hWz : W.heap.size = s + 3 := by rw [hW, hs]; simp
  have hbW : Below s w W := by rw [hW, hs]; exact (((Below.refl _ w).alloc (Nat.le_refl _) _).alloc (by simp) _).alloc (by simp; omega) _
  have rs : W.heap[s]? = some (.cells #[.pointer none] 184 (0, 0)) := by rw [hW, hs]; exact keep_row (fbone _) (keep_row (fbone _) (heap_alloc_new _ _))
  have ra : W.heap[s + 1]? = some (.cells #[.bool false, .slice none 0 0] 96 (0, 0)) := by
    have e : (w.alloc (.cells #[.pointer none] 184)).heap.size = s + 1 := by rw [hs]; simp
    rw [hW, ← e]; exact keep_row (fbone _) (heap_alloc_new _ _)
  have rb : W.heap[s + 2]? = some (.cells #[.bool false, .slice none 0 0] 96 (0, 0)) := by
    have e : ((w.alloc (.cells #[.pointer none] 184)).alloc (.cells #[.bool false, .slice none 0 0] 96)).heap.size = s + 2 := by rw [hs]; simp
    rw [hW, ← e]; exact heap_alloc_new _ _
  have rzW := hbW.block z (by omega) |>.trans hz
  have rxW := hbW.block x (by omega) |>.trans hx
  have ryW := hbW.block y (by omega) |>.trans hy
  have hbw : Below w.heap.size w W := by rw [← hs]; exact hbW
  have HA : Hid (∀ w0, Below W.heap.size W w0 → Calls Tryz.prog 104 #[.pointer (some ⟨s + 1, 0, none⟩), .pointer (some ⟨s, 0, none⟩), .pointer (some ⟨x, 0, none⟩), uy] w0 fun e w' => e = .returned (.tuple #[]) ∧ ScP (s + 1) m (X1 * Y2) W w') := Lib.hid (fun w0 h0 => by
    refine (scale_any (s + 1) x m vx uy X1 Y2 _ _ w0 (keep_row h0 ra) (keep_row h0 rxW) rfl rfl (by omega) ((ox1.below hbw).below h0) ((oy2.below hbw).below h0) p2 (by omega) (by omega) ((hK.below hbw).below h0)).mono ?_
    rintro e w' ⟨h1, h2⟩
    exact ⟨h1, h2.pre h0 (by omega)⟩)
  have HB : Hid (∀ w1, ScP (s + 1) m (X1 * Y2) W w1 → ∀ w0, Below w1.heap.size w1 w0 → Calls Tryz.prog 104 #[.pointer (some ⟨s + 2, 0, none⟩), .pointer (some ⟨s, 0, none⟩), .pointer (some ⟨y, 0, none⟩), ux] w0 fun e w' => e = .returned (.tuple #[]) ∧ ScP (s + 2) n (Y1 * X2) w1 w') := Lib.hid (fun w1 hsc w0 h0 => by
    have hz1 := hsc.below.size
    have hw1 : Below w.heap.size w w1 := by rw [← hs]; exact hbW.trans (hsc.below.mono (by omega))
    have g1 := (hsc.only (s + 2) (by omega) (by omega)).trans rb
    have g2 := (hsc.only y (by omega) (by omega)).trans ryW
    refine (scale_any (s + 2) y n vy ux Y1 X2 _ _ w0 (keep_row h0 g1) (keep_row h0 g2) rfl rfl (by omega) ((oy1.below hw1).below h0) ((ox2.below hw1).below h0) p1 (by omega) (by omega) ((hK.below hw1).below h0)).mono ?_
    rintro e w' ⟨h1, h2⟩
    exact ⟨h1, h2.pre h0 (by omega)⟩)
  have HC : Hid (∀ w1, ScP (s + 1) m (X1 * Y2) W w1 → ∀ w2, ScP (s + 2) n (Y1 * X2) w1 w2 → Calls Tryz.prog 105 #[.pointer (some ⟨z, 0, none⟩), .pointer (some ⟨s + 1, 0, none⟩), .pointer (some ⟨s + 2, 0, none⟩)] w2 (fun e w' => e = .returned (.pointer (some ⟨z, 0, none⟩)) ∧ ∃ r1, SmW z s x y B S X2 Y2 sg r1 uz ux uy us w w')) := Lib.hid (fun w1 h1 w2 h2 => by
    obtain ⟨r1, g1, o1⟩ := h1.row
    obtain ⟨r2, g2, o2⟩ := h2.row
    have hz1 := h1.below.size
    have hz2 := h2.below.size
    have g1' := (h2.only (s + 1) (by omega) (by omega)).trans g1
    have o1' : Own w2 W.heap.size 147 r1 (cellsW (wds (X1 * Y2))) := o1.same fun hc => h2.only _ (o1.lt hc).2 (by have := (o1.lt hc).1; omega)
    have hold : ∀ j, j < w.heap.size → w2.heap[j]? = w.heap[j]? := fun j hj => ((h2.only j (by omega) (by omega)).trans (h1.only j (by omega) (by omega))).trans (hbW.block j (by omega))
    have hbw2 : Below w.heap.size w w2 := by rw [← hs]; exact (hbW.trans (h1.below.mono (by omega))).trans (h2.below.mono (by omega))
    have rz2 := (hold z hzl).trans hz
    have nz1 : ∀ {N : Nat} {r : Value}, 0 < N → Own w2 W.heap.size 147 r (cellsW (wds N)) → 0 < sCap r := fun hN ho => by
      have a := ho.len
      have b := ho.isS.le
      rw [cellsW_length, wds_length] at a
      have := nw_pos hN
      omega
    have ax : Al vz r1 := fun hc he => by
      have a := (o1'.lt (nz1 (hal hc).1 o1')).1
      have b := (oz.lt hc).2
      omega
    have o2' : Own w2 W.heap.size 147 r2 (cellsW (wds (Y1 * X2))) := o2.mono (by omega)
    have ay : Al vz r2 := fun hc he => by
      have a := (o2'.lt (nz1 (hal hc).2 o2')).1
      have b := (oz.lt hc).2
      omega
    have ozw := oz.below hbw2
    refine (intAdd_any z 0 (s + 1) 0 (s + 2) 0 m n vz r1 r2 _ zs (X1 * Y2) (Y1 * X2) B _ _ _ _ _ _ w2 rz2 g1' g2 (by decide) rfl rfl rfl rfl rfl rfl ozw (o1'.ro (fun d hd => wds_lt hd)) (o2.ro (fun d hd => wds_lt hd)) ax ay (Nat.le_trans (nw_mul_le _ _) (by omega)) (Nat.le_trans (nw_mul_le _ _) (by omega)) hB).mono ?_
    rintro e w' ⟨he, hi⟩
    obtain ⟨r, i1, i2, i3⟩ := hi.row
    have hsr : w2.heap[s]? = some (.cells #[.pointer none] 184 (0, 0)) := ((h2.only s (by omega) (by omega)).trans (h1.only s (by omega) (by omega))).trans rs
    have ozs : ∀ j, j < w.heap.size → j ≠ z → (0 < sCap vz → j ≠ sBlk vz) → w'.heap[j]? = w.heap[j]? := fun j hj hne hv => (hi.fr j (by omega) hne hv).trans (hold j hj)
    have i1' : w'.heap[z]? = some (.cells #[.bool sg, r, .bool false, uz] 98 (0, 0)) := by rw [hsg]; exact i1
    have hcell : ∀ (q : Nat) (a : Bool) (b c : Value), w.heap[q]? = some (.cells #[.bool a, b, .bool false, c] 98 (0, 0)) → w'.cell? ⟨q, 3, none⟩ = some c := fun q a b c hq => by
      by_cases hqz : q = z
      · subst hqz
        rw [hz] at hq
        injection hq with hq; injection hq with hq
        have : uz = c := by injection hq with hq; injection hq with _ hq; injection hq with _ hq; injection hq with _ hq; injection hq
        rw [← this]
        exact (row_at (i := 3) i1' rfl).1
      · exact (row_at (i := 3) ((ozs q (get_lt hq) hqz (fun hc => oz.neRow hq (by decide) hc)).trans hq) rfl).1
    have hro : ∀ {v : Value} {N : Nat}, RO w v (wds N) → (0 < sCap vz → sBlk v ≠ sBlk vz) → RO w' v (wds N) := fun {v N} hv hd => hv.same fun hl => by
      obtain ⟨c, hc⟩ := hv.row hl
      refine ozs _ (get_lt hc) (fun he => ?_) hd
      rw [he, hz] at hc
      injection hc with hc; injection hc with _ hc
      exact absurd hc (by decide)
    have hbz : Below B w w' := (hbw2.mono (by omega)).trans hi.below
    refine ⟨he, r, i1', ?_, hcell x _ _ _ hx, hcell y _ _ _ hy, by rw [hS]; exact i2, oz2.same fun hc => ozs _ (oz2.lt hc).2 (fun he => oz2.neRow hz (by decide) hc he.symm) (fun a => (sz a hc).symm), fun a b he => ?_, hro ox2 dx, hro oy2 dy, hbz, ?_, hT.belowB hbz dg, hB, by omega, dg, kg⟩
    · exact (hi.fr s (by omega) (by omega) (fun hc => by have := (oz.lt hc).2; omega)).trans hsr
    · rcases i3 a with ⟨p, q⟩ | p
      · exact sz p b (q.symm.trans he)
      · have := (oz2.lt b).2; omega
    · unfold KarW; rw [hbz.cell (p := ⟨0, 0, none⟩) kg]; exact hK)
  have HX : Hid (∀ w1, ScP (s + 1) m (X1 * Y2) W w1 → w1.cell? ⟨x, 3, none⟩ = some ux) := Lib.hid (fun w1 h1 => (row_at (i := 3) ((h1.only x (by omega) (by omega)).trans rxW) rfl).1)
  have c3 := (row_at (i := 3) ryW rfl).1
  have HP := Lib.hid (And.intro hm (And.intro p1 (And.intro p2 (And.intro (show nw S < 40 by rw [hS]; exact k5) k6))))
  have hQo : ∀ w', (Ending.outgrown = Ending.returned (.pointer (some ⟨z, 0, none⟩)) ∧ RatP w' B z (sg && decide (0 < S)) (S / Nat.gcd S (X2 * Y2)) (X2 * Y2 / Nat.gcd S (X2 * Y2)) ∧ Below B w w') → False := fun _ h => by cases h.1
  rw [← hsg, ← hS]
  have HW' := Lib.hid hW
  have HSs := Lib.hid hs
  clear hz oz oz2 sz hx ox1 ox2 hy oy1 oy2 dx dy hal hm p1 p2 k1 k2 k3 k4 k5 k6 hB hK hT dg kg ra rb rs rzW rxW ryW hbw hbW hWz hxl hyl hzl hS hsg hs hW
  go_enter_defers Tryz.func55, Tryz.ntmps55
  go_wp2_with fail
  refine (getStack_any _).mono ?_
  rintro _ _ ⟨rfl, rfl⟩
  go_upto_region 4 with fail
  rw [← HW'.out]
  simp only [← HSs.out, Nat.add_assoc, Nat.reduceAdd]
  (refine wp_region_noPanic ?_; refine wp_region_hoist 9 (by kernel_rfl) (by kernel_rfl) ⟨fun _ _ _ h => h, fun _ w'' h => hQo w'' h⟩ ?_; simp only [List.take_succ_cons, List.take_zero, List.drop_succ_cons, List.drop_zero]; (repeat (go_big_quiet_step (fail))); refine wpQuiet_nil ?_; rintro _ ⟨nq, rfl⟩)
  go_wp2_with fail
  refine (HA.out _ (undrewN' (Below.refl _ _))).mono ?_
  rintro _ w1 ⟨rfl, hsc⟩
  have HS1 := Lib.hid hsc
  have d3 := HX.out w1 hsc
  clear hsc
  go_wp2_with fail
  refine NoPanic.normal ?_
  go_upto_region 5 with fail
  (refine wp_region_noPanic ?_; refine wp_region_hoist 9 (by kernel_rfl) (by kernel_rfl) ⟨fun _ _ _ h => h, fun _ w'' h => hQo w'' h⟩ ?_; simp only [List.take_succ_cons, List.take_zero, List.drop_succ_cons, List.drop_zero]; (repeat (go_big_quiet_step (fail))); refine wpQuiet_nil ?_; rintro _ ⟨nq, rfl⟩)
  go_wp2_with fail
  refine (HB.out w1 HS1.out _ (undrewN' (Below.refl _ _))).mono ?_
  rintro _ w2 ⟨rfl, hsd⟩
  have HCC := Lib.hid (HC.out w1 HS1.out w2 hsd)
  clear hsd
  go_wp2_with fail
  refine NoPanic.normal ?_
  go_wp2_with fail
  refine HCC.out.mono ?_
  rintro _ w3 ⟨rfl, r1, hsm⟩
  have b1 := (row_at (i := 3) hsm.row rfl).1
  have b2 := hsm.c1
  have b3 := hsm.c2
  have HSM := Lib.hid hsm
  clear hsm c3 d3
  go_upto_region 7 with fail
  (refine wp_region_noPanic ?_; refine wp_region_hoistP [0, 1, 2, 3, 4, 5, 7, 8, 9, 10, 12, 13, 14, 15] [6, 11, 16] [] [17, 18, 19, 20, 21] (by kernel_rfl) (by kernel_rfl) ⟨fun _ _ _ h => h, fun _ w'' h => hQo w'' h⟩ ?_; simp only [pickOps, List.flatMap_cons, List.flatMap_nil, Option.toList_some, List.cons_append, List.nil_append, List.getElem?_toArray, List.getElem?_cons_zero, List.getElem?_cons_succ]; (repeat (go_big_quiet_step (fail))); refine wpQuiet_nil ?_; (repeat (go_big_quiet_step (fail))); refine wpQuiet_nil ?_; rintro _ ⟨nq, rfl⟩; (repeat (go_big_quiet_step (fail))); refine wpQuiet_nil ?_)
  go_wp2_with fail
  refine ((HSM.out.drewN _).den HP.out.1 HP.out.2.1 HP.out.2.2.1 HP.out.2.2.2.1 HP.out.2.2.2.2).mono ?_
  rintro _ w4 ⟨r, rfl, hSr, hrow, hnm⟩
  have HNM := Lib.hid hnm
  obtain ⟨e1, e2⟩ := row_at (i := 3) hrow rfl
  clear hnm hrow
  go_wp2_with fail
  refine NoPanic.normal ?_
  go_wp2_with fail
  refine HNM.out.mono ?_
  rintro _ w5 ⟨rfl, hst, hrt, hbl⟩
  have HQ := Lib.hid (And.intro hrt hbl)
  clear hrt hbl
  go_wp2
  refine leaves_cons (f := 103) (args := #[.pointer (some ⟨s, 0, none⟩)]) (by simp) (by simp [go_sem]) ?_
  refine (free_d s _ _ hst).mono ?_
  rintro e u' w'' ⟨rfl, rfl, rfl⟩
  simp [Leaves, settle, results, Tryz.results55, go_sem]
  exact HQ.out
end Go.Proofs.YtkhhoamcnocjlaaGreatDoor

/-
Cells of two boxes while a third is written. No condition.
-/
namespace Go.Proofs.YtkhhoamcnocjlaaGreatDoor
open Go.RowKit

theorem ksP2 {B : Nat} {w W X : World} {k l : Nat} {a b c a' b' c' : Value} {T T' : TypeId} (h1 : W.heap[k]? = some (.cells #[a, b, c] T (0, 0))) (h2 : W.heap[l]? = some (.cells #[a', b', c'] T' (0, 0))) (hB : Below B w W) (hs : B ≤ W.heap.size) (h : Below W.heap.size W X) :
    Below B w X ∧ X.cell? ⟨k, 0, none⟩ = some a ∧ X.cell? ⟨k, 1, none⟩ = some b ∧ X.cell? ⟨k, 2, none⟩ = some c ∧ X.cell? ⟨l, 0, none⟩ = some a' ∧ X.cell? ⟨l, 1, none⟩ = some b' ∧ X.cell? ⟨l, 2, none⟩ = some c' := by
  obtain ⟨x0, x1, x2, -, -, -⟩ := row3 (keep_row h h1)
  obtain ⟨y0, y1, y2, -, -, -⟩ := row3 (keep_row h h2)
  exact ⟨hB.trans (h.mono hs), x0, x1, x2, y0, y1, y2⟩
theorem ksP2S {B g i : Nat} {w X : World} {k l : Nat} {a b c a' b' c' u : Value} (hg : B ≤ g) (hk : g ≠ k) (hl : g ≠ l) (h : Below B w X ∧ X.cell? ⟨k, 0, none⟩ = some a ∧ X.cell? ⟨k, 1, none⟩ = some b ∧ X.cell? ⟨k, 2, none⟩ = some c ∧ X.cell? ⟨l, 0, none⟩ = some a' ∧ X.cell? ⟨l, 1, none⟩ = some b' ∧ X.cell? ⟨l, 2, none⟩ = some c') :
    Below B w (X.setCell ⟨g, i, none⟩ u) ∧ (X.setCell ⟨g, i, none⟩ u).cell? ⟨k, 0, none⟩ = some a ∧ (X.setCell ⟨g, i, none⟩ u).cell? ⟨k, 1, none⟩ = some b ∧ (X.setCell ⟨g, i, none⟩ u).cell? ⟨k, 2, none⟩ = some c ∧ (X.setCell ⟨g, i, none⟩ u).cell? ⟨l, 0, none⟩ = some a' ∧ (X.setCell ⟨g, i, none⟩ u).cell? ⟨l, 1, none⟩ = some b' ∧ (X.setCell ⟨g, i, none⟩ u).cell? ⟨l, 2, none⟩ = some c' := by
  have hk' : ∀ j, (X.setCell ⟨g, i, none⟩ u).cell? ⟨k, j, none⟩ = X.cell? ⟨k, j, none⟩ := fun j => cell_other (by simpa using hk)
  have hl' : ∀ j, (X.setCell ⟨g, i, none⟩ u).cell? ⟨l, j, none⟩ = X.cell? ⟨l, j, none⟩ := fun j => cell_other (by simpa using hl)
  simp only [hk', hl']
  exact ⟨bset h.1 hg, h.2⟩
end Go.Proofs.YtkhhoamcnocjlaaGreatDoor

/-
The statement on a fraction's sign. No condition.
-/
namespace Go.Proofs.YtkhhoamcnocjlaaGreatDoor
open Go.RowKit

theorem ks6B {W X : World} {k g : Nat} {a b c d e f : Value} (c0 : W.cell? ⟨k, 0, none⟩ = some a) (c1 : W.cell? ⟨k, 1, none⟩ = some b) (c2 : W.cell? ⟨k, 2, none⟩ = some c)
    (d0 : W.cell? ⟨g, 0, none⟩ = some d) (d1 : W.cell? ⟨g, 1, none⟩ = some e) (d2 : W.cell? ⟨g, 2, none⟩ = some f) (h : Below W.heap.size W X) :
    Below W.heap.size W X ∧ X.cell? ⟨k, 0, none⟩ = some a ∧ X.cell? ⟨k, 1, none⟩ = some b ∧ X.cell? ⟨k, 2, none⟩ = some c ∧ X.cell? ⟨g, 0, none⟩ = some d ∧ X.cell? ⟨g, 1, none⟩ = some e ∧ X.cell? ⟨g, 2, none⟩ = some f :=
  ⟨h, ks6 c0 c1 c2 d0 d1 d2 h⟩
end Go.Proofs.YtkhhoamcnocjlaaGreatDoor

/-
The package's fractions: Set, Abs, Neg; the thin package's RatAbs, RatNeg. No condition.
-/
namespace Go.Proofs.YtkhhoamcnocjlaaGreatDoor
open Go.RowKit

theorem rowoth {w : World} {g b i : Nat} {o : Obj} (u : Value) (h : w.heap[g]? = some o) (hne : g ≠ b) : (w.setCell ⟨b, i, none⟩ u).heap[g]? = some o := (heap_setCell_other w ⟨b, i, none⟩ g u (by simpa using hne)).trans h
theorem RatP.setNeg {w : World} {B b n d : Nat} {neg : Bool} (h : RatP w B b neg n d) (x : Bool) : RatP (w.setCell ⟨b, 0, none⟩ (.bool x)) B b x n d := by
  obtain ⟨v1, v2, h1, h2, h3, h4⟩ := h
  exact ⟨v1, v2, h1, rowset (i := 0) (.bool x) h2, h3.away h2 (by decide) 0 _, h4.away h2 (by decide) 0 _⟩
theorem rw_row3 {w : World} {k T : Nat} {a : Bool} {b c x y z v : Value} {ds : List Nat} (hv : RW w v ds) (hb : IsS b) (hc : IsS c) (h : w.heap[k]? = some (.cells #[.bool a, b, c] T (0, 0))) :
    RW (((w.setCell ⟨k, 0, none⟩ x).setCell ⟨k, 1, none⟩ y).setCell ⟨k, 2, none⟩ z) v ds := by
  refine ⟨⟨hv.ri.isS, hv.ri.len, fun i hi => ?_⟩, hv.lt⟩
  have hcell := hv.ri.cell i hi
  have hne : sBlk v ≠ k := by
    intro he
    rw [he, cell_of_row w k _ _ _ _ h] at hcell
    obtain ⟨b1, b2, b3, rfl⟩ := hb.form
    obtain ⟨c1, c2, c3, rfl⟩ := hc.form
    rcases Nat.lt_or_ge (sOff v + i) 3 with h3 | h3
    · rcases (by omega : sOff v + i = 0 ∨ sOff v + i = 1 ∨ sOff v + i = 2) with e | e | e <;> rw [e] at hcell <;> simp at hcell
    · rw [Array.getElem?_eq_none (by simpa using h3)] at hcell; cases hcell
  have hh : (((w.setCell ⟨k, 0, none⟩ x).setCell ⟨k, 1, none⟩ y).setCell ⟨k, 2, none⟩ z).heap[sBlk v]? = w.heap[sBlk v]? := by
    rw [heap_setCell_other _ _ _ _ (by simpa using hne), heap_setCell_other _ _ _ _ (by simpa using hne), heap_setCell_other _ _ _ _ (by simpa using hne)]
  exact (World.cell?_of_block hh).trans hcell
theorem neg_bool (b : Bool) (n : Nat) : ((decide (0 < nw n) && !(b && decide (0 < n))) && decide (0 < n)) = (!b && decide (0 < n)) := by
  rcases Nat.eq_zero_or_pos n with h | h
  · subst h; simp
  · rw [decide_eq_true h, decide_eq_true (nw_pos h)]; simp
end Go.Proofs.YtkhhoamcnocjlaaGreatDoor

/-
impl.RatAdd and impl.RatSub. No condition but the thresholds.
-/
namespace Go.Proofs.YtkhhoamcnocjlaaGreatDoor
open Go.RowKit

set_option maxRecDepth 100000 in
set_option maxHeartbeats 3200000 in
theorem impRatAdd (b1 b2 : Bool) (v1 u1 v2 u2 : Value) (ns1 ds1 ns2 ds2 : List Nat) (w : World) (hv1 : RW w v1 ns1) (hu1 : RW w u1 ds1) (hv2 : RW w v2 ns2) (hu2 : RW w u2 ds2)
    (l1 : ns1.length ≤ 30) (l2 : ds1.length ≤ 30) (l3 : ns2.length ≤ 30) (l4 : ds2.length ≤ 30) (l5 : ns1.length + ds2.length ≤ 37) (l6 : ns2.length + ds1.length ≤ 37) (l7 : ds1.length + ds2.length ≤ 37) (l8 : ns1.length + ns2.length ≤ 37) (p1 : 0 < wv ds1) (p2 : 0 < wv ds2) (hK : KarW w) (hT : DivW w) :
    Calls Tryz.prog 26 #[.agg #[.bool b1, v1, u1], .agg #[.bool b2, v2, u2]] w fun e w' => ∃ v, e = .returned v ∧ FracV w' v (rI b1 (wv ns1 * wv ds2) + rI b2 (wv ns2 * wv ds1)) (wv ds1 * wv ds2) ∧ Below w.heap.size w w' := by
  have hS1 := hv1.isS
  have hS2 := hv2.isS
  have hS3 := hu1.isS
  have hS4 := hu2.isS
  obtain ⟨V, hV⟩ : ∃ V : Int, V = rI b1 (wv ns1 * wv ds2) + rI b2 (wv ns2 * wv ds1) := ⟨_, rfl⟩
  obtain ⟨D, hD⟩ : ∃ D : Nat, D = wv ds1 * wv ds2 := ⟨_, rfl⟩
  have hD0 : 0 < D := by rw [hD]; exact Nat.mul_pos p1 p2
  obtain ⟨X, hX⟩ : ∃ X, X = ((w.alloc (.cells #[.bool b1, v1, u1] 51)).alloc (.cells #[.bool b2, v2, u2] 51)).alloc (.cells #[.bool false, .slice none 0 0, .slice none 0 0] 51) := ⟨_, rfl⟩
  have hac : Below w.heap.size w X := by rw [hX]; exact (((Below.refl _ w).alloc (Nat.le_refl _) _).alloc (by simp) _).alloc (by simp; omega) _
  have hr1 : X.heap[w.heap.size]? = some (.cells #[.bool b1, v1, u1] 51 (0, 0)) := by
    rw [hX]; exact keep_row (fbone _) (keep_row (fbone _) (box_row (Below.refl _ _)))
  have hr2 : X.heap[w.heap.size + 1]? = some (.cells #[.bool b2, v2, u2] 51 (0, 0)) := by
    have e : (w.alloc (.cells #[.bool b1, v1, u1] 51)).heap.size = w.heap.size + 1 := by simp
    rw [hX, ← e]; exact keep_row (fbone _) (heap_alloc_new _ _)
  have hr3 : X.heap[w.heap.size + 1 + 1]? = some (.cells #[.bool false, .slice none 0 0, .slice none 0 0] 51 (0, 0)) := by
    have e : ((w.alloc (.cells #[.bool b1, v1, u1] 51)).alloc (.cells #[.bool b2, v2, u2] 51)).heap.size = w.heap.size + 1 + 1 := by simp
    rw [hX, ← e]; exact heap_alloc_new _ _
  have hKX := hK.below hac
  have hTX := hT.below hac
  have dg : 1 < X.heap.size := World.block_lt_of_cell? X _ hTX
  have kg : 0 < X.heap.size := World.block_lt_of_cell? X _ hKX
  have k1 := nw_le (wv_lt hv1.lt)
  have k2 := nw_le (wv_lt hu1.lt)
  have k3 := nw_le (wv_lt hv2.lt)
  have k4 := nw_le (wv_lt hu2.lt)
  have V1 := Lib.hid (hv1.below hac)
  have V2 := Lib.hid (hv2.below hac)
  have U1 := Lib.hid (hu1.below hac)
  have U2 := Lib.hid (hu2.below hac)
  have HR1 := Lib.hid hr1
  have HR2 := Lib.hid hr2
  have HR3 := Lib.hid hr3
  have hwX := Lib.hid hac
  have hcc := Below.refl X.heap.size X
  have hXs := hac.size
  have HF1 : Hid (∀ w', Below X.heap.size X w' → Calls Tryz.prog 56 #[.agg #[.bool b1, v1, u1]] w' fun e w3 => ∃ g, e = .returned (.pointer (some ⟨g, 0, none⟩)) ∧ RatP w3 0 g (b1 && decide (0 < wv ns1)) (wv ns1) (wv ds1) ∧ Below w'.heap.size w' w3) := Lib.hid (fun w' h => by
    refine (rat_any b1 v1 u1 ns1 ds1 w' (V1.out.below h) (U1.out.below h) (by omega) (by omega)).mono ?_
    rintro e w3 ⟨g, h1, h2, h3⟩
    exact ⟨g, h1, h2.mono (Nat.zero_le _), h3⟩)
  have HF2 : Hid (∀ w', Below X.heap.size X w' → Calls Tryz.prog 56 #[.agg #[.bool b2, v2, u2]] w' fun e w3 => ∃ g, e = .returned (.pointer (some ⟨g, 0, none⟩)) ∧ RatP w3 0 g (b2 && decide (0 < wv ns2)) (wv ns2) (wv ds2) ∧ Below w'.heap.size w' w3) := Lib.hid (fun w' h => by
    refine (rat_any b2 v2 u2 ns2 ds2 w' (V2.out.below h) (U2.out.below h) (by omega) (by omega)).mono ?_
    rintro e w3 ⟨g, h1, h2, h3⟩
    exact ⟨g, h1, h2.mono (Nat.zero_le _), h3⟩)
  have HC : Hid (∀ g g1 g2 w', w'.heap[g]? = some (.cells #[.bool false, .slice none 0 0, .bool false, .slice none 0 0] 98 (0, 0)) → X.heap.size ≤ g → RatP w' 0 g1 (b1 && decide (0 < wv ns1)) (wv ns1) (wv ds1) → RatP w' 0 g2 (b2 && decide (0 < wv ns2)) (wv ns2) (wv ds2) → Below X.heap.size X w' →
      Calls Tryz.prog 55 #[.pointer (some ⟨g, 0, none⟩), .pointer (some ⟨g1, 0, none⟩), .pointer (some ⟨g2, 0, none⟩)] w' fun e w4 => e = .returned (.pointer (some ⟨g, 0, none⟩)) ∧ RatP w4 X.heap.size g (decide (V < 0)) (V.natAbs / Nat.gcd V.natAbs D) (D / Nat.gcd V.natAbs D) ∧ Below X.heap.size X w4) := Lib.hid (fun g g1 g2 w' hg hg0 h1 h2 h3 => by
    obtain ⟨vx, ux, -, rx, ox1, ox2⟩ := h1
    obtain ⟨vy, uy, -, ry, oy1, oy2⟩ := h2
    have e1 : rI (b1 && decide (0 < wv ns1)) (wv ns1 * wv ds2) = rI b1 (wv ns1 * wv ds2) := rI_and _ _ _
    have e2 : rI (b2 && decide (0 < wv ns2)) (wv ns2 * wv ds1) = rI b2 (wv ns2 * wv ds1) := rI_and _ _ _
    obtain ⟨a1, a2⟩ := add_V (b1 && decide (0 < wv ns1)) (b2 && decide (0 < wv ns2)) (wv ns1 * wv ds2) (wv ns2 * wv ds1)
    rw [e1, e2, ← hV] at a1 a2
    have k5 : nw V.natAbs < 40 := by
      have := natAbs_nwAdd b1 b2 (wv ns1) (wv ds1) (wv ns2) (wv ds2) (by omega) (by omega) (by omega)
      rw [hV]
      refine Nat.lt_of_le_of_lt (nw_sumAdd b1 b2 _ _ _ _ (a := ns1.length + ds2.length) (b := ns2.length + ds1.length) (Nat.le_trans (nw_mul_le _ _) (by omega)) (Nat.le_trans (nw_mul_le _ _) (by omega))) (by omega)
    refine (ratAdd_any g g1 g2 X.heap.size false _ _ (.slice none 0 0) (.slice none 0 0) vx ux vy uy [] [] (wv ns1) (wv ds1) (wv ns2) (wv ds2) w' hg (Own.nil _ _ _) (Own.nil _ _ _) (fun h => absurd h nil_cap) rx (ox1.ro (fun d hd => wds_lt hd)) (ox2.ro (fun d hd => wds_lt hd)) ry (oy1.ro (fun d hd => wds_lt hd)) (oy2.ro (fun d hd => wds_lt hd)) (fun h => absurd h nil_cap) (fun h => absurd h nil_cap) (fun h => absurd h nil_cap)
      (mulDenom_nil ux uy _ _ _ p1 p2 (by omega) (by omega)) p1 p2 (by omega) (by omega) (by omega) (by omega) (by rw [a1]; exact k5) (Nat.lt_of_le_of_lt (nw_mul_le _ _) (by omega)) hg0 (hKX.below h3) (hTX.below h3) dg kg).mono ?_
    rintro e w4 ⟨h4, h5, h6⟩
    rw [a2, a1, ← hD] at h5
    refine ⟨h4, ?_, h3.trans h6⟩
    have e3 : (decide (V < 0) && decide (0 < V.natAbs)) = decide (V < 0) := by
      by_cases hv : V < 0
      · rw [decide_eq_true hv, decide_eq_true (show 0 < V.natAbs by omega)]; rfl
      · rw [decide_eq_false hv, Bool.false_and]
    rw [e3] at h5
    exact h5)
  have HFR : Hid (∀ g w', RatP w' X.heap.size g (decide (V < 0)) (V.natAbs / Nat.gcd V.natAbs D) (D / Nat.gcd V.natAbs D) → Below X.heap.size X w' → Calls Tryz.prog 54 #[.pointer (some ⟨g, 0, none⟩)] w' fun e w4 => ∃ r1 r2, e = .returned (.agg #[.bool (decide (V < 0)), r1, r2]) ∧ IsS r1 ∧ IsS r2 ∧ RW w4 r1 (wds (V.natAbs / Nat.gcd V.natAbs D)) ∧ RW w4 r2 (wds (D / Nat.gcd V.natAbs D)) ∧ Below X.heap.size X w4) := Lib.hid (fun g w' h1 h2 => by
    have n1 : nw V.natAbs ≤ 100 := by rw [hV]; exact natAbs_nwAdd b1 b2 _ _ _ _ (by omega) (by omega) (by omega)
    have n2 : nw D ≤ 100 := by rw [hD]; exact Nat.le_trans (nw_mul_le _ _) (by omega)
    refine (frac_any g X.heap.size (decide (V < 0)) _ _ w' h1 (gcd_div_pos hD0) (Nat.le_trans (nw_mono (Nat.div_le_self _ _)) (by omega)) (Nat.le_trans (nw_mono (Nat.div_le_self _ _)) (by omega))).mono ?_
    rintro e w4 ⟨r1, r2, h4, h5, h6, h7⟩
    refine ⟨r1, r2, ?_, h5.isS, h6.isS, h5, h6, bthen h2 h7⟩
    rw [h4, neg_div V hD0])
  rw [← hV, ← hD]
  clear hv1 hv2 hu1 hu2 hac hr1 hr2 hr3 hK hT hKX hTX dg kg k1 k2 k3 k4 l1 l2 l3 l4 l5 l6 l7 l8 p1 p2 hV hD
  obtain ⟨N1, hN1⟩ : ∃ N1, N1 = V.natAbs / Nat.gcd V.natAbs D := ⟨_, rfl⟩
  obtain ⟨N2, hN2⟩ : ∃ N2, N2 = D / Nat.gcd V.natAbs D := ⟨_, rfl⟩
  rw [← hN1, ← hN2] at HC HFR
  have HN := Lib.hid (And.intro hN1 hN2)
  obtain ⟨sg, hsg⟩ : ∃ sg, sg = decide (V < 0) := ⟨_, rfl⟩
  rw [← hsg] at HC HFR
  have HG := Lib.hid hsg
  clear hN1 hN2 hsg
  go_enter Tryz.func26, Tryz.ntmps26
  go_upto_region 1 with fail
  rw [← hX]
  clear hX
  first
    | (go_region_held3 (fun w' => Below w.heap.size w w' ∧ w'.cell? ⟨w.heap.size, 0, none⟩ = some (.bool b1) ∧ w'.cell? ⟨w.heap.size, 1, none⟩ = some v1 ∧ w'.cell? ⟨w.heap.size, 2, none⟩ = some u1 ∧ w'.cell? ⟨w.heap.size + 1, 0, none⟩ = some (.bool b2) ∧ w'.cell? ⟨w.heap.size + 1, 1, none⟩ = some v2 ∧ w'.cell? ⟨w.heap.size + 1, 2, none⟩ = some u2)
        ((first | (refine ksP2 HR1.out HR2.out hwX.out hXs ?_; (repeat (with_reducible first | assumption | refine Below.drew ?_ | refine ballc ?_ _)); done) | (refine ksP2S (by omega) (by omega) (by omega) (ksP2S (by omega) (by omega) (by omega) (ksP2S (by omega) (by omega) (by omega) (ksP2 HR1.out HR2.out hwX.out hXs ?_))); with_reducible assumption)))
        (first
          | (go_at_call 54; (with_reducible refine (HFR.out _ _ hrat hb5).mono ?_); rintro _ w6 ⟨r1, r2, rfl, hT1, hT2, hw1, hw2, hb6⟩; have W1 := Lib.hid hw1; have W2 := Lib.hid hw2; have HRw := Lib.hid (keep_row hb6 HR3.out); obtain ⟨z0, z1, z2, z3, z4, z5⟩ := row3 HRw.out; clear hw1 hw2)
          | (go_at_call 55; first
              | (with_reducible refine (HC.out _ _ _ _ hrU2 (Nat.le_refl _) G1.out G2.out hb4).mono ?_)
              | (with_reducible refine (HC.out _ _ _ _ hrV2 hz3 G1.out G2.out hb4).mono ?_)
              | (with_reducible refine (HC.out _ _ _ _ (heap_alloc_new w4 _) hz4 (G1.out.below (fbone _)) (G2.out.below (fbone _)) (ballc hb4 _)).mono ?_)
             rintro _ w5 ⟨rfl, hrat, hb5⟩)
          | (go_at_call 56; (with_reducible refine (HF2.out _ (by repeat (with_reducible first | assumption | refine Below.drew ?_ | refine ballc ?_ _))).mono ?_); rintro _ w4 ⟨g2, rfl, hG2, hb34⟩; have G1 := Lib.hid (show RatP w4 0 g1 (b1 && decide (0 < wv ns1)) (wv ns1) (wv ds1) from by first | exact hF1.below hb34 | exact (hF1.below (fbone _)).below hb34); have G2 := Lib.hid hG2; clear hF1 hG2; have hb4 : Below X.heap.size X w4 := bthen (by repeat (with_reducible first | assumption | refine Below.drew ?_ | refine ballc ?_ _)) hb34; have hz4 := hb4.size;
              (first | (have hrU2 := keep_row hb34 hrU) | (have hrV2 := box_row hb34) | skip))
          | (go_at_call 56; (with_reducible refine (HF1.out _ (by repeat (with_reducible first | assumption | refine Below.drew ?_ | refine ballc ?_ _))).mono ?_); rintro _ w3 ⟨g1, rfl, hF1, hb3'⟩; have hb3 : Below X.heap.size X w3 := bthen (by repeat (with_reducible first | assumption | refine Below.drew ?_ | refine ballc ?_ _)) hb3'; have hz3 := hb3.size;
              (first | (have hrU := box_rowD hb3') | skip))))
    | fail
  all_goals
    go_wp2
    obtain ⟨hx0, hx1, hx2, -, -, -⟩ := row3 (row3_set (x := .bool sg) (y := r1) (z := r2) HRw.out)
    refine bodyPost_ret (v := .agg #[.bool sg, r1, r2]) ?_ rfl ⟨_, rfl, ⟨r1, r2, by rw [HG.out], ?_, ?_⟩, bset (bset (bset (hwX.out.trans (hb6.mono hXs)) (by omega)) (by omega)) (by omega)⟩
    · simp [results, Tryz.results26, go_sem, hx0, hx1, hx2]
    · rw [← HN.out.1]; exact rw_row3 (x := .bool sg) (y := r1) (z := r2) W1.out IsS.nil IsS.nil HRw.out
    · rw [← HN.out.2]; exact rw_row3 (x := .bool sg) (y := r1) (z := r2) W2.out IsS.nil IsS.nil HRw.out
end Go.Proofs.YtkhhoamcnocjlaaGreatDoor
