/-
Texts of this proof, joined: SbA MuD AfB LwF FdO InN IzC. No condition.
-/
import Derived.Test.YtllhnjpnkmjopaaGreatDoorK02
import Derived.Test.YtllhnjpnkmjopaaGreatDoorK09
import Derived.Test.YtllhnjpnkmjopaaGreatDoorK18
import Derived.Test.YtllhnjpnkmjopaaGreatDoorK19
import Derived.Test.YtllhnjpnkmjopaaGreatDoorK20
import Derived.Test.YtllhnjpnkmjopaaGreatDoorK21
import Derived.Test.YtllhnjpnkmjopaaGreatDoorK24
import Derived.Test.YtllhnjpnkmjopaaGreatDoorK35
import Derived.LaidEqlPtr
import Derived.Laws.FloatArith
namespace Go.Proofs.YtllhnjpnkmjopaaGreatDoor
open Go.RowKit

def pD (p d : Nat) : Nat := if p = 0 then d else p
theorem pD_pos {p d : Nat} (h : 0 < d) : 0 < pD p d := by unfold pD; split <;> omega
theorem pD_le {p d q : Nat} (h1 : p ≤ q) (h2 : d ≤ q) : pD p d ≤ q := by unfold pD; split <;> omega
theorem good_word {y p : Nat} (h1 : y < 18446744073709551616) (h2 : 9223372036854775808 ≤ y) (hp : 64 ≤ p) : Good [y] p :=
  ⟨Nat.one_pos, by simp, fun d hd => by rw [List.mem_singleton] at hd; rw [hd]; exact h1, by simpa [wv] using h2, .inl (by simpa using hp)⟩
theorem wv_one (y : Nat) : wv [y] = y := by simp [wv]
theorem fval_trans {w : World} {B b q m : Nat} {neg : Bool} {N M : Nat} {X Y : Int} (h : FVal w B b q m (rA q m neg 0 N) 1 neg (rQ q m neg 0 N) (X + rk q N)) (hN : 0 < N) (hd : deq N X M Y) :
    FVal w B b q m (rA q m neg 0 M) 1 neg (rQ q m neg 0 M) (Y + rk q M) := by
  obtain ⟨l1, l2⟩ := rnd_deq (p := q) (m := m) neg hN hd
  obtain ⟨v', e', k1, k2⟩ := h
  obtain ⟨n1, ws', n2, n3, n4⟩ := k2 rfl
  refine ⟨v', e', by rw [← l2]; exact k1, fun _ => ⟨l1.pos n1, ws', n2, n3, n4.trans l1⟩⟩
def sbA (q m : Nat) (neg : Bool) (M : Nat) : Int := if M = 0 then 0 else rA q m neg 0 M
theorem bl_prod {X Y a b : Nat} (ha : 0 < a) (hb : 0 < b) (hX : bl X = a) (hY : bl Y = b) : a + b - 1 ≤ bl (X * Y) ∧ bl (X * Y) ≤ a + b := by
  have hX0 : 0 < X := by rcases Nat.eq_zero_or_pos X with h | h; (rw [h, bl_zero] at hX; omega); exact h
  have hY0 : 0 < Y := by rcases Nat.eq_zero_or_pos Y with h | h; (rw [h, bl_zero] at hY; omega); exact h
  have hX1 := bl_ge hX0
  have hY1 := bl_ge hY0
  have hX2 := lt_bl X
  have hY2 := lt_bl Y
  rw [hX] at hX1 hX2
  rw [hY] at hY1 hY2
  have h1 := Nat.mul_le_mul hX1 hY1
  have h2 := Nat.mul_lt_mul'' hX2 hY2
  rw [← Nat.pow_add] at h1 h2
  refine ⟨?_, bl_le h2⟩
  have h3 := lt_bl (X * Y)
  have h4 := (Nat.pow_lt_pow_iff_right (a := 2) (by decide)).1 (Nat.lt_of_le_of_lt h1 h3)
  omega
theorem deq_mul {X Y M N : Nat} {ex ey E F : Int} (h1 : deq X ex M E) (h2 : deq Y ey N F) : deq (X * Y) (ex + ey) (M * N) (E + F) := by
  obtain ⟨i, j, a1, a2⟩ := h1
  obtain ⟨k, l, b1, b2⟩ := h2
  refine ⟨i + k, j + l, ?_, by omega⟩
  rw [Nat.pow_add, Nat.pow_add, show X * Y * (2 ^ i * 2 ^ k) = (X * 2 ^ i) * (Y * 2 ^ k) by ac_rfl, a1, b1]
  ac_rfl
theorem eqlF (w : World) {b c : Nat} {cb cc : Array Value} {tb tc : TypeId} (hne : b ≠ c) (hb : w.heap[b]? = some (.cells cb tb (0, 0))) (hc : w.heap[c]? = some (.cells cc tc (0, 0))) :
    (binOp .eql 84 (.pointer (some ⟨b, 0, none⟩)) (.pointer (some ⟨c, 0, none⟩))).run Tryz.prog w = .ok (.bool false) w := by
  obtain ⟨j, hj, hz⟩ := info_size sizeF
  exact run_eql_ptr_other w Tryz.underlying84 hj (by omega) (by simp) hb hc
set_option maxRecDepth 100000 in
set_option maxHeartbeats 6400000 in
theorem umul_new (b B cx cy p m px mx py my f0 : Nat) (a0 e0 ax ay ex ey : Int) (nz nx ny : Bool) (vx vy : Value) (xs ys : List Nat) (w : World) (h : FltR w b p m a0 f0 nz (.slice none 0 0) e0) (hB : B ≤ b) (hx : FltR w cx px mx ax 1 nx vx ex) (hy : FltR w cy py my ay 1 ny vy ey) {Bx By : Nat} (hox : Own w Bx 116 vx (cellsW xs)) (hoy : Own w By 116 vy (cellsW ys))
    (hgx : Good xs px) (hgy : Good ys py) (hbx : b ≠ cx) (hby : b ≠ cy) (hxy : cx ≠ cy) (hp0 : 0 < p) (hp : p ≤ 64000000) (hm : m ≤ 5) (hlx : xs.length ≤ 39) (hly : ys.length ≤ 39) (hex1 : -1100000000 ≤ ex) (hex2 : ex ≤ 1100000000) (hey1 : -1100000000 ≤ ey) (hey2 : ey ≤ 1100000000) (hd1 : ex + ey ≤ 1800000000) (hd2 : -1800000000 ≤ ex + ey) (hK : KarW w) :
    Calls Tryz.prog 99 #[.pointer (some ⟨b, 0, none⟩), .pointer (some ⟨cx, 0, none⟩), .pointer (some ⟨cy, 0, none⟩)] w fun e' w' => e' = .returned (.tuple #[]) ∧ FVal w' B b p m (rA p m nz 0 (wv xs * wv ys)) 1 nz (rQ p m nz 0 (wv xs * wv ys)) ((ex - 64 * (xs.length : Int)) + (ey - 64 * (ys.length : Int)) + rk p (wv xs * wv ys)) ∧ Below B w w' := by
  obtain ⟨c0, c1, c2, c3, c4, c5, c6⟩ := h.cells
  obtain ⟨f0', f1', f2', f3', f4', f5', f6'⟩ := h.free
  obtain ⟨x0, x1, x2, x3, x4, x5, x6⟩ := hx.cells
  obtain ⟨y0, y1, y2, y3, y4, y5, y6⟩ := hy.cells
  have hSx := hox.isS
  have hSy := hoy.isS
  have hbs := h.lt
  have HBW : Hid (B ≤ w.heap.size) := Lib.hid (by omega)
  have ROX := Lib.hid (show RO w vx (wds (wv xs)) by rw [← hgx.wds]; exact hox.ro hgx.2.2.1)
  have ROY := Lib.hid (show RO w vy (wds (wv ys)) by rw [← hgy.wds]; exact hoy.ro hgy.2.2.1)
  have hblx := hgx.bl
  have hbly := hgy.bl
  have hxl0 := hgx.1
  have hyl0 := hgy.1
  have hnwx : nw (wv xs) = xs.length := by rw [nw_bl hgx.posv, hblx]; omega
  have hnwy : nw (wv ys) = ys.length := by rw [nw_bl hgy.posv, hbly]; omega
  have hbp := bl_prod (by omega) (by omega) hblx hbly
  obtain ⟨S, hSS⟩ : ∃ S, S = wv xs * wv ys := ⟨_, rfl⟩
  have hS0 : 0 < S := by rw [hSS]; exact Nat.mul_pos hgx.posv hgy.posv
  rw [← hSS] at hbp ⊢
  have hnS : nw S = xs.length + ys.length := by rw [nw_bl hS0]; omega
  obtain ⟨E, hE⟩ : ∃ E : Int, E = (ex - 64 * (xs.length : Int)) + (ey - 64 * (ys.length : Int)) := ⟨_, rfl⟩
  rw [← hE]
  have HFIN : Hid (∀ (w7 : World) (r2 : Value) (x : Int), FltR w7 b p m a0 f0 nz r2 e0 → Own w7 B 116 r2 (cellsW (topN S)) → -1900000000 ≤ x → x ≤ 1900000000 → x - 64 * ((topN S).length : Int) = E - ((64 * nw S - bl S : Nat) : Int) →
      Calls Tryz.prog 131 #[.pointer (some ⟨b, 0, none⟩), .int .i64 x, .int .u64 0] w7 fun e' w' => e' = .returned (.tuple #[]) ∧ FVal w' B b p m (rA p m nz 0 S) 1 nz (rQ p m nz 0 S) (E + rk p S) ∧ Below B w7 w') := Lib.hid (fun w7 r2 x h7 o7 hx1 hx2 hxe => by
    have hg : Good (topN S) (64 * nw S) := topN_good hS0 (by have := nw_bl hS0; omega) (by omega)
    have hr := setExp_any b B p m f0 0 a0 e0 x nz r2 (topN S) w7 h7 hB o7 hg.2.2.1 hg.1 hg.2.2.2.1 hg.2.1 hp0 hp hm (by decide) (.inl rfl) (by omega) (by omega)
    rw [show ((0 : Nat) : Int) = 0 from rfl] at hr
    refine hr.mono ?_
    rintro _ w' ⟨rfl, hR⟩
    have F := hR.val (rQ_pos nz 0 hp0 hg.posv)
    obtain ⟨_, _, _, -, -, -, -, hb8⟩ := hR
    refine ⟨rfl, ?_, hb8⟩
    refine fval_trans F hg.posv ?_
    rw [hxe, topN_wv hS0]
    exact ⟨0, 64 * nw S - bl S, by simp, by omega⟩)
  have HMUL : Hid (∀ W : World, RO W vx (wds (wv xs)) → RO W vy (wds (wv ys)) → KarW W → Calls Tryz.prog 144 #[.slice none 0 0, .pointer none, vx, vy] W fun e w' => ∃ r, e = .returned r ∧ Own w' W.heap.size 116 r (cellsW (wds S)) ∧ Below W.heap.size W w') := Lib.hid (fun W k1 k2 k3 => by
    rw [hSS]; exact nmul_any vx vy (wv xs) (wv ys) W k1 k2 (.inl (by omega)) (by omega) (by omega) k3)
  obtain ⟨e, he⟩ : ∃ e : Int, e = ex + ey := ⟨_, rfl⟩
  have he' : ex + ey = e := he.symm
  have heb : -1800000000 ≤ e ∧ e ≤ 1800000000 := by omega
  have hwe : IntKind.i64.wrap (ex + ey) = e := by rw [he']; exact wrap_i64_id (by omega) (by omega)
  have hpe : ∀ k, (binOp .eql 84 (.pointer (some ⟨cx, 0, none⟩)) (.pointer (some ⟨cy, 0, none⟩))).run Tryz.prog (w.drewN k) = .ok (.bool false) (w.drewN k) := fun k => eqlF (w.drewN k) hxy (hx.drewN k) (hy.drewN k)
  have hn1 : ¬ b = cx := hbx
  have hn1' : ¬ cx = b := fun h => hn1 h.symm
  have hn2 : ¬ b = cy := hby
  have hn2' : ¬ cy = b := fun h => hn2 h.symm
  have hn3 : ¬ cx = cy := hxy
  have hn3' : ¬ cy = cx := fun h => hn3 h.symm
  have hnp := nw_pos hS0
  have hnb := nw_bl hS0
  obtain ⟨L, hL⟩ : ∃ L, L = nw S := ⟨_, rfl⟩
  obtain ⟨sh, hsh⟩ : ∃ sh, sh = 64 * nw S - bl S := ⟨_, rfl⟩
  have hLL : L ≤ 78 := by omega
  have hshb : sh ≤ 64 * L := by omega
  obtain ⟨x, hx'⟩ : ∃ x : Int, x = e - (sh : Int) := ⟨_, rfl⟩
  have hxe : e - (sh : Int) = x := hx'.symm
  have hxb : -1900000000 ≤ x ∧ x ≤ 1900000000 := by omega
  have HXW : Hid (IntKind.i64.wrap (e - (sh : Int)) = x) := Lib.hid (by rw [hxe]; exact wrap_i64_id (by omega) (by omega))
  have HXE : Hid (x - 64 * ((topN S).length : Int) = E - ((64 * nw S - bl S : Nat) : Int)) := Lib.hid (by rw [topN_length, ← hsh, ← hL]; omega)
  have HSH := Lib.hid hsh
  have HL := Lib.hid hL
  have HS0 := Lib.hid hS0
  have HH := Lib.hid h
  have HK := Lib.hid hK
  clear h hx hy hox hoy hgx hgy hlx hly hblx hbly hxl0 hyl0 hnwx hnwy hbp hSS hnS hE he hL hsh hx' hK hS0 hnb
  go_enter Tryz.func99, Tryz.ntmps99
  go_wp2_with fail
  go_quiet (fail)
  generalize nq = n1
  go_wp2_with fail
  (refine wp_region_hoist 13 (by kernel_rfl) (by kernel_rfl) ⟨fun _ _ _ h => (by first | exact (hQp _ _ _ h).elim | cases h.2.1 | (obtain ⟨_, h3, _⟩ := h.2; cases h3)), fun _ _ h => (by first | exact (hQo _ _ h).elim | cases h.1 | (obtain ⟨_, h3, _⟩ := h; cases h3))⟩ ?_; simp only [List.take_succ_cons, List.take_zero, List.drop_succ_cons, List.drop_zero]; (repeat (go_big_quiet_step (fail))); refine wpQuiet_nil ?_; rintro _ ⟨nq, rfl⟩)
  go_wp2_with fail
  refine (HMUL.out _ (ROX.out.below (undrewN' (Below.refl _ _))) (ROY.out.below (undrewN' (Below.refl _ _))) (HK.out.drewN _)).mono ?_
  rintro _ w1 ⟨r, rfl, ho1, hb1⟩
  have hb1' : Below w.heap.size w w1 := undrewN hb1
  have hS1 := ho1.isS
  have hH1 := HH.out.below hb1'
  obtain ⟨q0, q1, q2, q3, q4, q5, q6⟩ := hH1.cells
  obtain ⟨g0, g1, g2, g3, g4, g5, g6⟩ := hH1.free
  have hO1 : Own w1 B 116 r (cellsW (wds S)) := ho1.mono (show B ≤ _ from HBW.out)
  have hR2 := hH1.s5 r
  have hO2 := hH1.own hO1 5 r
  have HB2 := Lib.hid (bset (i := 5) (u := r) (hb1'.mono HBW.out) hB)
  have hLr : sLen r = L := by rw [hO2.len, cellsW_length, wds_length, HL.out]
  have hLp : 0 < L := by have := HL.out; omega
  have tl : ((L : Int) == 0) = false := by rw [beq_eq_false_iff_ne]; omega
  obtain ⟨k0, k1, k2, k3, k4, k5, k6⟩ := hR2.cells
  have HR2 := Lib.hid hR2
  have HO2 := Lib.hid hO2
  clear hb1 hb1' hH1 hO1 hR2 hO2 ho1 c0 c1 c2 c3 c4 c5 c6 f0' f1' f2' f3' f4' f5' f6' x0 x1 x2 x3 x4 x5 x6 y0 y1 y2 y3 y4 y5 y6
  go_wp2_with fail
  refine (fnorm_val r S B _ HO2.out HS0.out (by rw [← HL.out]; omega)).mono ?_
  rintro _ w7 ⟨rfl, ho7, hb7, hon7⟩
  rw [← HSH.out]
  have hne7 := HO2.out.ne_row HR2.out (by decide) (by have := HO2.out.isS.le; rw [hLr] at this; omega)
  have hR7 : FltR w7 b p m a0 f0 nz r e0 := (hon7 b HR2.out.lt hne7.symm).trans HR2.out
  have H7 := Lib.hid hR7
  have O7 := Lib.hid ho7
  have B7 := Lib.hid (HB2.out.trans hb7)
  clear hR7 ho7 hb7 hon7 hne7 q0 q1 q2 q3 q4 q5 q6 g0 g1 g2 g3 g4 g5 g6 k0 k1 k2 k3 k4 k5 k6
  go_wp2_with fail
  refine (HFIN.out w7 r x H7.out O7.out hxb.1 hxb.2 HXE.out).mono ?_
  rintro _ w8 ⟨rfl, hF8, hb8⟩
  have F8 := Lib.hid hF8
  have B8 := Lib.hid (B7.out.trans hb8)
  clear hF8 hb8
  go_wp2
  go_end0
  exact ⟨rfl, F8.out, B8.out⟩
theorem umul_at (b B B1 B2 g1 g2 p m p1 m1 p2 m2 f0 M N : Nat) (a0 e0 E F : Int) (nz n1 n2 : Bool) (w : World) (h : FltR w b p m a0 f0 nz (.slice none 0 0) e0) (hB : B ≤ b) (h1 : FloatAt w B1 g1 p1 m1 1 n1 M E) (h2 : FloatAt w B2 g2 p2 m2 1 n2 N F)
    (hM : 0 < M) (hN : 0 < N) (hp1 : bl M ≤ p1) (hp2 : bl N ≤ p2) (hbM : bl M ≤ 2400) (hbN : bl N ≤ 2400) (hE : -1050000000 ≤ E ∧ E ≤ 1050000000) (hF : -1050000000 ≤ F ∧ F ≤ 1050000000) (hEF : -1700000000 ≤ E + F ∧ E + F ≤ 1700000000) (hb1 : b ≠ g1) (hb2 : b ≠ g2) (hg : g1 ≠ g2) (hp0 : 0 < p) (hp : p ≤ 64000000) (hm : m ≤ 5) (hK : KarW w) :
    Calls Tryz.prog 99 #[.pointer (some ⟨b, 0, none⟩), .pointer (some ⟨g1, 0, none⟩), .pointer (some ⟨g2, 0, none⟩)] w fun e' w' => e' = .returned (.tuple #[]) ∧
      FVal w' B b p m (rA p m nz 0 (M * N)) 1 nz (rQ p m nz 0 (M * N)) (E + F + rk p (M * N)) ∧ Below B w w' := by
  obtain ⟨r, x, k1, k2, k3, k4, k5, k6⟩ := h1.open hM hp1 (by omega)
  obtain ⟨s, y, l1, l2, l3, l4, l5, l6⟩ := h2.open hN hp2 (by omega)
  have hnM := nw_bl hM
  have hnN := nw_bl hN
  refine (umul_new b B g1 g2 p m p1 m1 p2 m2 f0 a0 e0 0 0 x y nz n1 n2 r s (topN M) (topN N) w h hB k1 l1 k2 l2 k3 l3 hb1 hb2 hg hp0 hp hm (by rw [topN_length]; omega) (by rw [topN_length]; omega) (by omega) (by omega) (by omega) (by omega) (by omega) (by omega) hK).mono ?_
  rintro _ w' ⟨rfl, q, hb⟩
  refine ⟨rfl, ?_, hb⟩
  exact fval_trans q (Nat.mul_pos k3.posv l3.posv) (deq_mul k6 l6)
theorem as_f64d {n : Bool} {M N c : Nat} {E F : Int} (hc : Ieee.double.nearest n M E = c) (hd : 0 < M → deq M E N F) (h1 : 1 < c % 9223372036854775808 / 4503599627370496) (h2 : c % 9223372036854775808 / 4503599627370496 < 2047) :
    0 < N ∧ f64V 1 n (rQ 53 0 n 0 N) (F + rk 53 N) = c ∧ f64A 1 n (rQ 53 0 n 0 N) (F + rk 53 N) = 0 ∧ 0 < rQ 53 0 n 0 N ∧
      -1074 < F + rk 53 N + bl (rQ 53 0 n 0 N) ∧ F + rk 53 N + bl (rQ 53 0 n 0 N) ≤ 1025 := by
  obtain ⟨hM, g1, g2, g3, g4, g5, -, -⟩ := as_f64 hc h1 h2
  have hd := hd hM
  obtain ⟨d1, -⟩ := rnd_deq (p := 53) (m := 0) n hM hd
  have hb := d1.bl g3
  obtain ⟨t1, t2⟩ := btV_deq (n := n) (k := 52) (T := 2047) (L := -1074) g3 d1 (by omega) (by decide)
  rw [t1] at g1
  rw [t2] at g2
  refine ⟨hd.pos hM, ?_, ?_, d1.pos g3, by omega, by omega⟩
  · unfold f64V; rw [if_pos rfl]; exact g1
  · unfold f64A; rw [if_pos rfl]; exact g2
def AfOk (V X : Int) (c : Nat) : Prop :=
  V ≠ 0 ∧ f64V 1 (vN V) (rQ 53 0 (vN V) 0 V.natAbs) (X + rk 53 V.natAbs) = c ∧ f64A 1 (vN V) (rQ 53 0 (vN V) 0 V.natAbs) (X + rk 53 V.natAbs) = 0 ∧ 0 < rQ 53 0 (vN V) 0 V.natAbs ∧
    -1074 < X + rk 53 V.natAbs + bl (rQ 53 0 (vN V) 0 V.natAbs) ∧ X + rk 53 V.natAbs + bl (rQ 53 0 (vN V) 0 V.natAbs) ≤ 1025
theorem AfOk.of {n : Bool} {M N c : Nat} {E F : Int} (hc : Ieee.double.nearest n M E = c) (hd : 0 < M → deq M E N F) (h1 : 1 < c % 9223372036854775808 / 4503599627370496) (h2 : c % 9223372036854775808 / 4503599627370496 < 2047) : AfOk (sI n N) F c := by
  obtain ⟨hN, g⟩ := as_f64d hc hd h1 h2
  unfold AfOk
  rw [natAbs_sI, vN_sI hN]
  exact ⟨sI_ne hN, g⟩
theorem lo_od {M : Nat} (hM : 0 < M) {E e e' : Int} (h1 : e ≤ e') (h2 : e' ≤ E + tz M) (h3 : e ≤ E) : lo M E e = lo (od M) (E + tz M) e' * 2 ^ (e' - e).toNat := by
  unfold lo
  rw [Nat.mul_assoc, ← Nat.pow_add]
  conv => lhs; rw [(od_tz hM).1]
  rw [Nat.mul_assoc, ← Nat.pow_add]
  congr 2
  omega
theorem sI_mul_nat (n : Bool) (a b : Nat) : sI n (a * b) = sI n a * (b : Int) := by
  unfold sI
  cases n
  · simp
  · simp [Int.neg_mul]
theorem smV_od {n1 n2 : Bool} {M N : Nat} {E F : Int} (hM : 0 < M) (hN : 0 < N) :
    smV n1 M E n2 N F = smV n1 (od M) (E + tz M) n2 (od N) (F + tz N) * ((2 ^ (min (E + tz M) (F + tz N) - min E F).toNat : Nat) : Int) := by
  unfold smV
  rw [lo_od hM (e := min E F) (e' := min (E + tz M) (F + tz N)) (by omega) (by omega) (by omega), lo_od hN (e := min E F) (e' := min (E + tz M) (F + tz N)) (by omega) (by omega) (by omega), sI_mul_nat, sI_mul_nat, Int.add_mul]
theorem signed_sI (n : Bool) (m k : Nat) : Ieee.signed n m k = sI n (m * 2 ^ k) := by rw [sgn_nat]; rfl
theorem af_sum {n1 n2 : Bool} {M N c : Nat} {E F : Int} (hM : 0 < M) (hN : 0 < N) (h : ((Ieee.Datum.number n1 M E).sum (.number n2 N F)).map Ieee.double.write = some c) (h1 : 1 < c % 9223372036854775808 / 4503599627370496) (h2 : c % 9223372036854775808 / 4503599627370496 < 2047) :
    AfOk (smV n1 (od M) (E + tz M) n2 (od N) (F + tz N)) (min (E + tz M) (F + tz N)) c := by
  have hod := smV_od (n1 := n1) (n2 := n2) (E := E) (F := F) hM hN
  unfold Ieee.Datum.sum at h
  simp only [signed_sI] at h
  rw [show sI n1 (M * 2 ^ (E - min E F).toNat) + sI n2 (N * 2 ^ (F - min E F).toNat) = smV n1 M E n2 N F from rfl] at h
  obtain ⟨V, hV⟩ : ∃ V, V = smV n1 (od M) (E + tz M) n2 (od N) (F + tz N) := ⟨_, rfl⟩
  obtain ⟨X, hX⟩ : ∃ X, X = min (E + tz M) (F + tz N) := ⟨_, rfl⟩
  rw [← hV, ← hX] at hod ⊢
  rw [hod] at h
  have hp : 0 < 2 ^ (X - min E F).toNat := Nat.two_pow_pos _
  obtain ⟨T, hT⟩ : ∃ T, T = V * ((2 ^ (X - min E F).toNat : Nat) : Int) := ⟨_, rfl⟩
  have hTa : T.natAbs = V.natAbs * 2 ^ (X - min E F).toNat := by rw [hT, Int.natAbs_mul, Int.natAbs_natCast]
  rw [← hT] at h
  have hc : Ieee.double.nearest (if T = 0 then n1 && n2 else decide (T < 0)) T.natAbs (min E F) = c := by
    simp only [Option.map_some, Ieee.Format.write, Option.some.injEq] at h
    exact h
  have hd : 0 < T.natAbs → deq T.natAbs (min E F) V.natAbs X := fun _ => by
    rw [hTa]
    exact ⟨0, (X - min E F).toNat, by rw [Nat.pow_zero, Nat.mul_one], by omega⟩
  by_cases hT0 : T = 0
  · exfalso
    have := (as_f64 hc h1 h2).1
    rw [hT0] at this
    exact absurd this (by decide)
  · rw [if_neg hT0] at hc
    have hs : decide (T < 0) = vN V := by
      unfold vN
      have hpi : (0 : Int) < ((2 ^ (X - min E F).toNat : Nat) : Int) := by omega
      by_cases hv : V < 0
      · rw [decide_eq_true hv, hT, decide_eq_true (Int.mul_neg_of_neg_of_pos hv hpi)]
      · have : 0 ≤ T := by rw [hT]; exact Int.mul_nonneg (by omega) (by omega)
        rw [decide_eq_false hv, decide_eq_false (by omega)]
    rw [hs] at hc
    have hk := AfOk.of hc hd h1 h2
    rw [sI_vN] at hk
    exact hk
theorem af_prod {n1 n2 : Bool} {M N c : Nat} {E F : Int} (hM : 0 < M) (hN : 0 < N) (h : ((Ieee.Datum.number n1 M E).product (.number n2 N F)).map Ieee.double.write = some c) (h1 : 1 < c % 9223372036854775808 / 4503599627370496) (h2 : c % 9223372036854775808 / 4503599627370496 < 2047) :
    AfOk (sI (n1 != n2) (od M * od N)) (E + tz M + (F + tz N)) c := by
  unfold Ieee.Datum.product at h
  simp only [Option.map_some, Ieee.Format.write, Option.some.injEq] at h
  have hx : (n1 ^^ n2) = (n1 != n2) := by cases n1 <;> cases n2 <;> rfl
  rw [hx] at h
  exact AfOk.of h (fun _ => deq_mul (od_deq hM E) (od_deq hN F)) h1 h2
theorem af_quot {n1 n2 : Bool} {M N c : Nat} {E F : Int} (hM : 0 < M) (hN : 0 < N) (h : ((Ieee.Datum.number n1 M E).quotient 54 (.number n2 N F)).map Ieee.double.write = some c) (h1 : 1 < c % 9223372036854775808 / 4503599627370496) (h2 : c % 9223372036854775808 / 4503599627370496 < 2047) :
    AfOk (sI (n1 != n2) (quN 53 (od M) (od N))) (E + tz M - (F + tz N) - (quK 53 (od M) (od N) : Nat) - 1) c := by
  have hoM := od_pos hM
  have hoN := od_pos hN
  have eM := (od_tz hM).1
  have eN := (od_tz hN).1
  unfold Ieee.Datum.quotient at h
  simp only [if_neg (Nat.ne_of_gt hN), Option.map_some, Ieee.Format.write, Option.some.injEq] at h
  have hx : (n1 ^^ n2) = (n1 != n2) := by cases n1 <;> cases n2 <;> rfl
  rw [hx] at h
  obtain ⟨n, hn⟩ : ∃ n, n = (n1 != n2) := ⟨_, rfl⟩
  rw [← hn] at h ⊢
  have hlM := log2_bl hM
  have hlN := log2_bl hN
  obtain ⟨t, ht⟩ : ∃ t, t = 54 + N.log2 - M.log2 := ⟨_, rfl⟩
  rw [← ht] at h
  have hq : 2 * (M <<< t / N) + (M <<< t % N != 0).toNat = 2 * qN M N t + qS M N t := by
    unfold qN qS
    rw [Nat.shiftLeft_eq]
    congr 1
    by_cases h0 : M * 2 ^ t % N = 0
    · rw [if_pos h0, h0]; rfl
    · rw [if_neg h0]
      have : (M * 2 ^ t % N != 0) = true := by rw [bne_iff_ne]; exact h0
      rw [this]; rfl
  rw [hq] at h
  have hb1 : 53 < bl (qN M N t) := by
    unfold qN
    have e1 : M * 2 ^ t = M * 2 ^ t := rfl
    refine bl_quo (a := bl M - 1 + t) (b := bl N) hN ?_ (lt_bl N) (by omega)
    rw [Nat.pow_add]
    exact Nat.mul_le_mul_right _ (bl_ge hM)
  have hb2 : 53 < bl (qN (od M) (od N) (quK 53 (od M) (od N))) := by
    unfold qN
    have hp := bl_pos hoM
    refine bl_quo (a := bl (od M) - 1 + quK 53 (od M) (od N)) (b := bl (od N)) hoN ?_ (lt_bl _) (by unfold quK; omega)
    rw [Nat.pow_add]
    exact Nat.mul_le_mul_right _ (bl_ge hoM)
  have hb3 : 53 < bl (qN (od M * 2 ^ tz M) (od N * 2 ^ tz N) t) := by rw [← eM, ← eN]; exact hb1
  obtain ⟨a1, -, a3⟩ := quo_both (m := 0) (s := 0) (u := tz M) (v := tz N) (t := t) (k := quK 53 (od M) (od N)) n hoN hb3 hb2
  rw [← eM, ← eN] at a1 a3
  have hb4 : 53 < bl (qN (M * 2 ^ 0) (N * 2 ^ 0) t) := by rw [Nat.pow_zero, Nat.mul_one, Nat.mul_one]; exact hb1
  obtain ⟨b1, -, b3⟩ := quo_both (m := 0) (s := 0) (u := 0) (v := 0) (t := t) (k := t) n hN hb4 hb1
  simp only [Nat.pow_zero, Nat.mul_one] at a1 a3 b1 b3
  obtain ⟨-, g1, g2, g3, g4, g5⟩ := as_f64d h (fun _ => deq.refl _ _) h1 h2
  have er : rQ 53 0 n 0 (2 * qN M N t + qS M N t) = rQ 53 0 n 0 (quN 53 (od M) (od N)) := b1.symm.trans a1
  have ee : E - F - (t : Int) - 1 + (rk 53 (2 * qN M N t + qS M N t) : Nat) = E + tz M - (F + tz N) - (quK 53 (od M) (od N) : Nat) - 1 + (rk 53 (quN 53 (od M) (od N)) : Nat) := by
    have : (rk 53 (quN 53 (od M) (od N)) : Nat) = rk 53 (2 * qN (od M) (od N) (quK 53 (od M) (od N)) + qS (od M) (od N) (quK 53 (od M) (od N))) := rfl
    omega
  rw [er, ee] at g1 g2 g4 g5
  rw [er] at g3
  have hQ0 : 0 < quN 53 (od M) (od N) := by
    have : 0 < qN (od M) (od N) (quK 53 (od M) (od N)) := by
      rcases Nat.eq_zero_or_pos (qN (od M) (od N) (quK 53 (od M) (od N))) with h0 | h0
      · rw [h0, bl_zero] at hb2; omega
      · exact h0
    unfold quN; omega
  unfold AfOk
  rw [natAbs_sI, vN_sI hQ0]
  exact ⟨sI_ne hQ0, g1, g2, g3, g4, g5⟩
theorem af_ops {a b c : Nat} (ha : a < 18446744073709551616) (hb : b < 18446744073709551616) (fa : obF a) (fb : obF b) (a0 : 0 < obM a) (b0 : 0 < obM b) (h1 : 1 < c % 9223372036854775808 / 4503599627370496) (h2 : c % 9223372036854775808 / 4503599627370496 < 2047) :
    (floatBits .add .f64 a b = some c → AfOk (smV (obN a) (od (obM a)) (obE a + tz (obM a)) (obN b) (od (obM b)) (obE b + tz (obM b))) (min (obE a + tz (obM a)) (obE b + tz (obM b))) c) ∧
    (floatBits .sub .f64 a b = some c → AfOk (smV (obN a) (od (obM a)) (obE a + tz (obM a)) (!obN b) (od (obM b)) (obE b + tz (obM b))) (min (obE a + tz (obM a)) (obE b + tz (obM b))) c) ∧
    (floatBits .mul .f64 a b = some c → AfOk (sI (obN a != obN b) (od (obM a) * od (obM b))) (obE a + tz (obM a) + (obE b + tz (obM b))) c) ∧
    (floatBits .quo .f64 a b = some c → AfOk (sI (obN a != obN b) (quN 53 (od (obM a)) (od (obM b)))) (obE a + tz (obM a) - (obE b + tz (obM b)) - (quK 53 (od (obM a)) (od (obM b)) : Nat) - 1) c) := by
  have ra := read_fin ha fa
  have rb := read_fin hb fb
  refine ⟨fun h => ?_, fun h => ?_, fun h => ?_, fun h => ?_⟩
  · have h' : Ieee.double.add a b = some c := h
    unfold Ieee.Format.add at h'
    rw [ra, rb] at h'
    exact af_sum a0 b0 h' h1 h2
  · have h' : Ieee.double.sub a b = some c := h
    unfold Ieee.Format.sub at h'
    rw [ra, rb] at h'
    exact af_sum a0 b0 h' h1 h2
  · have h' : Ieee.double.mul a b = some c := h
    unfold Ieee.Format.mul at h'
    rw [ra, rb] at h'
    exact af_prod a0 b0 h' h1 h2
  · have h' : Ieee.double.div a b = some c := h
    unfold Ieee.Format.div at h'
    rw [ra, rb] at h'
    exact af_quot a0 b0 h' h1 h2
theorem RealOk.one {P E p m f : Nat} {ws : List Nat} {e : Int} (h : RealOk P E p m f ws e) (hf : f = 1) : 0 < wv ws ∧ bl (wv ws) ≤ p ∧ bl (wv ws) ≤ P ∧ ws.length ≤ 1000000 ∧ -(E : Int) ≤ e ∧ e ≤ E := by
  subst hf
  obtain ⟨-, h2, -, h | h | h⟩ := h
  · exact absurd h (by decide)
  · exact absurd h (by decide)
  · exact ⟨h.2.1, h.2.2.1, Nat.le_trans h.2.2.1 h2, h.2.2.2⟩
theorem RealV.ok {w : World} {z : Value} {p m f M P E : Nat} {neg : Bool} {X : Int} (h : RealV w z p m f neg M X) (hp0 : 0 < p) (hp : p ≤ P) (hm : m ≤ 5) (hf : f ≤ 2) (h1 : f = 1 → 0 < M ∧ bl (od M) ≤ p ∧ bl M ≤ 60000000 ∧ -(E : Int) ≤ X ∧ X + bl M ≤ E) :
    ∃ (v : Value) (Ez : Int) (zs : List Nat), z = .agg #[.int .u64 p, .int .i64 m, .int .i64 f, .bool neg, v, .int .i64 Ez] ∧ RW w v zs ∧ RealOk P E p m f zs Ez ∧ (f = 1 → wv zs = od M ∧ zs = wds (od M) ∧ Ez = X + (tz M : Nat) ∧ deq (wv zs) Ez M X) ∧ (f ≠ 1 → zs = [] ∧ Ez = 0) := by
  obtain ⟨v, Ez, zs, B, e1, e2, e3, e4, e5⟩ := h
  refine ⟨v, Ez, zs, e1, e2.rw' e3, ⟨hp0, hp, hm, ?_⟩, fun hf1 => ?_, e4⟩
  · by_cases hf1 : f = 1
    · obtain ⟨k1, k2, k3, k4, k5⟩ := h1 hf1
      obtain ⟨l1, l2⟩ := e5 hf1
      have l3 := tz_le k1
      refine .inr (.inr ⟨hf1, ?_, ?_, ?_, ?_, ?_⟩)
      · rw [l1, wv_wds]; exact od_pos k1
      · rw [l1, wv_wds]; exact k2
      · rw [l1, wds_length, nw_bl (od_pos k1)]
        have : bl (od M) ≤ bl M := by have := bl_od k1; omega
        omega
      · omega
      · omega
    · omega
  · obtain ⟨k1, k2, k3, k4, k5⟩ := h1 hf1
    obtain ⟨l1, l2⟩ := e5 hf1
    have l3 : wv zs = od M := by rw [l1, wv_wds]
    refine ⟨l3, l1, l2, ?_⟩
    rw [l3, l2]; exact (od_deq k1 X).symm
set_option maxRecDepth 100000 in
set_option maxHeartbeats 1600000 in
theorem impFloat64 (P E p m f : Nat) (neg : Bool) (v : Value) (e : Int) (ws : List Nat) (w : World) (hv : RW w v ws) (ho : RealOk P E p m f ws e) (hP : P ≤ 1000000) (hE : E ≤ 100000000) (hne : f = 1 → e + bl (wv ws) ≠ -1074) :
    Calls Tryz.prog 34 #[.agg #[.int .u64 p, .int .i64 m, .int .i64 f, .bool neg, v, .int .i64 e]] w fun e' w' => e' = .returned (.tuple #[.int .u64 (f64V f neg (wv ws) e : Nat), .int .i64 (f64A f neg (wv ws) e)]) ∧ Below w.heap.size w w' := by
  have hS := hv.isS
  have hab := (Below.refl w.heap.size w).alloc (Nat.le_refl _) (.cells #[.int .u64 p, .int .i64 m, .int .i64 f, .bool neg, v, .int .i64 e] 42)
  obtain ⟨X, hX⟩ : ∃ X, X = w.alloc (.cells #[.int .u64 p, .int .i64 m, .int .i64 f, .bool neg, v, .int .i64 e] 42) := ⟨_, rfl⟩
  have hr1 : X.heap[w.heap.size]? = some (.cells #[.int .u64 p, .int .i64 m, .int .i64 f, .bool neg, v, .int .i64 e] 42 (0, 0)) := by rw [hX]; exact row_chain11
  rw [← hX] at hab
  obtain ⟨-, x0, x1, x2, x3, x4, x5⟩ := ks12 hr1 (Below.refl _ _)
  have HV := Lib.hid (hv.below hab)
  have HO := Lib.hid ho
  have HB := Lib.hid hab
  have hXs := hab.size
  have hp : 0 < p ∧ p ≤ P := ⟨ho.1, ho.2.1⟩
  have hf : f ≤ 2 := ho.form'
  have HXB : Hid (f = 1 → -800000000 ≤ e + bl (wv ws) ∧ e + bl (wv ws) ≤ 800000000 ∧ e + bl (wv ws) ≠ -1074) := Lib.hid (fun h => by have := ho.one h; have := hne h; omega)
  obtain ⟨hbv, hba⟩ := f64_bd f neg (wv ws) e
  obtain ⟨V, hV⟩ : ∃ V, V = f64V f neg (wv ws) e := ⟨_, rfl⟩
  obtain ⟨A, hA⟩ : ∃ A, A = f64A f neg (wv ws) e := ⟨_, rfl⟩
  have HI := Lib.hid (fun (W : World) (B g : Nat) (h : FVal W B g p m 0 f neg (wv ws) e) => float64_val g B p m f 0 neg (wv ws) e W h hf (fun _ => hp.1) (by omega) HXB.out)
  rw [← hV, ← hA] at HI
  rw [← hV] at hbv
  rw [← hA] at hba
  rw [← hV, ← hA]
  clear hv ho hab hr1 hV hA hne
  go_enter Tryz.func34, Tryz.ntmps34
  go_upto_region 1 with fail
  rw [← hX]
  clear hX
  go_wp2_with fail
  refine (float_val P E p m f neg v e ws X HV.out HO.out (by omega) (by omega)).mono ?_
  rintro _ w1 ⟨g, rfl, ⟨-, hF⟩, hb1⟩
  have HF := Lib.hid hF
  have HB1 := Lib.hid (HB.out.trans (hb1.mono hXs))
  have h1s := HB1.out.size
  clear hF hb1 x0 x1 x2 x3 x4 x5
  go_wp2_with fail
  refine (HI.out w1 _ g HF.out).mono ?_
  rintro _ w2 ⟨rfl, hb2⟩
  have HB2 := Lib.hid (HB1.out.trans (hb2.mono h1s))
  clear hb2
  go_wp2_with (simp only)
  go_ret2
  exact ⟨rfl, HB2.out⟩
theorem RatP.setNeg {w : World} {B b n d : Nat} {neg : Bool} (h : RatP w B b neg n d) (x : Bool) : RatP (w.setCell ⟨b, 0, none⟩ (.bool x)) B b x n d := by
  obtain ⟨v1, v2, h1, h2, h3, h4⟩ := h
  exact ⟨v1, v2, h1, rowset (i := 0) (.bool x) h2, h3.away h2 (by decide) 0 _, h4.away h2 (by decide) 0 _⟩
set_option maxRecDepth 100000 in
set_option maxHeartbeats 1600000 in
theorem did0 (q k p1 m1 f1 p2 m2 f2 f M : Nat) (n1 n2 sg : Bool) (v1 v2 : Value) (e1 e2 X A : Int) (w : World) (_hS1 : IsS v1) (_hS2 : IsS v2)
    (HC : ∀ W, Below w.heap.size w W → Calls Tryz.prog 61 #[.int .u64 q, .int .i64 k, .agg #[.int .u64 p1, .int .i64 m1, .int .i64 f1, .bool n1, v1, .int .i64 e1], .agg #[.int .u64 p2, .int .i64 m2, .int .i64 f2, .bool n2, v2, .int .i64 e2]] W fun e' w' => ∃ z, e' = .returned (.tuple #[z, .int .i64 A]) ∧ RealV w' z q k f sg M X ∧ Below W.heap.size W w') :
    Calls Tryz.prog 29 #[.int .i64 0, .int .u64 q, .int .i64 k, .agg #[.int .u64 p1, .int .i64 m1, .int .i64 f1, .bool n1, v1, .int .i64 e1], .agg #[.int .u64 p2, .int .i64 m2, .int .i64 f2, .bool n2, v2, .int .i64 e2]] w fun e' w' => ∃ z, e' = .returned (.tuple #[z, .int .i64 A]) ∧ RealV w' z q k f sg M X ∧ Below w.heap.size w w' := by
  have hab := (Below.refl w.heap.size w).alloc (Nat.le_refl _) (.cells #[.int .u64 p1, .int .i64 m1, .int .i64 f1, .bool n1, v1, .int .i64 e1] 42)
  have hac := hab.alloc hab.size (.cells #[.int .u64 p2, .int .i64 m2, .int .i64 f2, .bool n2, v2, .int .i64 e2] 42)
  have had := hac.alloc hac.size (.cells #[.int .u64 0, .int .i64 0, .int .i64 0, .bool false, .slice none 0 0, .int .i64 0] 42)
  obtain ⟨Y, hY⟩ : ∃ Y, Y = ((w.alloc (.cells #[.int .u64 p1, .int .i64 m1, .int .i64 f1, .bool n1, v1, .int .i64 e1] 42)).alloc (.cells #[.int .u64 p2, .int .i64 m2, .int .i64 f2, .bool n2, v2, .int .i64 e2] 42)).alloc (.cells #[.int .u64 0, .int .i64 0, .int .i64 0, .bool false, .slice none 0 0, .int .i64 0] 42) := ⟨_, rfl⟩
  have hr1 : Y.heap[w.heap.size]? = some (.cells #[.int .u64 p1, .int .i64 m1, .int .i64 f1, .bool n1, v1, .int .i64 e1] 42 (0, 0)) := by
    rw [hY]; exact row_chain31
  have hr2 : Y.heap[w.heap.size + 1]? = some (.cells #[.int .u64 p2, .int .i64 m2, .int .i64 f2, .bool n2, v2, .int .i64 e2] 42 (0, 0)) := by
    rw [hY]; exact row_chain32
  have hr3 : Y.heap[w.heap.size + 2]? = some (.cells #[.int .u64 0, .int .i64 0, .int .i64 0, .bool false, .slice none 0 0, .int .i64 0] 42 (0, 0)) := by
    rw [hY]; exact row_chain33
  rw [← hY] at had
  obtain ⟨⟨x0, x1, x2, x3, x4, x5⟩, -⟩ := row6 hr1
  obtain ⟨⟨y0, y1, y2, y3, y4, y5⟩, -⟩ := row6 hr2
  have HCY := Lib.hid (HC Y had)
  have HR3 := Lib.hid hr3
  have hwX := Lib.hid had
  have hXs := had.size
  clear HC hab hac had hr1 hr2 hr3
  go_enter Tryz.func29, Tryz.ntmps29
  go_upto_region 1 with fail
  rw [← hY]
  clear hY
  go_wp2_with fail
  refine HCY.out.mono ?_
  rintro _ w7 ⟨z, rfl, hz, hb7⟩
  have hq2 := keep_row hb7 HR3.out
  obtain ⟨vz, Ez, zs, Bz, rfl, hz2, hzd, hz3, hz4⟩ := hz
  have hSz := hz2.isS
  obtain ⟨⟨d0, d1, d2, d3, d4, d5⟩, s0, s1, s2, s3, s4, s5⟩ := row6 hq2
  have H2 := Lib.hid hz2
  have H34 := Lib.hid (And.intro hzd (And.intro hz3 hz4))
  have HQ2 := Lib.hid hq2
  have HB := Lib.hid (bset6 (x := .int .u64 (q : Int)) (y := .int .i64 (k : Int)) (z := .int .i64 (f : Int)) (x' := .bool sg) (y' := vz) (z' := .int .i64 Ez) (hwX.out.trans (hb7.mono hXs)) (Nat.le_trans (Nat.le_succ _) (Nat.le_succ _)))
  clear hz2 hzd hz3 hz4 hq2 hb7 x0 x1 x2 x3 x4 x5 y0 y1 y2 y3 y4 y5
  go_wp2
  have HS := row6_set (x := .int .u64 (q : Int)) (y := .int .i64 (k : Int)) (z := .int .i64 (f : Int)) (x' := .bool sg) (y' := vz) (z' := .int .i64 Ez) HQ2.out
  obtain ⟨⟨a0, a1, a2, a3, a4, a5⟩, -⟩ := row6 HS
  refine bodyPost_ret (v := .tuple #[.agg #[.int .u64 q, .int .i64 k, .int .i64 f, .bool sg, vz, .int .i64 Ez], .int .i64 A]) ?_ rfl ⟨_, rfl, ⟨_, _, _, Bz, rfl, ?_, H34.out.1, H34.out.2⟩, HB.out⟩
  · simp [results, Tryz.results29, go_sem, a0, a1, a2, a3, a4, a5]
  · exact H2.out.same fun hc => by
      have hne : sBlk vz ≠ w.heap.size + 2 := H2.out.ne_row HQ2.out (by decide) hc
      exact heap6_other hne
set_option maxRecDepth 100000 in
set_option maxHeartbeats 1600000 in
theorem did1 (q k p1 m1 f1 p2 m2 f2 f M : Nat) (n1 n2 sg : Bool) (v1 v2 : Value) (e1 e2 X A : Int) (w : World) (_hS1 : IsS v1) (_hS2 : IsS v2)
    (HC : ∀ W, Below w.heap.size w W → Calls Tryz.prog 59 #[.int .u64 q, .int .i64 k, .agg #[.int .u64 p1, .int .i64 m1, .int .i64 f1, .bool n1, v1, .int .i64 e1], .agg #[.int .u64 p2, .int .i64 m2, .int .i64 f2, .bool n2, v2, .int .i64 e2]] W fun e' w' => ∃ z, e' = .returned (.tuple #[z, .int .i64 A]) ∧ RealV w' z q k f sg M X ∧ Below W.heap.size W w') :
    Calls Tryz.prog 29 #[.int .i64 1, .int .u64 q, .int .i64 k, .agg #[.int .u64 p1, .int .i64 m1, .int .i64 f1, .bool n1, v1, .int .i64 e1], .agg #[.int .u64 p2, .int .i64 m2, .int .i64 f2, .bool n2, v2, .int .i64 e2]] w fun e' w' => ∃ z, e' = .returned (.tuple #[z, .int .i64 A]) ∧ RealV w' z q k f sg M X ∧ Below w.heap.size w w' := by
  have hab := (Below.refl w.heap.size w).alloc (Nat.le_refl _) (.cells #[.int .u64 p1, .int .i64 m1, .int .i64 f1, .bool n1, v1, .int .i64 e1] 42)
  have hac := hab.alloc hab.size (.cells #[.int .u64 p2, .int .i64 m2, .int .i64 f2, .bool n2, v2, .int .i64 e2] 42)
  have had := hac.alloc hac.size (.cells #[.int .u64 0, .int .i64 0, .int .i64 0, .bool false, .slice none 0 0, .int .i64 0] 42)
  obtain ⟨Y, hY⟩ : ∃ Y, Y = ((w.alloc (.cells #[.int .u64 p1, .int .i64 m1, .int .i64 f1, .bool n1, v1, .int .i64 e1] 42)).alloc (.cells #[.int .u64 p2, .int .i64 m2, .int .i64 f2, .bool n2, v2, .int .i64 e2] 42)).alloc (.cells #[.int .u64 0, .int .i64 0, .int .i64 0, .bool false, .slice none 0 0, .int .i64 0] 42) := ⟨_, rfl⟩
  have hr1 : Y.heap[w.heap.size]? = some (.cells #[.int .u64 p1, .int .i64 m1, .int .i64 f1, .bool n1, v1, .int .i64 e1] 42 (0, 0)) := by
    rw [hY]; exact row_chain31
  have hr2 : Y.heap[w.heap.size + 1]? = some (.cells #[.int .u64 p2, .int .i64 m2, .int .i64 f2, .bool n2, v2, .int .i64 e2] 42 (0, 0)) := by
    rw [hY]; exact row_chain32
  have hr3 : Y.heap[w.heap.size + 2]? = some (.cells #[.int .u64 0, .int .i64 0, .int .i64 0, .bool false, .slice none 0 0, .int .i64 0] 42 (0, 0)) := by
    rw [hY]; exact row_chain33
  rw [← hY] at had
  obtain ⟨⟨x0, x1, x2, x3, x4, x5⟩, -⟩ := row6 hr1
  obtain ⟨⟨y0, y1, y2, y3, y4, y5⟩, -⟩ := row6 hr2
  have HCY := Lib.hid (HC Y had)
  have HR3 := Lib.hid hr3
  have hwX := Lib.hid had
  have hXs := had.size
  clear HC hab hac had hr1 hr2 hr3
  go_enter Tryz.func29, Tryz.ntmps29
  go_upto_region 1 with fail
  rw [← hY]
  clear hY
  go_wp2_with fail
  refine HCY.out.mono ?_
  rintro _ w7 ⟨z, rfl, hz, hb7⟩
  have hq2 := keep_row hb7 HR3.out
  obtain ⟨vz, Ez, zs, Bz, rfl, hz2, hzd, hz3, hz4⟩ := hz
  have hSz := hz2.isS
  obtain ⟨⟨d0, d1, d2, d3, d4, d5⟩, s0, s1, s2, s3, s4, s5⟩ := row6 hq2
  have H2 := Lib.hid hz2
  have H34 := Lib.hid (And.intro hzd (And.intro hz3 hz4))
  have HQ2 := Lib.hid hq2
  have HB := Lib.hid (bset6 (x := .int .u64 (q : Int)) (y := .int .i64 (k : Int)) (z := .int .i64 (f : Int)) (x' := .bool sg) (y' := vz) (z' := .int .i64 Ez) (hwX.out.trans (hb7.mono hXs)) (Nat.le_trans (Nat.le_succ _) (Nat.le_succ _)))
  clear hz2 hzd hz3 hz4 hq2 hb7 x0 x1 x2 x3 x4 x5 y0 y1 y2 y3 y4 y5
  go_wp2
  have HS := row6_set (x := .int .u64 (q : Int)) (y := .int .i64 (k : Int)) (z := .int .i64 (f : Int)) (x' := .bool sg) (y' := vz) (z' := .int .i64 Ez) HQ2.out
  obtain ⟨⟨a0, a1, a2, a3, a4, a5⟩, -⟩ := row6 HS
  refine bodyPost_ret (v := .tuple #[.agg #[.int .u64 q, .int .i64 k, .int .i64 f, .bool sg, vz, .int .i64 Ez], .int .i64 A]) ?_ rfl ⟨_, rfl, ⟨_, _, _, Bz, rfl, ?_, H34.out.1, H34.out.2⟩, HB.out⟩
  · simp [results, Tryz.results29, go_sem, a0, a1, a2, a3, a4, a5]
  · exact H2.out.same fun hc => by
      have hne : sBlk vz ≠ w.heap.size + 2 := H2.out.ne_row HQ2.out (by decide) hc
      exact heap6_other hne
set_option maxRecDepth 100000 in
set_option maxHeartbeats 1600000 in
theorem did2 (q k p1 m1 f1 p2 m2 f2 f M : Nat) (n1 n2 sg : Bool) (v1 v2 : Value) (e1 e2 X A : Int) (w : World) (_hS1 : IsS v1) (_hS2 : IsS v2)
    (HC : ∀ W, Below w.heap.size w W → Calls Tryz.prog 26 #[.int .u64 q, .int .i64 k, .agg #[.int .u64 p1, .int .i64 m1, .int .i64 f1, .bool n1, v1, .int .i64 e1], .agg #[.int .u64 p2, .int .i64 m2, .int .i64 f2, .bool n2, v2, .int .i64 e2]] W fun e' w' => ∃ z, e' = .returned (.tuple #[z, .int .i64 A]) ∧ RealV w' z q k f sg M X ∧ Below W.heap.size W w') :
    Calls Tryz.prog 29 #[.int .i64 2, .int .u64 q, .int .i64 k, .agg #[.int .u64 p1, .int .i64 m1, .int .i64 f1, .bool n1, v1, .int .i64 e1], .agg #[.int .u64 p2, .int .i64 m2, .int .i64 f2, .bool n2, v2, .int .i64 e2]] w fun e' w' => ∃ z, e' = .returned (.tuple #[z, .int .i64 A]) ∧ RealV w' z q k f sg M X ∧ Below w.heap.size w w' := by
  have hab := (Below.refl w.heap.size w).alloc (Nat.le_refl _) (.cells #[.int .u64 p1, .int .i64 m1, .int .i64 f1, .bool n1, v1, .int .i64 e1] 42)
  have hac := hab.alloc hab.size (.cells #[.int .u64 p2, .int .i64 m2, .int .i64 f2, .bool n2, v2, .int .i64 e2] 42)
  have had := hac.alloc hac.size (.cells #[.int .u64 0, .int .i64 0, .int .i64 0, .bool false, .slice none 0 0, .int .i64 0] 42)
  obtain ⟨Y, hY⟩ : ∃ Y, Y = ((w.alloc (.cells #[.int .u64 p1, .int .i64 m1, .int .i64 f1, .bool n1, v1, .int .i64 e1] 42)).alloc (.cells #[.int .u64 p2, .int .i64 m2, .int .i64 f2, .bool n2, v2, .int .i64 e2] 42)).alloc (.cells #[.int .u64 0, .int .i64 0, .int .i64 0, .bool false, .slice none 0 0, .int .i64 0] 42) := ⟨_, rfl⟩
  have hr1 : Y.heap[w.heap.size]? = some (.cells #[.int .u64 p1, .int .i64 m1, .int .i64 f1, .bool n1, v1, .int .i64 e1] 42 (0, 0)) := by
    rw [hY]; exact row_chain31
  have hr2 : Y.heap[w.heap.size + 1]? = some (.cells #[.int .u64 p2, .int .i64 m2, .int .i64 f2, .bool n2, v2, .int .i64 e2] 42 (0, 0)) := by
    rw [hY]; exact row_chain32
  have hr3 : Y.heap[w.heap.size + 2]? = some (.cells #[.int .u64 0, .int .i64 0, .int .i64 0, .bool false, .slice none 0 0, .int .i64 0] 42 (0, 0)) := by
    rw [hY]; exact row_chain33
  rw [← hY] at had
  obtain ⟨⟨x0, x1, x2, x3, x4, x5⟩, -⟩ := row6 hr1
  obtain ⟨⟨y0, y1, y2, y3, y4, y5⟩, -⟩ := row6 hr2
  have HCY := Lib.hid (HC Y had)
  have HR3 := Lib.hid hr3
  have hwX := Lib.hid had
  have hXs := had.size
  clear HC hab hac had hr1 hr2 hr3
  go_enter Tryz.func29, Tryz.ntmps29
  go_upto_region 1 with fail
  rw [← hY]
  clear hY
  go_wp2_with fail
  refine HCY.out.mono ?_
  rintro _ w7 ⟨z, rfl, hz, hb7⟩
  have hq2 := keep_row hb7 HR3.out
  obtain ⟨vz, Ez, zs, Bz, rfl, hz2, hzd, hz3, hz4⟩ := hz
  have hSz := hz2.isS
  obtain ⟨⟨d0, d1, d2, d3, d4, d5⟩, s0, s1, s2, s3, s4, s5⟩ := row6 hq2
  have H2 := Lib.hid hz2
  have H34 := Lib.hid (And.intro hzd (And.intro hz3 hz4))
  have HQ2 := Lib.hid hq2
  have HB := Lib.hid (bset6 (x := .int .u64 (q : Int)) (y := .int .i64 (k : Int)) (z := .int .i64 (f : Int)) (x' := .bool sg) (y' := vz) (z' := .int .i64 Ez) (hwX.out.trans (hb7.mono hXs)) (Nat.le_trans (Nat.le_succ _) (Nat.le_succ _)))
  clear hz2 hzd hz3 hz4 hq2 hb7 x0 x1 x2 x3 x4 x5 y0 y1 y2 y3 y4 y5
  go_wp2
  have HS := row6_set (x := .int .u64 (q : Int)) (y := .int .i64 (k : Int)) (z := .int .i64 (f : Int)) (x' := .bool sg) (y' := vz) (z' := .int .i64 Ez) HQ2.out
  obtain ⟨⟨a0, a1, a2, a3, a4, a5⟩, -⟩ := row6 HS
  refine bodyPost_ret (v := .tuple #[.agg #[.int .u64 q, .int .i64 k, .int .i64 f, .bool sg, vz, .int .i64 Ez], .int .i64 A]) ?_ rfl ⟨_, rfl, ⟨_, _, _, Bz, rfl, ?_, H34.out.1, H34.out.2⟩, HB.out⟩
  · simp [results, Tryz.results29, go_sem, a0, a1, a2, a3, a4, a5]
  · exact H2.out.same fun hc => by
      have hne : sBlk vz ≠ w.heap.size + 2 := H2.out.ne_row HQ2.out (by decide) hc
      exact heap6_other hne
set_option maxRecDepth 100000 in
set_option maxHeartbeats 1600000 in
theorem did3 (q k p1 m1 f1 p2 m2 f2 f M : Nat) (n1 n2 sg : Bool) (v1 v2 : Value) (e1 e2 X A : Int) (w : World) (_hS1 : IsS v1) (_hS2 : IsS v2)
    (HC : ∀ W, Below w.heap.size w W → Calls Tryz.prog 60 #[.int .u64 q, .int .i64 k, .agg #[.int .u64 p1, .int .i64 m1, .int .i64 f1, .bool n1, v1, .int .i64 e1], .agg #[.int .u64 p2, .int .i64 m2, .int .i64 f2, .bool n2, v2, .int .i64 e2]] W fun e' w' => ∃ z, e' = .returned (.tuple #[z, .int .i64 A]) ∧ RealV w' z q k f sg M X ∧ Below W.heap.size W w') :
    Calls Tryz.prog 29 #[.int .i64 3, .int .u64 q, .int .i64 k, .agg #[.int .u64 p1, .int .i64 m1, .int .i64 f1, .bool n1, v1, .int .i64 e1], .agg #[.int .u64 p2, .int .i64 m2, .int .i64 f2, .bool n2, v2, .int .i64 e2]] w fun e' w' => ∃ z, e' = .returned (.tuple #[z, .int .i64 A]) ∧ RealV w' z q k f sg M X ∧ Below w.heap.size w w' := by
  have hab := (Below.refl w.heap.size w).alloc (Nat.le_refl _) (.cells #[.int .u64 p1, .int .i64 m1, .int .i64 f1, .bool n1, v1, .int .i64 e1] 42)
  have hac := hab.alloc hab.size (.cells #[.int .u64 p2, .int .i64 m2, .int .i64 f2, .bool n2, v2, .int .i64 e2] 42)
  have had := hac.alloc hac.size (.cells #[.int .u64 0, .int .i64 0, .int .i64 0, .bool false, .slice none 0 0, .int .i64 0] 42)
  obtain ⟨Y, hY⟩ : ∃ Y, Y = ((w.alloc (.cells #[.int .u64 p1, .int .i64 m1, .int .i64 f1, .bool n1, v1, .int .i64 e1] 42)).alloc (.cells #[.int .u64 p2, .int .i64 m2, .int .i64 f2, .bool n2, v2, .int .i64 e2] 42)).alloc (.cells #[.int .u64 0, .int .i64 0, .int .i64 0, .bool false, .slice none 0 0, .int .i64 0] 42) := ⟨_, rfl⟩
  have hr1 : Y.heap[w.heap.size]? = some (.cells #[.int .u64 p1, .int .i64 m1, .int .i64 f1, .bool n1, v1, .int .i64 e1] 42 (0, 0)) := by
    rw [hY]; exact row_chain31
  have hr2 : Y.heap[w.heap.size + 1]? = some (.cells #[.int .u64 p2, .int .i64 m2, .int .i64 f2, .bool n2, v2, .int .i64 e2] 42 (0, 0)) := by
    rw [hY]; exact row_chain32
  have hr3 : Y.heap[w.heap.size + 2]? = some (.cells #[.int .u64 0, .int .i64 0, .int .i64 0, .bool false, .slice none 0 0, .int .i64 0] 42 (0, 0)) := by
    rw [hY]; exact row_chain33
  rw [← hY] at had
  obtain ⟨⟨x0, x1, x2, x3, x4, x5⟩, -⟩ := row6 hr1
  obtain ⟨⟨y0, y1, y2, y3, y4, y5⟩, -⟩ := row6 hr2
  have HCY := Lib.hid (HC Y had)
  have HR3 := Lib.hid hr3
  have hwX := Lib.hid had
  have hXs := had.size
  clear HC hab hac had hr1 hr2 hr3
  go_enter Tryz.func29, Tryz.ntmps29
  go_upto_region 1 with fail
  rw [← hY]
  clear hY
  go_wp2_with fail
  refine HCY.out.mono ?_
  rintro _ w7 ⟨z, rfl, hz, hb7⟩
  have hq2 := keep_row hb7 HR3.out
  obtain ⟨vz, Ez, zs, Bz, rfl, hz2, hzd, hz3, hz4⟩ := hz
  have hSz := hz2.isS
  obtain ⟨⟨d0, d1, d2, d3, d4, d5⟩, s0, s1, s2, s3, s4, s5⟩ := row6 hq2
  have H2 := Lib.hid hz2
  have H34 := Lib.hid (And.intro hzd (And.intro hz3 hz4))
  have HQ2 := Lib.hid hq2
  have HB := Lib.hid (bset6 (x := .int .u64 (q : Int)) (y := .int .i64 (k : Int)) (z := .int .i64 (f : Int)) (x' := .bool sg) (y' := vz) (z' := .int .i64 Ez) (hwX.out.trans (hb7.mono hXs)) (Nat.le_trans (Nat.le_succ _) (Nat.le_succ _)))
  clear hz2 hzd hz3 hz4 hq2 hb7 x0 x1 x2 x3 x4 x5 y0 y1 y2 y3 y4 y5
  go_wp2
  have HS := row6_set (x := .int .u64 (q : Int)) (y := .int .i64 (k : Int)) (z := .int .i64 (f : Int)) (x' := .bool sg) (y' := vz) (z' := .int .i64 Ez) HQ2.out
  obtain ⟨⟨a0, a1, a2, a3, a4, a5⟩, -⟩ := row6 HS
  refine bodyPost_ret (v := .tuple #[.agg #[.int .u64 q, .int .i64 k, .int .i64 f, .bool sg, vz, .int .i64 Ez], .int .i64 A]) ?_ rfl ⟨_, rfl, ⟨_, _, _, Bz, rfl, ?_, H34.out.1, H34.out.2⟩, HB.out⟩
  · simp [results, Tryz.results29, go_sem, a0, a1, a2, a3, a4, a5]
  · exact H2.out.same fun hc => by
      have hne : sBlk vz ≠ w.heap.size + 2 := H2.out.ne_row HQ2.out (by decide) hc
      exact heap6_other hne
end Go.Proofs.YtllhnjpnkmjopaaGreatDoor
