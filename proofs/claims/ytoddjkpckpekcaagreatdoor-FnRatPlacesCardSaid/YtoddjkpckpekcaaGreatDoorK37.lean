/-
Texts of this proof, joined: GcI SfA FdA FdC SiA FvA NmA NmB NmE. No condition.
-/
import Derived.Test.YtoddjkpckpekcaaGreatDoorK01
import Derived.Test.YtoddjkpckpekcaaGreatDoorK02
import Derived.Test.YtoddjkpckpekcaaGreatDoorK03
import Derived.Test.YtoddjkpckpekcaaGreatDoorK04
import Derived.Test.YtoddjkpckpekcaaGreatDoorK05
import Derived.Test.YtoddjkpckpekcaaGreatDoorK06
import Derived.Test.YtoddjkpckpekcaaGreatDoorK07
import Derived.Test.YtoddjkpckpekcaaGreatDoorK08
import Derived.Test.YtoddjkpckpekcaaGreatDoorK09
import Derived.Test.YtoddjkpckpekcaaGreatDoorK10
import Derived.Test.YtoddjkpckpekcaaGreatDoorK11
import Derived.Test.YtoddjkpckpekcaaGreatDoorK12
import Derived.Test.YtoddjkpckpekcaaGreatDoorK13
import Derived.Test.YtoddjkpckpekcaaGreatDoorK14
import Derived.Test.YtoddjkpckpekcaaGreatDoorK15
import Derived.Test.YtoddjkpckpekcaaGreatDoorK16
import Derived.Test.YtoddjkpckpekcaaGreatDoorK17
import Derived.Test.YtoddjkpckpekcaaGreatDoorK18
import Derived.Test.YtoddjkpckpekcaaGreatDoorK19
import Derived.Test.YtoddjkpckpekcaaGreatDoorK20
import Derived.Test.YtoddjkpckpekcaaGreatDoorK21
import Derived.Test.YtoddjkpckpekcaaGreatDoorK22
import Derived.Test.YtoddjkpckpekcaaGreatDoorK23
import Derived.Test.YtoddjkpckpekcaaGreatDoorK24
import Derived.Test.YtoddjkpckpekcaaGreatDoorK25
import Derived.Test.YtoddjkpckpekcaaGreatDoorK26
import Derived.Test.YtoddjkpckpekcaaGreatDoorK27
import Derived.Test.YtoddjkpckpekcaaGreatDoorK28
import Derived.Test.YtoddjkpckpekcaaGreatDoorK29
import Derived.Test.YtoddjkpckpekcaaGreatDoorK31
import Derived.Test.YtoddjkpckpekcaaGreatDoorK32
import Derived.Test.YtoddjkpckpekcaaGreatDoorK33
import Derived.Test.YtoddjkpckpekcaaGreatDoorK35
import Derived.Test.YtoddjkpckpekcaaGreatDoorK36
import Derived.Laws.Bits64b
import Derived.WalkKit
import Derived.WalkSpells
import Derived.WalkLawsBesides
import Derived.Lib.Hide
import Derived.Deep.QuietTactic
import Derived.BigQuiet
import Derived.Deep.DeepFit
import Derived.Deep.AppendSrc
import Derived.Laws.BitsAllLaws
import Derived.Laws.CopyOwn
import Derived.Outline
import Derived.Lib.AppendZeros
import Derived.LaidEqlPtr
import Derived.Test.YtoddjkpckpekcaaGreatDoorProg
import Derived.Deep.RegionHeld3
import Derived.Deep.DeepCutAuto
import Derived.Deep.CutRange
namespace Go.Proofs.YtoddjkpckpekcaaGreatDoor
open Go.RowKit

theorem Quad.swap {w : World} {B a b q r : Nat} {ma mb mq mr : Bool} {va vb vq vr : Value} {za zb zq zr : List Value} (h : Quad w B a b q r ma mb mq mr va vb vq vr za zb zq zr) : Quad w B b a q r mb ma mq mr vb va vq vr zb za zq zr :=
  ⟨h.bb, h.ba, h.bq, h.br, h.sab.symm, h.sbq, h.sbr, h.saq, h.sar, h.sqr, h.nab.symm, h.nbq, h.nbr, h.naq, h.nar, h.nqr⟩
theorem Quad.euc {w : World} {B a b q r : Nat} {ma mb mq mr : Bool} {va vb vq vr : Value} {za zb zq zr : List Value} (h : Quad w B a b q r ma mb mq mr va vb vq vr za zb zq zr) : Quad w B b r q a mb mr mq ma vb vr vq va zb zr zq za :=
  ⟨h.bb, h.br, h.bq, h.ba, h.sbr, h.sbq, h.sab.symm, h.sqr.symm, h.sar.symm, h.saq.symm, h.nbr, h.nbq, h.nab.symm, h.nqr.symm, h.nar.symm, h.naq.symm⟩
theorem quad_start {w1 w2 : World} {B a : Nat} {va vb : Value} {N M : Nat} (ha : Bx w1 B a false va (cellsW (wds N))) (hf : ∀ t, t < w1.heap.size → w2.heap[t]? = w1.heap[t]?) (hb : Bx w2 B w1.heap.size false vb (cellsW (wds M))) (hs : 0 < sCap vb → w1.heap.size < sBlk vb) (k : Nat) (hk : k = w2.heap.size + 1) :
    Quad ((w2.alloc (.cells #[.bool false, .slice none 0 0] 87)).alloc (.cells #[.bool false, .slice none 0 0] 87)) B a w1.heap.size w2.heap.size k false false false false va vb (.slice none 0 0) (.slice none 0 0) (cellsW (wds N)) (cellsW (wds M)) [] [] := by
  subst hk
  have l1 := get_lt ha.row
  have l2 := get_lt hb.row
  have ha2 : Bx w2 B a false va (cellsW (wds N)) := ⟨ha.le, (hf _ l1).trans ha.row, ha.own.same fun hc => hf _ (ha.own.lt hc).2⟩
  have hB : B ≤ w2.heap.size := Nat.le_trans hb.le (Nat.le_of_lt l2)
  have hz : (w2.alloc (.cells #[.bool false, .slice none 0 0] 87)).heap.size = w2.heap.size + 1 := by simp
  have hn : ∀ v : Value, Sep v (.slice none 0 0) := fun v _ h => absurd h (by decide)
  have hr := Bx.new (w2.alloc (.cells #[.bool false, .slice none 0 0] 87)) (B := B) (by omega)
  rw [hz] at hr
  refine ⟨(ha2.alloc _).alloc _, (hb.alloc _).alloc _, (Bx.new w2 hB).alloc _, hr, ?_, hn _, hn _, hn _, hn _, hn _, by omega, by omega, by omega, by omega, by omega, by omega⟩
  intro hv hu he
  have := (ha.own.lt hv).2
  have := hs hu
  omega
theorem Lg.sim {w wr : World} {B a b q r X Y G : Nat} (h : Lg w wr B a b q r X Y G) (h2 : 2 ≤ nw Y) :
    Calls Tryz.prog 148 #[.pointer (some ⟨a, 0, none⟩), .pointer (some ⟨b, 0, none⟩)] wr (SimP X Y wr) := by
  obtain ⟨mq, mr, va, vb, vq, vr, zq, zr, Q⟩ := h.ex
  have hb := h.big
  exact sim_any a b X Y va vb wr (row_at (i := 1) Q.ba.row rfl).1 (row_at (i := 1) Q.bb.row rfl).1 Q.ba.ro.rw Q.bb.ro.rw h.le h2 (by omega)
theorem nw_two_pos {Y : Nat} (h : 1 ≤ nw Y) : 0 < Y := by
  rcases Nat.eq_zero_or_pos Y with h0 | h0
  · subst h0; exact absurd h (by decide)
  · exact h0
theorem Lg.upd {w wr : World} {B a b q r X Y G u0 u1 v0 v1 : Nat} {ev : Bool} (h : Lg w wr B a b q r X Y G) (h2 : 2 ≤ nw Y) (hv : v0 ≠ 0)
    (hl : u0 < 18446744073709551616 ∧ u1 < 18446744073709551616 ∧ v0 < 18446744073709551616 ∧ v1 < 18446744073709551616 ∧ Lead X Y u0 u1 v0 v1 ev) :
    Calls Tryz.prog 149 #[.pointer (some ⟨a, 0, none⟩), .pointer (some ⟨b, 0, none⟩), .pointer (some ⟨q, 0, none⟩), .pointer (some ⟨r, 0, none⟩), .int .u64 u0, .int .u64 u1, .int .u64 v0, .int .u64 v1, .bool ev] wr
      fun e w' => e = .returned (.tuple #[]) ∧ ∃ X' Y', Lg w w' B a b q r X' Y' G ∧ Y' < Y := by
  obtain ⟨mq, mr, va, vb, vq, vr, zq, zr, Q⟩ := h.ex
  have hb := h.big
  have hYX := nw_mono h.le
  obtain ⟨l0, l1, l2, l3, hd⟩ := hl
  rcases hd with hd | ⟨d1, d2, X', Y', hs, hi⟩
  · exact absurd hd hv
  refine (lehmerUpdate_any a b q r B X Y X' Y' u0 u1 v0 v1 ev mq mr va vb vq vr zq zr wr Q h.pos (nw_two_pos (by omega)) (by omega) (by omega) l0 l1 l2 l3 d1 d2 hs.lt hi).mono ?_
  rintro e w' ⟨h1, h3, h4⟩
  have hX' := nw_mono hs.top
  exact ⟨h1, X', Y', ⟨h3, Nat.le_of_lt hs.lt, by have := hs.lt; omega, by omega, hs.gcd.trans h.gcd, h.bl.trans h4⟩, hs.less⟩
theorem Lg.euc {w wr : World} {B a b q r X Y G : Nat} (h : Lg w wr B a b q r X Y G) (hY : 0 < Y) (hT : DivW w) (hg : 3 < B) :
    Calls Tryz.prog 150 #[.pointer (some ⟨a, 0, none⟩), .pointer (some ⟨b, 0, none⟩), .pointer none, .pointer none, .pointer (some ⟨q, 0, none⟩), .pointer (some ⟨r, 0, none⟩), .bool false] wr
      fun e w' => e = .returned (.tuple #[.pointer (some ⟨b, 0, none⟩), .pointer (some ⟨r, 0, none⟩), .pointer (some ⟨a, 0, none⟩), .pointer none, .pointer none]) ∧ Lg w w' B b r q a Y (X % Y) G := by
  obtain ⟨mq, mr, va, vb, vq, vr, zq, zr, Q⟩ := h.ex
  have hb := h.big
  have hYX := nw_mono h.le
  refine (euclid_any a b q r B X Y mq mr va vb vq vr zq zr wr Q h.pos hY (by omega) (by omega) (hT.belowB h.bl hg) hg).mono ?_
  rintro e w' ⟨h1, ⟨vq', vr', h3⟩, h4⟩
  have hm := Nat.mod_lt X hY
  refine ⟨h1, ⟨false, false, vb, vr', vq', va, _, _, h3.euc⟩, Nat.le_of_lt hm, hY, by omega, ?_, h.bl.trans h4⟩
  rw [← h.gcd, Nat.gcd_comm Y, ← Nat.gcd_rec, Nat.gcd_comm]
def numAt (w : World) (v : Value) : Nat := wv ((List.range (sLen v)).map fun i => match w.cell? ⟨sBlk v, sOff v + i, none⟩ with | some (.int _ z) => z.toNat | _ => 0)
def boxN (w : World) (p : Value) : Nat := match p with
  | .pointer (some a) => match w.cell? ⟨a.block, 1, none⟩ with | some v => numAt w v | none => 0
  | _ => 0
theorem numAt_of {w : World} {v : Value} {Y : Nat} (h : RW w v (wds Y)) : numAt w v = Y := by
  unfold numAt
  rw [show sLen v = (wds Y).length from h.len]
  have : ((List.range (wds Y).length).map fun i => match w.cell? ⟨sBlk v, sOff v + i, none⟩ with | some (.int _ z) => z.toNat | _ => 0) = wds Y := by
    refine List.ext_getElem (by simp) ?_
    intro i h1 h2
    have := h.at i (.int .u64 ((wds Y)[i] : Int)) (by simp [cellsW, List.getElem?_map, List.getElem?_eq_getElem h2])
    simp [this]
  rw [this, wv_wds]
theorem Lg.boxN {w wr : World} {B a b q r X Y G : Nat} (h : Lg w wr B a b q r X Y G) : boxN wr (.pointer (some ⟨b, 0, none⟩)) = Y := by
  obtain ⟨mq, mr, va, vb, vq, vr, zq, zr, Q⟩ := h.ex
  have h1 : wr.cell? ⟨b, 1, none⟩ = some vb := (row_at (i := 1) Q.bb.row rfl).1
  simp only [Proofs.YtoddjkpckpekcaaGreatDoor.boxN, h1]
  exact numAt_of Q.bb.ro.rw
theorem single_lt {X : Nat} (h : nw X = 1) : X < 18446744073709551616 := wds_lt (n := X) (by rw [wds_single h]; simp)
set_option maxRecDepth 100000 in
set_option maxHeartbeats 800000 in
theorem intLsh_same (g o X s B T : Nat) (neg : Bool) (v : Value) (cs : Array Value) (w : World) (row : w.heap[g]? = some (.cells cs T (0, 0))) (h0 : cs[o]? = some (.bool neg)) (h1 : cs[o + 1]? = some v) (hT : T ≠ 98)
    (hv : Own w B 98 v (cellsW (wds X))) (hz : X = 0 → v = .slice none 0 0) (hl : nw X ≤ 10000000) (hs : s ≤ 1000000000) (hB : B ≤ w.heap.size) :
    Calls Tryz.prog 82 #[.pointer (some ⟨g, o, none⟩), .pointer (some ⟨g, o, none⟩), .int .u64 s] w fun e w' => e = .returned (.pointer (some ⟨g, o, none⟩)) ∧ ∃ r w1 k, w' = (w1.setCell ⟨g, o + 1, none⟩ r).setCell ⟨g, o, none⟩ (.bool neg) ∧ NatR v r (X * 2 ^ s) B (w.drewN k) w1 := by
  have hS := hv.isS
  obtain ⟨c0, f0⟩ := row_at row h0
  obtain ⟨c1, f1⟩ := row_at row h1
  have HR := Lib.hid row
  have HNE : Hid (0 < sCap v → g ≠ sBlk v) := Lib.hid (fun hc he => hv.ne_row row hT hc he.symm)
  have HC := Lib.hid (fun (k : Nat) => lsh_same v X s B (w.drewN k) (hv.drewN k) hz hl hs hB)
  have H0 := Lib.hid h0
  have H1 := Lib.hid h1
  clear row hv hz h0 h1 f0 f1
  go_enter Tryz.func82, Tryz.ntmps82
  go_upto_region 1 with fail
  (refine wp_region_hoist 10 (by kernel_rfl) (by kernel_rfl) ⟨fun _ _ _ h => (by first | exact (hQp _ _ _ h).elim | cases h.2.1 | (obtain ⟨_, h3, _⟩ := h.2; cases h3)), fun _ _ h => (by first | exact (hQo _ _ h).elim | cases h.1 | (obtain ⟨_, h3, _⟩ := h; cases h3))⟩ ?_; simp only [List.take_succ_cons, List.take_zero, List.drop_succ_cons, List.drop_zero]; (repeat (go_big_quiet_step (fail))); refine wpQuiet_nil ?_; rintro _ ⟨nq, rfl⟩)
  go_wp2_with fail
  refine (HC.out nq).mono ?_
  rintro _ w1 ⟨r, rfl, hr⟩
  have row1 := hr.fr.row HR.out (fun hc => HNE.out hc)
  obtain ⟨k0, f0⟩ := row_at row1 H0.out
  obtain ⟨k1, f1⟩ := row_at row1 H1.out
  have hSr := hr.own.isS
  have Q := Lib.hid hr
  clear hr row1 c0 c1
  go_wp2
  go_ret
  exact ⟨rfl, r, w1, nq, rfl, Q.out⟩
set_option maxRecDepth 100000 in
theorem setUint64_zero (w : World) : Calls Tryz.prog 117 #[.slice none 0 0, .int .u64 0] w fun e w' => e = .returned (.slice none 0 0) ∧ w = w' := by
  have hS : IsS (.slice none 0 0) := IsS.nil
  go_enter Tryz.func117, Tryz.ntmps117
  go_wp2
  go_ret
  exact ⟨rfl, rfl⟩
theorem wds_word {m : Nat} (h0 : 0 < m) (hm : m < 18446744073709551616) : wds m = [m] := by
  refine wds_single ?_
  have h1 := nw_pos h0
  have h2 : nw m ≤ 1 := nw_le (by rw [Nat.pow_one]; exact hm)
  omega
theorem setUint64_num (m : Nat) (w : World) (hm : m < 18446744073709551616) :
    Calls Tryz.prog 117 #[.slice none 0 0, .int .u64 m] w fun e w' => ∃ r, e = .returned r ∧ Own w' w.heap.size 98 r (cellsW (wds m)) ∧ Below w.heap.size w w' ∧ (m = 0 → r = .slice none 0 0) := by
  rcases Nat.eq_zero_or_pos m with h0 | h0
  · subst h0
    refine (setUint64_zero w).mono ?_
    rintro _ _ ⟨rfl, rfl⟩
    exact ⟨_, rfl, Own.nil _ _ _, Below.refl _ _, fun _ => rfl⟩
  · refine (setUint64_nil m w h0 hm).mono ?_
    rintro _ w' ⟨r, rfl, h1, h2⟩
    rw [wds_word h0 hm]
    exact ⟨r, rfl, h1, h2, fun h => by omega⟩
set_option maxRecDepth 100000 in
set_option maxHeartbeats 800000 in
theorem intSetU (g o m T : Nat) (n0 : Value) (cs : Array Value) (w : World) (row : w.heap[g]? = some (.cells cs T (0, 0))) (h0 : cs[o]? = some n0) (h1 : cs[o + 1]? = some (.slice none 0 0)) (hm : m < 18446744073709551616) :
    Calls Tryz.prog 79 #[.pointer (some ⟨g, o, none⟩), .int .u64 m] w fun e w' => e = .returned (.pointer (some ⟨g, o, none⟩)) ∧ ∃ r w1, w' = (w1.setCell ⟨g, o + 1, none⟩ r).setCell ⟨g, o, none⟩ (.bool false) ∧ Own w1 w.heap.size 98 r (cellsW (wds m)) ∧ Below w.heap.size w w1 ∧ (m = 0 → r = .slice none 0 0) := by
  obtain ⟨c0, f0⟩ := row_at row h0
  obtain ⟨c1, f1⟩ := row_at row h1
  have HR := Lib.hid row
  have HC := Lib.hid (setUint64_num m w hm)
  have H0 := Lib.hid h0
  have H1 := Lib.hid h1
  clear row h0 h1 f0 f1 hm
  go_enter Tryz.func79, Tryz.ntmps79
  go_wp2_with fail
  refine HC.out.mono ?_
  rintro _ w1 ⟨r, rfl, ho, hb, hz⟩
  have row1 := keep_row hb HR.out
  obtain ⟨k0, f0⟩ := row_at row1 H0.out
  obtain ⟨k1, f1⟩ := row_at row1 H1.out
  have hSr := ho.isS
  have Q := Lib.hid (And.intro ho (And.intro hb hz))
  clear ho hb hz row1 c0 c1
  go_wp2
  go_ret
  exact ⟨rfl, r, w1, rfl, Q.out⟩
theorem bt_cut {n : Bool} {M k : Nat} {E L : Int} (hM : 0 < M) (hp : L + 1 ≤ E + bl M) :
    ∃ p : Nat, (p : Int) = E + bl M - btU M E k L ∧ 1 ≤ p ∧ p ≤ k + 1 ∧ deq (rQ p 0 n 0 M) (E + rk p M) (btQ n M E (btU M E k L)) (btU M E k L) ∧ rA p 0 n 0 M = btA n M E (btU M E k L) ∧
      0 < btQ n M E (btU M E k L) ∧ btQ n M E (btU M E k L) ≤ 2 ^ (k + 1) ∧ (btU M E k L = L ∨ 2 ^ k ≤ btQ n M E (btU M E k L)) := by
  have hb := bl_pos hM
  obtain ⟨u, hu⟩ : ∃ u, u = btU M E k L := ⟨_, rfl⟩
  have hu2 : u = max L (E + bl M - 1 - k) := hu
  rw [← hu]
  clear hu
  obtain ⟨p, hpp⟩ := Int.eq_ofNat_of_zero_le (show 0 ≤ E + bl M - u by omega)
  refine ⟨p, hpp.symm, by omega, by omega, ?_⟩
  by_cases h : u ≤ E
  · obtain ⟨k0, q0, a0⟩ := rQ_fits (p := p) (m := 0) n (show bl M ≤ p by omega)
    have e1 : btQ n M E u = M * 2 ^ (E - u).toNat := if_pos h
    have e2 : btA n M E u = 0 := if_pos h
    have hbl := bl_mul hM (E - u).toNat
    rw [← e1] at hbl
    have hpos : 0 < btQ n M E u := by rw [e1]; exact Nat.mul_pos hM (Nat.two_pow_pos _)
    refine ⟨?_, by rw [a0, e2], hpos, ?_, ?_⟩
    · rw [k0, q0, e1]
      have := (deq.shl M u (E - u).toNat).symm
      rw [show u + ((E - u).toNat : Int) = E + ((0 : Nat) : Int) by omega] at this
      exact this
    · exact Nat.le_of_lt (Nat.lt_of_lt_of_le (lt_bl _) (Nat.pow_le_pow_right (by decide) (by omega)))
    · by_cases hL : u = L
      · exact .inl hL
      · refine .inr (Nat.le_trans (Nat.pow_le_pow_right (by decide) (by omega)) (bl_ge hpos))
  · have hrk : rk p M = (u - E).toNat := by unfold rk; omega
    have e1 : btQ n M E u = rQ p 0 n 0 M := by rw [btQ, if_neg h, ← hrk]; rfl
    have e2 : btA n M E u = rA p 0 n 0 M := by rw [btA, if_neg h, ← hrk]; rfl
    have hlt : p < bl M := by unfold rk at hrk; omega
    obtain ⟨b1, -, b3⟩ := rQ_bound (m := 0) n 0 (show 0 < p by omega) hlt
    have hle : M / 2 ^ rk p M ≤ rQ p 0 n 0 M := Nat.le_add_right _ _
    rw [e1, e2]
    refine ⟨?_, rfl, rQ_pos n 0 (by omega) hM, Nat.le_trans b3 (Nat.pow_le_pow_right (by decide) (by omega)), ?_⟩
    · rw [show E + ((rk p M : Nat) : Int) = u by rw [hrk]; omega]; exact deq.refl _ _
    · by_cases hL : u = L
      · exact .inl hL
      · refine .inr (Nat.le_trans (Nat.pow_le_pow_right (by decide) (by omega)) (Nat.le_trans b1 hle))
theorem bt_deq {n : Bool} {M N k : Nat} {E F L : Int} (hM : 0 < M) (h : deq M E N F) (hp : L + 1 ≤ E + bl M) :
    btU N F k L = btU M E k L ∧ btQ n N F (btU M E k L) = btQ n M E (btU M E k L) ∧ btA n N F (btU M E k L) = btA n M E (btU M E k L) := by
  have hN := h.pos hM
  have hb := h.bl hM
  have hU : btU N F k L = btU M E k L := by unfold btU; rw [show F + (bl N : Int) = E + bl M by omega]
  obtain ⟨p, p1, p2, p3, p4, p5, -⟩ := bt_cut (n := n) (k := k) hM hp
  obtain ⟨q, q1, q2, q3, q4, q5, -⟩ := bt_cut (n := n) (M := N) (E := F) (L := L) (k := k) hN (show L + 1 ≤ F + bl N by omega)
  rw [hU] at q1 q4 q5
  have : q = p := by omega
  subst this
  obtain ⟨d1, d2⟩ := rnd_deq (p := q) (m := 0) n hM h
  exact ⟨hU, (p4.symm.trans (d1.trans q4)).same.symm, by rw [← p5, ← q5, d2]⟩
theorem btV_deq {n : Bool} {M N k T : Nat} {E F L : Int} (hM : 0 < M) (h : deq M E N F) (hne : E + bl M ≠ L) (hT : 2 ≤ T) : btV n M E k L T = btV n N F k L T ∧ btS n M E k L T = btS n N F k L T := by
  have hN := h.pos hM
  have hb := h.bl hM
  by_cases hl : E + bl M < L
  · obtain ⟨a1, a2⟩ := bt_low (n := n) (k := k) hM hl hT
    obtain ⟨b1, b2⟩ := bt_low (n := n) (k := k) (M := N) (E := F) (L := L) hN (by omega) hT
    rw [a1, a2, b1, b2]; exact ⟨rfl, rfl⟩
  · obtain ⟨c1, c2, c3⟩ := bt_deq (n := n) (k := k) hM h (show L + 1 ≤ E + bl M by omega)
    unfold btV btS
    rw [c1, c2, c3]; exact ⟨rfl, rfl⟩
def rI (neg : Bool) (n : Nat) : Int := if neg then -(n : Int) else n
theorem rI_abs (b : Bool) (x : Nat) : (rI b x).natAbs = x := by unfold rI; cases b <;> simp
theorem rI_neg (b : Bool) (x : Nat) : decide (rI b x < 0) = (b && decide (0 < x)) := by
  unfold rI
  cases b
  · simp
  · simp
theorem gcd_div_pos {N D : Nat} (h : 0 < D) : 0 < D / Nat.gcd N D := Nat.div_pos (Nat.gcd_le_right _ h) (Nat.gcd_pos_of_pos_right _ h)
theorem neg_div (V : Int) {D : Nat} (_h : 0 < D) : (decide (V < 0) && decide (0 < V.natAbs / Nat.gcd V.natAbs D)) = decide (V < 0) := by
  by_cases hv : V < 0
  · have h1 : 0 < V.natAbs := by omega
    rw [decide_eq_true hv, decide_eq_true (Nat.div_pos (Nat.gcd_le_left _ h1) (Nat.gcd_pos_of_pos_left _ h1))]; rfl
  · rw [decide_eq_false hv, Bool.false_and]
set_option maxRecDepth 100000 in
theorem newInt0 (w : World) :
    Calls Tryz.prog 118 #[.int .i64 0] w fun e w' => e = .returned (.pointer (some ⟨w.heap.size, 0, none⟩)) ∧ w' = w.alloc (.cells #[.bool false, .slice none 0 0] 87) := by
  go_enter Tryz.func118, Tryz.ntmps118
  go_wp2
  go_ret
  exact ⟨rfl, rfl⟩
set_option maxRecDepth 100000 in
theorem intOne_any (w : World) :
    Calls Tryz.prog 81 #[] w fun e w' => e = .returned (.pointer (some ⟨w.heap.size + 1, 0, none⟩)) ∧ w' = (w.alloc (.cells #[.int .u64 1] 98)).alloc (.cells #[.bool false, .slice (some ⟨w.heap.size, 0, none⟩) 1 1] 87) := by
  go_enter Tryz.func81, Tryz.ntmps81
  go_wp2
  go_ret
  exact ⟨by simp, by simp⟩
set_option maxRecDepth 100000 in
set_option maxHeartbeats 1600000 in
theorem norm_zero (g B : Nat) (n m : Bool) (va vb : Value) (zb : List Value) (w : World) (row : w.heap[g]? = some (.cells #[.bool n, va, .bool m, vb] 89 (0, 0))) (hSa : IsS va) (la : sLen va = 0) (hb : Own w B 98 vb zb) (hB : B ≤ w.heap.size) :
    Calls Tryz.prog 83 #[.pointer (some ⟨g, 0, none⟩)] w fun e w' => e = .returned (.pointer (some ⟨g, 0, none⟩)) ∧ ∃ r w1, NatR vb r 1 B (w.setCell ⟨g, 0, none⟩ (.bool false)) w1 ∧ w' = w1.setCell ⟨g, 3, none⟩ r := by
  have c0 := row_at (i := 0) row rfl
  have c1 := row_at (i := 1) row rfl
  have c3 := row_at (i := 3) row rfl
  obtain ⟨c0, f0⟩ := c0
  obtain ⟨c1, f1⟩ := c1
  obtain ⟨c3, f3⟩ := c3
  have row2 := rowset (i := 0) (.bool false) row
  have ho : Own (w.setCell ⟨g, 0, none⟩ (.bool false)) B 98 vb zb := hb.away row (by decide) 0 _
  have hSb := hb.isS
  have HS := Lib.hid (setWord_gen vb zb 1 B _ ho (by decide) (by simpa using hB))
  have HK : Hid (∀ r w1, NatR vb r 1 B (w.setCell ⟨g, 0, none⟩ (.bool false)) w1 → w1.cell? ⟨g, 3, none⟩ = some vb ∧ w1.frozen? ⟨g, 3, none⟩ = false) := Lib.hid (fun r w1 hr => by
    have h1 := (hr.fr g (get_lt row2) (fun hc => ho.neRow row2 (by decide) hc)).trans row2
    exact row_at (i := 3) h1 rfl)
  clear row row2 ho hb hB
  go_enter_defers Tryz.func83, Tryz.ntmps83
  go_wp2_with fail
  refine HS.out.mono ?_
  rintro _ w1 ⟨r, rfl, hr⟩
  obtain ⟨k3, e3⟩ := HK.out r w1 hr
  have hSr := hr.own.isS
  have HR := Lib.hid hr
  clear hr
  go_wp2
  simp [bodyPostD, Leaves, results, Tryz.results83, go_sem]
  exact ⟨r, w1, HR.out, rfl⟩
theorem StO.nrow {w : World} {B s L k T : Nat} {o : Option (Nat × Value)} {cs : Array Value} (h : StO w B s L o) (hr : w.heap[k]? = some (.cells cs T (0, 0))) (h1 : T ≠ 132) (h2 : T ≠ 160) (h3 : T ≠ 98) : ¬ SBk s o k := by
  intro hk
  match o, h with
  | none, ⟨_, g1, _⟩ =>
    rcases hk with rfl | ⟨_, h, _⟩
    · rw [hr] at g1; injection g1 with g1; injection g1 with _ g1; exact h1 g1
    · cases h
  | some qv, ⟨_, _, g2, g3, xs, g4, _⟩ =>
    rcases hk with rfl | ⟨_, h, h6 | ⟨h6, h7⟩⟩
    · rw [hr] at g2; injection g2 with g2; injection g2 with _ g2; exact h1 g2
    · cases h; rw [h6] at hr; rw [hr] at g3; injection g3 with g3; injection g3 with _ g3; exact h2 g3
    · cases h; exact g4.neRow hr h3 h6 h7
def NmF (g : Nat) (va vb : Value) (w w' : World) : Prop := ∀ k, k < w.heap.size → k ≠ g → (0 < sCap va → k ≠ sBlk va) → (0 < sCap vb → k ≠ sBlk vb) → w'.heap[k]? = w.heap[k]?
structure NmW (w0 : World) (va0 vb0 : Value) (g f s B N D G : Nat) (o : Option (Nat × Value)) (n m : Bool) (va vb rv : Value) (w : World) : Prop where
  row : w.heap[g]? = some (.cells #[.bool n, va, .bool m, vb] 89 (0, 0))
  rf : w.heap[f]? = some (.cells #[.bool false, rv] 87 (0, 0))
  oa : Own w B 98 va (cellsW (wds N))
  ob : Own w B 98 vb (cellsW (wds D))
  og : Own w B 98 rv (cellsW (wds G))
  ab : 0 < sCap va → 0 < sCap vb → sBlk va ≠ sBlk vb
  ag : 0 < sCap va → 0 < sCap rv → sBlk va ≠ sBlk rv
  bg : 0 < sCap vb → 0 < sCap rv → sBlk vb ≠ sBlk rv
  st : StO w B s 0 o
  na : 0 < sCap va → ¬ SBk s o (sBlk va)
  nb : 0 < sCap vb → ¬ SBk s o (sBlk vb)
  ng : 0 < sCap rv → ¬ SBk s o (sBlk rv)
  hg : B ≤ g
  tw : DivW w
  dg : 3 < B
  bl : Below B w0 w
  fr : NmF g va0 vb0 w0 w
  sw : ∀ k, SBk s o k → w0.heap.size ≤ k
  wa : 0 < sCap va → (0 < sCap va0 ∧ sBlk va = sBlk va0) ∨ w0.heap.size ≤ sBlk va
  wb : 0 < sCap vb → (0 < sCap vb0 ∧ sBlk vb = sBlk vb0) ∨ w0.heap.size ≤ sBlk vb
section
variable {w0 : World} {va0 vb0 : Value} {g f s B N D G : Nat} {o : Option (Nat × Value)} {n m : Bool} {va vb rv : Value} {w : World}
theorem NmW.below {w' : World} (h : NmW w0 va0 vb0 g f s B N D G o n m va vb rv w) (hb : Below w.heap.size w w') : NmW w0 va0 vb0 g f s B N D G o n m va vb rv w' :=
  ⟨keep_row hb h.row, keep_row hb h.rf, h.oa.below hb, h.ob.below hb, h.og.below hb, h.ab, h.ag, h.bg, h.st.below hb, h.na, h.nb, h.ng, h.hg, h.tw.below hb, h.dg, h.bl.trans (hb.mono (Nat.le_trans h.hg (Nat.le_of_lt (get_lt h.row)))), fun k hk a b c => (hb.block k (Nat.lt_of_lt_of_le hk h.bl.size)).trans (h.fr k hk a b c), h.sw, h.wa, h.wb⟩
theorem NmW.drewN (h : NmW w0 va0 vb0 g f s B N D G o n m va vb rv w) (k : Nat) : NmW w0 va0 vb0 g f s B N D G o n m va vb rv (w.drewN k) := h.below (undrewN' (Below.refl _ _))
theorem NmW.neRat {T : Nat} (h : NmW w0 va0 vb0 g f s B N D G o n m va vb rv w) {k : Nat} {cs : Array Value} (hr : w.heap[k]? = some (.cells cs T (0, 0))) (hT : T ≠ 89) : k ≠ g := fun he => by
  have := h.row
  rw [← he, hr] at this
  injection this with h1; injection h1 with _ h2; exact hT h2
theorem NmW.put {i : Nat} {u : Value} {n' m' : Bool} (h : NmW w0 va0 vb0 g f s B N D G o n m va vb rv w) (he : (#[.bool n, va, .bool m, vb] : Array Value).setIfInBounds i u = #[.bool n', va, .bool m', vb]) : NmW w0 va0 vb0 g f s B N D G o n' m' va vb rv (w.setCell ⟨g, i, none⟩ u) := by
  have h1 := rowset (i := i) u h.row
  rw [he] at h1
  have hns : ¬ SBk s o g := h.st.nrow h.row (by decide) (by decide) (by decide)
  refine ⟨h1, ?_, h.oa.away h.row (by decide) i u, h.ob.away h.row (by decide) i u, h.og.away h.row (by decide) i u, h.ab, h.ag, h.bg, h.st.keep fun k hk => ?_, h.na, h.nb, h.ng, h.hg, ?_, h.dg, bset h.bl h.hg, fun k hk a b c => (heap_setCell_other _ _ _ _ (by simpa using a)).trans (h.fr k hk a b c), h.sw, h.wa, h.wb⟩
  · rw [heap_setCell_other _ _ _ _ (by simpa using h.neRat h.rf (by decide))]; exact h.rf
  · exact heap_setCell_other _ _ _ _ (by simp only; intro he2; exact hns (he2 ▸ hk))
  · exact h.tw.belowB (bset (Below.refl B w) h.hg) h.dg
theorem NmW.divA {q : Value} {o' : Option (Nat × Value)} {w' : World} (h : NmW w0 va0 vb0 g f s B N D G o n m va vb rv w) (d : DvS va q (N / G) B s o o' w w') :
    w'.heap[g]? = some (.cells #[.bool n, va, .bool m, vb] 89 (0, 0)) ∧ NmW w0 va0 vb0 g f s B (N / G) D G o' n m q vb rv (w'.setCell ⟨g, 1, none⟩ q) := by
  have hz := d.below.size
  have hns : ¬ SBk s o g := h.st.nrow h.row (by decide) (by decide) (by decide)
  have hnf : ¬ SBk s o f := h.st.nrow h.rf (by decide) (by decide) (by decide)
  have r1 : w'.heap[g]? = some (.cells #[.bool n, va, .bool m, vb] 89 (0, 0)) := (d.fr g (get_lt h.row) hns (fun hc => h.oa.neRow h.row (by decide) hc)).trans h.row
  have r2 : w'.heap[f]? = some (.cells #[.bool false, rv] 87 (0, 0)) := (d.fr f (get_lt h.rf) hnf (fun hc => h.oa.neRow h.rf (by decide) hc)).trans h.rf
  have ob' : Own w' B 98 vb (cellsW (wds D)) := h.ob.same fun hc => d.fr _ (h.ob.lt hc).2 (h.nb hc) (fun ha => (h.ab ha hc).symm)
  have og' : Own w' B 98 rv (cellsW (wds G)) := h.og.same fun hc => d.fr _ (h.og.lt hc).2 (h.ng hc) (fun ha => (h.ag ha hc).symm)
  have hq : ∀ {v : Value} {xs : List Value}, Own w B 98 v xs → (0 < sCap va → 0 < sCap v → sBlk va ≠ sBlk v) → 0 < sCap q → 0 < sCap v → sBlk q ≠ sBlk v := fun {v xs} ho hv hc hcv he => by
    rcases d.at' hc with ⟨a, b⟩ | a
    · exact hv a hcv (b.symm.trans he)
    · have := (ho.lt hcv).2; omega
  have hs' : ∀ {v : Value} {xs : List Value}, Own w B 98 v xs → (0 < sCap v → ¬ SBk s o (sBlk v)) → 0 < sCap v → ¬ SBk s o' (sBlk v) := fun {v xs} ho hv hc hk => by
    rcases d.sb _ hk with a | a
    · exact hv hc a
    · have := (ho.lt hc).2; omega
  have hbz := h.bl.size
  have hsw : ∀ k, SBk s o' k → w0.heap.size ≤ k := fun k hk => by
    rcases d.sb k hk with a | a
    · exact h.sw k a
    · omega
  have hwq : 0 < sCap q → (0 < sCap va0 ∧ sBlk q = sBlk va0) ∨ w0.heap.size ≤ sBlk q := fun hc => by
    rcases d.at' hc with ⟨a, b⟩ | a
    · rcases h.wa a with ⟨x, y⟩ | x
      · exact .inl ⟨x, b.trans y⟩
      · exact .inr (by omega)
    · exact .inr (by omega)
  have hfr : ∀ k, k < w0.heap.size → k ≠ g → (0 < sCap va0 → k ≠ sBlk va0) → (0 < sCap vb0 → k ≠ sBlk vb0) → w'.heap[k]? = w0.heap[k]? := fun k hk a b c => by
    refine (d.fr k (by omega) (fun hs => by have := h.sw k hs; omega) (fun hc he => ?_)).trans (h.fr k hk a b c)
    rcases h.wa hc with ⟨x, y⟩ | x
    · exact b x (he.trans y)
    · omega
  have h1 := rowset (i := 1) q r1
  have hns' : ¬ SBk s o' g := d.st.nrow r1 (by decide) (by decide) (by decide)
  refine ⟨r1, h1, ?_, d.own.away r1 (by decide) 1 q, ob'.away r1 (by decide) 1 q, og'.away r1 (by decide) 1 q, hq h.ob h.ab, hq h.og h.ag, h.bg, d.st.keep fun k hk => ?_, d.nsq, hs' h.ob h.nb, hs' h.og h.ng, h.hg, ?_, h.dg, bset (h.bl.trans d.below) h.hg, fun k hk a b c => ?_, hsw, hwq, h.wb⟩
  · rw [heap_setCell_other _ _ _ _ (by simpa using h.neRat h.rf (by decide))]; exact r2
  · exact heap_setCell_other _ _ _ _ (by simp only; intro he2; exact hns' (he2 ▸ hk))
  · exact (h.tw.belowB d.below h.dg).belowB (bset (Below.refl B w') h.hg) h.dg
  · exact (heap_setCell_other _ _ _ _ (by simpa using a)).trans (hfr k hk a b c)
theorem NmW.divB {q : Value} {o' : Option (Nat × Value)} {w' : World} (h : NmW w0 va0 vb0 g f s B N D G o n m va vb rv w) (d : DvS vb q (D / G) B s o o' w w') :
    w'.heap[g]? = some (.cells #[.bool n, va, .bool m, vb] 89 (0, 0)) ∧ NmW w0 va0 vb0 g f s B N (D / G) G o' n m va q rv (w'.setCell ⟨g, 3, none⟩ q) := by
  have hz := d.below.size
  have hns : ¬ SBk s o g := h.st.nrow h.row (by decide) (by decide) (by decide)
  have hnf : ¬ SBk s o f := h.st.nrow h.rf (by decide) (by decide) (by decide)
  have r1 : w'.heap[g]? = some (.cells #[.bool n, va, .bool m, vb] 89 (0, 0)) := (d.fr g (get_lt h.row) hns (fun hc => h.ob.neRow h.row (by decide) hc)).trans h.row
  have r2 : w'.heap[f]? = some (.cells #[.bool false, rv] 87 (0, 0)) := (d.fr f (get_lt h.rf) hnf (fun hc => h.ob.neRow h.rf (by decide) hc)).trans h.rf
  have oa' : Own w' B 98 va (cellsW (wds N)) := h.oa.same fun hc => d.fr _ (h.oa.lt hc).2 (h.na hc) (fun hb => h.ab hc hb)
  have og' : Own w' B 98 rv (cellsW (wds G)) := h.og.same fun hc => d.fr _ (h.og.lt hc).2 (h.ng hc) (fun hb => (h.bg hb hc).symm)
  have hq : ∀ {v : Value} {xs : List Value}, Own w B 98 v xs → (0 < sCap vb → 0 < sCap v → sBlk vb ≠ sBlk v) → 0 < sCap q → 0 < sCap v → sBlk q ≠ sBlk v := fun {v xs} ho hv hc hcv he => by
    rcases d.at' hc with ⟨a, b⟩ | a
    · exact hv a hcv (b.symm.trans he)
    · have := (ho.lt hcv).2; omega
  have hs' : ∀ {v : Value} {xs : List Value}, Own w B 98 v xs → (0 < sCap v → ¬ SBk s o (sBlk v)) → 0 < sCap v → ¬ SBk s o' (sBlk v) := fun {v xs} ho hv hc hk => by
    rcases d.sb _ hk with a | a
    · exact hv hc a
    · have := (ho.lt hc).2; omega
  have hbz := h.bl.size
  have hsw : ∀ k, SBk s o' k → w0.heap.size ≤ k := fun k hk => by
    rcases d.sb k hk with a | a
    · exact h.sw k a
    · omega
  have hwq : 0 < sCap q → (0 < sCap vb0 ∧ sBlk q = sBlk vb0) ∨ w0.heap.size ≤ sBlk q := fun hc => by
    rcases d.at' hc with ⟨a, b⟩ | a
    · rcases h.wb a with ⟨x, y⟩ | x
      · exact .inl ⟨x, b.trans y⟩
      · exact .inr (by omega)
    · exact .inr (by omega)
  have hfr : ∀ k, k < w0.heap.size → k ≠ g → (0 < sCap va0 → k ≠ sBlk va0) → (0 < sCap vb0 → k ≠ sBlk vb0) → w'.heap[k]? = w0.heap[k]? := fun k hk a b c => by
    refine (d.fr k (by omega) (fun hs => by have := h.sw k hs; omega) (fun hc he => ?_)).trans (h.fr k hk a b c)
    rcases h.wb hc with ⟨x, y⟩ | x
    · exact c x (he.trans y)
    · omega
  have h1 := rowset (i := 3) q r1
  have hns' : ¬ SBk s o' g := d.st.nrow r1 (by decide) (by decide) (by decide)
  refine ⟨r1, h1, ?_, oa'.away r1 (by decide) 3 q, d.own.away r1 (by decide) 3 q, og'.away r1 (by decide) 3 q, fun ha hc => (hq h.oa (fun x y => (h.ab y x).symm) hc ha).symm, h.ag, hq h.og h.bg, d.st.keep fun k hk => ?_, hs' h.oa h.na, d.nsq, hs' h.og h.ng, h.hg, ?_, h.dg, bset (h.bl.trans d.below) h.hg, fun k hk a b c => ?_, hsw, h.wa, hwq⟩
  · rw [heap_setCell_other _ _ _ _ (by simpa using h.neRat h.rf (by decide))]; exact r2
  · exact heap_setCell_other _ _ _ _ (by simp only; intro he2; exact hns' (he2 ▸ hk))
  · exact (h.tw.belowB d.below h.dg).belowB (bset (Below.refl B w') h.hg) h.dg
  · exact (heap_setCell_other _ _ _ _ (by simpa using a)).trans (hfr k hk a b c)
theorem NmW.callA (h : NmW w0 va0 vb0 g f s B N D G o n m va vb rv w) (hG : 0 < G) (hN : 0 < N) (hg40 : nw G < 40) (hn : nw N ≤ 90000) : Calls Tryz.prog 61 #[va, .pointer (some ⟨s, 0, none⟩), .slice none 0 0, va, rv] w fun e w' => ∃ q r, e = .returned (.tuple #[q, r]) ∧ IsS q ∧ IsS r ∧ ∃ o', DvS va q (N / G) B s o o' w w' := by
  have hca : 0 < sCap va := by have h1 := h.oa.len; have h2 := h.oa.isS.le; rw [cellsW_length, wds_length] at h1; have := nw_pos hN; omega
  have hcg : 0 < sCap rv := by have h1 := h.og.len; have h2 := h.og.isS.le; rw [cellsW_length, wds_length] at h1; have := nw_pos hG; omega
  refine (div_to va va rv _ N G B s o w h.st h.oa h.na (h.oa.ro (fun d hd => wds_lt hd)) (Al.self _) (h.na hca) (h.og.ro (fun d hd => wds_lt hd)) (h.ng hcg) hG hg40 hn (Nat.le_trans h.hg (Nat.le_of_lt (get_lt h.row))) h.tw h.dg).mono ?_
  rintro e w' ⟨q, r, h1, o', h2, h3, -⟩
  exact ⟨q, r, h1, h2.own.isS, h3.isS, o', h2⟩
theorem NmW.callB (h : NmW w0 va0 vb0 g f s B N D G o n m va vb rv w) (hG : 0 < G) (hD : 0 < D) (hg40 : nw G < 40) (hn : nw D ≤ 90000) : Calls Tryz.prog 61 #[vb, .pointer (some ⟨s, 0, none⟩), .slice none 0 0, vb, rv] w fun e w' => ∃ q r, e = .returned (.tuple #[q, r]) ∧ IsS q ∧ IsS r ∧ ∃ o', DvS vb q (D / G) B s o o' w w' := by
  have hca : 0 < sCap vb := by have h1 := h.ob.len; have h2 := h.ob.isS.le; rw [cellsW_length, wds_length] at h1; have := nw_pos hD; omega
  have hcg : 0 < sCap rv := by have h1 := h.og.len; have h2 := h.og.isS.le; rw [cellsW_length, wds_length] at h1; have := nw_pos hG; omega
  refine (div_to vb vb rv _ D G B s o w h.st h.ob h.nb (h.ob.ro (fun d hd => wds_lt hd)) (Al.self _) (h.nb hca) (h.og.ro (fun d hd => wds_lt hd)) (h.ng hcg) hG hg40 hn (Nat.le_trans h.hg (Nat.le_of_lt (get_lt h.row))) h.tw h.dg).mono ?_
  rintro e w' ⟨q, r, h1, o', h2, h3, -⟩
  exact ⟨q, r, h1, h2.own.isS, h3.isS, o', h2⟩
structure NmP (g B N D : Nat) (n : Bool) (va vb : Value) (w w' : World) : Prop where
  rat : RatP w' B g n N D
  bl : Below B w w'
  fr : NmF g va vb w w'
theorem NmW.fin {q0 : Nat} {v0 : Value} (h : NmW w0 va0 vb0 g f s B N D G (some (q0, v0)) n false va vb rv w) : w.heap[s]? = some (.cells #[.pointer (some ⟨q0, 0, none⟩)] 132 (0, 0)) ∧ w.heap[q0]? = some (.cells #[v0] 160 (0, 0)) ∧ IsS v0 ∧ NmP g B N D n va0 vb0 w0 (w.setCell ⟨q0, 0, none⟩ (subS v0 0 0)) := by
  obtain ⟨_, h1, h2, h3, xs, h4, _⟩ := h.st
  simp only at h1 h2 h3 h4
  have hq := h.sw q0 (.inr ⟨_, rfl, .inl rfl⟩)
  refine ⟨h2, h3, h4.isS, ⟨va, vb, h.hg, ?_, h.oa.away h3 (by decide) 0 _, h.ob.away h3 (by decide) 0 _⟩, bset h.bl h1, fun k hk a b c => (heap_setCell_other _ _ _ _ (by simp only; omega)).trans (h.fr k hk a b c)⟩
  rw [heap_setCell_other _ _ _ _ (by simpa using (h.neRat h3 (by decide)).symm)]; exact h.row
theorem NmW.fin0 (h : NmW w0 va0 vb0 g f s B N D G none n false va vb rv w) : w.cell? ⟨s, 0, none⟩ = some (.pointer none) ∧ NmP g B N D n va0 vb0 w0 w := by
  obtain ⟨_, h1, _⟩ := h.st
  exact ⟨(row_at (i := 0) h1 rfl).1, ⟨va, vb, h.hg, h.row, h.oa, h.ob⟩, h.bl, h.fr⟩
end
end Go.Proofs.YtoddjkpckpekcaaGreatDoor
