/-
Texts of this proof, joined: GcI SfA NmA NmB DlE NmD NmE. No condition.
-/
import Derived.Test.YtdepidpgbgfjlaaGreatDoorK06
import Derived.Test.YtdepidpgbgfjlaaGreatDoorK11
import Derived.Test.YtdepidpgbgfjlaaGreatDoorK14
import Derived.Test.YtdepidpgbgfjlaaGreatDoorK16
import Derived.Test.YtdepidpgbgfjlaaGreatDoorK18
import Derived.Test.YtdepidpgbgfjlaaGreatDoorK21
import Derived.Test.YtdepidpgbgfjlaaGreatDoorK23
import Derived.Test.YtdepidpgbgfjlaaGreatDoorK24
import Derived.LaidEqlPtr
namespace Go.Proofs.YtdepidpgbgfjlaaGreatDoor
open Go.RowKit

theorem Quad.swap {w : World} {B a b q r : Nat} {ma mb mq mr : Bool} {va vb vq vr : Value} {za zb zq zr : List Value} (h : Quad w B a b q r ma mb mq mr va vb vq vr za zb zq zr) : Quad w B b a q r mb ma mq mr vb va vq vr zb za zq zr :=
  ⟨h.bb, h.ba, h.bq, h.br, h.sab.symm, h.sbq, h.sbr, h.saq, h.sar, h.sqr, h.nab.symm, h.nbq, h.nbr, h.naq, h.nar, h.nqr⟩
theorem Quad.euc {w : World} {B a b q r : Nat} {ma mb mq mr : Bool} {va vb vq vr : Value} {za zb zq zr : List Value} (h : Quad w B a b q r ma mb mq mr va vb vq vr za zb zq zr) : Quad w B b r q a mb mr mq ma vb vr vq va zb zr zq za :=
  ⟨h.bb, h.br, h.bq, h.ba, h.sbr, h.sbq, h.sab.symm, h.sqr.symm, h.sar.symm, h.saq.symm, h.nbr, h.nbq, h.nab.symm, h.nqr.symm, h.nar.symm, h.naq.symm⟩
theorem Bx.drewN {w : World} {B c : Nat} {m : Bool} {v : Value} {zs : List Value} (h : Bx w B c m v zs) (k : Nat) : Bx (w.drewN k) B c m v zs := ⟨h.le, h.row, h.own.drewN k⟩
theorem Quad.drewN {w : World} {B a b q r : Nat} {ma mb mq mr : Bool} {va vb vq vr : Value} {za zb zq zr : List Value} (h : Quad w B a b q r ma mb mq mr va vb vq vr za zb zq zr) (k : Nat) : Quad (w.drewN k) B a b q r ma mb mq mr va vb vq vr za zb zq zr :=
  { h with ba := h.ba.drewN k, bb := h.bb.drewN k, bq := h.bq.drewN k, br := h.br.drewN k }
theorem Bx.alloc {w : World} {B c : Nat} {m : Bool} {v : Value} {zs : List Value} (h : Bx w B c m v zs) (o : Obj) : Bx (w.alloc o) B c m v zs := ⟨h.le, (heap_alloc_lt h.row).1, h.own.alloc o⟩
theorem Bx.new (w : World) {B : Nat} (h : B ≤ w.heap.size) : Bx (w.alloc (.cells #[.bool false, .slice none 0 0] 123)) B w.heap.size false (.slice none 0 0) [] := ⟨h, heap_alloc_new w _, Own.nil _ _ _⟩
theorem quad_start {w1 w2 : World} {B a : Nat} {va vb : Value} {N M : Nat} (ha : Bx w1 B a false va (cellsW (wds N))) (hf : ∀ t, t < w1.heap.size → w2.heap[t]? = w1.heap[t]?) (hb : Bx w2 B w1.heap.size false vb (cellsW (wds M))) (hs : 0 < sCap vb → w1.heap.size < sBlk vb) (k : Nat) (hk : k = w2.heap.size + 1) :
    Quad ((w2.alloc (.cells #[.bool false, .slice none 0 0] 123)).alloc (.cells #[.bool false, .slice none 0 0] 123)) B a w1.heap.size w2.heap.size k false false false false va vb (.slice none 0 0) (.slice none 0 0) (cellsW (wds N)) (cellsW (wds M)) [] [] := by
  subst hk
  have l1 := get_lt ha.row
  have l2 := get_lt hb.row
  have ha2 : Bx w2 B a false va (cellsW (wds N)) := ⟨ha.le, (hf _ l1).trans ha.row, ha.own.same fun hc => hf _ (ha.own.lt hc).2⟩
  have hB : B ≤ w2.heap.size := Nat.le_trans hb.le (Nat.le_of_lt l2)
  have hz : (w2.alloc (.cells #[.bool false, .slice none 0 0] 123)).heap.size = w2.heap.size + 1 := by simp
  have hn : ∀ v : Value, Sep v (.slice none 0 0) := fun v _ h => absurd h (by decide)
  have hr := Bx.new (w2.alloc (.cells #[.bool false, .slice none 0 0] 123)) (B := B) (by omega)
  rw [hz] at hr
  refine ⟨(ha2.alloc _).alloc _, (hb.alloc _).alloc _, (Bx.new w2 hB).alloc _, hr, ?_, hn _, hn _, hn _, hn _, hn _, by omega, by omega, by omega, by omega, by omega, by omega⟩
  intro hv hu he
  have := (ha.own.lt hv).2
  have := hs hu
  omega
structure Lg (w wr : World) (B a b q r X Y G : Nat) : Prop where
  ex : ∃ (mq mr : Bool) (va vb vq vr : Value) (zq zr : List Value), Quad wr B a b q r false false mq mr va vb vq vr (cellsW (wds X)) (cellsW (wds Y)) zq zr
  le : Y ≤ X
  pos : 0 < X
  big : nw X < 40
  gcd : Nat.gcd X Y = G
  bl : Below B w wr
theorem Lg.drewN {w wr : World} {B a b q r X Y G : Nat} (h : Lg w wr B a b q r X Y G) (k : Nat) : Lg w (wr.drewN k) B a b q r X Y G := by
  obtain ⟨mq, mr, va, vb, vq, vr, zq, zr, Q⟩ := h.ex
  exact ⟨⟨mq, mr, va, vb, vq, vr, zq, zr, Q.drewN k⟩, h.le, h.pos, h.big, h.gcd, undrewN' h.bl⟩
theorem Lg.cells {w wr : World} {B a b q r X Y G : Nat} (h : Lg w wr B a b q r X Y G) : ∃ va vb, wr.cell? ⟨a, 1, none⟩ = some va ∧ wr.cell? ⟨b, 1, none⟩ = some vb ∧ IsS va ∧ IsS vb ∧ sLen va = nw X ∧ sLen vb = nw Y := by
  obtain ⟨mq, mr, va, vb, vq, vr, zq, zr, Q⟩ := h.ex
  exact ⟨va, vb, (row_at (i := 1) Q.ba.row rfl).1, (row_at (i := 1) Q.bb.row rfl).1, Q.ba.own.isS, Q.bb.own.isS, by rw [Q.ba.own.len, cellsW_length, wds_length], by rw [Q.bb.own.len, cellsW_length, wds_length]⟩
theorem Lg.sim {w wr : World} {B a b q r X Y G : Nat} (h : Lg w wr B a b q r X Y G) (h2 : 2 ≤ nw Y) :
    Calls Tryz.prog 226 #[.pointer (some ⟨a, 0, none⟩), .pointer (some ⟨b, 0, none⟩)] wr (SimP X Y wr) := by
  obtain ⟨mq, mr, va, vb, vq, vr, zq, zr, Q⟩ := h.ex
  have hb := h.big
  exact sim_any a b X Y va vb wr (row_at (i := 1) Q.ba.row rfl).1 (row_at (i := 1) Q.bb.row rfl).1 Q.ba.ro.rw Q.bb.ro.rw h.le h2 (by omega)
theorem nw_two_pos {Y : Nat} (h : 1 ≤ nw Y) : 0 < Y := by
  rcases Nat.eq_zero_or_pos Y with h0 | h0
  · subst h0; exact absurd h (by decide)
  · exact h0
theorem Lg.upd {w wr : World} {B a b q r X Y G u0 u1 v0 v1 : Nat} {ev : Bool} (h : Lg w wr B a b q r X Y G) (h2 : 2 ≤ nw Y) (hv : v0 ≠ 0)
    (hl : u0 < 18446744073709551616 ∧ u1 < 18446744073709551616 ∧ v0 < 18446744073709551616 ∧ v1 < 18446744073709551616 ∧ Lead X Y u0 u1 v0 v1 ev) :
    Calls Tryz.prog 227 #[.pointer (some ⟨a, 0, none⟩), .pointer (some ⟨b, 0, none⟩), .pointer (some ⟨q, 0, none⟩), .pointer (some ⟨r, 0, none⟩), .int .u64 u0, .int .u64 u1, .int .u64 v0, .int .u64 v1, .bool ev] wr
      fun e w' => e = .returned (.tuple #[]) ∧ ∃ X' Y', Lg w w' B a b q r X' Y' G ∧ Y' < Y := by
  obtain ⟨mq, mr, va, vb, vq, vr, zq, zr, Q⟩ := h.ex
  have hb := h.big
  have hYX := nw_mono h.le
  obtain ⟨l0, l1, l2, l3, hd⟩ := hl
  rcases hd with hd | ⟨d1, d2, X', Y', hs, hi⟩
  · exact absurd hd hv
  refine (lehmerUpdate_any a b q r B X Y X' Y' u0 u1 v0 v1 ev mq mr va vb vq vr zq zr wr Q h.pos (nw_two_pos (by omega)) (by omega) (by omega) l0 l1 l2 l3 d1 d2 hs.lt hi).mono ?_
  rintro e w' ⟨h1, h3, h4⟩
  have hX' := nw_mono hs.top
  exact ⟨h1, X', Y', ⟨h3, Nat.le_of_lt hs.lt, by have := hs.lt; omega, by omega, hs.gcd.trans h.gcd, h.bl.trans h4⟩, hs.less⟩
theorem Lg.euc {w wr : World} {B a b q r X Y G : Nat} (h : Lg w wr B a b q r X Y G) (hY : 0 < Y) (hT : DivW w) (hg : 3 < B) :
    Calls Tryz.prog 228 #[.pointer (some ⟨a, 0, none⟩), .pointer (some ⟨b, 0, none⟩), .pointer none, .pointer none, .pointer (some ⟨q, 0, none⟩), .pointer (some ⟨r, 0, none⟩), .bool false] wr
      fun e w' => e = .returned (.tuple #[.pointer (some ⟨b, 0, none⟩), .pointer (some ⟨r, 0, none⟩), .pointer (some ⟨a, 0, none⟩), .pointer none, .pointer none]) ∧ Lg w w' B b r q a Y (X % Y) G := by
  obtain ⟨mq, mr, va, vb, vq, vr, zq, zr, Q⟩ := h.ex
  have hb := h.big
  have hYX := nw_mono h.le
  refine (euclid_any a b q r B X Y mq mr va vb vq vr zq zr wr Q h.pos hY (by omega) (by omega) (hT.belowB h.bl hg) hg).mono ?_
  rintro e w' ⟨h1, ⟨vq', vr', h3⟩, h4⟩
  have hm := Nat.mod_lt X hY
  refine ⟨h1, ⟨false, false, vb, vr', vq', va, _, _, h3.euc⟩, Nat.le_of_lt hm, hY, by omega, ?_, h.bl.trans h4⟩
  rw [← h.gcd, Nat.gcd_comm Y, ← Nat.gcd_rec, Nat.gcd_comm]
def numAt (w : World) (v : Value) : Nat := wv ((List.range (sLen v)).map fun i => match w.cell? ⟨sBlk v, sOff v + i, none⟩ with | some (.int _ z) => z.toNat | _ => 0)
def boxN (w : World) (p : Value) : Nat := match p with
  | .pointer (some a) => match w.cell? ⟨a.block, 1, none⟩ with | some v => numAt w v | none => 0
  | _ => 0
theorem numAt_of {w : World} {v : Value} {Y : Nat} (h : RW w v (wds Y)) : numAt w v = Y := by
  unfold numAt
  rw [show sLen v = (wds Y).length from h.len]
  have : ((List.range (wds Y).length).map fun i => match w.cell? ⟨sBlk v, sOff v + i, none⟩ with | some (.int _ z) => z.toNat | _ => 0) = wds Y := by
    refine List.ext_getElem (by simp) ?_
    intro i h1 h2
    have := h.at i (.int .u64 ((wds Y)[i] : Int)) (by simp [cellsW, List.getElem?_map, List.getElem?_eq_getElem h2])
    simp [this]
  rw [this, wv_wds]
theorem Lg.boxN {w wr : World} {B a b q r X Y G : Nat} (h : Lg w wr B a b q r X Y G) : boxN wr (.pointer (some ⟨b, 0, none⟩)) = Y := by
  obtain ⟨mq, mr, va, vb, vq, vr, zq, zr, Q⟩ := h.ex
  have h1 : wr.cell? ⟨b, 1, none⟩ = some vb := (row_at (i := 1) Q.bb.row rfl).1
  simp only [Proofs.YtdepidpgbgfjlaaGreatDoor.boxN, h1]
  exact numAt_of Q.bb.ro.rw
theorem Lg.done {w wr : World} {B a b q r X G : Nat} (h : Lg w wr B a b q r X 0 G) : ∃ v, Bx wr B a false v (cellsW (wds G)) ∧ Below B w wr := by
  have hG := h.gcd
  rw [Nat.gcd_zero_right] at hG
  obtain ⟨mq, mr, va, vb, vq, vr, zq, zr, Q⟩ := h.ex
  rw [← hG]
  exact ⟨va, Q.ba, h.bl⟩
theorem wds_single {X : Nat} (h : nw X = 1) : wds X = [X] := by
  have h1 : (wds X).length = 1 := by rw [wds_length, h]
  have h2 := wv_wds X
  match hh : wds X, h1 with
  | [d], _ => rw [hh] at h2; simp [wv] at h2; rw [h2]
theorem single_lt {X : Nat} (h : nw X = 1) : X < 18446744073709551616 := wds_lt (n := X) (by rw [wds_single h]; simp)
theorem nw_single {X : Nat} (h0 : 0 < X) (h : X < 18446744073709551616) : nw X = 1 := by
  have h1 := nw_pos h0
  have h2 : nw X ≤ 1 := nw_le (by rw [Nat.pow_one]; exact h)
  omega
theorem Lg.words {w wr : World} {B a b q r X Y G : Nat} (h : Lg w wr B a b q r X Y G) (hX : nw X = 1) (hY : 0 < Y) :
    ∃ va vb, (wr.cell? ⟨a, 1, none⟩ = some va ∧ wr.cell? ⟨b, 1, none⟩ = some vb ∧ IsS va ∧ IsS vb ∧ sLen va = 1 ∧ sLen vb = 1 ∧ wr.cell? ⟨sBlk va, sOff va, none⟩ = some (.int .u64 (X : Int)) ∧ wr.cell? ⟨sBlk vb, sOff vb, none⟩ = some (.int .u64 (Y : Int)) ∧ wr.frozen? ⟨sBlk va, sOff va, none⟩ = false) ∧
      ∀ (k g : Nat), 0 < g → g < 18446744073709551616 → Bx ((wr.drewN k).setCell ⟨sBlk va, sOff va, none⟩ (.int .u64 (g : Int))) B a false va (cellsW (wds g)) ∧ Below B w ((wr.drewN k).setCell ⟨sBlk va, sOff va, none⟩ (.int .u64 (g : Int))) := by
  have hY1 : nw Y = 1 := by have h1 := nw_mono h.le; have h2 := nw_pos hY; omega
  obtain ⟨mq, mr, va, vb, vq, vr, zq, zr, Q⟩ := h.ex
  have ba := Q.ba
  have bb := Q.bb
  rw [wds_single hX] at ba
  rw [wds_single hY1] at bb
  have la : sLen va = 1 := ba.own.len
  have lb : sLen vb = 1 := bb.own.len
  have hcap : 0 < sCap va := by have := ba.own.isS.le; omega
  refine ⟨va, vb, ⟨(row_at (i := 1) ba.row rfl).1, (row_at (i := 1) bb.row rfl).1, ba.own.isS, bb.own.isS, la, lb, ?_, ?_, ?_⟩, fun k g h0 hg => ?_⟩
  · have h1 : RW wr va [X] := wds_single hX ▸ Q.ba.ro.rw
    exact h1.at 0 _ rfl
  · have h1 : RW wr vb [Y] := wds_single hY1 ▸ Q.bb.ro.rw
    exact h1.at 0 _ rfl
  · obtain ⟨cur, hc⟩ := ba.own.rowOf hcap
    exact frozen_of_row wr _ _ _ _ hc
  · have hbk : B ≤ sBlk va := (ba.own.lt hcap).1
    have h1 := (ba.own.drewN k).set (i := 0) (by simp [cellsW]) (.int .u64 (g : Int))
    rw [wds_single (nw_single h0 hg)]
    refine ⟨⟨ba.le, ?_, h1⟩, bset (undrewN' h.bl) hbk⟩
    exact (heap_setCell_other _ _ _ _ (by
      have := ba.own.neRow ba.row (by decide) hcap
      simpa using fun he => this he)).trans ba.row
theorem eqlW_same (w : World) (a : Addr) : (binOp .eql 253 (.pointer (some a)) (.pointer (some a))).run Tryz.prog w = .ok (.bool true) w := by
  obtain ⟨j, hj, hz⟩ := info_size sizeWord
  exact run_eql_ptr_same w a Tryz.underlying253 hj
set_option maxRecDepth 100000 in
theorem same_self (v : Value) (L : Nat) (w : World) (hS : IsS v) (hL : sLen v = L) (h0 : 0 < L) (_hm : L ≤ 1000000000) :
    Calls Tryz.prog 191 #[v, v] w fun e w' => e = .returned (.bool true) ∧ ∃ m, w' = w.drewN m := by
  have t1 : decide (0 < L) = true := decide_eq_true h0
  have hq := fun (m i : Nat) => eqlW_same (w.drewN m) ⟨sBlk v, i, none⟩
  go_enter Tryz.func191, Tryz.ntmps191
  go_wp2_with fail
  go_quiet (fail)
  go_wp2
  go_ret
  exact ⟨rfl, _, rfl⟩
set_option maxRecDepth 100000 in
theorem same_none (v : Value) (w : World) (hS : IsS v) (hL : sLen v = 0) :
    Calls Tryz.prog 191 #[v, v] w fun e w' => e = .returned (.bool false) ∧ ∃ m, w' = w.drewN m := by
  go_enter Tryz.func191, Tryz.ntmps191
  go_wp2_with fail
  go_quiet (fail)
  go_wp2
  go_ret
  exact ⟨rfl, _, rfl⟩
set_option maxRecDepth 100000 in
set_option maxHeartbeats 800000 in
theorem lsh_same (v : Value) (X s B : Nat) (w : World) (hv : Own w B 164 v (cellsW (wds X))) (hz : X = 0 → v = .slice none 0 0) (hl : nw X ≤ 10000000) (hs : s ≤ 1000000000) (hB : B ≤ w.heap.size) :
    Calls Tryz.prog 132 #[v, v, .int .u64 s] w fun e w' => ∃ r, e = .returned r ∧ NatR v r (X * 2 ^ s) B w w' := by
  rcases Nat.eq_zero_or_pos X with h0 | h0
  · have hv0 := hz h0
    subst hv0
    have hS : IsS (.slice none 0 0) := IsS.nil
    have Q0 : ∀ k, NatR (.slice none 0 0) (.slice none 0 0) (X * 2 ^ s) B w (w.drewN k) := fun k => by
      rw [h0, Nat.zero_mul]
      exact ⟨Own.nil _ _ _, undrewN' (Below.refl _ _), fun _ _ _ => rfl, fun hc => absurd hc (by decide)⟩
    have HQ0 := Lib.hid Q0
    rcases Nat.eq_zero_or_pos s with s0 | s0
    · have t0 : ((s : Int) == 0) = true := by rw [beq_iff_eq]; omega
      have HSET : Hid (∀ k, Calls Tryz.prog 133 #[.slice none 0 0, .slice none 0 0] (w.drewN k) fun e w' => ∃ r, e = .returned r ∧ NatR (.slice none 0 0) r (X * 2 ^ s) B w w') := Lib.hid (fun k => by
        have hx : RW (w.drewN k) (.slice none 0 0) (wds 0) := ⟨⟨IsS.nil, rfl, fun i hi => absurd hi (by rw [ints_length, wds_zero]; simp)⟩, fun d hd => absurd hd (by simp [wds_zero])⟩
        refine (set_at _ _ [] (wds 0) B (w.drewN k) (Own.nil _ _ _) hx (by decide) hB).mono ?_
        rintro _ w' ⟨r, rfl, h1, h2, h3, h4⟩
        rw [h0, Nat.zero_mul]
        exact ⟨r, rfl, h1, undrewN h2, fun k hk hn => h3 k hk hn, h4⟩)
      have HSN := Lib.hid (same_none (.slice none 0 0) w hS rfl)
      have HAN := Lib.hid (fun k => alias_nil (.slice none 0 0) (w.drewN k) hS)
      clear hv hz h0 s0 Q0
      go_enter Tryz.func132, Tryz.ntmps132
      go_wp2_with fail
      refine HSN.out.mono ?_
      rintro _ _ ⟨rfl, k, rfl⟩
      go_wp2_with fail
      refine (HAN.out _).mono ?_
      rintro _ _ ⟨rfl, j, hj⟩
      rw [show (w.drewN k).drewN j = w.drewN (k + j) from World.drewN_drewN ..] at hj
      subst hj
      go_wp2_with fail
      refine (HSET.out _).mono ?_
      rintro _ w2 ⟨r, rfl, h⟩
      have Q := Lib.hid h
      have hSq := h.own.isS
      clear h
      go_wp2
      go_ret
      exact ⟨_, rfl, Q.out⟩
    · have t0 : ((s : Int) == 0) = false := by rw [beq_eq_false_iff_ne]; omega
      clear hv hz h0 s0 Q0
      go_enter Tryz.func132, Tryz.ntmps132
      go_wp2
      go_ret
      exact ⟨_, rfl, HQ0.out 0⟩
  · rcases Nat.eq_zero_or_pos s with s0 | s0
    · have t0 : ((s : Int) == 0) = true := by rw [beq_iff_eq]; omega
      have hS := hv.isS
      have hL : sLen v = nw X := by rw [hv.len, cellsW_length, wds_length]
      have HSN := Lib.hid (same_self v (nw X) w hS hL (nw_pos h0) (by omega))
      have HQ : Hid (∀ k, NatR v v (X * 2 ^ s) B w (w.drewN k)) := Lib.hid (fun k => by
        rw [s0, Nat.pow_zero, Nat.mul_one]
        exact ⟨hv.drewN k, undrewN' (Below.refl _ _), fun _ _ _ => rfl, fun hc => .inl ⟨hc, rfl⟩⟩)
      clear hv hz h0 s0 hL
      go_enter Tryz.func132, Tryz.ntmps132
      go_wp2_with fail
      refine HSN.out.mono ?_
      rintro _ _ ⟨rfl, k, rfl⟩
      go_wp2
      go_ret
      exact ⟨_, rfl, HQ.out k⟩
    · exact lsh_gen v v _ X s B w hv (hv.rw' (wds_all X)) (fun _ _ => rfl) h0 hl s0 hs hB
set_option maxRecDepth 100000 in
theorem setUint64_zero (w : World) : Calls Tryz.prog 134 #[.slice none 0 0, .int .u64 0] w fun e w' => e = .returned (.slice none 0 0) ∧ w = w' := by
  have hS : IsS (.slice none 0 0) := IsS.nil
  go_enter Tryz.func134, Tryz.ntmps134
  go_wp2
  go_ret
  exact ⟨rfl, rfl⟩
set_option maxRecDepth 100000 in
theorem newInt0 (w : World) :
    Calls Tryz.prog 185 #[.int .i64 0] w fun e w' => e = .returned (.pointer (some ⟨w.heap.size, 0, none⟩)) ∧ w' = w.alloc (.cells #[.bool false, .slice none 0 0] 123) := by
  go_enter Tryz.func185, Tryz.ntmps185
  go_wp2
  go_ret
  exact ⟨rfl, rfl⟩
set_option maxRecDepth 100000 in
theorem intOne_any (w : World) :
    Calls Tryz.prog 124 #[] w fun e w' => e = .returned (.pointer (some ⟨w.heap.size + 1, 0, none⟩)) ∧ w' = (w.alloc (.cells #[.int .u64 1] 164)).alloc (.cells #[.bool false, .slice (some ⟨w.heap.size, 0, none⟩) 1 1] 123) := by
  go_enter Tryz.func124, Tryz.ntmps124
  go_wp2
  go_ret
  exact ⟨by simp, by simp⟩
set_option maxRecDepth 100000 in
set_option maxHeartbeats 1600000 in
theorem norm_zero (g B : Nat) (n m : Bool) (va vb : Value) (zb : List Value) (w : World) (row : w.heap[g]? = some (.cells #[.bool n, va, .bool m, vb] 125 (0, 0))) (hSa : IsS va) (la : sLen va = 0) (hb : Own w B 164 vb zb) (hB : B ≤ w.heap.size) :
    Calls Tryz.prog 126 #[.pointer (some ⟨g, 0, none⟩)] w fun e w' => e = .returned (.pointer (some ⟨g, 0, none⟩)) ∧ ∃ r w1, NatR vb r 1 B (w.setCell ⟨g, 0, none⟩ (.bool false)) w1 ∧ w' = w1.setCell ⟨g, 3, none⟩ r := by
  have c0 := row_at (i := 0) row rfl
  have c1 := row_at (i := 1) row rfl
  have c3 := row_at (i := 3) row rfl
  obtain ⟨c0, f0⟩ := c0
  obtain ⟨c1, f1⟩ := c1
  obtain ⟨c3, f3⟩ := c3
  have row2 := rowset (i := 0) (.bool false) row
  have ho : Own (w.setCell ⟨g, 0, none⟩ (.bool false)) B 164 vb zb := hb.away row (by decide) 0 _
  have hSb := hb.isS
  have HS := Lib.hid (setWord_gen vb zb 1 B _ ho (by decide) (by simpa using hB))
  have HK : Hid (∀ r w1, NatR vb r 1 B (w.setCell ⟨g, 0, none⟩ (.bool false)) w1 → w1.cell? ⟨g, 3, none⟩ = some vb ∧ w1.frozen? ⟨g, 3, none⟩ = false) := Lib.hid (fun r w1 hr => by
    have h1 := (hr.fr g (get_lt row2) (fun hc => ho.neRow row2 (by decide) hc)).trans row2
    exact row_at (i := 3) h1 rfl)
  clear row row2 ho hb hB
  go_enter_defers Tryz.func126, Tryz.ntmps126
  go_wp2_with fail
  refine HS.out.mono ?_
  rintro _ w1 ⟨r, rfl, hr⟩
  obtain ⟨k3, e3⟩ := HK.out r w1 hr
  have hSr := hr.own.isS
  have HR := Lib.hid hr
  clear hr
  go_wp2
  simp [bodyPostD, Leaves, results, Tryz.results126, go_sem]
  exact ⟨r, w1, HR.out, rfl⟩
set_option maxRecDepth 100000 in
set_option maxHeartbeats 3200000 in
theorem div_stk (z z2 x y : Value) (zs z2s : List Value) (N D B s L : Nat) (o : Option (Nat × Value)) (w : World) (hst : StO w B s L o) (hL : L ≤ 90000) (hzS : 0 < sCap z → ¬ SBk s o (sBlk z)) (hz2S : 0 < sCap z2 → ¬ SBk s o (sBlk z2)) (hxS : ¬ SBk s o (sBlk x)) (hyS : ¬ SBk s o (sBlk y)) (hz : Own w B 164 z zs) (hz2 : Own w B 164 z2 z2s) (hx : RO w x (wds N)) (hy : RO w y (wds D)) (ax : Al z x) (hD : 0 < D) (hn40 : nw D < 40) (hlu : nw N ≤ 90000)
    (hzz : 0 < sCap z → 0 < sCap z2 → sBlk z ≠ sBlk z2) (hxz : 0 < sCap z2 → sBlk x ≠ sBlk z2) (hyz : 0 < sCap z2 → sBlk y ≠ sBlk z2) (hB : B ≤ w.heap.size) (hT : DivW w) (hg : 3 < B) :
    Calls Tryz.prog 144 #[z, .pointer (some ⟨s, 0, none⟩), z2, x, y] w fun e w' => ∃ q r, e = .returned (.tuple #[q, r]) ∧ (NdP z z2 q r N D B w w' ∨ ∃ k o', DlP z z2 q r N D B s L o o' (w.drewN k) w') := by
  have hSz := hz.isS
  have hSz2 := hz2.isS
  have hSx := hx.rw.isS
  have hSy := hy.rw.isS
  obtain ⟨n, hne⟩ : ∃ n, n = nw D := ⟨_, rfl⟩
  have hLy : sLen y = n := by rw [hy.rw.len, wds_length, hne]
  have hn0 : 0 < n := by rw [hne]; exact nw_pos hD
  have t0 : ((n : Int) == 0) = false := by rw [beq_eq_false_iff_ne]; omega
  by_cases h1 : n = 1
  · have t1 : ((n : Int) == 1) = true := by rw [beq_iff_eq]; omega
    have hDl : D < 18446744073709551616 := by
      have := lt_nw D
      rw [← hne, h1, Nat.pow_one] at this
      exact this
    have cy : w.cell? ⟨sBlk y, sOff y, none⟩ = some (.int .u64 (D : Int)) := by
      have := hy.rw.cell 0 (by rw [wds_length, ← hne]; exact hn0)
      rw [wds_getD, wdg_zero_eq, Nat.mod_eq_of_lt hDl, Nat.add_zero] at this
      exact this
    have HC1 := Lib.hid (divW_gen z x zs N D B w hz hx ax hD hDl (by omega) hB)
    have hml : N % D < 18446744073709551616 := Nat.lt_trans (Nat.mod_lt _ hD) hDl
    have HC2 : Hid (∀ q w1, NatR z q (N / D) B w w1 → Calls Tryz.prog 172 #[z2, .int .u64 ((N % D : Nat) : Int)] w1 fun e w' => ∃ r, e = .returned r ∧ IsS r ∧ NdP z z2 q r N D B w w') := Lib.hid (fun q w1 hq => by
      have h2 : Own w1 B 164 z2 z2s := hz2.frz hq.fr (fun a b he => hzz b a he.symm)
      refine (setWord_gen z2 z2s (N % D) B w1 h2 hml (Nat.le_trans hB hq.below.size)).mono ?_
      rintro _ w' ⟨r, rfl, hr⟩
      exact ⟨r, rfl, hr.own.isS, .of hz hz2 hzz hq hr⟩)
    obtain ⟨R, hR⟩ : ∃ R, R = N % D := ⟨_, rfl⟩
    rw [← hR] at HC1 HC2
    clear hst hzS hz2S hxS hyS hL hz hz2 hx hy ax hzz hxz hyz hB hT hg hne h1 hml hR hDl
    go_enter_defers Tryz.func144, Tryz.ntmps144
    go_wp2_with fail
    refine HC1.out.mono ?_
    rintro _ w1 ⟨q, rfl, hq⟩
    have hSq := hq.own.isS
    have HC := Lib.hid (HC2.out q w1 hq)
    clear hq
    go_wp2_with fail
    refine HC.out.mono ?_
    rintro _ w2 ⟨r, rfl, hSr, hnd⟩
    have Q := Lib.hid hnd
    clear hnd
    go_wp2
    simp [bodyPostD, Leaves, results, Tryz.results144, go_sem]
    exact ⟨q, r, ⟨rfl, rfl⟩, .inl Q.out⟩
  · have t1 : ((n : Int) == 1) = false := by rw [beq_eq_false_iff_ne]; omega
    have HCM := Lib.hid (cmp_any x y N D w hx.rw hy.rw (by omega) (by omega))
    obtain ⟨C, hC⟩ : ∃ C, C = cmpN N D := ⟨_, rfl⟩
    rw [← hC] at HCM
    by_cases hlt : N < D
    · have t2 : decide (C < 0) = true := by rw [hC, cmpN_lt hlt]; decide
      have HC : Hid (∀ k, Calls Tryz.prog 133 #[z2, x] (w.drewN k) fun e w' => ∃ r, e = .returned r ∧ IsS r ∧ NdP z z2 (subS z 0 0) r N D B w w') := Lib.hid (fun k => by
        have h1 : NatR z (subS z 0 0) (N / D) B w (w.drewN k) := by
          rw [Nat.div_eq_of_lt hlt]
          exact ⟨by have := (hz.drewN k).sub (l := 0) (n := 0) (Nat.le_refl _) (Nat.zero_le _); simpa [cellsW, wds_zero] using this, undrewN' (Below.refl _ _), fun _ _ _ => rfl, fun hc => .inl ⟨by rw [subS_cap hz.isS] at hc; exact hc, subS_blk hz.isS⟩⟩
        refine (set_at z2 x z2s (wds N) B (w.drewN k) (hz2.drewN k) (hx.rw.drewN k) (by rw [wds_length]; omega) hB).mono ?_
        rintro _ w' ⟨r, rfl, g1, g2, g3, g4⟩
        refine ⟨r, rfl, g1.isS, .of hz hz2 hzz h1 ⟨?_, g2, g3, g4⟩⟩
        rw [Nat.mod_eq_of_lt hlt]; exact g1)
      have hSq : IsS (subS z 0 0) := subS_isS hSz (Nat.zero_le _) (Nat.zero_le _)
      have hc0 : 0 ≤ sCap z := Nat.zero_le _
      clear hst hzS hz2S hxS hyS hL hz hz2 hx hy ax hzz hxz hyz hB hT hg hne h1 hC hlt
      go_enter_defers Tryz.func144, Tryz.ntmps144
      go_wp2_with fail
      refine HCM.out.mono ?_
      rintro _ _ ⟨rfl, k, rfl⟩
      go_wp2_with fail
      refine (HC.out k).mono ?_
      rintro _ w2 ⟨r, rfl, hSr, hnd⟩
      have Q := Lib.hid hnd
      clear hnd
      go_wp2
      simp [bodyPostD, Leaves, results, Tryz.results144, go_sem]
      exact ⟨_, r, ⟨rfl, rfl⟩, .inl Q.out⟩
    · have t2 : decide (C < 0) = false := by
        rw [hC]
        unfold cmpN
        rw [if_neg hlt]
        split <;> rfl
      have hnl : nw D ≤ nw N := nw_mono (by omega)
      have HDL : Hid (∀ k, Calls Tryz.prog 204 #[z, .pointer (some ⟨s, 0, none⟩), z2, x, y] (w.drewN k) fun e w' => ∃ q r, e = .returned (.tuple #[q, r]) ∧ ∃ o', DlP z z2 q r N D B s L o o' (w.drewN k) w') := Lib.hid (fun k => by
        have hb : Below w.heap.size w (w.drewN k) := undrewN' (Below.refl _ _)
        exact divLarge_any z z2 x y zs z2s N D B s L o _ (hz.drewN k) (hz2.drewN k) (hx.below hb) (hy.below hb) (by omega) hn40 hnl hlu (hst.below hb) hL hzS hz2S hxS hyS hzz hxz hyz hB (hT.drewN k) hg)
      clear hst hzS hz2S hxS hyS hL hz hz2 hx hy ax hzz hxz hyz hB hT hg hne h1 hC hlt hnl
      go_enter_defers Tryz.func144, Tryz.ntmps144
      go_wp2_with fail
      refine HCM.out.mono ?_
      rintro _ _ ⟨rfl, k, rfl⟩
      go_wp2_with fail
      refine (HDL.out k).mono ?_
      rintro _ w6 ⟨q, r, rfl, o', hdl⟩
      have hSq := hdl.oq.isS
      have hSr := hdl.or_.isS
      have Q := Lib.hid hdl
      clear hdl HDL
      go_wp2
      simp [bodyPostD, Leaves, results, Tryz.results144, go_sem]
      exact ⟨q, r, ⟨rfl, rfl⟩, .inr ⟨_, _, Q.out⟩⟩
theorem StO.keep {w w' : World} {B s L : Nat} {o : Option (Nat × Value)} (h : StO w B s L o) (hk : ∀ k, SBk s o k → w'.heap[k]? = w.heap[k]?) : StO w' B s L o := by
  match o, h with
  | none, ⟨h0, h1, h2⟩ => exact ⟨h0, (hk s (.inl rfl)).trans h1, h2⟩
  | some qv, ⟨h0, h1, h2, h3, xs, h4, h5⟩ => exact ⟨h0, h1, (hk s (.inl rfl)).trans h2, (hk qv.1 (.inr ⟨qv, rfl, .inl rfl⟩)).trans h3, xs, h4.same fun hc => hk _ (.inr ⟨qv, rfl, .inr ⟨hc, rfl⟩⟩), h5⟩
structure DvS (va q : Value) (N B s : Nat) (o o' : Option (Nat × Value)) (w w' : World) : Prop where
  own : Own w' B 164 q (cellsW (wds N))
  at' : 0 < sCap q → (0 < sCap va ∧ sBlk q = sBlk va) ∨ w.heap.size ≤ sBlk q
  st : StO w' B s 0 o'
  sb : ∀ k, SBk s o' k → SBk s o k ∨ w.heap.size ≤ k
  nsq : 0 < sCap q → ¬ SBk s o' (sBlk q)
  below : Below B w w'
  fr : ∀ k, k < w.heap.size → ¬ SBk s o k → (0 < sCap va → k ≠ sBlk va) → w'.heap[k]? = w.heap[k]?
theorem nil_cap : ¬ 0 < sCap (.slice none 0 0) := by decide
set_option maxHeartbeats 800000 in
theorem div_to (va x rv : Value) (zs : List Value) (N D B s : Nat) (o : Option (Nat × Value)) (w : World) (hst : StO w B s 0 o) (oa : Own w B 164 va zs) (ha : 0 < sCap va → ¬ SBk s o (sBlk va)) (hx : RO w x (wds N)) (ax : Al va x) (hxS : ¬ SBk s o (sBlk x)) (hr : RO w rv (wds D)) (hrS : ¬ SBk s o (sBlk rv))
    (hD : 0 < D) (hn40 : nw D < 40) (hlu : nw N ≤ 90000) (hB : B ≤ w.heap.size) (hT : DivW w) (hg : 3 < B) :
    Calls Tryz.prog 144 #[va, .pointer (some ⟨s, 0, none⟩), .slice none 0 0, x, rv] w fun e w' => ∃ q r, e = .returned (.tuple #[q, r]) ∧ ∃ o', DvS va q (N / D) B s o o' w w' ∧ Own w' B 164 r (cellsW (wds (N % D))) ∧ (0 < sCap r → w.heap.size ≤ sBlk r) ∧ (0 < sCap q → 0 < sCap r → sBlk q ≠ sBlk r) ∧ (0 < sCap r → ¬ SBk s o' (sBlk r)) := by
  refine (div_stk va (.slice none 0 0) x rv zs [] N D B s 0 o w hst (by decide) ha (fun h => absurd h nil_cap) hxS hrS oa (Own.nil _ _ _) hx hr ax hD hn40 hlu (fun _ h => absurd h nil_cap) (fun h => absurd h nil_cap) (fun h => absurd h nil_cap) hB hT hg).mono ?_
  rintro e w' ⟨q, r, rfl, h | ⟨k, o', h⟩⟩
  · have hat : 0 < sCap r → w.heap.size ≤ sBlk r := fun hc => by
      rcases h.atr hc with ⟨a, _⟩ | a
      · exact absurd a nil_cap
      · exact a
    refine ⟨q, r, rfl, o, ⟨h.oq, h.atq, hst.keep fun k hk => h.fr k (hst.base hk).2 (fun hc he => ha hc (he ▸ hk)) (fun hc => absurd hc nil_cap), fun k hk => .inl hk, fun hc hk => ?_, h.below, fun k hk _ hv => h.fr k hk hv (fun hc => absurd hc nil_cap)⟩, h.or_, hat, h.ne, fun hc hk => ?_⟩
    · rcases h.atq hc with ⟨a, b⟩ | a
      · exact ha a (b ▸ hk)
      · have := (hst.base hk).2; omega
    · have h1 := hat hc
      have := (hst.base hk).2; omega
  · refine ⟨q, r, rfl, o', ⟨h.oq, h.atq, h.st, h.sb, h.nsq, undrewN h.below, fun k hk hn hv => h.fr k hk hn hv (fun hc => absurd hc nil_cap)⟩, h.or_, fun hc => ?_, h.ne, h.nsr⟩
    rcases h.atr hc with ⟨a, _⟩ | a
    · exact absurd a nil_cap
    · exact a
theorem StO.nrow {w : World} {B s L k T : Nat} {o : Option (Nat × Value)} {cs : Array Value} (h : StO w B s L o) (hr : w.heap[k]? = some (.cells cs T (0, 0))) (h1 : T ≠ 217) (h2 : T ≠ 246) (h3 : T ≠ 164) : ¬ SBk s o k := by
  intro hk
  match o, h with
  | none, ⟨_, g1, _⟩ =>
    rcases hk with rfl | ⟨_, h, _⟩
    · rw [hr] at g1; injection g1 with g1; injection g1 with _ g1; exact h1 g1
    · cases h
  | some qv, ⟨_, _, g2, g3, xs, g4, _⟩ =>
    rcases hk with rfl | ⟨_, h, h6 | ⟨h6, h7⟩⟩
    · rw [hr] at g2; injection g2 with g2; injection g2 with _ g2; exact h1 g2
    · cases h; rw [h6] at hr; rw [hr] at g3; injection g3 with g3; injection g3 with _ g3; exact h2 g3
    · cases h; exact g4.neRow hr h3 h6 h7
def NmF (g : Nat) (va vb : Value) (w w' : World) : Prop := ∀ k, k < w.heap.size → k ≠ g → (0 < sCap va → k ≠ sBlk va) → (0 < sCap vb → k ≠ sBlk vb) → w'.heap[k]? = w.heap[k]?
structure NmW (w0 : World) (va0 vb0 : Value) (g f s B N D G : Nat) (o : Option (Nat × Value)) (n m : Bool) (va vb rv : Value) (w : World) : Prop where
  row : w.heap[g]? = some (.cells #[.bool n, va, .bool m, vb] 125 (0, 0))
  rf : w.heap[f]? = some (.cells #[.bool false, rv] 123 (0, 0))
  oa : Own w B 164 va (cellsW (wds N))
  ob : Own w B 164 vb (cellsW (wds D))
  og : Own w B 164 rv (cellsW (wds G))
  ab : 0 < sCap va → 0 < sCap vb → sBlk va ≠ sBlk vb
  ag : 0 < sCap va → 0 < sCap rv → sBlk va ≠ sBlk rv
  bg : 0 < sCap vb → 0 < sCap rv → sBlk vb ≠ sBlk rv
  st : StO w B s 0 o
  na : 0 < sCap va → ¬ SBk s o (sBlk va)
  nb : 0 < sCap vb → ¬ SBk s o (sBlk vb)
  ng : 0 < sCap rv → ¬ SBk s o (sBlk rv)
  hg : B ≤ g
  tw : DivW w
  dg : 3 < B
  bl : Below B w0 w
  fr : NmF g va0 vb0 w0 w
  sw : ∀ k, SBk s o k → w0.heap.size ≤ k
  wa : 0 < sCap va → (0 < sCap va0 ∧ sBlk va = sBlk va0) ∨ w0.heap.size ≤ sBlk va
  wb : 0 < sCap vb → (0 < sCap vb0 ∧ sBlk vb = sBlk vb0) ∨ w0.heap.size ≤ sBlk vb
section
variable {w0 : World} {va0 vb0 : Value} {g f s B N D G : Nat} {o : Option (Nat × Value)} {n m : Bool} {va vb rv : Value} {w : World}
theorem NmW.below {w' : World} (h : NmW w0 va0 vb0 g f s B N D G o n m va vb rv w) (hb : Below w.heap.size w w') : NmW w0 va0 vb0 g f s B N D G o n m va vb rv w' :=
  ⟨keep_row hb h.row, keep_row hb h.rf, h.oa.below hb, h.ob.below hb, h.og.below hb, h.ab, h.ag, h.bg, h.st.below hb, h.na, h.nb, h.ng, h.hg, h.tw.below hb, h.dg, h.bl.trans (hb.mono (Nat.le_trans h.hg (Nat.le_of_lt (get_lt h.row)))), fun k hk a b c => (hb.block k (Nat.lt_of_lt_of_le hk h.bl.size)).trans (h.fr k hk a b c), h.sw, h.wa, h.wb⟩
theorem NmW.drewN (h : NmW w0 va0 vb0 g f s B N D G o n m va vb rv w) (k : Nat) : NmW w0 va0 vb0 g f s B N D G o n m va vb rv (w.drewN k) := h.below (undrewN' (Below.refl _ _))
theorem NmW.neRat {T : Nat} (h : NmW w0 va0 vb0 g f s B N D G o n m va vb rv w) {k : Nat} {cs : Array Value} (hr : w.heap[k]? = some (.cells cs T (0, 0))) (hT : T ≠ 125) : k ≠ g := fun he => by
  have := h.row
  rw [← he, hr] at this
  injection this with h1; injection h1 with _ h2; exact hT h2
theorem NmW.put {i : Nat} {u : Value} {n' m' : Bool} (h : NmW w0 va0 vb0 g f s B N D G o n m va vb rv w) (he : (#[.bool n, va, .bool m, vb] : Array Value).setIfInBounds i u = #[.bool n', va, .bool m', vb]) : NmW w0 va0 vb0 g f s B N D G o n' m' va vb rv (w.setCell ⟨g, i, none⟩ u) := by
  have h1 := rowset (i := i) u h.row
  rw [he] at h1
  have hns : ¬ SBk s o g := h.st.nrow h.row (by decide) (by decide) (by decide)
  refine ⟨h1, ?_, h.oa.away h.row (by decide) i u, h.ob.away h.row (by decide) i u, h.og.away h.row (by decide) i u, h.ab, h.ag, h.bg, h.st.keep fun k hk => ?_, h.na, h.nb, h.ng, h.hg, ?_, h.dg, bset h.bl h.hg, fun k hk a b c => (heap_setCell_other _ _ _ _ (by simpa using a)).trans (h.fr k hk a b c), h.sw, h.wa, h.wb⟩
  · rw [heap_setCell_other _ _ _ _ (by simpa using h.neRat h.rf (by decide))]; exact h.rf
  · exact heap_setCell_other _ _ _ _ (by simp only; intro he2; exact hns (he2 ▸ hk))
  · exact h.tw.belowB (bset (Below.refl B w) h.hg) h.dg
theorem NmW.divA {q : Value} {o' : Option (Nat × Value)} {w' : World} (h : NmW w0 va0 vb0 g f s B N D G o n m va vb rv w) (d : DvS va q (N / G) B s o o' w w') :
    w'.heap[g]? = some (.cells #[.bool n, va, .bool m, vb] 125 (0, 0)) ∧ NmW w0 va0 vb0 g f s B (N / G) D G o' n m q vb rv (w'.setCell ⟨g, 1, none⟩ q) := by
  have hz := d.below.size
  have hns : ¬ SBk s o g := h.st.nrow h.row (by decide) (by decide) (by decide)
  have hnf : ¬ SBk s o f := h.st.nrow h.rf (by decide) (by decide) (by decide)
  have r1 : w'.heap[g]? = some (.cells #[.bool n, va, .bool m, vb] 125 (0, 0)) := (d.fr g (get_lt h.row) hns (fun hc => h.oa.neRow h.row (by decide) hc)).trans h.row
  have r2 : w'.heap[f]? = some (.cells #[.bool false, rv] 123 (0, 0)) := (d.fr f (get_lt h.rf) hnf (fun hc => h.oa.neRow h.rf (by decide) hc)).trans h.rf
  have ob' : Own w' B 164 vb (cellsW (wds D)) := h.ob.same fun hc => d.fr _ (h.ob.lt hc).2 (h.nb hc) (fun ha => (h.ab ha hc).symm)
  have og' : Own w' B 164 rv (cellsW (wds G)) := h.og.same fun hc => d.fr _ (h.og.lt hc).2 (h.ng hc) (fun ha => (h.ag ha hc).symm)
  have hq : ∀ {v : Value} {xs : List Value}, Own w B 164 v xs → (0 < sCap va → 0 < sCap v → sBlk va ≠ sBlk v) → 0 < sCap q → 0 < sCap v → sBlk q ≠ sBlk v := fun {v xs} ho hv hc hcv he => by
    rcases d.at' hc with ⟨a, b⟩ | a
    · exact hv a hcv (b.symm.trans he)
    · have := (ho.lt hcv).2; omega
  have hs' : ∀ {v : Value} {xs : List Value}, Own w B 164 v xs → (0 < sCap v → ¬ SBk s o (sBlk v)) → 0 < sCap v → ¬ SBk s o' (sBlk v) := fun {v xs} ho hv hc hk => by
    rcases d.sb _ hk with a | a
    · exact hv hc a
    · have := (ho.lt hc).2; omega
  have hbz := h.bl.size
  have hsw : ∀ k, SBk s o' k → w0.heap.size ≤ k := fun k hk => by
    rcases d.sb k hk with a | a
    · exact h.sw k a
    · omega
  have hwq : 0 < sCap q → (0 < sCap va0 ∧ sBlk q = sBlk va0) ∨ w0.heap.size ≤ sBlk q := fun hc => by
    rcases d.at' hc with ⟨a, b⟩ | a
    · rcases h.wa a with ⟨x, y⟩ | x
      · exact .inl ⟨x, b.trans y⟩
      · exact .inr (by omega)
    · exact .inr (by omega)
  have hfr : ∀ k, k < w0.heap.size → k ≠ g → (0 < sCap va0 → k ≠ sBlk va0) → (0 < sCap vb0 → k ≠ sBlk vb0) → w'.heap[k]? = w0.heap[k]? := fun k hk a b c => by
    refine (d.fr k (by omega) (fun hs => by have := h.sw k hs; omega) (fun hc he => ?_)).trans (h.fr k hk a b c)
    rcases h.wa hc with ⟨x, y⟩ | x
    · exact b x (he.trans y)
    · omega
  have h1 := rowset (i := 1) q r1
  have hns' : ¬ SBk s o' g := d.st.nrow r1 (by decide) (by decide) (by decide)
  refine ⟨r1, h1, ?_, d.own.away r1 (by decide) 1 q, ob'.away r1 (by decide) 1 q, og'.away r1 (by decide) 1 q, hq h.ob h.ab, hq h.og h.ag, h.bg, d.st.keep fun k hk => ?_, d.nsq, hs' h.ob h.nb, hs' h.og h.ng, h.hg, ?_, h.dg, bset (h.bl.trans d.below) h.hg, fun k hk a b c => ?_, hsw, hwq, h.wb⟩
  · rw [heap_setCell_other _ _ _ _ (by simpa using h.neRat h.rf (by decide))]; exact r2
  · exact heap_setCell_other _ _ _ _ (by simp only; intro he2; exact hns' (he2 ▸ hk))
  · exact (h.tw.belowB d.below h.dg).belowB (bset (Below.refl B w') h.hg) h.dg
  · exact (heap_setCell_other _ _ _ _ (by simpa using a)).trans (hfr k hk a b c)
theorem NmW.divB {q : Value} {o' : Option (Nat × Value)} {w' : World} (h : NmW w0 va0 vb0 g f s B N D G o n m va vb rv w) (d : DvS vb q (D / G) B s o o' w w') :
    w'.heap[g]? = some (.cells #[.bool n, va, .bool m, vb] 125 (0, 0)) ∧ NmW w0 va0 vb0 g f s B N (D / G) G o' n m va q rv (w'.setCell ⟨g, 3, none⟩ q) := by
  have hz := d.below.size
  have hns : ¬ SBk s o g := h.st.nrow h.row (by decide) (by decide) (by decide)
  have hnf : ¬ SBk s o f := h.st.nrow h.rf (by decide) (by decide) (by decide)
  have r1 : w'.heap[g]? = some (.cells #[.bool n, va, .bool m, vb] 125 (0, 0)) := (d.fr g (get_lt h.row) hns (fun hc => h.ob.neRow h.row (by decide) hc)).trans h.row
  have r2 : w'.heap[f]? = some (.cells #[.bool false, rv] 123 (0, 0)) := (d.fr f (get_lt h.rf) hnf (fun hc => h.ob.neRow h.rf (by decide) hc)).trans h.rf
  have oa' : Own w' B 164 va (cellsW (wds N)) := h.oa.same fun hc => d.fr _ (h.oa.lt hc).2 (h.na hc) (fun hb => h.ab hc hb)
  have og' : Own w' B 164 rv (cellsW (wds G)) := h.og.same fun hc => d.fr _ (h.og.lt hc).2 (h.ng hc) (fun hb => (h.bg hb hc).symm)
  have hq : ∀ {v : Value} {xs : List Value}, Own w B 164 v xs → (0 < sCap vb → 0 < sCap v → sBlk vb ≠ sBlk v) → 0 < sCap q → 0 < sCap v → sBlk q ≠ sBlk v := fun {v xs} ho hv hc hcv he => by
    rcases d.at' hc with ⟨a, b⟩ | a
    · exact hv a hcv (b.symm.trans he)
    · have := (ho.lt hcv).2; omega
  have hs' : ∀ {v : Value} {xs : List Value}, Own w B 164 v xs → (0 < sCap v → ¬ SBk s o (sBlk v)) → 0 < sCap v → ¬ SBk s o' (sBlk v) := fun {v xs} ho hv hc hk => by
    rcases d.sb _ hk with a | a
    · exact hv hc a
    · have := (ho.lt hc).2; omega
  have hbz := h.bl.size
  have hsw : ∀ k, SBk s o' k → w0.heap.size ≤ k := fun k hk => by
    rcases d.sb k hk with a | a
    · exact h.sw k a
    · omega
  have hwq : 0 < sCap q → (0 < sCap vb0 ∧ sBlk q = sBlk vb0) ∨ w0.heap.size ≤ sBlk q := fun hc => by
    rcases d.at' hc with ⟨a, b⟩ | a
    · rcases h.wb a with ⟨x, y⟩ | x
      · exact .inl ⟨x, b.trans y⟩
      · exact .inr (by omega)
    · exact .inr (by omega)
  have hfr : ∀ k, k < w0.heap.size → k ≠ g → (0 < sCap va0 → k ≠ sBlk va0) → (0 < sCap vb0 → k ≠ sBlk vb0) → w'.heap[k]? = w0.heap[k]? := fun k hk a b c => by
    refine (d.fr k (by omega) (fun hs => by have := h.sw k hs; omega) (fun hc he => ?_)).trans (h.fr k hk a b c)
    rcases h.wb hc with ⟨x, y⟩ | x
    · exact c x (he.trans y)
    · omega
  have h1 := rowset (i := 3) q r1
  have hns' : ¬ SBk s o' g := d.st.nrow r1 (by decide) (by decide) (by decide)
  refine ⟨r1, h1, ?_, oa'.away r1 (by decide) 3 q, d.own.away r1 (by decide) 3 q, og'.away r1 (by decide) 3 q, fun ha hc => (hq h.oa (fun x y => (h.ab y x).symm) hc ha).symm, h.ag, hq h.og h.bg, d.st.keep fun k hk => ?_, hs' h.oa h.na, d.nsq, hs' h.og h.ng, h.hg, ?_, h.dg, bset (h.bl.trans d.below) h.hg, fun k hk a b c => ?_, hsw, h.wa, hwq⟩
  · rw [heap_setCell_other _ _ _ _ (by simpa using h.neRat h.rf (by decide))]; exact r2
  · exact heap_setCell_other _ _ _ _ (by simp only; intro he2; exact hns' (he2 ▸ hk))
  · exact (h.tw.belowB d.below h.dg).belowB (bset (Below.refl B w') h.hg) h.dg
  · exact (heap_setCell_other _ _ _ _ (by simpa using a)).trans (hfr k hk a b c)
theorem NmW.callA (h : NmW w0 va0 vb0 g f s B N D G o n m va vb rv w) (hG : 0 < G) (hN : 0 < N) (hg40 : nw G < 40) (hn : nw N ≤ 90000) : Calls Tryz.prog 144 #[va, .pointer (some ⟨s, 0, none⟩), .slice none 0 0, va, rv] w fun e w' => ∃ q r, e = .returned (.tuple #[q, r]) ∧ IsS q ∧ IsS r ∧ ∃ o', DvS va q (N / G) B s o o' w w' := by
  have hca : 0 < sCap va := by have h1 := h.oa.len; have h2 := h.oa.isS.le; rw [cellsW_length, wds_length] at h1; have := nw_pos hN; omega
  have hcg : 0 < sCap rv := by have h1 := h.og.len; have h2 := h.og.isS.le; rw [cellsW_length, wds_length] at h1; have := nw_pos hG; omega
  refine (div_to va va rv _ N G B s o w h.st h.oa h.na (h.oa.ro (fun d hd => wds_lt hd)) (Al.self _) (h.na hca) (h.og.ro (fun d hd => wds_lt hd)) (h.ng hcg) hG hg40 hn (Nat.le_trans h.hg (Nat.le_of_lt (get_lt h.row))) h.tw h.dg).mono ?_
  rintro e w' ⟨q, r, h1, o', h2, h3, -⟩
  exact ⟨q, r, h1, h2.own.isS, h3.isS, o', h2⟩
theorem NmW.callB (h : NmW w0 va0 vb0 g f s B N D G o n m va vb rv w) (hG : 0 < G) (hD : 0 < D) (hg40 : nw G < 40) (hn : nw D ≤ 90000) : Calls Tryz.prog 144 #[vb, .pointer (some ⟨s, 0, none⟩), .slice none 0 0, vb, rv] w fun e w' => ∃ q r, e = .returned (.tuple #[q, r]) ∧ IsS q ∧ IsS r ∧ ∃ o', DvS vb q (D / G) B s o o' w w' := by
  have hca : 0 < sCap vb := by have h1 := h.ob.len; have h2 := h.ob.isS.le; rw [cellsW_length, wds_length] at h1; have := nw_pos hD; omega
  have hcg : 0 < sCap rv := by have h1 := h.og.len; have h2 := h.og.isS.le; rw [cellsW_length, wds_length] at h1; have := nw_pos hG; omega
  refine (div_to vb vb rv _ D G B s o w h.st h.ob h.nb (h.ob.ro (fun d hd => wds_lt hd)) (Al.self _) (h.nb hca) (h.og.ro (fun d hd => wds_lt hd)) (h.ng hcg) hG hg40 hn (Nat.le_trans h.hg (Nat.le_of_lt (get_lt h.row))) h.tw h.dg).mono ?_
  rintro e w' ⟨q, r, h1, o', h2, h3, -⟩
  exact ⟨q, r, h1, h2.own.isS, h3.isS, o', h2⟩
structure NmP (g B N D : Nat) (n : Bool) (va vb : Value) (w w' : World) : Prop where
  rat : RatP w' B g n N D
  bl : Below B w w'
  fr : NmF g va vb w w'
theorem NmW.fin {q0 : Nat} {v0 : Value} (h : NmW w0 va0 vb0 g f s B N D G (some (q0, v0)) n false va vb rv w) : w.heap[s]? = some (.cells #[.pointer (some ⟨q0, 0, none⟩)] 217 (0, 0)) ∧ w.heap[q0]? = some (.cells #[v0] 246 (0, 0)) ∧ IsS v0 ∧ NmP g B N D n va0 vb0 w0 (w.setCell ⟨q0, 0, none⟩ (subS v0 0 0)) := by
  obtain ⟨_, h1, h2, h3, xs, h4, _⟩ := h.st
  simp only at h1 h2 h3 h4
  have hq := h.sw q0 (.inr ⟨_, rfl, .inl rfl⟩)
  refine ⟨h2, h3, h4.isS, ⟨va, vb, h.hg, ?_, h.oa.away h3 (by decide) 0 _, h.ob.away h3 (by decide) 0 _⟩, bset h.bl h1, fun k hk a b c => (heap_setCell_other _ _ _ _ (by simp only; omega)).trans (h.fr k hk a b c)⟩
  rw [heap_setCell_other _ _ _ _ (by simpa using (h.neRat h3 (by decide)).symm)]; exact h.row
theorem NmW.fin0 (h : NmW w0 va0 vb0 g f s B N D G none n false va vb rv w) : w.cell? ⟨s, 0, none⟩ = some (.pointer none) ∧ NmP g B N D n va0 vb0 w0 w := by
  obtain ⟨_, h1, _⟩ := h.st
  exact ⟨(row_at (i := 0) h1 rfl).1, ⟨va, vb, h.hg, h.row, h.oa, h.ob⟩, h.bl, h.fr⟩
end
end Go.Proofs.YtdepidpgbgfjlaaGreatDoor
