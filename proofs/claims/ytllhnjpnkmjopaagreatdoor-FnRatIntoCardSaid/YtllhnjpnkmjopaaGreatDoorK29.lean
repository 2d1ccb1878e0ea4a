/-
Texts of this proof, joined: GcI. No condition.
-/
import Derived.Test.YtllhnjpnkmjopaaGreatDoorK27
import Derived.Test.YtllhnjpnkmjopaaGreatDoorK28
namespace Go.Proofs.YtllhnjpnkmjopaaGreatDoor
open Go.RowKit

theorem Quad.swap {w : World} {B a b q r : Nat} {ma mb mq mr : Bool} {va vb vq vr : Value} {za zb zq zr : List Value} (h : Quad w B a b q r ma mb mq mr va vb vq vr za zb zq zr) : Quad w B b a q r mb ma mq mr vb va vq vr zb za zq zr :=
  ⟨h.bb, h.ba, h.bq, h.br, h.sab.symm, h.sbq, h.sbr, h.saq, h.sar, h.sqr, h.nab.symm, h.nbq, h.nbr, h.naq, h.nar, h.nqr⟩
theorem Quad.euc {w : World} {B a b q r : Nat} {ma mb mq mr : Bool} {va vb vq vr : Value} {za zb zq zr : List Value} (h : Quad w B a b q r ma mb mq mr va vb vq vr za zb zq zr) : Quad w B b r q a mb mr mq ma vb vr vq va zb zr zq za :=
  ⟨h.bb, h.br, h.bq, h.ba, h.sbr, h.sbq, h.sab.symm, h.sqr.symm, h.sar.symm, h.saq.symm, h.nbr, h.nbq, h.nab.symm, h.nqr.symm, h.nar.symm, h.naq.symm⟩
theorem Bx.drewN {w : World} {B c : Nat} {m : Bool} {v : Value} {zs : List Value} (h : Bx w B c m v zs) (k : Nat) : Bx (w.drewN k) B c m v zs := ⟨h.le, h.row, h.own.drewN k⟩
theorem Quad.drewN {w : World} {B a b q r : Nat} {ma mb mq mr : Bool} {va vb vq vr : Value} {za zb zq zr : List Value} (h : Quad w B a b q r ma mb mq mr va vb vq vr za zb zq zr) (k : Nat) : Quad (w.drewN k) B a b q r ma mb mq mr va vb vq vr za zb zq zr :=
  { h with ba := h.ba.drewN k, bb := h.bb.drewN k, bq := h.bq.drewN k, br := h.br.drewN k }
theorem Bx.alloc {w : World} {B c : Nat} {m : Bool} {v : Value} {zs : List Value} (h : Bx w B c m v zs) (o : Obj) : Bx (w.alloc o) B c m v zs := ⟨h.le, (heap_alloc_lt h.row).1, h.own.alloc o⟩
theorem Bx.new (w : World) {B : Nat} (h : B ≤ w.heap.size) : Bx (w.alloc (.cells #[.bool false, .slice none 0 0] 110)) B w.heap.size false (.slice none 0 0) [] := ⟨h, heap_alloc_new w _, Own.nil _ _ _⟩
theorem quad_start {w1 w2 : World} {B a : Nat} {va vb : Value} {N M : Nat} (ha : Bx w1 B a false va (cellsW (wds N))) (hf : ∀ t, t < w1.heap.size → w2.heap[t]? = w1.heap[t]?) (hb : Bx w2 B w1.heap.size false vb (cellsW (wds M))) (hs : 0 < sCap vb → w1.heap.size < sBlk vb) (k : Nat) (hk : k = w2.heap.size + 1) :
    Quad ((w2.alloc (.cells #[.bool false, .slice none 0 0] 110)).alloc (.cells #[.bool false, .slice none 0 0] 110)) B a w1.heap.size w2.heap.size k false false false false va vb (.slice none 0 0) (.slice none 0 0) (cellsW (wds N)) (cellsW (wds M)) [] [] := by
  subst hk
  have l1 := get_lt ha.row
  have l2 := get_lt hb.row
  have ha2 : Bx w2 B a false va (cellsW (wds N)) := ⟨ha.le, (hf _ l1).trans ha.row, ha.own.same fun hc => hf _ (ha.own.lt hc).2⟩
  have hB : B ≤ w2.heap.size := Nat.le_trans hb.le (Nat.le_of_lt l2)
  have hz : (w2.alloc (.cells #[.bool false, .slice none 0 0] 110)).heap.size = w2.heap.size + 1 := by simp
  have hn : ∀ v : Value, Sep v (.slice none 0 0) := fun v _ h => absurd h (by decide)
  have hr := Bx.new (w2.alloc (.cells #[.bool false, .slice none 0 0] 110)) (B := B) (by omega)
  rw [hz] at hr
  refine ⟨(ha2.alloc _).alloc _, (hb.alloc _).alloc _, (Bx.new w2 hB).alloc _, hr, ?_, hn _, hn _, hn _, hn _, hn _, by omega, by omega, by omega, by omega, by omega, by omega⟩
  intro hv hu he
  have := (ha.own.lt hv).2
  have := hs hu
  omega
structure Lg (w wr : World) (B a b q r X Y G : Nat) : Prop where
  ex : ∃ (mq mr : Bool) (va vb vq vr : Value) (zq zr : List Value), Quad wr B a b q r false false mq mr va vb vq vr (cellsW (wds X)) (cellsW (wds Y)) zq zr
  le : Y ≤ X
  pos : 0 < X
  big : nw X < 40
  gcd : Nat.gcd X Y = G
  bl : Below B w wr
theorem Lg.drewN {w wr : World} {B a b q r X Y G : Nat} (h : Lg w wr B a b q r X Y G) (k : Nat) : Lg w (wr.drewN k) B a b q r X Y G := by
  obtain ⟨mq, mr, va, vb, vq, vr, zq, zr, Q⟩ := h.ex
  exact ⟨⟨mq, mr, va, vb, vq, vr, zq, zr, Q.drewN k⟩, h.le, h.pos, h.big, h.gcd, undrewN' h.bl⟩
theorem Lg.cells {w wr : World} {B a b q r X Y G : Nat} (h : Lg w wr B a b q r X Y G) : ∃ va vb, wr.cell? ⟨a, 1, none⟩ = some va ∧ wr.cell? ⟨b, 1, none⟩ = some vb ∧ IsS va ∧ IsS vb ∧ sLen va = nw X ∧ sLen vb = nw Y := by
  obtain ⟨mq, mr, va, vb, vq, vr, zq, zr, Q⟩ := h.ex
  exact ⟨va, vb, (row_at (i := 1) Q.ba.row rfl).1, (row_at (i := 1) Q.bb.row rfl).1, Q.ba.own.isS, Q.bb.own.isS, by rw [Q.ba.own.len, cellsW_length, wds_length], by rw [Q.bb.own.len, cellsW_length, wds_length]⟩
theorem Lg.sim {w wr : World} {B a b q r X Y G : Nat} (h : Lg w wr B a b q r X Y G) (h2 : 2 ≤ nw Y) :
    Calls Tryz.prog 191 #[.pointer (some ⟨a, 0, none⟩), .pointer (some ⟨b, 0, none⟩)] wr (SimP X Y wr) := by
  obtain ⟨mq, mr, va, vb, vq, vr, zq, zr, Q⟩ := h.ex
  have hb := h.big
  exact sim_any a b X Y va vb wr (row_at (i := 1) Q.ba.row rfl).1 (row_at (i := 1) Q.bb.row rfl).1 Q.ba.ro.rw Q.bb.ro.rw h.le h2 (by omega)
theorem nw_two_pos {Y : Nat} (h : 1 ≤ nw Y) : 0 < Y := by
  rcases Nat.eq_zero_or_pos Y with h0 | h0
  · subst h0; exact absurd h (by decide)
  · exact h0
theorem Lg.upd {w wr : World} {B a b q r X Y G u0 u1 v0 v1 : Nat} {ev : Bool} (h : Lg w wr B a b q r X Y G) (h2 : 2 ≤ nw Y) (hv : v0 ≠ 0)
    (hl : u0 < 18446744073709551616 ∧ u1 < 18446744073709551616 ∧ v0 < 18446744073709551616 ∧ v1 < 18446744073709551616 ∧ Lead X Y u0 u1 v0 v1 ev) :
    Calls Tryz.prog 192 #[.pointer (some ⟨a, 0, none⟩), .pointer (some ⟨b, 0, none⟩), .pointer (some ⟨q, 0, none⟩), .pointer (some ⟨r, 0, none⟩), .int .u64 u0, .int .u64 u1, .int .u64 v0, .int .u64 v1, .bool ev] wr
      fun e w' => e = .returned (.tuple #[]) ∧ ∃ X' Y', Lg w w' B a b q r X' Y' G ∧ Y' < Y := by
  obtain ⟨mq, mr, va, vb, vq, vr, zq, zr, Q⟩ := h.ex
  have hb := h.big
  have hYX := nw_mono h.le
  obtain ⟨l0, l1, l2, l3, hd⟩ := hl
  rcases hd with hd | ⟨d1, d2, X', Y', hs, hi⟩
  · exact absurd hd hv
  refine (lehmerUpdate_any a b q r B X Y X' Y' u0 u1 v0 v1 ev mq mr va vb vq vr zq zr wr Q h.pos (nw_two_pos (by omega)) (by omega) (by omega) l0 l1 l2 l3 d1 d2 hs.lt hi).mono ?_
  rintro e w' ⟨h1, h3, h4⟩
  have hX' := nw_mono hs.top
  exact ⟨h1, X', Y', ⟨h3, Nat.le_of_lt hs.lt, by have := hs.lt; omega, by omega, hs.gcd.trans h.gcd, h.bl.trans h4⟩, hs.less⟩
theorem Lg.euc {w wr : World} {B a b q r X Y G : Nat} (h : Lg w wr B a b q r X Y G) (hY : 0 < Y) (hT : DivW w) (hg : 4 < B) :
    Calls Tryz.prog 193 #[.pointer (some ⟨a, 0, none⟩), .pointer (some ⟨b, 0, none⟩), .pointer none, .pointer none, .pointer (some ⟨q, 0, none⟩), .pointer (some ⟨r, 0, none⟩), .bool false] wr
      fun e w' => e = .returned (.tuple #[.pointer (some ⟨b, 0, none⟩), .pointer (some ⟨r, 0, none⟩), .pointer (some ⟨a, 0, none⟩), .pointer none, .pointer none]) ∧ Lg w w' B b r q a Y (X % Y) G := by
  obtain ⟨mq, mr, va, vb, vq, vr, zq, zr, Q⟩ := h.ex
  have hb := h.big
  have hYX := nw_mono h.le
  refine (euclid_any a b q r B X Y mq mr va vb vq vr zq zr wr Q h.pos hY (by omega) (by omega) (hT.belowB h.bl hg) hg).mono ?_
  rintro e w' ⟨h1, ⟨vq', vr', h3⟩, h4⟩
  have hm := Nat.mod_lt X hY
  refine ⟨h1, ⟨false, false, vb, vr', vq', va, _, _, h3.euc⟩, Nat.le_of_lt hm, hY, by omega, ?_, h.bl.trans h4⟩
  rw [← h.gcd, Nat.gcd_comm Y, ← Nat.gcd_rec, Nat.gcd_comm]
def numAt (w : World) (v : Value) : Nat := wv ((List.range (sLen v)).map fun i => match w.cell? ⟨sBlk v, sOff v + i, none⟩ with | some (.int _ z) => z.toNat | _ => 0)
def boxN (w : World) (p : Value) : Nat := match p with
  | .pointer (some a) => match w.cell? ⟨a.block, 1, none⟩ with | some v => numAt w v | none => 0
  | _ => 0
theorem numAt_of {w : World} {v : Value} {Y : Nat} (h : RW w v (wds Y)) : numAt w v = Y := by
  unfold numAt
  rw [show sLen v = (wds Y).length from h.len]
  have : ((List.range (wds Y).length).map fun i => match w.cell? ⟨sBlk v, sOff v + i, none⟩ with | some (.int _ z) => z.toNat | _ => 0) = wds Y := by
    refine List.ext_getElem (by simp) ?_
    intro i h1 h2
    have := h.at i (.int .u64 ((wds Y)[i] : Int)) (by simp [cellsW, List.getElem?_map, List.getElem?_eq_getElem h2])
    simp [this]
  rw [this, wv_wds]
theorem Lg.boxN {w wr : World} {B a b q r X Y G : Nat} (h : Lg w wr B a b q r X Y G) : boxN wr (.pointer (some ⟨b, 0, none⟩)) = Y := by
  obtain ⟨mq, mr, va, vb, vq, vr, zq, zr, Q⟩ := h.ex
  have h1 : wr.cell? ⟨b, 1, none⟩ = some vb := (row_at (i := 1) Q.bb.row rfl).1
  simp only [Proofs.YtllhnjpnkmjopaaGreatDoor.boxN, h1]
  exact numAt_of Q.bb.ro.rw
theorem Lg.done {w wr : World} {B a b q r X G : Nat} (h : Lg w wr B a b q r X 0 G) : ∃ v, Bx wr B a false v (cellsW (wds G)) ∧ Below B w wr := by
  have hG := h.gcd
  rw [Nat.gcd_zero_right] at hG
  obtain ⟨mq, mr, va, vb, vq, vr, zq, zr, Q⟩ := h.ex
  rw [← hG]
  exact ⟨va, Q.ba, h.bl⟩
theorem wds_single {X : Nat} (h : nw X = 1) : wds X = [X] := by
  have h1 : (wds X).length = 1 := by rw [wds_length, h]
  have h2 := wv_wds X
  match hh : wds X, h1 with
  | [d], _ => rw [hh] at h2; simp [wv] at h2; rw [h2]
theorem single_lt {X : Nat} (h : nw X = 1) : X < 18446744073709551616 := wds_lt (n := X) (by rw [wds_single h]; simp)
theorem nw_single {X : Nat} (h0 : 0 < X) (h : X < 18446744073709551616) : nw X = 1 := by
  have h1 := nw_pos h0
  have h2 : nw X ≤ 1 := nw_le (by rw [Nat.pow_one]; exact h)
  omega
theorem Lg.words {w wr : World} {B a b q r X Y G : Nat} (h : Lg w wr B a b q r X Y G) (hX : nw X = 1) (hY : 0 < Y) :
    ∃ va vb, (wr.cell? ⟨a, 1, none⟩ = some va ∧ wr.cell? ⟨b, 1, none⟩ = some vb ∧ IsS va ∧ IsS vb ∧ sLen va = 1 ∧ sLen vb = 1 ∧ wr.cell? ⟨sBlk va, sOff va, none⟩ = some (.int .u64 (X : Int)) ∧ wr.cell? ⟨sBlk vb, sOff vb, none⟩ = some (.int .u64 (Y : Int)) ∧ wr.frozen? ⟨sBlk va, sOff va, none⟩ = false) ∧
      ∀ (k g : Nat), 0 < g → g < 18446744073709551616 → Bx ((wr.drewN k).setCell ⟨sBlk va, sOff va, none⟩ (.int .u64 (g : Int))) B a false va (cellsW (wds g)) ∧ Below B w ((wr.drewN k).setCell ⟨sBlk va, sOff va, none⟩ (.int .u64 (g : Int))) := by
  have hY1 : nw Y = 1 := by have h1 := nw_mono h.le; have h2 := nw_pos hY; omega
  obtain ⟨mq, mr, va, vb, vq, vr, zq, zr, Q⟩ := h.ex
  have ba := Q.ba
  have bb := Q.bb
  rw [wds_single hX] at ba
  rw [wds_single hY1] at bb
  have la : sLen va = 1 := ba.own.len
  have lb : sLen vb = 1 := bb.own.len
  have hcap : 0 < sCap va := by have := ba.own.isS.le; omega
  refine ⟨va, vb, ⟨(row_at (i := 1) ba.row rfl).1, (row_at (i := 1) bb.row rfl).1, ba.own.isS, bb.own.isS, la, lb, ?_, ?_, ?_⟩, fun k g h0 hg => ?_⟩
  · have h1 : RW wr va [X] := wds_single hX ▸ Q.ba.ro.rw
    exact h1.at 0 _ rfl
  · have h1 : RW wr vb [Y] := wds_single hY1 ▸ Q.bb.ro.rw
    exact h1.at 0 _ rfl
  · obtain ⟨cur, hc⟩ := ba.own.rowOf hcap
    exact frozen_of_row wr _ _ _ _ hc
  · have hbk : B ≤ sBlk va := (ba.own.lt hcap).1
    have h1 := (ba.own.drewN k).set (i := 0) (by simp [cellsW]) (.int .u64 (g : Int))
    rw [wds_single (nw_single h0 hg)]
    refine ⟨⟨ba.le, ?_, h1⟩, bset (undrewN' h.bl) hbk⟩
    exact (heap_setCell_other _ _ _ _ (by
      have := ba.own.neRow ba.row (by decide) hcap
      simpa using fun he => this he)).trans ba.row
end Go.Proofs.YtllhnjpnkmjopaaGreatDoor
