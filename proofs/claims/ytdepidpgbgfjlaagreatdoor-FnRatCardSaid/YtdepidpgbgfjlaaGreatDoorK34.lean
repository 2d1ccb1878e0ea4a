/-
Texts of this proof, joined: RnL NvD StB FlR TzA TzD TzE SrA SrE SrF TzF FlS FlV LwA RaA RaB IfK RaC RaD. No condition.
-/
import Derived.Test.YtdepidpgbgfjlaaGreatDoorK02
import Derived.Test.YtdepidpgbgfjlaaGreatDoorK03
import Derived.Test.YtdepidpgbgfjlaaGreatDoorK05
import Derived.Test.YtdepidpgbgfjlaaGreatDoorK06
import Derived.Test.YtdepidpgbgfjlaaGreatDoorK10
import Derived.Test.YtdepidpgbgfjlaaGreatDoorK11
import Derived.Test.YtdepidpgbgfjlaaGreatDoorK14
import Derived.Test.YtdepidpgbgfjlaaGreatDoorK25
import Derived.Test.YtdepidpgbgfjlaaGreatDoorK28
import Derived.Test.YtdepidpgbgfjlaaGreatDoorK30
import Derived.Test.YtdepidpgbgfjlaaGreatDoorK31
import Derived.Test.YtdepidpgbgfjlaaGreatDoorK33
import Derived.Lib.TrailingZeros
import Derived.Shelf.Spec.TrailingZeros
import Derived.IntWalk
namespace Go.Proofs.YtdepidpgbgfjlaaGreatDoor
open Go.RowKit

def FVal (w : World) (B b p m : Nat) (a : Int) (f : Nat) (neg : Bool) (M : Nat) (X : Int) : Prop :=
  ∃ v e, FltR w b p m a f neg v e ∧ (f = 1 → 0 < M ∧ ∃ ws, Own w B 164 v (cellsW ws) ∧ Good ws p ∧ deq (wv ws) (e - 64 * (ws.length : Int)) M X)
theorem FVal.below {w w' : World} {B b p m f : Nat} {a : Int} {neg : Bool} {M : Nat} {X : Int} (h : FVal w B b p m a f neg M X) (hb : Below w.heap.size w w') : FVal w' B b p m a f neg M X := by
  obtain ⟨v, e, h1, h3⟩ := h
  refine ⟨v, e, h1.below hb, fun hf => ?_⟩
  obtain ⟨h4, ws, h5, h6, h7⟩ := h3 hf
  exact ⟨h4, ws, h5.below hb, h6, h7⟩
theorem topN_good {M p : Nat} (h : 0 < M) (hM : bl M ≤ p) (hl : nw M ≤ 1000000) : Good (topN M) p := by
  have hb := nw_bl h
  have hbp := bl_pos h
  refine ⟨by rw [topN_length]; exact nw_pos h, by rw [topN_length]; exact hl, wdsN_lt, ?_, topN_fits h hM⟩
  rw [topN_length, topN_wv h, show 64 * nw M - 1 = (bl M - 1) + (64 * nw M - bl M) by omega, Nat.pow_add]
  exact Nat.mul_le_mul_right _ (bl_ge h)
theorem FloatAt.val {w : World} {B g p m f M : Nat} {neg : Bool} {e : Int} (h : FloatAt w B g p m f neg M e) (h1 : f = 1 → 0 < M ∧ bl M ≤ p ∧ nw M ≤ 1000000) : FVal w B g p m 0 f neg M e := by
  obtain ⟨-, r, x, h2, h3⟩ := h
  refine ⟨r, x, h2, fun hf => ?_⟩
  obtain ⟨k1, k2, k3⟩ := h1 hf
  obtain ⟨k4, k5⟩ := h3 hf
  have hb := nw_bl k1
  refine ⟨k1, topN M, k5, topN_good k1 k2 k3, ?_⟩
  rw [topN_wv k1, topN_length, k4]
  refine ⟨0, 64 * nw M - bl M, by simp, ?_⟩
  omega
theorem RndQ.val {u B b p m s N : Nat} {neg : Bool} {X : Int} {w w' : World} (h : RndQ u B b p m neg s N X w w') (hN : 0 < rQ p m neg s N) : FVal w' B b p m (rA p m neg s N) 1 neg (rQ p m neg s N) (X + rk p N) := by
  obtain ⟨v, ws, e, h1, h2, h3, h4, -, -⟩ := h
  exact ⟨v, e, h1, fun _ => ⟨hN, ws, h2, h3, h4⟩⟩
theorem RndP.val {B b p m s N : Nat} {neg : Bool} {X : Int} {w w' : World} (h : RndP B b p m neg s N X w w') (hN : 0 < rQ p m neg s N) : FVal w' B b p m (rA p m neg s N) 1 neg (rQ p m neg s N) (X + rk p N) := by
  obtain ⟨v, ws, e, h1, h2, h3, h4, -⟩ := h
  exact ⟨v, e, h1, fun _ => ⟨hN, ws, h2, h3, h4⟩⟩
theorem natv_dyad {w : World} {k T n : Nat} {a : Bool} {b x y z v : Value} (hb : IsS b) (hv : NatV w v n) (h : w.heap[k]? = some (.cells #[.bool a, b, .int .i64 0] T (0, 0))) :
    NatV (((w.setCell ⟨k, 0, none⟩ x).setCell ⟨k, 1, none⟩ y).setCell ⟨k, 2, none⟩ z) v n := by
  refine ⟨hv.isS, hv.len, fun i hi => ?_⟩
  have hne : sBlk v ≠ k := by
    intro he
    have ht := hv.cell (nl n - 1) (by omega)
    rw [he, cell_of_row w k _ _ _ _ h] at ht
    obtain ⟨b1, b2, b3, rfl⟩ := hb.form
    have hd : dig n (nl n - 1) ≠ 0 := dig_last (Nat.pos_of_ne_zero fun h0 => by rw [h0] at hi; rw [nl_zero] at hi; omega)
    rcases Nat.lt_or_ge (sOff v + (nl n - 1)) 3 with h3 | h3
    · rcases (by omega : sOff v + (nl n - 1) = 0 ∨ sOff v + (nl n - 1) = 1 ∨ sOff v + (nl n - 1) = 2) with e | e | e <;> rw [e] at ht <;> simp at ht
      exact hd (by omega)
    · rw [Array.getElem?_eq_none (by simpa using h3)] at ht; cases ht
  have hh : (((w.setCell ⟨k, 0, none⟩ x).setCell ⟨k, 1, none⟩ y).setCell ⟨k, 2, none⟩ z).heap[sBlk v]? = w.heap[sBlk v]? := by
    rw [heap_setCell_other _ _ _ _ (by simpa using hne), heap_setCell_other _ _ _ _ (by simpa using hne), heap_setCell_other _ _ _ _ (by simpa using hne)]
  exact (World.cell?_of_block hh).trans (hv.cell i hi)
def DyV (w : World) (v : Value) (n : Bool) (x : Nat) (e : Int) : Prop := ∃ a, v = .agg #[.bool n, a, .int .i64 e] ∧ NatV w a x
theorem bl_two (x n : Nat) : bl (x * 2 ^ n) ≤ bl x + n := bl_le (by
  rw [Nat.pow_add]; exact Nat.mul_lt_mul_of_pos_right (lt_bl x) (Nat.two_pow_pos n))
theorem nl_of_bl {n k : Nat} (h : bl n ≤ k) : nl n ≤ k := nl_bl (by omega)
theorem wrap_i64_id {a : Int} (h1 : -9223372036854775808 ≤ a) (h2 : a ≤ 9223372036854775807) : IntKind.i64.wrap a = a := by rw [IntKind.wrap_i64]; omega
theorem FVal.setNeg {w : World} {B b p m f M : Nat} {a : Int} {neg : Bool} {X : Int} (h : FVal w B b p m a f neg M X) (x : Bool) : FVal (w.setCell ⟨b, 4, none⟩ (.bool x)) B b p m a f x M X := by
  obtain ⟨v, e, h1, h2⟩ := h
  refine ⟨v, e, h1.s4 x, fun hf => ?_⟩
  obtain ⟨n1, ws, n2, n3, n4⟩ := h2 hf
  exact ⟨n1, ws, h1.own n2 4 _, n3, n4⟩
theorem ks12 {W X : World} {k : Nat} {a b c d e f : Value} {T : TypeId} (hr : W.heap[k]? = some (.cells #[a, b, c, d, e, f] T (0, 0))) (h : Below W.heap.size W X) :
    Below W.heap.size W X ∧ X.cell? ⟨k, 0, none⟩ = some a ∧ X.cell? ⟨k, 1, none⟩ = some b ∧ X.cell? ⟨k, 2, none⟩ = some c ∧ X.cell? ⟨k, 3, none⟩ = some d ∧ X.cell? ⟨k, 4, none⟩ = some e ∧ X.cell? ⟨k, 5, none⟩ = some f :=
  ⟨h, (row_at (keep_row h hr) rfl).1, (row_at (keep_row h hr) rfl).1, (row_at (keep_row h hr) rfl).1, (row_at (keep_row h hr) rfl).1, (row_at (keep_row h hr) rfl).1, (row_at (keep_row h hr) rfl).1⟩
def TabW (w : World) : Prop := TabAt 6 Lib.deBruijn64tab w
theorem TabW.below {w w' : World} (h : TabW w) (hb : Below w.heap.size w w') : TabW w' := fun j hj => by
  have h1 := h j hj
  have hlt := World.block_lt_of_cell? w _ h1
  rw [hb.cell (p := ⟨6, j, none⟩) hlt]; exact h1
theorem TabW.drewN {w : World} (h : TabW w) (n : Nat) : TabW (w.drewN n) := h
section
variable {b p m f : Nat} {a e : Int} {neg : Bool} {v : Value} {w : World}
end
def RealV (w : World) (z : Value) (p m f : Nat) (neg : Bool) (M : Nat) (X : Int) : Prop :=
  ∃ (v : Value) (E : Int) (zs : List Nat) (B : Nat), z = .agg #[.int .u64 p, .int .i64 m, .int .i64 f, .bool neg, v, .int .i64 E] ∧ Own w B 35 v (cellsW zs) ∧ (∀ d ∈ zs, d < 18446744073709551616) ∧ (f ≠ 1 → zs = [] ∧ E = 0) ∧ (f = 1 → zs = wds (od M) ∧ E = X + (tz M : Nat))
theorem row6 {w : World} {k T : Nat} {a b c d e f : Value} (h : w.heap[k]? = some (.cells #[a, b, c, d, e, f] T (0, 0))) :
    (w.cell? ⟨k, 0, none⟩ = some a ∧ w.cell? ⟨k, 1, none⟩ = some b ∧ w.cell? ⟨k, 2, none⟩ = some c ∧ w.cell? ⟨k, 3, none⟩ = some d ∧ w.cell? ⟨k, 4, none⟩ = some e ∧ w.cell? ⟨k, 5, none⟩ = some f) ∧
    (w.frozen? ⟨k, 0, none⟩ = false ∧ w.frozen? ⟨k, 1, none⟩ = false ∧ w.frozen? ⟨k, 2, none⟩ = false ∧ w.frozen? ⟨k, 3, none⟩ = false ∧ w.frozen? ⟨k, 4, none⟩ = false ∧ w.frozen? ⟨k, 5, none⟩ = false) :=
  ⟨⟨(row_at (i := 0) h rfl).1, (row_at (i := 1) h rfl).1, (row_at (i := 2) h rfl).1, (row_at (i := 3) h rfl).1, (row_at (i := 4) h rfl).1, (row_at (i := 5) h rfl).1⟩,
   ⟨(row_at (i := 0) h rfl).2, (row_at (i := 1) h rfl).2, (row_at (i := 2) h rfl).2, (row_at (i := 3) h rfl).2, (row_at (i := 4) h rfl).2, (row_at (i := 5) h rfl).2⟩⟩
theorem RW.nil (w : World) : RW w (.slice none 0 0) [] := ⟨⟨IsS.nil, rfl, fun i hi => by simp [ints] at hi⟩, fun d hd => by cases hd⟩
def ShrRel (Y B k : Nat) (w : World) (v : Value) (wr : World) : Prop :=
  ∃ ds : List Nat, Own wr B 3 v (cellsN ds) ∧ (∀ d ∈ ds, d < 65536) ∧ ds.length = k ∧ val ds = Y % 65536 ^ k ∧ Below B w wr
theorem ShrRel.step {Y B k r : Nat} {w w1 : World} {v1 : Value} {ds : List Nat} (hd : ∀ d ∈ ds, d < 65536) (hdl : ds.length = k) (hv : val ds = Y % 65536 ^ k) (hr : r = dig Y k)
    (ho : Own w1 B 3 v1 (cellsN ds ++ [.int .i64 (r : Int)])) (hb : Below B w w1) : ShrRel Y B (k + 1) w v1 w1 := by
  rw [cellsN_snoc] at ho
  refine ⟨_, ho, ?_, by simp [hdl], ?_, hb⟩
  · intro z hz
    rcases List.mem_append.1 hz with h | h
    · exact hd z h
    · rw [List.mem_singleton.1 h, hr]; exact dig_lt _ _
  · rw [val_snoc, hdl, mod_succ, hv, hr]
def Told (w : World) (z : Value) (p m : Nat) (n : Bool) (x : Nat) (e : Int) : Prop :=
  ∃ (f : Nat) (ng : Bool) (v : Value) (E : Int) (zs : List Nat), z = .agg #[.int .u64 p, .int .i64 m, .int .i64 f, .bool ng, v, .int .i64 E] ∧ RW w v zs ∧
    (x = 0 → f = 0 ∧ zs = [] ∧ E = 0) ∧ (x ≠ 0 → f = 1 ∧ ng = n ∧ zs = wds (od x) ∧ E = e + (tz x : Nat))
theorem Told.below {w w' : World} {z : Value} {p m x : Nat} {n : Bool} {e : Int} (h : Told w z p m n x e) (hb : Below w.heap.size w w') : Told w' z p m n x e := by
  obtain ⟨f, ng, v, E, zs, h1, h2, h3, h4⟩ := h
  exact ⟨f, ng, v, E, zs, h1, h2.below hb, h3, h4⟩
theorem Told.form {w : World} {z : Value} {p m x : Nat} {n : Bool} {e : Int} (h : Told w z p m n x e) : ∃ (f : Nat) (ng : Bool) (v : Value) (E : Int), z = .agg #[.int .u64 p, .int .i64 m, .int .i64 f, .bool ng, v, .int .i64 E] ∧ IsS v := by
  obtain ⟨f, ng, v, E, zs, h1, h2, -, -⟩ := h
  exact ⟨f, ng, v, E, h1, h2.isS⟩
theorem RealV.below {w w' : World} {z : Value} {p m f M : Nat} {neg : Bool} {X : Int} (h : RealV w z p m f neg M X) (hb : Below w.heap.size w w') : RealV w' z p m f neg M X := by
  obtain ⟨v, E, zs, B, h1, h2, hd, h3, h4⟩ := h
  exact ⟨v, E, zs, B, h1, h2.below hb, hd, h3, h4⟩
theorem RealV.told {w : World} {z : Value} {p m M x : Nat} {neg : Bool} {X e : Int} (h : RealV w z p m 1 neg M X) (hM : 0 < M) (hq : deq M X x e) : Told w z p m neg x e := by
  obtain ⟨v, E, zs, B, h1, h2', hd, -, h4⟩ := h
  have h2 := h2'.rw' hd
  obtain ⟨h5, h6⟩ := h4 rfl
  have hx := hq.pos hM
  obtain ⟨k1, k2⟩ := hq.od hM
  exact ⟨1, neg, v, E, zs, h1, h2, fun h => by omega, fun _ => ⟨rfl, rfl, by rw [h5, k1], by rw [h6, k2]⟩⟩
theorem FVal.form {w : World} {B b p m f M : Nat} {a : Int} {neg : Bool} {X : Int} (h : FVal w B b p m a f neg M X) : ∃ v e, FltR w b p m a f neg v e := by
  obtain ⟨v, e, h, -⟩ := h; exact ⟨v, e, h⟩
theorem FloatAt.below {w w' : World} {B g p m f M : Nat} {neg : Bool} {e : Int} (h : FloatAt w B g p m f neg M e) (hb : Below w.heap.size w w') : FloatAt w' B g p m f neg M e := by
  obtain ⟨h1, r, x, h2, h3⟩ := h
  exact ⟨h1, r, x, h2.below hb, fun hf => ⟨(h3 hf).1, (h3 hf).2.below hb⟩⟩
theorem RealOk.form {P E p m f : Nat} {ws : List Nat} {e : Int} (h : RealOk P E p m f ws e) : f ≤ 2 := by
  obtain ⟨_, _, _, h | h | ⟨h, _⟩⟩ := h <;> omega
theorem RealOk.len {P E p m f : Nat} {ws : List Nat} {e : Int} (h : RealOk P E p m f ws e) (hf : f = 1) : ws.length ≤ 1000000 := by
  obtain ⟨_, _, _, h | h | h⟩ := h
  · omega
  · omega
  · exact h.2.2.2.1
theorem ks6R {X : World} {k t i : Nat} {a b c d e f u : Value} (hk : t ≠ k)
    (h : X.cell? ⟨k, 0, none⟩ = some a ∧ X.cell? ⟨k, 1, none⟩ = some b ∧ X.cell? ⟨k, 2, none⟩ = some c ∧ X.cell? ⟨k, 3, none⟩ = some d ∧ X.cell? ⟨k, 4, none⟩ = some e ∧ X.cell? ⟨k, 5, none⟩ = some f) :
    (X.setCell ⟨t, i, none⟩ u).cell? ⟨k, 0, none⟩ = some a ∧ (X.setCell ⟨t, i, none⟩ u).cell? ⟨k, 1, none⟩ = some b ∧ (X.setCell ⟨t, i, none⟩ u).cell? ⟨k, 2, none⟩ = some c ∧ (X.setCell ⟨t, i, none⟩ u).cell? ⟨k, 3, none⟩ = some d ∧ (X.setCell ⟨t, i, none⟩ u).cell? ⟨k, 4, none⟩ = some e ∧ (X.setCell ⟨t, i, none⟩ u).cell? ⟨k, 5, none⟩ = some f := by
  have hk' : ∀ j, (X.setCell ⟨t, i, none⟩ u).cell? ⟨k, j, none⟩ = X.cell? ⟨k, j, none⟩ := fun j => cell_other (by simpa using hk)
  simp only [hk']; exact h
set_option maxRecDepth 100000 in
set_option maxHeartbeats 800000 in
theorem ofReal_other (p m f : Nat) (e : Int) (neg : Bool) (v : Value) (w : World) (_hS : IsS v) (hf : f ≠ 1) :
    Calls Tryz.prog 33 #[.agg #[.int .u64 p, .int .i64 m, .int .i64 f, .bool neg, v, .int .i64 e]] w fun e' w' => ∃ r, e' = .returned r ∧ DyV w' r false 0 0 ∧ Below w.heap.size w w' := by
  have t1 : ((f : Int) != 1) = true := by rw [bne_iff_ne]; omega
  have hab := (Below.refl w.heap.size w).alloc (Nat.le_refl _) (.cells #[.int .u64 p, .int .i64 m, .int .i64 f, .bool neg, v, .int .i64 e] 39)
  have hac := hab.alloc hab.size (.cells #[.bool false, .slice none 0 0, .int .i64 0] 44)
  obtain ⟨X, hX⟩ : ∃ X, X = (w.alloc (.cells #[.int .u64 p, .int .i64 m, .int .i64 f, .bool neg, v, .int .i64 e] 39)).alloc (.cells #[.bool false, .slice none 0 0, .int .i64 0] 44) := ⟨_, rfl⟩
  have hr1 : X.heap[w.heap.size]? = some (.cells #[.int .u64 p, .int .i64 m, .int .i64 f, .bool neg, v, .int .i64 e] 39 (0, 0)) := by
    rw [hX]; exact keep_row (fbone _) (box_row (Below.refl _ _))
  have hr2 : X.heap[w.heap.size + 1]? = some (.cells #[.bool false, .slice none 0 0, .int .i64 0] 44 (0, 0)) := by
    rw [hX]
    have := box_row (Below.refl _ ((w.alloc (.cells #[.int .u64 p, .int .i64 m, .int .i64 f, .bool neg, v, .int .i64 e] 39)).alloc (.cells #[.bool false, .slice none 0 0, .int .i64 0] 44)))
    simpa using this
  rw [← hX] at hac
  obtain ⟨-, x0, x1, x2, x3, x4, x5⟩ := ks12 hr1 (Below.refl _ _)
  obtain ⟨y0, y1, y2, z0, z1, z2⟩ := row3 hr2
  have HR2 := Lib.hid hr2
  have HB := Lib.hid hac
  clear hr1 hr2 hab hac hf
  go_enter Tryz.func33, Tryz.ntmps33
  go_upto_region 1 with fail
  rw [← hX]
  clear hX
  go_wp2
  obtain ⟨hx0, hx1, hx2, -, -, -⟩ := row3 (row3_set (x := .bool false) (y := .slice none 0 0) (z := .int .i64 0) HR2.out)
  have hbY := bset (i := 2) (u := .int .i64 0) (bset (i := 1) (u := .slice none 0 0) (bset (i := 0) (u := .bool false) HB.out (Nat.le_succ _)) (Nat.le_succ _)) (Nat.le_succ _)
  refine bodyPost_ret (v := .agg #[.bool false, .slice none 0 0, .int .i64 0]) ?_ rfl ⟨_, rfl, ⟨_, rfl, NatV.zero IsS.nil rfl⟩, hbY⟩
  simp [results, Tryz.results33, go_sem, hx0, hx1, hx2]
set_option maxRecDepth 100000 in
set_option maxHeartbeats 1600000 in
theorem ofReal_one (p m : Nat) (e : Int) (neg : Bool) (v : Value) (ws : List Nat) (w : World) (hv : RW w v ws) (hl : ws.length ≤ 1000000) :
    Calls Tryz.prog 33 #[.agg #[.int .u64 p, .int .i64 m, .int .i64 1, .bool neg, v, .int .i64 e]] w fun e' w' => ∃ r, e' = .returned r ∧ DyV w' r neg (wv ws) e ∧ Below w.heap.size w w' := by
  have hS := hv.isS
  have hab := (Below.refl w.heap.size w).alloc (Nat.le_refl _) (.cells #[.int .u64 p, .int .i64 m, .int .i64 1, .bool neg, v, .int .i64 e] 39)
  have hac := hab.alloc hab.size (.cells #[.bool false, .slice none 0 0, .int .i64 0] 44)
  obtain ⟨X, hX⟩ : ∃ X, X = (w.alloc (.cells #[.int .u64 p, .int .i64 m, .int .i64 1, .bool neg, v, .int .i64 e] 39)).alloc (.cells #[.bool false, .slice none 0 0, .int .i64 0] 44) := ⟨_, rfl⟩
  have hr1 : X.heap[w.heap.size]? = some (.cells #[.int .u64 p, .int .i64 m, .int .i64 1, .bool neg, v, .int .i64 e] 39 (0, 0)) := by
    rw [hX]; exact keep_row (fbone _) (box_row (Below.refl _ _))
  have hr2 : X.heap[w.heap.size + 1]? = some (.cells #[.bool false, .slice none 0 0, .int .i64 0] 44 (0, 0)) := by
    rw [hX]
    have := box_row (Below.refl _ ((w.alloc (.cells #[.int .u64 p, .int .i64 m, .int .i64 1, .bool neg, v, .int .i64 e] 39)).alloc (.cells #[.bool false, .slice none 0 0, .int .i64 0] 44)))
    simpa using this
  rw [← hX] at hac
  obtain ⟨-, x0, x1, x2, x3, x4, x5⟩ := ks12 hr1 (Below.refl _ _)
  have HR1 := Lib.hid hr1
  have HR2 := Lib.hid hr2
  have HB := Lib.hid hac
  have HV := Lib.hid (hv.below hac)
  have hcc := Below.refl X.heap.size X
  have hXs := hac.size
  clear hr1 hr2 hab hac hv
  go_enter Tryz.func33, Tryz.ntmps33
  go_upto_region 1 with fail
  rw [← hX]
  clear hX
  go_upto_region 3 with fail
  have hN := Lib.hid (show w.heap.size + 1 ≠ w.heap.size by omega)
  clear x0 x1 x2 x3 x4 x5
  first
    | (go_region_held3 (fun w' => w'.cell? ⟨w.heap.size, 0, none⟩ = some (.int .u64 (p : Int)) ∧ w'.cell? ⟨w.heap.size, 1, none⟩ = some (.int .i64 (m : Int)) ∧ w'.cell? ⟨w.heap.size, 2, none⟩ = some (.int .i64 1) ∧ w'.cell? ⟨w.heap.size, 3, none⟩ = some (.bool neg) ∧ w'.cell? ⟨w.heap.size, 4, none⟩ = some v ∧ w'.cell? ⟨w.heap.size, 5, none⟩ = some (.int .i64 e))
        ((first | (refine (ks12 HR1.out ?_).2; first | assumption | exact Below.drew hcc) | exact ks6R hN.out (ks6R hN.out (ks6R hN.out (ks12 HR1.out (by assumption)).2))))
        (first
          | (go_at_call 61; refine (spOf v ws _ (HV.out.below (Below.drew hcc)) (by omega)).mono ?_; rintro _ w3 ⟨d, rfl, hd, hb3⟩; have hSd := hd.isS; have hb3 : Below X.heap.size X w3 := bthen (Below.drew hcc) hb3; have hvr := keep_row hb3 HR2.out; obtain ⟨hv0, hv1, hv2, hf0, hf1, hf2⟩ := row3 hvr)))
    | fail
  all_goals go_wp2
  all_goals
    obtain ⟨hx0, hx1, hx2, -, -, -⟩ := row3 (row3_set (x := .bool neg) (y := d) (z := .int .i64 e) hvr)
    have hn := natv_dyad (x := .bool neg) (y := d) (z := .int .i64 e) IsS.nil hd hvr
    have hbY := bset (i := 2) (u := .int .i64 e) (bset (i := 1) (u := d) (bset (i := 0) (u := .bool neg) (HB.out.trans (hb3.mono hXs)) (Nat.le_succ _)) (Nat.le_succ _)) (Nat.le_succ _)
    refine bodyPost_ret (v := .agg #[.bool neg, d, .int .i64 e]) ?_ rfl ⟨_, rfl, ⟨_, rfl, hn⟩, hbY⟩
    simp [results, Tryz.results33, go_sem, hx0, hx1, hx2]
theorem row_chain11 {w : World} {a : Array Value} {A : TypeId} : (w.alloc (.cells a A)).heap[w.heap.size]? = some (.cells a A (0, 0)) := box_row (Below.refl _ _)
theorem row_chain21 {w : World} {a b : Array Value} {A B : TypeId} : ((w.alloc (.cells a A)).alloc (.cells b B)).heap[w.heap.size]? = some (.cells a A (0, 0)) := keep_row (fbone _) row_chain11
theorem row_chain22 {w : World} {a b : Array Value} {A B : TypeId} : ((w.alloc (.cells a A)).alloc (.cells b B)).heap[w.heap.size + 1]? = some (.cells b B (0, 0)) := by
  have := row_chain11 (w := w.alloc (.cells a A)) (a := b) (A := B)
  simpa using this
section
variable {W X : World} {i j k l : Nat} {a b c d e f a' b' c' d' e' f' a'' b'' c'' d'' e'' f'' x y z : Value} {T T' T'' U : TypeId}
theorem ksR1 (hr : W.heap[i]? = some (.cells #[a, b, c, d, e, f] T (0, 0))) (h : Below W.heap.size W X) :
    Below W.heap.size W X ∧ X.cell? ⟨i, 0, none⟩ = some a ∧ X.cell? ⟨i, 1, none⟩ = some b ∧ X.cell? ⟨i, 2, none⟩ = some c ∧ X.cell? ⟨i, 3, none⟩ = some d ∧ X.cell? ⟨i, 4, none⟩ = some e ∧ X.cell? ⟨i, 5, none⟩ = some f := ks12 hr h
end
def RatE (w : World) (B b : Nat) (neg : Bool) (n d : Nat) : Prop :=
  ∃ v1 v2, B ≤ b ∧ w.heap[b]? = some (.cells #[.bool neg, v1, .bool false, v2] 125 (0, 0)) ∧ Own w B 164 v1 (cellsW (wds n)) ∧ ((v2 = .slice none 0 0 ∧ d = 1) ∨ (Own w B 164 v2 (cellsW (wds d)) ∧ 0 < d))
def raN (M : Nat) (X : Int) : Nat := M * 2 ^ X.toNat
def raD (X : Int) : Nat := 2 ^ (-X).toNat
theorem ra_same {N D n d k : Nat} (hk : 0 < k) (h1 : n = N * k) (h2 : d = D * k) : n / Nat.gcd n d = N / Nat.gcd N D ∧ d / Nat.gcd n d = D / Nat.gcd N D := by
  subst h1 h2
  have e1 := red_mul N D k hk
  have e2 := red_mul D N k hk
  rw [Nat.gcd_comm (D * k), Nat.gcd_comm D] at e2
  exact ⟨e1, e2⟩
theorem ra_lt {M L s : Nat} {e : Int} (hM : bl M ≤ 64 * L) (hs : (s : Int) = 64 * L - e) (h0 : 0 < s) : 
    M * 2 ^ (64 * L - bl M) / Nat.gcd (M * 2 ^ (64 * L - bl M)) (2 ^ s) = raN M (e - bl M) / Nat.gcd (raN M (e - bl M)) (raD (e - bl M)) ∧
    2 ^ s / Nat.gcd (M * 2 ^ (64 * L - bl M)) (2 ^ s) = raD (e - bl M) / Nat.gcd (raN M (e - bl M)) (raD (e - bl M)) := by
  rcases Int.le_total 0 (e - bl M) with h | h
  · refine ra_same (k := 2 ^ s) (Nat.two_pow_pos _) ?_ ?_
    · unfold raN; rw [Nat.mul_assoc, ← Nat.pow_add]; congr 2; omega
    · unfold raD; rw [← Nat.pow_add]; congr 1; omega
  · refine ra_same (k := 2 ^ (64 * L - bl M)) (Nat.two_pow_pos _) ?_ ?_
    · unfold raN; rw [show (e - (bl M : Int)).toNat = 0 by omega, Nat.pow_zero, Nat.mul_one]
    · unfold raD; rw [← Nat.pow_add]; congr 1; omega
theorem ra_ge {M L s : Nat} {e : Int} (hM : bl M ≤ 64 * L) (hs : (s : Int) = e - 64 * L) :
    M * 2 ^ (64 * L - bl M) * 2 ^ s = raN M (e - bl M) / Nat.gcd (raN M (e - bl M)) (raD (e - bl M)) ∧ 1 = raD (e - bl M) / Nat.gcd (raN M (e - bl M)) (raD (e - bl M)) := by
  have h1 : raD (e - bl M) = 1 := by unfold raD; rw [show (-(e - (bl M : Int))).toNat = 0 by omega, Nat.pow_zero]
  rw [h1, Nat.gcd_one_right, Nat.div_one]
  refine ⟨?_, rfl⟩
  unfold raN; rw [Nat.mul_assoc, ← Nat.pow_add]; congr 2; omega
theorem nw_pow {s k : Nat} (h : s + 1 ≤ 64 * k) : nw (2 ^ s) ≤ k := by
  have h2 := bl_two 1 s
  rw [Nat.one_mul, show bl 1 = 1 from rfl] at h2
  exact nw_le (Nat.lt_of_lt_of_le (lt_bl _) (by
    rw [show (18446744073709551616 : Nat) = 2 ^ 64 from rfl, ← Nat.pow_mul]
    exact Nat.pow_le_pow_right (by decide) (by omega)))
section
variable {g B N D : Nat} {n : Bool} {va vb : Value} {w W : World}
theorem SfS.putA (h : SfS g B N D n va vb w W) (hB : B ≤ g) (dg : 3 < B) {w1 : World} {r : Value} {M : Nat} (hb : Below W.heap.size W w1) (ho : Own w1 W.heap.size 164 r (cellsW (wds M))) :
    SfS g B M D n r vb w (w1.setCell ⟨g, 1, none⟩ r) := by
  have hgl := get_lt h.row
  have hBW : B ≤ W.heap.size := Nat.le_trans hB (Nat.le_of_lt hgl)
  have q1 := keep_row hb h.row
  refine ⟨rowset (i := 1) r q1, (ho.mono hBW).away q1 (by decide) 1 r, (h.ob.below hb).away q1 (by decide) 1 r, fun ha hc he => ?_, bset (h.bl.trans (hb.mono hBW)) hB, ?_⟩
  · have k1 := (ho.lt ha).1
    have k2 := (h.ob.lt hc).2
    omega
  · have t1 := h.tw.below hb
    unfold DivW at t1 ⊢
    rw [cell_other (by simp only; omega)]
    exact t1
theorem SfS.putB (h : SfS g B N D n va vb w W) (hB : B ≤ g) (dg : 3 < B) {w1 : World} {r : Value} {M : Nat} (hb : Below W.heap.size W w1) (ho : Own w1 W.heap.size 164 r (cellsW (wds M))) :
    SfS g B N M n va r w (w1.setCell ⟨g, 3, none⟩ r) := by
  have hgl := get_lt h.row
  have hBW : B ≤ W.heap.size := Nat.le_trans hB (Nat.le_of_lt hgl)
  have q1 := keep_row hb h.row
  refine ⟨rowset (i := 3) r q1, (h.oa.below hb).away q1 (by decide) 3 r, (ho.mono hBW).away q1 (by decide) 3 r, fun ha hc he => ?_, bset (h.bl.trans (hb.mono hBW)) hB, ?_⟩
  · have k1 := (ho.lt hc).1
    have k2 := (h.oa.lt ha).2
    omega
  · have t1 := h.tw.below hb
    unfold DivW at t1 ⊢
    rw [cell_other (by simp only; omega)]
    exact t1
end
set_option maxRecDepth 100000 in
set_option maxHeartbeats 3200000 in
theorem floatRat_lt (b p m L N s : Nat) (e : Int) (neg : Bool) (v : Value) (w : World) (h : FltR w b p m 0 1 neg v e) (hv : RW w v (wds N)) (h0 : 0 < N) (hL : nw N = L) (hl : L ≤ 30) (hs : (s : Int) = 64 * L - e) (hs0' : 0 < s) (hsb : s ≤ 2400) (hT : DivW w) :
    Calls Tryz.prog 81 #[.pointer (some ⟨b, 0, none⟩), .pointer none] w fun e' w' => ∃ g, e' = .returned (.tuple #[.pointer (some ⟨g, 0, none⟩), .int .i8 0]) ∧ RatE w' w.heap.size g neg (N / Nat.gcd N (2 ^ s)) (2 ^ s / Nat.gcd N (2 ^ s)) ∧ Below w.heap.size w w' := by
  have hS := hv.isS
  have hLv : sLen v = L := by rw [hv.len, wds_length, hL]
  obtain ⟨c0, c1, c2, c3, c4, c5, c6⟩ := h.cells
  have c3' : w.cell? ⟨b, 3, none⟩ = some (.int .u8 1) := c3
  obtain ⟨X, hX⟩ : ∃ X, X = w.alloc (.cells #[.bool false, .slice none 0 0, .bool false, .slice none 0 0] 125) := ⟨_, rfl⟩
  have hab : Below w.heap.size w X := by rw [hX]; exact fbone _
  have hrow : X.heap[w.heap.size]? = some (.cells #[.bool false, .slice none 0 0, .bool false, .slice none 0 0] 125 (0, 0)) := by rw [hX]; exact row_chain11
  have g1 : IntKind.i32.wrap (L : Int) = (L : Int) := by rw [IntKind.wrap_i32]; omega
  have g2 : IntKind.i32.wrap ((L : Int) * 64) = (L : Int) * 64 := by rw [IntKind.wrap_i32]; omega
  have g3 : IntKind.i32.wrap ((L : Int) * 64 - e) = (s : Int) := by rw [IntKind.wrap_i32]; omega
  have g3' : (L : Int) * 64 - e = (s : Int) := by omega
  have g4 : IntKind.u64.wrap (s : Int) = (s : Int) := by rw [IntKind.wrap_u64]; omega
  have t1 : decide ((L : Int) * 64 < e) = false := decide_eq_false (by omega)
  have t2 : decide (e < (L : Int) * 64) = true := decide_eq_true (by omega)
  have HL := Lib.hid hL
  have H0 := Lib.hid h0
  have HX := Lib.hid hab
  have hf := h.below hab
  have hT1 := hT.below hab
  have dg : 3 < w.heap.size := World.block_lt_of_cell? w _ hT
  have hbl : b < w.heap.size := h.lt
  have hXs : w.heap.size < X.heap.size := get_lt hrow
  obtain ⟨Y, hY⟩ : ∃ Y, Y = X.setCell ⟨w.heap.size, 0, none⟩ (.bool neg) := ⟨_, rfl⟩
  have hs0 : SfS w.heap.size w.heap.size 0 0 neg (.slice none 0 0) (.slice none 0 0) X Y := by rw [hY]; exact (SfS.start hrow hT1).neg (Nat.le_refl _) dg neg
  have hbY : Below w.heap.size w Y := hab.trans hs0.bl
  have HF := Lib.hid h
  have HBY := Lib.hid hbY
  have HVY := Lib.hid (hv.below hbY)
  have HS0 := Lib.hid hs0
  have x0 : X.cell? ⟨w.heap.size, 0, none⟩ = some (.bool false) := (row_at (i := 0) hrow rfl).1
  have f0 := (row_at (i := 0) hrow rfl).2
  have hnb : w.heap.size ≠ b := by omega
  have HSS := Lib.hid hs
  clear h hv h0 hL hab hrow hT hT1 hbY hs0 hf hs
  go_enter Tryz.func81, Tryz.ntmps81
  go_upto_region 3 with fail
  rw [← hX]
  clear c0 c1 c2 c3 c4 c5 c6 c3'
  obtain ⟨c0, c1, c2, c3, c4, c5, c6⟩ := (HF.out.below HX.out).cells
  have c3' : X.cell? ⟨b, 3, none⟩ = some (.int .u8 1) := c3
  clear c3 hX
  go_upto_region 9 with fail
  rw [← hY]
  clear hY f0 x0 c0 c1 c2 c3' c4 c5 c6
  obtain ⟨c0, c1, c2, c3, c4, c5, c6⟩ := (HF.out.below HBY.out).cells
  have y1 : Y.cell? ⟨w.heap.size, 1, none⟩ = some (.slice none 0 0) := (row_at (i := 1) HS0.out.row rfl).1
  have z1 := (row_at (i := 1) HS0.out.row rfl).2
  go_upto_region 13 with fail
  (refine wp_region_hoist 10 (by kernel_rfl) (by kernel_rfl) ⟨fun _ _ _ h => (by first | exact (hQp _ _ _ h).elim | cases h.2.1 | (obtain ⟨_, h3, _⟩ := h.2; cases h3)), fun _ _ h => (by first | exact (hQo _ _ h).elim | cases h.1 | (obtain ⟨_, h3, _⟩ := h; cases h3))⟩ ?_; simp only [List.take_succ_cons, List.take_zero, List.drop_succ_cons, List.drop_zero]; (repeat (go_big_quiet_step (fail))); refine wpQuiet_nil ?_; rintro _ ⟨nq, rfl⟩)
  go_wp2_with fail
  refine (set_nil v (wds N) _ (HVY.out.drewN nq) (by rw [wds_length]; have := HL.out; omega)).mono ?_
  rintro _ w1 ⟨r1, rfl, ho1, hb1⟩
  have hSr1 := ho1.isS
  have hs1 := (HS0.out.drewN nq).putA (Nat.le_refl _) dg hb1 ho1
  have y1' : w1.cell? ⟨w.heap.size, 1, none⟩ = some (.slice none 0 0) := (row_at (i := 1) (keep_row hb1 (HS0.out.drewN nq).row) rfl).1
  have z1' := (row_at (i := 1) (keep_row hb1 (HS0.out.drewN nq).row) rfl).2
  obtain ⟨U1, hU1⟩ : ∃ U, U = w1.setCell ⟨w.heap.size, 1, none⟩ r1 := ⟨_, rfl⟩
  rw [← hU1] at hs1
  have HS1 := Lib.hid hs1
  have HB1 := Lib.hid (HX.out.trans hs1.bl)
  clear hs1 hb1 ho1 c0 c1 c2 c3 c4 c5 c6 y1 z1
  obtain ⟨c0, c1, c2, c3, c4, c5, c6⟩ := (HF.out.below HB1.out).cells
  have y3 : U1.cell? ⟨w.heap.size, 3, none⟩ = some (.slice none 0 0) := (row_at (i := 3) HS1.out.row rfl).1
  go_upto_region 14 with fail
  rw [← hU1]
  clear hU1 y1' z1'
  go_wp2_with fail
  refine (setUint64_nil 1 U1 (by decide) (by decide)).mono ?_
  rintro _ w2 ⟨t, rfl, ho2, hb2⟩
  have hSt := ho2.isS
  have hls := lsh_same t 1 s U1.heap.size w2 (by rw [wds_one]; exact ho2) (fun h => absurd h (by decide)) (by decide) (by omega) hb2.size
  have HLS := Lib.hid hls
  have HB2 := Lib.hid hb2
  clear hls ho2 hb2 c0 c1 c2 c3 c4 c5 c6 y3
  obtain ⟨c0, c1, c2, c3, c4, c5, c6⟩ := ((HF.out.below HB1.out).below HB2.out).cells
  go_upto_region 15 with fail
  go_wp2_with fail
  refine HLS.out.mono ?_
  rintro _ w3 ⟨r2, rfl, hr2⟩
  have hSr2 := hr2.own.isS
  have hb3 : Below U1.heap.size U1 w3 := HB2.out.trans (hr2.below)
  have ho3 : Own w3 U1.heap.size 164 r2 (cellsW (wds (2 ^ s))) := by have := hr2.own; rw [Nat.one_mul] at this; exact this
  have hs3 := HS1.out.putB (Nat.le_refl _) dg hb3 ho3
  have y3 : w3.cell? ⟨w.heap.size, 3, none⟩ = some (.slice none 0 0) := (row_at (i := 3) (keep_row hb3 HS1.out.row) rfl).1
  have z3 := (row_at (i := 3) (keep_row hb3 HS1.out.row) rfl).2
  obtain ⟨U3, hU3⟩ : ∃ U, U = w3.setCell ⟨w.heap.size, 3, none⟩ r2 := ⟨_, rfl⟩
  rw [← hU3] at hs3
  have HN := Lib.hid (hs3.norm (Nat.le_refl _) dg (Nat.two_pow_pos s) (by have := HL.out; omega) (Nat.lt_of_le_of_lt (nw_pow (k := 38) (by omega)) (by decide)))
  clear hs3 ho3 hb3 hr2 HLS c0 c1 c2 c3 c4 c5 c6
  go_upto_region 16 with fail
  rw [← hU3]
  clear hU3 y3 z3
  go_wp2_with fail
  refine HN.out.mono ?_
  rintro _ w4 ⟨rfl, hp, hb4⟩
  have hfin := HX.out.trans hb4
  have hD : 0 < 2 ^ s / Nat.gcd N (2 ^ s) := Nat.div_pos (Nat.le_of_dvd (Nat.two_pow_pos s) (Nat.gcd_dvd_right _ _)) (Nat.gcd_pos_of_pos_right _ (Nat.two_pow_pos s))
  have hn : (neg && decide (0 < N)) = neg := by rw [decide_eq_true H0.out, Bool.and_true]
  rw [hn] at hp
  obtain ⟨va, vb, p1, p2, p3, p4⟩ := hp
  have HP : Hid (RatE w4 w.heap.size w.heap.size neg (N / Nat.gcd N (2 ^ s)) (2 ^ s / Nat.gcd N (2 ^ s))) := Lib.hid ⟨va, vb, p1, p2, p3, Or.inr ⟨p4, hD⟩⟩
  have HFIN := Lib.hid hfin
  clear hD hn p1 p2 p3 p4 hb4 hfin
  go_wp2
  refine bodyPost_ret (v := .tuple #[.pointer (some ⟨w.heap.size, 0, none⟩), .int .i8 0]) ?_ rfl ⟨_, rfl, HP.out, HFIN.out⟩
  simp [results, Tryz.results81, go_sem]
set_option maxRecDepth 100000 in
set_option maxHeartbeats 3200000 in
theorem floatRat_gt (b p m L N s : Nat) (e : Int) (neg : Bool) (v : Value) (w : World) (h : FltR w b p m 0 1 neg v e) (hv : RW w v (wds N)) (h0 : 0 < N) (hL : nw N = L) (hl : L ≤ 30) (hs : (s : Int) = e - 64 * L) (hs0' : 0 < s) (hsb : s ≤ 2400) (hT : DivW w) :
    Calls Tryz.prog 81 #[.pointer (some ⟨b, 0, none⟩), .pointer none] w fun e' w' => ∃ g, e' = .returned (.tuple #[.pointer (some ⟨g, 0, none⟩), .int .i8 0]) ∧ RatE w' w.heap.size g neg (N * 2 ^ s) 1 ∧ Below w.heap.size w w' := by
  have hS := hv.isS
  have hLv : sLen v = L := by rw [hv.len, wds_length, hL]
  obtain ⟨c0, c1, c2, c3, c4, c5, c6⟩ := h.cells
  have c3' : w.cell? ⟨b, 3, none⟩ = some (.int .u8 1) := c3
  obtain ⟨X, hX⟩ : ∃ X, X = w.alloc (.cells #[.bool false, .slice none 0 0, .bool false, .slice none 0 0] 125) := ⟨_, rfl⟩
  have hab : Below w.heap.size w X := by rw [hX]; exact fbone _
  have hrow : X.heap[w.heap.size]? = some (.cells #[.bool false, .slice none 0 0, .bool false, .slice none 0 0] 125 (0, 0)) := by rw [hX]; exact row_chain11
  have g1 : IntKind.i32.wrap (L : Int) = (L : Int) := by rw [IntKind.wrap_i32]; omega
  have g2 : IntKind.i32.wrap ((L : Int) * 64) = (L : Int) * 64 := by rw [IntKind.wrap_i32]; omega
  have g3 : IntKind.i32.wrap (e - (L : Int) * 64) = (s : Int) := by rw [IntKind.wrap_i32]; omega
  have g3' : e - (L : Int) * 64 = (s : Int) := by omega
  have g4 : IntKind.u64.wrap (s : Int) = (s : Int) := by rw [IntKind.wrap_u64]; omega
  have t1 : decide ((L : Int) * 64 < e) = true := decide_eq_true (by omega)
  have HL := Lib.hid hL
  have H0 := Lib.hid h0
  have HX := Lib.hid hab
  have hf := h.below hab
  have hT1 := hT.below hab
  have dg : 3 < w.heap.size := World.block_lt_of_cell? w _ hT
  have hbl : b < w.heap.size := h.lt
  have hXs : w.heap.size < X.heap.size := get_lt hrow
  obtain ⟨Y, hY⟩ : ∃ Y, Y = X.setCell ⟨w.heap.size, 0, none⟩ (.bool neg) := ⟨_, rfl⟩
  have hs0 : SfS w.heap.size w.heap.size 0 0 neg (.slice none 0 0) (.slice none 0 0) X Y := by rw [hY]; exact (SfS.start hrow hT1).neg (Nat.le_refl _) dg neg
  have hbY : Below w.heap.size w Y := hab.trans hs0.bl
  have HF := Lib.hid h
  have HBY := Lib.hid hbY
  have HVY := Lib.hid (hv.below hbY)
  have HS0 := Lib.hid hs0
  have x0 : X.cell? ⟨w.heap.size, 0, none⟩ = some (.bool false) := (row_at (i := 0) hrow rfl).1
  have f0 := (row_at (i := 0) hrow rfl).2
  have hnb : w.heap.size ≠ b := by omega
  have HSS := Lib.hid hs
  clear h hv h0 hL hab hrow hT hT1 hbY hs0 hf hs
  go_enter Tryz.func81, Tryz.ntmps81
  go_upto_region 3 with fail
  rw [← hX]
  clear c0 c1 c2 c3 c4 c5 c6 c3'
  obtain ⟨c0, c1, c2, c3, c4, c5, c6⟩ := (HF.out.below HX.out).cells
  have c3' : X.cell? ⟨b, 3, none⟩ = some (.int .u8 1) := c3
  clear c3 hX
  go_upto_region 9 with fail
  rw [← hY]
  clear hY f0 x0 c0 c1 c2 c3' c4 c5 c6
  obtain ⟨c0, c1, c2, c3, c4, c5, c6⟩ := (HF.out.below HBY.out).cells
  have y1 : Y.cell? ⟨w.heap.size, 1, none⟩ = some (.slice none 0 0) := (row_at (i := 1) HS0.out.row rfl).1
  have z1 := (row_at (i := 1) HS0.out.row rfl).2
  go_upto_region 10 with fail
  (refine wp_region_hoist 17 (by kernel_rfl) (by kernel_rfl) ⟨fun _ _ _ h => (by first | exact (hQp _ _ _ h).elim | cases h.2.1 | (obtain ⟨_, h3, _⟩ := h.2; cases h3)), fun _ _ h => (by first | exact (hQo _ _ h).elim | cases h.1 | (obtain ⟨_, h3, _⟩ := h; cases h3))⟩ ?_; simp only [List.take_succ_cons, List.take_zero, List.drop_succ_cons, List.drop_zero]; (repeat (go_big_quiet_step (fail))); refine wpQuiet_nil ?_; rintro _ ⟨nq, rfl⟩)
  go_wp2_with fail
  refine (lsh_nil v N s _ (HVY.out.drewN nq) H0.out (by have := HL.out; omega) hs0' (by omega)).mono ?_
  rintro _ w1 ⟨r1, rfl, ho1, hb1⟩
  have hSr1 := ho1.isS
  have hs1 := (HS0.out.drewN nq).putA (Nat.le_refl _) dg hb1 ho1
  have y1' : w1.cell? ⟨w.heap.size, 1, none⟩ = some (.slice none 0 0) := (row_at (i := 1) (keep_row hb1 (HS0.out.drewN nq).row) rfl).1
  have z1' := (row_at (i := 1) (keep_row hb1 (HS0.out.drewN nq).row) rfl).2
  obtain ⟨U1, hU1⟩ : ∃ U, U = w1.setCell ⟨w.heap.size, 1, none⟩ r1 := ⟨_, rfl⟩
  rw [← hU1] at hs1
  have HS1 := Lib.hid hs1
  have HB1 := Lib.hid (HX.out.trans hs1.bl)
  clear hs1 hb1 ho1 c0 c1 c2 c3 c4 c5 c6 y1 z1
  obtain ⟨c0, c1, c2, c3, c4, c5, c6⟩ := (HF.out.below HB1.out).cells
  have y3 : U1.cell? ⟨w.heap.size, 3, none⟩ = some (.slice none 0 0) := (row_at (i := 3) HS1.out.row rfl).1
  have z3 := (row_at (i := 3) HS1.out.row rfl).2
  have q2 := rowset (i := 3) (.slice none 0 0) HS1.out.row
  have o2 := HS1.out.oa.away HS1.out.row (by decide) 3 (.slice none 0 0)
  have b2 := bset (i := 3) (u := .slice none 0 0) HB1.out (Nat.le_refl _)
  obtain ⟨U2, hU2⟩ : ∃ U, U = U1.setCell ⟨w.heap.size, 3, none⟩ (.slice none 0 0) := ⟨_, rfl⟩
  rw [← hU2] at q2 o2 b2
  have HP : Hid (RatE U2 w.heap.size w.heap.size neg (N * 2 ^ s) 1) := Lib.hid ⟨r1, .slice none 0 0, Nat.le_refl _, q2, o2, Or.inl ⟨rfl, rfl⟩⟩
  have HFIN := Lib.hid b2
  clear q2 o2 b2
  go_upto_region 11 with fail
  rw [← hU1]
  clear hU1 y1' z1'
  go_upto_region 17 with fail
  rw [← hU2]
  clear hU2
  go_wp2
  refine bodyPost_ret (v := .tuple #[.pointer (some ⟨w.heap.size, 0, none⟩), .int .i8 0]) ?_ rfl ⟨_, rfl, HP.out, HFIN.out⟩
  simp [results, Tryz.results81, go_sem]
set_option maxRecDepth 100000 in
set_option maxHeartbeats 3200000 in
theorem floatRat_eq (b p m L N : Nat) (e : Int) (neg : Bool) (v : Value) (w : World) (h : FltR w b p m 0 1 neg v e) (hv : RW w v (wds N)) (h0 : 0 < N) (hL : nw N = L) (hl : L ≤ 30) (hs : e = 64 * L) (hT : DivW w) :
    Calls Tryz.prog 81 #[.pointer (some ⟨b, 0, none⟩), .pointer none] w fun e' w' => ∃ g, e' = .returned (.tuple #[.pointer (some ⟨g, 0, none⟩), .int .i8 0]) ∧ RatE w' w.heap.size g neg N 1 ∧ Below w.heap.size w w' := by
  have hS := hv.isS
  have hLv : sLen v = L := by rw [hv.len, wds_length, hL]
  obtain ⟨c0, c1, c2, c3, c4, c5, c6⟩ := h.cells
  have c3' : w.cell? ⟨b, 3, none⟩ = some (.int .u8 1) := c3
  obtain ⟨X, hX⟩ : ∃ X, X = w.alloc (.cells #[.bool false, .slice none 0 0, .bool false, .slice none 0 0] 125) := ⟨_, rfl⟩
  have hab : Below w.heap.size w X := by rw [hX]; exact fbone _
  have hrow : X.heap[w.heap.size]? = some (.cells #[.bool false, .slice none 0 0, .bool false, .slice none 0 0] 125 (0, 0)) := by rw [hX]; exact row_chain11
  have g1 : IntKind.i32.wrap (L : Int) = (L : Int) := by rw [IntKind.wrap_i32]; omega
  have g2 : IntKind.i32.wrap ((L : Int) * 64) = (L : Int) * 64 := by rw [IntKind.wrap_i32]; omega
  have t1 : decide ((L : Int) * 64 < e) = false := decide_eq_false (by omega)
  have t2 : decide (e < (L : Int) * 64) = false := decide_eq_false (by omega)
  have HL := Lib.hid hL
  have H0 := Lib.hid h0
  have HX := Lib.hid hab
  have hf := h.below hab
  have hT1 := hT.below hab
  have dg : 3 < w.heap.size := World.block_lt_of_cell? w _ hT
  have hbl : b < w.heap.size := h.lt
  have hXs : w.heap.size < X.heap.size := get_lt hrow
  obtain ⟨Y, hY⟩ : ∃ Y, Y = X.setCell ⟨w.heap.size, 0, none⟩ (.bool neg) := ⟨_, rfl⟩
  have hs0 : SfS w.heap.size w.heap.size 0 0 neg (.slice none 0 0) (.slice none 0 0) X Y := by rw [hY]; exact (SfS.start hrow hT1).neg (Nat.le_refl _) dg neg
  have hbY : Below w.heap.size w Y := hab.trans hs0.bl
  have HF := Lib.hid h
  have HBY := Lib.hid hbY
  have HVY := Lib.hid (hv.below hbY)
  have HS0 := Lib.hid hs0
  have x0 : X.cell? ⟨w.heap.size, 0, none⟩ = some (.bool false) := (row_at (i := 0) hrow rfl).1
  have f0 := (row_at (i := 0) hrow rfl).2
  have hnb : w.heap.size ≠ b := by omega
  have HSS := Lib.hid hs
  clear h hv h0 hL hab hrow hT hT1 hbY hs0 hf hs
  go_enter Tryz.func81, Tryz.ntmps81
  go_upto_region 3 with fail
  rw [← hX]
  clear c0 c1 c2 c3 c4 c5 c6 c3'
  obtain ⟨c0, c1, c2, c3, c4, c5, c6⟩ := (HF.out.below HX.out).cells
  have c3' : X.cell? ⟨b, 3, none⟩ = some (.int .u8 1) := c3
  clear c3 hX
  go_upto_region 9 with fail
  rw [← hY]
  clear hY f0 x0 c0 c1 c2 c3' c4 c5 c6
  obtain ⟨c0, c1, c2, c3, c4, c5, c6⟩ := (HF.out.below HBY.out).cells
  have y1 : Y.cell? ⟨w.heap.size, 1, none⟩ = some (.slice none 0 0) := (row_at (i := 1) HS0.out.row rfl).1
  have z1 := (row_at (i := 1) HS0.out.row rfl).2
  go_upto_region 7 with fail
  (refine wp_region_hoist 10 (by kernel_rfl) (by kernel_rfl) ⟨fun _ _ _ h => (by first | exact (hQp _ _ _ h).elim | cases h.2.1 | (obtain ⟨_, h3, _⟩ := h.2; cases h3)), fun _ _ h => (by first | exact (hQo _ _ h).elim | cases h.1 | (obtain ⟨_, h3, _⟩ := h; cases h3))⟩ ?_; simp only [List.take_succ_cons, List.take_zero, List.drop_succ_cons, List.drop_zero]; (repeat (go_big_quiet_step (fail))); refine wpQuiet_nil ?_; rintro _ ⟨nq, rfl⟩)
  go_wp2_with fail
  refine (set_nil v (wds N) _ (HVY.out.drewN nq) (by rw [wds_length]; have := HL.out; omega)).mono ?_
  rintro _ w1 ⟨r1, rfl, ho1, hb1⟩
  have hSr1 := ho1.isS
  have hs1 := (HS0.out.drewN nq).putA (Nat.le_refl _) dg hb1 ho1
  have y1' : w1.cell? ⟨w.heap.size, 1, none⟩ = some (.slice none 0 0) := (row_at (i := 1) (keep_row hb1 (HS0.out.drewN nq).row) rfl).1
  have z1' := (row_at (i := 1) (keep_row hb1 (HS0.out.drewN nq).row) rfl).2
  obtain ⟨U1, hU1⟩ : ∃ U, U = w1.setCell ⟨w.heap.size, 1, none⟩ r1 := ⟨_, rfl⟩
  rw [← hU1] at hs1
  have HS1 := Lib.hid hs1
  have HB1 := Lib.hid (HX.out.trans hs1.bl)
  clear hs1 hb1 ho1 c0 c1 c2 c3 c4 c5 c6 y1 z1
  obtain ⟨c0, c1, c2, c3, c4, c5, c6⟩ := (HF.out.below HB1.out).cells
  have y3 : U1.cell? ⟨w.heap.size, 3, none⟩ = some (.slice none 0 0) := (row_at (i := 3) HS1.out.row rfl).1
  have z3 := (row_at (i := 3) HS1.out.row rfl).2
  have q2 := rowset (i := 3) (.slice none 0 0) HS1.out.row
  have o2 := HS1.out.oa.away HS1.out.row (by decide) 3 (.slice none 0 0)
  have b2 := bset (i := 3) (u := .slice none 0 0) HB1.out (Nat.le_refl _)
  obtain ⟨U2, hU2⟩ : ∃ U, U = U1.setCell ⟨w.heap.size, 3, none⟩ (.slice none 0 0) := ⟨_, rfl⟩
  rw [← hU2] at q2 o2 b2
  have HP : Hid (RatE U2 w.heap.size w.heap.size neg (N) 1) := Lib.hid ⟨r1, .slice none 0 0, Nat.le_refl _, q2, o2, Or.inl ⟨rfl, rfl⟩⟩
  have HFIN := Lib.hid b2
  clear q2 o2 b2
  go_upto_region 8 with fail
  rw [← hU1]
  clear hU1 y1' z1'
  go_upto_region 17 with fail
  rw [← hU2]
  clear hU2
  go_wp2
  refine bodyPost_ret (v := .tuple #[.pointer (some ⟨w.heap.size, 0, none⟩), .int .i8 0]) ?_ rfl ⟨_, rfl, HP.out, HFIN.out⟩
  simp [results, Tryz.results81, go_sem]
theorem bl_nw (M : Nat) : bl M ≤ 64 * nw M := by
  rcases Nat.eq_zero_or_pos M with h | h
  · rw [h, bl_zero]; omega
  · have := nw_bl h; omega
theorem bl_shl {M : Nat} (h : 0 < M) (k : Nat) : bl (M * 2 ^ k) = bl M + k := by
  have := bl_shift (n := M * 2 ^ k) (t := M) (k := k) h (by rw [Nat.mul_mod_left, Nat.zero_add, Nat.mul_comm])
  omega
theorem wds_top {M : Nat} (h : 0 < M) : wds (M * 2 ^ (64 * nw M - bl M)) = topN M ∧ nw (M * 2 ^ (64 * nw M - bl M)) = nw M := by
  have h1 := bl_shl h (64 * nw M - bl M)
  have h2 := bl_nw M
  have hp : 0 < M * 2 ^ (64 * nw M - bl M) := Nat.mul_pos h (Nat.two_pow_pos _)
  have h3 := nw_bl hp
  have h4 : nw (M * 2 ^ (64 * nw M - bl M)) = nw M := by omega
  refine ⟨?_, h4⟩
  unfold topN
  rw [← wdsN_nw, h4]
set_option maxRecDepth 100000 in
theorem ratSet0 (g B : Nat) (w : World) (h : w.heap[g]? = some (.cells #[.bool false, .slice none 0 0, .bool false, .slice none 0 0] 125 (0, 0))) (hB : B ≤ g) :
    Calls Tryz.prog 135 #[.pointer (some ⟨g, 0, none⟩), .int .i64 0] w fun e w' => e = .returned (.pointer (some ⟨g, 0, none⟩)) ∧ RatP w' B g false 0 1 ∧ Below B w w' := by
  have hg := get_lt h
  have r0 : w.cell? ⟨g, 0, none⟩ = some (.bool false) := (row_at (i := 0) h rfl).1
  have r1 : w.cell? ⟨g, 1, none⟩ = some (.slice none 0 0) := (row_at (i := 1) h rfl).1
  have z0 := frozen_of_row w g 0 _ _ h
  have z1 := frozen_of_row w g 1 _ _ h
  have R1 : (w.setCell ⟨g, 1, none⟩ (.slice none 0 0)).heap[g]? = some (.cells #[.bool false, .slice none 0 0, .bool false, .slice none 0 0] 125 (0, 0)) := rowset (i := 1) (.slice none 0 0) h
  obtain ⟨V, hV⟩ : ∃ V, V = (w.setCell ⟨g, 1, none⟩ (.slice none 0 0)).setCell ⟨g, 0, none⟩ (.bool false) := ⟨_, rfl⟩
  have R2 : V.heap[g]? = some (.cells #[.bool false, .slice none 0 0, .bool false, .slice none 0 0] 125 (0, 0)) := by rw [hV]; exact rowset (i := 0) (.bool false) R1
  have B2 : Below B w V := by rw [hV]; exact bset (i := 0) (u := .bool false) (bset (i := 1) (u := .slice none 0 0) (Below.refl B w) hB) hB
  have HI : Hid (Calls Tryz.prog 195 #[.pointer (some ⟨g, 0, none⟩), .int .i64 0] w fun e w' => e = .returned (.pointer (some ⟨g, 0, none⟩)) ∧ V = w') := Lib.hid (by
    clear h R1 R2 B2
    go_enter Tryz.func195, Tryz.ntmps195
    go_wp2_with fail
    refine (setUint64_zero _).mono ?_
    rintro _ _ ⟨rfl, rfl⟩
    go_wp2
    go_ret
    exact ⟨rfl, hV⟩)
  have HR := Lib.hid R2
  have HB := Lib.hid B2
  clear h R1 R2 B2 r0 r1 z0 z1 hV
  go_enter Tryz.func135, Tryz.ntmps135
  go_wp2_with fail
  refine HI.out.mono ?_
  rintro _ _ ⟨rfl, rfl⟩
  have y3 : V.cell? ⟨g, 3, none⟩ = some (.slice none 0 0) := (row_at (i := 3) HR.out rfl).1
  go_wp2_with fail
  refine (setWord_nil 1 V (by decide) (by decide)).mono ?_
  rintro _ w2 ⟨r, rfl, ho, hb⟩
  have hSr := ho.isS
  have q2 := keep_row hb HR.out
  have y3' : w2.cell? ⟨g, 3, none⟩ = some (.slice none 0 0) := (row_at (i := 3) q2 rfl).1
  have z3 := frozen_of_row w2 g 3 _ _ q2
  have hBV : B ≤ V.heap.size := Nat.le_trans hB (Nat.le_of_lt (get_lt HR.out))
  have HP : Hid (RatP (w2.setCell ⟨g, 3, none⟩ r) B g false 0 1) := Lib.hid ⟨.slice none 0 0, r, hB, rowset (i := 3) r q2, Own.nil _ _ _, by rw [wds_one]; exact (ho.mono hBV).away q2 (by decide) 3 r⟩
  have HBB := Lib.hid (bset (i := 3) (u := r) (HB.out.trans (hb.mono hBV)) hB)
  clear q2 ho hb
  go_wp2
  go_ret
  exact ⟨rfl, HP.out, HBB.out⟩
set_option maxRecDepth 100000 in
set_option maxHeartbeats 1600000 in
theorem floatRat_zero (b p m : Nat) (a e : Int) (neg : Bool) (v : Value) (w : World) (h : FltR w b p m a 0 neg v e) :
    Calls Tryz.prog 81 #[.pointer (some ⟨b, 0, none⟩), .pointer none] w fun e' w' => ∃ g, e' = .returned (.tuple #[.pointer (some ⟨g, 0, none⟩), .int .i8 0]) ∧ RatE w' w.heap.size g false 0 1 ∧ Below w.heap.size w w' := by
  obtain ⟨X, hX⟩ : ∃ X, X = w.alloc (.cells #[.bool false, .slice none 0 0, .bool false, .slice none 0 0] 125) := ⟨_, rfl⟩
  have hab : Below w.heap.size w X := by rw [hX]; exact fbone _
  have hrow : X.heap[w.heap.size]? = some (.cells #[.bool false, .slice none 0 0, .bool false, .slice none 0 0] 125 (0, 0)) := by rw [hX]; exact row_chain11
  obtain ⟨c0, c1, c2, c3', c4, c5, c6⟩ := h.cells
  have c3 : w.cell? ⟨b, 3, none⟩ = some (.int .u8 0) := c3'
  obtain ⟨d0, d1, d2, d3', d4, d5, d6⟩ := (h.below hab).cells
  have d3 : X.cell? ⟨b, 3, none⟩ = some (.int .u8 0) := d3'
  have HS := Lib.hid (ratSet0 w.heap.size w.heap.size X hrow (Nat.le_refl _))
  have HAB := Lib.hid hab
  clear h hrow hab c3' d3'
  go_enter Tryz.func81, Tryz.ntmps81
  go_upto_region 3 with fail
  rw [← hX]
  clear hX c0 c1 c2 c3 c4 c5 c6
  go_wp2_with fail
  refine HS.out.mono ?_
  rintro _ w2 ⟨rfl, hI, hb⟩
  obtain ⟨v1, v2, k1, k2, k3, k4⟩ := hI
  have HI : Hid (RatE w2 w.heap.size w.heap.size false 0 1) := Lib.hid ⟨v1, v2, k1, k2, k3, Or.inr ⟨k4, by decide⟩⟩
  have HB := Lib.hid (HAB.out.trans hb)
  clear hb k1 k2 k3 k4
  go_wp2
  go_ret2
  exact ⟨_, rfl, HI.out, HB.out⟩
set_option maxRecDepth 100000 in
set_option maxHeartbeats 1600000 in
theorem floatRat_inf (b p m : Nat) (a e : Int) (neg : Bool) (v : Value) (w : World) (h : FltR w b p m a 2 neg v e) :
    Calls Tryz.prog 81 #[.pointer (some ⟨b, 0, none⟩), .pointer none] w fun e' w' => ∃ c : Int, e' = .returned (.tuple #[.pointer none, .int .i8 c]) ∧ -1 ≤ c ∧ c ≤ 1 ∧ w = w' := by
  obtain ⟨c, hc⟩ : ∃ c : Int, c = if neg then 1 else -1 := ⟨_, rfl⟩
  have hcb : -1 ≤ c ∧ c ≤ 1 := by rw [hc]; split <;> decide
  have HMA := Lib.hid (makeAcc_is neg c w hc)
  clear hc
  obtain ⟨c0, c1, c2, c3', c4, c5, c6⟩ := h.cells
  have c3 : w.cell? ⟨b, 3, none⟩ = some (.int .u8 2) := c3'
  clear h c3'
  go_enter Tryz.func81, Tryz.ntmps81
  go_wp2_with fail
  refine HMA.out.mono ?_
  rintro _ _ ⟨rfl, rfl⟩
  go_wp2
  go_ret2
  exact ⟨c, rfl, hcb.1, hcb.2, rfl⟩
theorem floatRat_fin (B b p m M : Nat) (e : Int) (neg : Bool) (w : World) (h : FloatAt w B b p m 1 neg M e) (h0 : 0 < M) (hM : bl M ≤ 300) (he : -1000 ≤ e ∧ e ≤ 1000) (hT : DivW w) :
    Calls Tryz.prog 81 #[.pointer (some ⟨b, 0, none⟩), .pointer none] w fun e' w' => ∃ g, e' = .returned (.tuple #[.pointer (some ⟨g, 0, none⟩), .int .i8 0]) ∧ RatE w' w.heap.size g neg (raN M e / Nat.gcd (raN M e) (raD e)) (raD e / Nat.gcd (raN M e) (raD e)) ∧ Below w.heap.size w w' := by
  obtain ⟨-, r, x, hf, h1⟩ := h
  obtain ⟨rfl, ho⟩ := h1 rfl
  obtain ⟨t1, t2⟩ := wds_top h0
  rw [← t1] at ho
  have hr : RW w r (wds (M * 2 ^ (64 * nw M - bl M))) := ho.rw' (wds_all _)
  have hN : 0 < M * 2 ^ (64 * nw M - bl M) := Nat.mul_pos h0 (Nat.two_pow_pos _)
  have hL := nw_bl h0
  have hbn := bl_nw M
  have hE : ((bl M : Nat) : Int) + e - ((bl M : Nat) : Int) = e := by omega
  rcases Int.lt_trichotomy ((bl M : Nat) + e) (64 * (nw M : Nat)) with hc | hc | hc
  · obtain ⟨s, hs⟩ := Int.eq_ofNat_of_zero_le (show (0 : Int) ≤ 64 * (nw M : Nat) - ((bl M : Nat) + e) by omega)
    obtain ⟨k1, k2⟩ := ra_lt (M := M) (L := nw M) (s := s) (e := (bl M : Nat) + e) hbn hs.symm (by omega)
    rw [hE] at k1 k2
    have := floatRat_lt b p m (nw M) _ s ((bl M : Nat) + e) neg r w hf hr hN t2 (by omega) hs.symm (by omega) (by omega) hT
    rw [k1, k2] at this
    exact this
  · obtain ⟨k1, k2⟩ := ra_ge (M := M) (L := nw M) (s := 0) (e := (bl M : Nat) + e) hbn (by omega)
    rw [hE] at k1 k2
    rw [Nat.pow_zero, Nat.mul_one] at k1
    rw [← k1, ← k2]
    exact floatRat_eq b p m (nw M) _ ((bl M : Nat) + e) neg r w hf hr hN t2 (by omega) hc hT
  · obtain ⟨s, hs⟩ := Int.eq_ofNat_of_zero_le (show (0 : Int) ≤ ((bl M : Nat) + e) - 64 * (nw M : Nat) by omega)
    obtain ⟨k1, k2⟩ := ra_ge (M := M) (L := nw M) (s := s) (e := (bl M : Nat) + e) hbn hs.symm
    rw [hE] at k1 k2
    rw [← k1, ← k2]
    exact floatRat_gt b p m (nw M) _ s ((bl M : Nat) + e) neg r w hf hr hN t2 (by omega) hs.symm (by omega) (by omega) hT
set_option maxRecDepth 100000 in
theorem ratDenom_nil (b : Nat) (w : World) (hc : w.cell? ⟨b, 3, none⟩ = some (.slice none 0 0)) :
    Calls Tryz.prog 108 #[.pointer (some ⟨b, 0, none⟩)] w fun e w' => e = .returned (.pointer (some ⟨w.heap.size + 1, 0, none⟩)) ∧ w' = (w.alloc (.cells #[.int .u64 1] 164)).alloc (.cells #[.bool false, .slice (some ⟨w.heap.size, 0, none⟩) 1 1] 123) := by
  go_enter Tryz.func108, Tryz.ntmps108
  go_wp2
  go_ret
  exact ⟨by simp, by simp⟩
set_option maxRecDepth 100000 in
set_option maxHeartbeats 800000 in
theorem frac_nil (b B : Nat) (neg : Bool) (n : Nat) (v1 : Value) (w : World) (hr : w.heap[b]? = some (.cells #[.bool neg, v1, .bool false, .slice none 0 0] 125 (0, 0))) (ho1 : Own w B 164 v1 (cellsW (wds n))) (hl1 : nw n ≤ 100000000) :
    Calls Tryz.prog 79 #[.pointer (some ⟨b, 0, none⟩)] w fun e w' => ∃ r1 r2, e = .returned (.agg #[.bool (neg && decide (0 < n)), r1, r2]) ∧ RW w' r1 (wds n) ∧ RW w' r2 (wds 1) ∧ Below w.heap.size w w' := by
  have hab := (Below.refl w.heap.size w).alloc (Nat.le_refl _) (.cells #[.bool false, .slice none 0 0, .slice none 0 0] 27)
  have hrow0 := box_row (Below.refl _ (w.alloc (.cells #[.bool false, .slice none 0 0, .slice none 0 0] 27)))
  obtain ⟨W, hW⟩ : ∃ W, W = w.alloc (.cells #[.bool false, .slice none 0 0, .slice none 0 0] 27) := ⟨_, rfl⟩
  rw [← hW] at hab hrow0
  have hr' := keep_row hab hr
  have k0 := (row_at (i := 0) hr' rfl).1
  have k1 := (row_at (i := 1) hr' rfl).1
  have R1 := Lib.hid ((ho1.rw' (wds_all n)).below hab)
  have hS1 := ho1.isS
  have HR := Lib.hid hr'
  have H0 := Lib.hid hrow0
  have hWs := hab.size
  obtain ⟨x, hx⟩ : ∃ x, x = (neg && decide (0 < n)) := ⟨_, rfl⟩
  rw [← hx]
  have HX := Lib.hid hx
  clear hr hr' hrow0 ho1 hx
  go_enter Tryz.func79, Tryz.ntmps79
  go_upto_region 1 with fail
  rw [← hW]
  clear hW
  go_wp2_with fail
  refine (ratNum b W).mono ?_
  rintro _ _ ⟨rfl, rfl⟩
  go_wp2_with fail
  refine (told_any b 0 neg v1 n W k0 k1 R1.out hl1).mono ?_
  rintro _ w1 ⟨r1, rfl, hq1, hb1⟩
  rw [← HX.out]
  have hSr1 := hq1.isS
  have k3 := (row_at (i := 3) (keep_row hb1 HR.out) rfl).1
  have HB1 := Lib.hid hb1
  have HQ1 := Lib.hid hq1
  clear hb1 hq1 k0 k1
  go_wp2_with fail
  refine (ratDenom_nil b w1 k3).mono ?_
  rintro _ wd ⟨rfl, hwd⟩
  have hbd : Below w1.heap.size w1 wd := by rw [hwd]; exact bthen (fbone _) (fbone _)
  have rc : wd.heap[w1.heap.size + 1]? = some (.cells #[.bool false, .slice (some ⟨w1.heap.size, 0, none⟩) 1 1] 123 (0, 0)) := by
    rw [hwd]
    have := heap_alloc_new (w1.alloc (.cells #[.int .u64 1] 164)) (.cells #[.bool false, .slice (some ⟨w1.heap.size, 0, none⟩) 1 1] 123)
    rw [show (w1.alloc (.cells #[.int .u64 1] 164)).heap.size = w1.heap.size + 1 by simp] at this
    exact this
  have rv : wd.heap[w1.heap.size]? = some (.cells #[.int .u64 1] 164 (0, 0)) := by
    rw [hwd]; exact keep_row (fbone _) (heap_alloc_new w1 _)
  have rw1 : RW wd (.slice (some ⟨w1.heap.size, 0, none⟩) 1 1) (wds 1) := by
    rw [wds_one]
    refine ⟨⟨⟨fun _ => rfl, Nat.le_refl _⟩, rfl, fun i hi => ?_⟩, fun d hd => by rw [List.mem_singleton.1 hd]; decide⟩
    rw [ints_length] at hi
    obtain rfl : i = 0 := by simp at hi; omega
    exact (row_at (i := 0) rv rfl).1
  have k5 := (row_at (i := 1) rc rfl).1
  have hb1 := bthen HB1.out hbd
  have hq1 := HQ1.out.below hbd
  clear k3 HB1 HQ1 hwd hbd rc rv
  have HB1 := Lib.hid hb1
  have HQ1 := Lib.hid hq1
  have RV := Lib.hid rw1
  clear hb1 hq1 rw1
  go_wp2_with fail
  refine (wordsOf_any (w1.heap.size + 1) 0 _ (wds 1) wd k5 RV.out (by decide)).mono ?_
  rintro _ w2 ⟨r2, rfl, hq2, hb2⟩
  clear k5
  have hSr2 := hq2.isS
  have hb12 := bthen HB1.out hb2
  have hrow2 := keep_row hb12 H0.out
  have k0 := row_at (i := 0) hrow2 rfl
  have k1 := row_at (i := 1) hrow2 rfl
  have k2 := row_at (i := 2) hrow2 rfl
  obtain ⟨k00, k01⟩ := k0
  obtain ⟨k10, k11⟩ := k1
  obtain ⟨k20, k21⟩ := k2
  have p1 := rowset (i := 0) (.bool x) hrow2
  have p2 := rowset (i := 1) r1 p1
  have p3 := rowset (i := 2) r2 p2
  have e0 := (row_at (i := 0) p3 rfl).1
  have e1 := (row_at (i := 1) p3 rfl).1
  have e2 := (row_at (i := 2) p3 rfl).1
  have a1 := (((HQ1.out.below hb2).away hrow2 (by decide) 0 (.bool x)).away p1 (by decide) 1 r1).away p2 (by decide) 2 r2
  have a2 := ((hq2.away hrow2 (by decide) 0 (.bool x)).away p1 (by decide) 1 r1).away p2 (by decide) 2 r2
  have b1 := bset (i := 2) (u := r2) (bset (i := 1) (u := r1) (bset (i := 0) (u := .bool x) (hab.trans (hb12.mono hWs)) (Nat.le_refl _)) (Nat.le_refl _)) (Nat.le_refl _)
  have A1 := Lib.hid (a1.rw' (wds_all n))
  have A2 := Lib.hid (a2.rw' (wds_all 1))
  have B1 := Lib.hid b1
  clear hq2 hb2 hb12 hrow2 p1 p2 p3 a1 a2 b1
  go_wp2
  refine bodyPost_ret (v := .agg #[.bool x, r1, r2]) ?_ rfl ⟨r1, r2, rfl, A1.out, A2.out, B1.out⟩
  simp [results, Tryz.results79, go_sem, e0, e1, e2]
theorem frac_E (b B : Nat) (neg : Bool) (n d : Nat) (w : World) (h : RatE w B b neg n d) (hl1 : nw n ≤ 100000000) (hl2 : nw d ≤ 100000000) :
    Calls Tryz.prog 79 #[.pointer (some ⟨b, 0, none⟩)] w fun e w' => ∃ r1 r2, e = .returned (.agg #[.bool (neg && decide (0 < n)), r1, r2]) ∧ RW w' r1 (wds n) ∧ RW w' r2 (wds d) ∧ Below w.heap.size w w' := by
  obtain ⟨v1, v2, hB, hr, ho1, ⟨rfl, rfl⟩ | ⟨ho2, hd⟩⟩ := h
  · exact frac_nil b B neg n v1 w hr ho1 hl1
  · exact frac_any b B neg n d w ⟨v1, v2, hB, hr, ho1, ho2⟩ hd hl1 hl2
end Go.Proofs.YtdepidpgbgfjlaaGreatDoor
