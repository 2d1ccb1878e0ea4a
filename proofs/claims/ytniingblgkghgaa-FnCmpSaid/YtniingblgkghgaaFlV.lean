/-
The reference's OfReal. No condition.
-/
import Derived.Test.YtniingblgkghgaaFlU
namespace Go.Proofs.Ytniingblgkghgaa
open Go.RowKit

theorem natv_dyad {w : World} {k T n : Nat} {a : Bool} {b x y z v : Value} (hb : IsS b) (hv : NatV w v n) (h : w.heap[k]? = some (.cells #[.bool a, b, .int .i64 0] T (0, 0))) :
    NatV (((w.setCell ⟨k, 0, none⟩ x).setCell ⟨k, 1, none⟩ y).setCell ⟨k, 2, none⟩ z) v n := by
  refine ⟨hv.isS, hv.len, fun i hi => ?_⟩
  have hne : sBlk v ≠ k := by
    intro he
    have ht := hv.cell (nl n - 1) (by omega)
    rw [he, cell_of_row w k _ _ _ _ h] at ht
    obtain ⟨b1, b2, b3, rfl⟩ := hb.form
    have hd : dig n (nl n - 1) ≠ 0 := dig_last (Nat.pos_of_ne_zero fun h0 => by rw [h0] at hi; rw [nl_zero] at hi; omega)
    rcases Nat.lt_or_ge (sOff v + (nl n - 1)) 3 with h3 | h3
    · rcases (by omega : sOff v + (nl n - 1) = 0 ∨ sOff v + (nl n - 1) = 1 ∨ sOff v + (nl n - 1) = 2) with e | e | e <;> rw [e] at ht <;> simp at ht
      exact hd (by omega)
    · rw [Array.getElem?_eq_none (by simpa using h3)] at ht; cases ht
  have hh : (((w.setCell ⟨k, 0, none⟩ x).setCell ⟨k, 1, none⟩ y).setCell ⟨k, 2, none⟩ z).heap[sBlk v]? = w.heap[sBlk v]? := by
    rw [heap_setCell_other _ _ _ _ (by simpa using hne), heap_setCell_other _ _ _ _ (by simpa using hne), heap_setCell_other _ _ _ _ (by simpa using hne)]
  exact (World.cell?_of_block hh).trans (hv.cell i hi)
theorem ks6R {X : World} {k t i : Nat} {a b c d e f u : Value} (hk : t ≠ k)
    (h : X.cell? ⟨k, 0, none⟩ = some a ∧ X.cell? ⟨k, 1, none⟩ = some b ∧ X.cell? ⟨k, 2, none⟩ = some c ∧ X.cell? ⟨k, 3, none⟩ = some d ∧ X.cell? ⟨k, 4, none⟩ = some e ∧ X.cell? ⟨k, 5, none⟩ = some f) :
    (X.setCell ⟨t, i, none⟩ u).cell? ⟨k, 0, none⟩ = some a ∧ (X.setCell ⟨t, i, none⟩ u).cell? ⟨k, 1, none⟩ = some b ∧ (X.setCell ⟨t, i, none⟩ u).cell? ⟨k, 2, none⟩ = some c ∧ (X.setCell ⟨t, i, none⟩ u).cell? ⟨k, 3, none⟩ = some d ∧ (X.setCell ⟨t, i, none⟩ u).cell? ⟨k, 4, none⟩ = some e ∧ (X.setCell ⟨t, i, none⟩ u).cell? ⟨k, 5, none⟩ = some f := by
  have hk' : ∀ j, (X.setCell ⟨t, i, none⟩ u).cell? ⟨k, j, none⟩ = X.cell? ⟨k, j, none⟩ := fun j => cell_other (by simpa using hk)
  simp only [hk']; exact h
/-- A dyadic value of the reference. -/
def DyV (w : World) (v : Value) (n : Bool) (x : Nat) (e : Int) : Prop := ∃ a, v = .agg #[.bool n, a, .int .i64 e] ∧ NatV w a x
set_option maxRecDepth 100000 in
set_option maxHeartbeats 800000 in
theorem ofReal_other (p m f : Nat) (e : Int) (neg : Bool) (v : Value) (w : World) (hS : IsS v) (hf : f ≠ 1) :
    Calls Try.prog 21 #[.agg #[.int .u64 p, .int .i64 m, .int .i64 f, .bool neg, v, .int .i64 e]] w fun e' w' => ∃ r, e' = .returned r ∧ DyV w' r false 0 0 ∧ Below w.heap.size w w' := by
  have t1 : ((f : Int) != 1) = true := by rw [bne_iff_ne]; omega
  have hab := (Below.refl w.heap.size w).alloc (Nat.le_refl _) (.cells #[.int .u64 p, .int .i64 m, .int .i64 f, .bool neg, v, .int .i64 e] 27)
  have hac := hab.alloc hab.size (.cells #[.bool false, .slice none 0 0, .int .i64 0] 36)
  obtain ⟨X, hX⟩ : ∃ X, X = (w.alloc (.cells #[.int .u64 p, .int .i64 m, .int .i64 f, .bool neg, v, .int .i64 e] 27)).alloc (.cells #[.bool false, .slice none 0 0, .int .i64 0] 36) := ⟨_, rfl⟩
  have hr1 : X.heap[w.heap.size]? = some (.cells #[.int .u64 p, .int .i64 m, .int .i64 f, .bool neg, v, .int .i64 e] 27 (0, 0)) := by
    rw [hX]; exact keep_row (fbone _) (box_row (Below.refl _ _))
  have hr2 : X.heap[w.heap.size + 1]? = some (.cells #[.bool false, .slice none 0 0, .int .i64 0] 36 (0, 0)) := by
    rw [hX]
    have := box_row (Below.refl _ ((w.alloc (.cells #[.int .u64 p, .int .i64 m, .int .i64 f, .bool neg, v, .int .i64 e] 27)).alloc (.cells #[.bool false, .slice none 0 0, .int .i64 0] 36)))
    simpa using this
  rw [← hX] at hac
  obtain ⟨-, x0, x1, x2, x3, x4, x5⟩ := ks12 hr1 (Below.refl _ _)
  obtain ⟨y0, y1, y2, z0, z1, z2⟩ := row3 hr2
  have HR2 := Lib.hid hr2
  have HB := Lib.hid hac
  clear hr1 hr2 hab hac hf
  go_enter Try.func21, Try.ntmps21
  go_upto_region 1 with fail
  rw [← hX]
  clear hX
  go_wp2
  obtain ⟨hx0, hx1, hx2, -, -, -⟩ := row3 (row3_set (x := .bool false) (y := .slice none 0 0) (z := .int .i64 0) HR2.out)
  have hbY := bset (i := 2) (u := .int .i64 0) (bset (i := 1) (u := .slice none 0 0) (bset (i := 0) (u := .bool false) HB.out (Nat.le_succ _)) (Nat.le_succ _)) (Nat.le_succ _)
  refine bodyPost_ret (v := .agg #[.bool false, .slice none 0 0, .int .i64 0]) ?_ rfl ⟨_, rfl, ⟨_, rfl, NatV.zero IsS.nil rfl⟩, hbY⟩
  simp [results, Try.results21, go_sem, hx0, hx1, hx2]
set_option maxRecDepth 100000 in
set_option maxHeartbeats 1600000 in
theorem ofReal_one (p m : Nat) (e : Int) (neg : Bool) (v : Value) (ws : List Nat) (w : World) (hv : RW w v ws) (hl : ws.length ≤ 1000000) :
    Calls Try.prog 21 #[.agg #[.int .u64 p, .int .i64 m, .int .i64 1, .bool neg, v, .int .i64 e]] w fun e' w' => ∃ r, e' = .returned r ∧ DyV w' r neg (wv ws) e ∧ Below w.heap.size w w' := by
  have hS := hv.isS
  have hab := (Below.refl w.heap.size w).alloc (Nat.le_refl _) (.cells #[.int .u64 p, .int .i64 m, .int .i64 1, .bool neg, v, .int .i64 e] 27)
  have hac := hab.alloc hab.size (.cells #[.bool false, .slice none 0 0, .int .i64 0] 36)
  obtain ⟨X, hX⟩ : ∃ X, X = (w.alloc (.cells #[.int .u64 p, .int .i64 m, .int .i64 1, .bool neg, v, .int .i64 e] 27)).alloc (.cells #[.bool false, .slice none 0 0, .int .i64 0] 36) := ⟨_, rfl⟩
  have hr1 : X.heap[w.heap.size]? = some (.cells #[.int .u64 p, .int .i64 m, .int .i64 1, .bool neg, v, .int .i64 e] 27 (0, 0)) := by
    rw [hX]; exact keep_row (fbone _) (box_row (Below.refl _ _))
  have hr2 : X.heap[w.heap.size + 1]? = some (.cells #[.bool false, .slice none 0 0, .int .i64 0] 36 (0, 0)) := by
    rw [hX]
    have := box_row (Below.refl _ ((w.alloc (.cells #[.int .u64 p, .int .i64 m, .int .i64 1, .bool neg, v, .int .i64 e] 27)).alloc (.cells #[.bool false, .slice none 0 0, .int .i64 0] 36)))
    simpa using this
  rw [← hX] at hac
  obtain ⟨-, x0, x1, x2, x3, x4, x5⟩ := ks12 hr1 (Below.refl _ _)
  have HR1 := Lib.hid hr1
  have HR2 := Lib.hid hr2
  have HB := Lib.hid hac
  have HV := Lib.hid (hv.below hac)
  have hcc := Below.refl X.heap.size X
  have hXs := hac.size
  clear hr1 hr2 hab hac hv
  go_enter Try.func21, Try.ntmps21
  go_upto_region 1 with fail
  rw [← hX]
  clear hX
  go_upto_region 3 with fail
  have hN := Lib.hid (show w.heap.size + 1 ≠ w.heap.size by omega)
  clear x0 x1 x2 x3 x4 x5
  first
    | (go_region_held3 (fun w' => w'.cell? ⟨w.heap.size, 0, none⟩ = some (.int .u64 (p : Int)) ∧ w'.cell? ⟨w.heap.size, 1, none⟩ = some (.int .i64 (m : Int)) ∧ w'.cell? ⟨w.heap.size, 2, none⟩ = some (.int .i64 1) ∧ w'.cell? ⟨w.heap.size, 3, none⟩ = some (.bool neg) ∧ w'.cell? ⟨w.heap.size, 4, none⟩ = some v ∧ w'.cell? ⟨w.heap.size, 5, none⟩ = some (.int .i64 e))
        ((first | (refine (ks12 HR1.out ?_).2; first | assumption | exact Below.drew hcc) | exact ks6R hN.out (ks6R hN.out (ks6R hN.out (ks12 HR1.out (by assumption)).2))))
        (first
          | (go_at_call 39; refine (spOf v ws _ (HV.out.below (Below.drew hcc)) (by omega)).mono ?_; rintro _ w3 ⟨d, rfl, hd, hb3⟩; have hSd := hd.isS; have hb3 : Below X.heap.size X w3 := bthen (Below.drew hcc) hb3; have hvr := keep_row hb3 HR2.out; obtain ⟨hv0, hv1, hv2, hf0, hf1, hf2⟩ := row3 hvr)))
    | fail
  all_goals go_wp2
  all_goals
    obtain ⟨hx0, hx1, hx2, -, -, -⟩ := row3 (row3_set (x := .bool neg) (y := d) (z := .int .i64 e) hvr)
    have hn := natv_dyad (x := .bool neg) (y := d) (z := .int .i64 e) IsS.nil hd hvr
    have hbY := bset (i := 2) (u := .int .i64 e) (bset (i := 1) (u := d) (bset (i := 0) (u := .bool neg) (HB.out.trans (hb3.mono hXs)) (Nat.le_succ _)) (Nat.le_succ _)) (Nat.le_succ _)
    refine bodyPost_ret (v := .agg #[.bool neg, d, .int .i64 e]) ?_ rfl ⟨_, rfl, ⟨_, rfl, hn⟩, hbY⟩
    simp [results, Try.results21, go_sem, hx0, hx1, hx2]
end Go.Proofs.Ytniingblgkghgaa
