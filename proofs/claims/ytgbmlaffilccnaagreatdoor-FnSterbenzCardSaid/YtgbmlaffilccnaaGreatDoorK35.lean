/-
Texts of this proof, joined: TsE. No condition.
-/
import Derived.Test.YtgbmlaffilccnaaGreatDoorK34
import Derived.Deep.DeepCutAuto
/-
The statement on the difference of near values. No condition.
-/
namespace Go.Proofs.YtgbmlaffilccnaaGreatDoor
open Go.RowKit

theorem alz (w : World) (o : Obj) : (w.alloc o).heap.size = w.heap.size + 1 := by simp
theorem box_row2D {w w1 : World} {A B : Obj} (hb : Below ((w.alloc A).alloc B).drew.heap.size ((w.alloc A).alloc B).drew w1) : w1.heap[w.heap.size]? = some A :=
  keep_row hb (show ((w.alloc A).alloc B).heap[w.heap.size]? = some A from keep_row (fbone B) (heap_alloc_new w A))
/-- What the two values leave: their blocks. -/
def TwoD (W wx : World) (s1 s2 : Bool) (X1 X2 : Int) (A1 A2 : Nat) (g h : Nat) (a b : Value) : Prop :=
  g ≠ h ∧ W.heap.size ≤ g ∧ W.heap.size ≤ h ∧ wx.heap[g]? = some (.cells #[.bool s1, a, .int .i64 X1] 36 (0, 0)) ∧ wx.heap[h]? = some (.cells #[.bool s2, b, .int .i64 X2] 36 (0, 0)) ∧ NatV wx a A1 ∧ NatV wx b A2 ∧ (0 < nl A1 → sBlk a ≠ g ∧ sBlk a ≠ h) ∧ (0 < nl A2 → sBlk b ≠ g ∧ sBlk b ≠ h) ∧ Below W.heap.size W wx
theorem natv_lt {w : World} {v : Value} {n : Nat} (hv : NatV w v n) (hi : 0 < nl n) : sBlk v < w.heap.size := by
  have ht := hv.cell 0 hi
  rcases Nat.lt_or_ge (sBlk v) w.heap.size with h | h
  · exact h
  · unfold World.cell? at ht
    rw [Array.getElem?_eq_none h] at ht
    cases ht
theorem natv_ne {w : World} {k T n : Nat} {a : Bool} {b v : Value} (hb : IsS b) (hv : NatV w v n) (h : w.heap[k]? = some (.cells #[.bool a, b, .int .i64 0] T (0, 0))) (hi : 0 < nl n) : sBlk v ≠ k := by
  intro he
  have ht := hv.cell (nl n - 1) (by omega)
  rw [he, cell_of_row w k _ _ _ _ h] at ht
  obtain ⟨b1, b2, b3, rfl⟩ := hb.form
  have hd : dig n (nl n - 1) ≠ 0 := dig_last (Nat.pos_of_ne_zero fun h0 => by rw [h0] at hi; rw [nl_zero] at hi; omega)
  rcases Nat.lt_or_ge (sOff v + (nl n - 1)) 3 with h3 | h3
  · rcases (by omega : sOff v + (nl n - 1) = 0 ∨ sOff v + (nl n - 1) = 1 ∨ sOff v + (nl n - 1) = 2) with e | e | e <;> rw [e] at ht <;> simp at ht
    exact hd (by omega)
  · rw [Array.getElem?_eq_none (by simpa using h3)] at ht; cases ht
section
variable {W w : World} {s1 s2 : Bool} {X1 X2 : Int} {A1 A2 g h : Nat} {a b : Value}
theorem twoD0 (hb : Below W.heap.size W w) (ha : NatV w a A1) (hc : NatV w b A2) : TwoD W ((w.alloc (.cells #[.bool s1, a, .int .i64 X1] 36)).alloc (.cells #[.bool s2, b, .int .i64 X2] 36)) s1 s2 X1 X2 A1 A2 w.heap.size (w.heap.size + 1) a b :=
  ⟨by omega, hb.size, Nat.le_succ_of_le hb.size, row_chain21, row_chain22, (ha.below (fbone _)).below (fbone _), (hc.below (fbone _)).below (fbone _), fun h => by have := natv_lt ha h; omega, fun h => by have := natv_lt hc h; omega, ballc (ballc hb _) _⟩
theorem twoD0' (hb : Below W.heap.size W w) (ha : NatV w a A1) (hc : NatV w b A2) : TwoD W ((w.alloc (.cells #[.bool s2, b, .int .i64 X2] 36)).alloc (.cells #[.bool s1, a, .int .i64 X1] 36)) s1 s2 X1 X2 A1 A2 (w.heap.size + 1) w.heap.size a b :=
  ⟨by omega, Nat.le_succ_of_le hb.size, hb.size, row_chain22, row_chain21, (ha.below (fbone _)).below (fbone _), (hc.below (fbone _)).below (fbone _), fun h => by have := natv_lt ha h; omega, fun h => by have := natv_lt hc h; omega, ballc (ballc hb _) _⟩
theorem twoD1 (hb : Below W.heap.size W w) (ha : NatV w a A1) (hc : NatV w b A2) (hg : w.heap[g]? = some (.cells #[.bool false, .slice none 0 0, .int .i64 0] 36 (0, 0))) (hl : W.heap.size ≤ g) :
    TwoD W ((((w.setCell ⟨g, 0, none⟩ (.bool s1)).setCell ⟨g, 1, none⟩ a).setCell ⟨g, 2, none⟩ (.int .i64 X1)).alloc (.cells #[.bool s2, b, .int .i64 X2] 36)) s1 s2 X1 X2 A1 A2 g w.heap.size a b := by
  have hlt := (Array.getElem?_eq_some_iff.1 hg).1
  have hz : (((w.setCell ⟨g, 0, none⟩ (.bool s1)).setCell ⟨g, 1, none⟩ a).setCell ⟨g, 2, none⟩ (.int .i64 X1)).heap.size = w.heap.size := by simp
  refine ⟨by omega, hl, hb.size, keep_row (fbone _) (row3_set hg), ?_, (natv_dyad IsS.nil ha hg).below (fbone _), (natv_dyad IsS.nil hc hg).below (fbone _), fun h => by have := natv_lt ha h; have := natv_ne IsS.nil ha hg h; omega, fun h => by have := natv_lt hc h; have := natv_ne IsS.nil hc hg h; omega, ballc (bset3 hb hl) _⟩
  rw [← hz]; exact heap_alloc_new _ _
theorem twoD1' (hb : Below W.heap.size W w) (ha : NatV w a A1) (hc : NatV w b A2) (hg : w.heap[g]? = some (.cells #[.bool false, .slice none 0 0, .int .i64 0] 36 (0, 0))) (hl : W.heap.size ≤ g) :
    TwoD W ((((w.setCell ⟨g, 0, none⟩ (.bool s2)).setCell ⟨g, 1, none⟩ b).setCell ⟨g, 2, none⟩ (.int .i64 X2)).alloc (.cells #[.bool s1, a, .int .i64 X1] 36)) s1 s2 X1 X2 A1 A2 w.heap.size g a b := by
  have hlt := (Array.getElem?_eq_some_iff.1 hg).1
  have hz : (((w.setCell ⟨g, 0, none⟩ (.bool s2)).setCell ⟨g, 1, none⟩ b).setCell ⟨g, 2, none⟩ (.int .i64 X2)).heap.size = w.heap.size := by simp
  refine ⟨by omega, hb.size, hl, ?_, keep_row (fbone _) (row3_set hg), (natv_dyad IsS.nil ha hg).below (fbone _), (natv_dyad IsS.nil hc hg).below (fbone _), fun h => by have := natv_lt ha h; have := natv_ne IsS.nil ha hg h; omega, fun h => by have := natv_lt hc h; have := natv_ne IsS.nil hc hg h; omega, ballc (bset3 hb hl) _⟩
  rw [← hz]; exact heap_alloc_new _ _
theorem heap3_other {w : World} {g h : Nat} {x y z : Value} (hne : h ≠ g) : (((w.setCell ⟨g, 0, none⟩ x).setCell ⟨g, 1, none⟩ y).setCell ⟨g, 2, none⟩ z).heap[h]? = w.heap[h]? := by
  rw [heap_setCell_other _ _ _ _ (by simpa using hne), heap_setCell_other _ _ _ _ (by simpa using hne), heap_setCell_other _ _ _ _ (by simpa using hne)]
theorem twoD2 (hb : Below W.heap.size W w) (ha : NatV w a A1) (hc : NatV w b A2) (hg : w.heap[g]? = some (.cells #[.bool false, .slice none 0 0, .int .i64 0] 36 (0, 0))) (hh : w.heap[h]? = some (.cells #[.bool false, .slice none 0 0, .int .i64 0] 36 (0, 0))) (hl : W.heap.size ≤ g) (hm : W.heap.size ≤ h) (hne : g ≠ h) :
    TwoD W ((((((w.setCell ⟨g, 0, none⟩ (.bool s1)).setCell ⟨g, 1, none⟩ a).setCell ⟨g, 2, none⟩ (.int .i64 X1)).setCell ⟨h, 0, none⟩ (.bool s2)).setCell ⟨h, 1, none⟩ b).setCell ⟨h, 2, none⟩ (.int .i64 X2)) s1 s2 X1 X2 A1 A2 g h a b := by
  have hh2 : (((w.setCell ⟨g, 0, none⟩ (.bool s1)).setCell ⟨g, 1, none⟩ a).setCell ⟨g, 2, none⟩ (.int .i64 X1)).heap[h]? = some (.cells #[.bool false, .slice none 0 0, .int .i64 0] 36 (0, 0)) := (heap3_other (Ne.symm hne)).trans hh
  exact ⟨hne, hl, hm, (heap3_other hne).trans (row3_set hg), row3_set hh2, natv_dyad IsS.nil (natv_dyad IsS.nil ha hg) hh2, natv_dyad IsS.nil (natv_dyad IsS.nil hc hg) hh2, fun h => ⟨natv_ne IsS.nil ha hg h, natv_ne IsS.nil ha hh h⟩, fun h => ⟨natv_ne IsS.nil hc hg h, natv_ne IsS.nil hc hh h⟩, bset3 (bset3 hb hl) hm⟩
end
theorem row0_set {w : World} {k T : Nat} {a b c x : Value} (h : w.heap[k]? = some (.cells #[a, b, c] T (0, 0))) : (w.setCell ⟨k, 0, none⟩ x).heap[k]? = some (.cells #[x, b, c] T (0, 0)) := by
  rw [heap_setCell_same w k 0 _ _ x h]; rfl
theorem natv_set {w : World} {v x : Value} {n k i : Nat} (hv : NatV w v n) (hne : 0 < nl n → sBlk v ≠ k) : NatV (w.setCell ⟨k, i, none⟩ x) v n := by
  refine ⟨hv.isS, hv.len, fun j hj => ?_⟩
  have hh : (w.setCell ⟨k, i, none⟩ x).heap[sBlk v]? = w.heap[sBlk v]? := heap_setCell_other _ _ _ _ (by simpa using hne (by omega))
  exact (World.cell?_of_block hh).trans (hv.cell j hj)
theorem ksD2 {W X : World} {k0 k1 T0 T1 : Nat} {a0 b0 c0 a1 b1 c1 : Value} (h0 : W.heap[k0]? = some (.cells #[a0, b0, c0] T0 (0, 0))) (h1 : W.heap[k1]? = some (.cells #[a1, b1, c1] T1 (0, 0))) (h : Below W.heap.size W X) :
    Below W.heap.size W X ∧ (X.cell? ⟨k0, 0, none⟩ = some a0 ∧ X.cell? ⟨k0, 1, none⟩ = some b0 ∧ X.cell? ⟨k0, 2, none⟩ = some c0) ∧ X.cell? ⟨k1, 0, none⟩ = some a1 ∧ X.cell? ⟨k1, 1, none⟩ = some b1 ∧ X.cell? ⟨k1, 2, none⟩ = some c1 := by
  obtain ⟨x0, y0, z0, -, -, -⟩ := row3 (keep_row h h0)
  obtain ⟨x1, y1, z1, -, -, -⟩ := row3 (keep_row h h1)
  exact ⟨h, ⟨x0, y0, z0⟩, x1, y1, z1⟩
theorem AddZ.fit {w : World} {z : Value} {A : Int} {q m M : Nat} {zn ng : Bool} {V X : Int} (h : AddZ w z A q m zn V X) (hV : sI ng M = V) (hq : 0 < q) (hb : bl V.natAbs ≤ q) : Told w z q m ng M X := by
  have h1 := (h.told hV hq).1
  have h2 := rQ_fits (m := m) (p := q) (M := M) ng (by rw [sum_bl hV]; exact hb)
  rw [h2.1, h2.2.1] at h1
  simpa using h1
theorem dTwice (a : Value) (X : Int) (A : Nat) (w : World) (ha : NatV w a A) (hA : bl A ≤ 1000000) (hX : -1000000 ≤ X ∧ X ≤ 1000000) :
    Calls Tryz.prog 13 #[.agg #[.bool false, a, .int .i64 X], .agg #[.bool false, a, .int .i64 X]] w fun e w5 => ∃ ng c M, e = .returned (.agg #[.bool ng, c, .int .i64 X]) ∧ NatV w5 c M ∧ sI ng M = ((2 * A : Nat) : Int) ∧ Below w.heap.size w w5 := by
  refine (dSum_sm false false a a X X A A w ha ha hA hA hX hX).mono ?_
  rintro _ w5 ⟨ng, c, M, rfl, hc, hs, hb⟩
  rw [Int.min_self]
  refine ⟨ng, c, M, rfl, hc, ?_, hb⟩
  rw [hs]
  unfold smV lo sI
  rw [Int.min_self, Int.sub_self]
  simp; omega
theorem ordTwice (a c : Value) (X1 X2 : Int) (A1 A2 : Nat) {w : World} {ng : Bool} {M : Nat} (ha : NatV w a A1) (hc : NatV w c M) (hs : sI ng M = ((2 * A2 : Nat) : Int)) (h1 : bl A1 ≤ 100000) (h2 : bl A2 ≤ 100000) (g1 : -100000 ≤ X1 ∧ X1 ≤ 100000) (g2 : -100000 ≤ X2 ∧ X2 ≤ 100000) :
    Calls Tryz.prog 12 #[.agg #[.bool false, a, .int .i64 X1], .agg #[.bool ng, c, .int .i64 X2]] w fun e w5 => e = .returned (.int .i64 (cmpI (lo A1 X1 (min X1 X2) : Int) ((2 * lo A2 X2 (min X1 X2) : Nat) : Int))) ∧ Below w.heap.size w w5 := by
  have hM : M = 2 * A2 := by have := congrArg Int.natAbs hs; rw [natAbs_sI] at this; omega
  have hbM : bl M ≤ 100001 := by rw [hM, Nat.mul_comm]; have := bl_two A2 1; rw [Nat.pow_one] at this; omega
  have t1 := bl_two A1 (X1 - min X1 X2).toNat
  have t2 := bl_two M (X2 - min X1 X2).toNat
  have H := dOrder false ng a c X1 X2 (min X1 X2) A1 M (X1 - min X1 X2).toNat (X2 - min X1 X2).toNat w ha hc rfl (by omega) (by omega) (by omega) (by omega) (by omega) (by omega) (by omega) (nl_of_bl (by omega)) (nl_of_bl (by omega)) (by omega) (by omega) (nl_of_bl (by omega)) (nl_of_bl (by omega))
  have e2 : sI ng (M * 2 ^ (X2 - min X1 X2).toNat) = ((2 * lo A2 X2 (min X1 X2) : Nat) : Int) := by
    rw [sI_mul, hs]; unfold lo; push_cast; rw [Int.mul_assoc]
  rw [e2] at H
  exact H
set_option maxRecDepth 100000 in
set_option maxHeartbeats 6400000 in
theorem lawSterbenz (a0 : Int) (p1 : Nat) (m1 f1 : Int) (n1 : Bool) (v1 : Value) (e1 : Int) (xs1 : List Nat) (p2 : Nat) (m2 f2 : Int) (n2 : Bool) (v2 : Value) (e2 : Int) (xs2 : List Nat) (w : World) (hT : TabW w) (l0 : 0 ≤ a0) (h0 : a0 ≤ 255) (hv1 : RW w v1 xs1) (_hg1 : p1 ≤ 18446744073709551615 ∧ (-9223372036854775808 ≤ m1 ∧ m1 ≤ 9223372036854775807) ∧ (-9223372036854775808 ≤ f1 ∧ f1 ≤ 9223372036854775807) ∧ (-9223372036854775808 ≤ e1 ∧ e1 ≤ 9223372036854775807)) (hv2 : RW w v2 xs2) (_hg2 : p2 ≤ 18446744073709551615 ∧ (-9223372036854775808 ≤ m2 ∧ m2 ≤ 9223372036854775807) ∧ (-9223372036854775808 ≤ f2 ∧ f2 ≤ 9223372036854775807) ∧ (-9223372036854775808 ≤ e2 ∧ e2 ≤ 9223372036854775807)) :
    Calls Tryz.prog 4 #[.int .u8 a0, .agg #[.int .u64 p1, .int .i64 m1, .int .i64 f1, .bool n1, v1, .int .i64 e1], .agg #[.int .u64 p2, .int .i64 m2, .int .i64 f2, .bool n2, v2, .int .i64 e2]] w fun e' w' => e' = .returned (.bool true) ∧ Below w.heap.size w w' := by
  obtain ⟨b0, rfl⟩ := Int.eq_ofNat_of_zero_le l0
  have ib0 : b0 ≤ 255 := by omega
  have hS1 := hv1.isS
  clear _hg1
  have hS2 := hv2.isS
  clear _hg2
  have hab1 := (Below.refl w.heap.size w).alloc (Nat.le_refl _) (.cells #[.int .u64 p1, .int .i64 m1, .int .i64 f1, .bool n1, v1, .int .i64 e1] 26)
  have hab2 := hab1.alloc hab1.size (.cells #[.int .u64 p2, .int .i64 m2, .int .i64 f2, .bool n2, v2, .int .i64 e2] 26)
  obtain ⟨X, hX⟩ : ∃ X, X = ((w.alloc (.cells #[.int .u64 p1, .int .i64 m1, .int .i64 f1, .bool n1, v1, .int .i64 e1] 26)).alloc (.cells #[.int .u64 p2, .int .i64 m2, .int .i64 f2, .bool n2, v2, .int .i64 e2] 26)) := ⟨_, rfl⟩
  have hr1 : X.heap[w.heap.size]? = some (.cells #[.int .u64 p1, .int .i64 m1, .int .i64 f1, .bool n1, v1, .int .i64 e1] 26 (0, 0)) := by
    rw [hX]; exact row_chain21
  have hr2 : X.heap[w.heap.size + 1]? = some (.cells #[.int .u64 p2, .int .i64 m2, .int .i64 f2, .bool n2, v2, .int .i64 e2] 26 (0, 0)) := by
    rw [hX]; exact row_chain22
  rw [← hX] at hab2
  obtain ⟨-, ⟨⟨c10, c11, c12, c13, c14, c15⟩, ⟨c20, c21, c22, c23, c24, c25⟩⟩⟩ := ksR2 hr1 hr2 (Below.refl _ _)
  have HR1 := Lib.hid hr1
  have V1 := Lib.hid (hv1.below hab2)
  have HR2 := Lib.hid hr2
  have V2 := Lib.hid (hv2.below hab2)
  have hXs := hab2.size
  have HW := Lib.hid hab2
  have T0 := Lib.hid (hT.below hab2)
  clear hT
  clear hr1 hv1 hr2 hv2
  clear hab2 hab1
  go_enter Tryz.func4, Tryz.ntmps4
  go_upto_region 1 with fail
  rw [← hX]
  clear hX
  go_wp2_with fail
  refine (zzFits1_any p1 m1 f1 e1 n1 v1 xs1 X V1.out).mono ?_
  rintro _ w1 ⟨rfl, hb1⟩
  obtain ⟨fits, hfits⟩ : ∃ f, f = decide (xs1.length ≤ 2147483647) := ⟨_, rfl⟩
  rw [← hfits]
  clear c10 c11 c12 c13 c14 c15 c20 c21 c22 c23 c24 c25 hfits
  obtain ⟨-, ⟨⟨c10, c11, c12, c13, c14, c15⟩, ⟨c20, c21, c22, c23, c24, c25⟩⟩⟩ := ksR2 HR1.out HR2.out hb1
  have HB := Lib.hid hb1
  clear hb1
  cases fits with
  | false =>
    go_wp2
    go_ret
    exact ⟨rfl, HW.out.trans (HB.out.mono hXs)⟩
  | true =>
  go_wp2_with fail
  refine (zzFits1_any p2 m2 f2 e2 n2 v2 xs2 w1 (V2.out.below HB.out)).mono ?_
  rintro _ w2 ⟨rfl, hb1⟩
  have hb1 := bthen HB.out hb1
  obtain ⟨fits, hfits⟩ : ∃ f, f = decide (xs2.length ≤ 2147483647) := ⟨_, rfl⟩
  rw [← hfits]
  clear c10 c11 c12 c13 c14 c15 c20 c21 c22 c23 c24 c25 HB hfits
  obtain ⟨-, ⟨⟨c10, c11, c12, c13, c14, c15⟩, ⟨c20, c21, c22, c23, c24, c25⟩⟩⟩ := ksR2 HR1.out HR2.out hb1
  have HB := Lib.hid hb1
  clear hb1
  cases fits with
  | false =>
    go_wp2
    go_ret
    exact ⟨rfl, HW.out.trans (HB.out.mono hXs)⟩
  | true =>
  go_wp2_with fail
  refine (number_any p1 m1 f1 e1 n1 v1 xs1 w2 (V1.out.below HB.out)).mono ?_
  rintro _ w3 ⟨ok, rfl, hok, hb1⟩
  have hb1 := bthen HB.out hb1
  have HO1 := Lib.hid hok
  clear c10 c11 c12 c13 c14 c15 c20 c21 c22 c23 c24 c25 HB hok
  obtain ⟨-, ⟨⟨c10, c11, c12, c13, c14, c15⟩, ⟨c20, c21, c22, c23, c24, c25⟩⟩⟩ := ksR2 HR1.out HR2.out hb1
  have HB := Lib.hid hb1
  clear hb1
  cases ok with
  | false =>
    go_wp2
    go_ret
    exact ⟨rfl, HW.out.trans (HB.out.mono hXs)⟩
  | true =>
  obtain ⟨hn, P1, M1, F1, hp, rfl, rfl, hR⟩ := HO1.out rfl
  have hpp : P1 = p1 := by omega
  subst hpp
  have R1 := Lib.hid hR
  have N1 : Hid (F1 ≠ 2) := Lib.hid (fun h => hn (by rw [h]; rfl))
  clear HO1 hp hR hn
  go_wp2_with fail
  refine (number_any p2 m2 f2 e2 n2 v2 xs2 w3 (V2.out.below HB.out)).mono ?_
  rintro _ w4 ⟨ok, rfl, hok, hb1⟩
  have hb1 := bthen HB.out hb1
  have HO2 := Lib.hid hok
  clear c10 c11 c12 c13 c14 c15 c20 c21 c22 c23 c24 c25 HB hok
  obtain ⟨-, ⟨⟨c10, c11, c12, c13, c14, c15⟩, ⟨c20, c21, c22, c23, c24, c25⟩⟩⟩ := ksR2 HR1.out HR2.out hb1
  have HB := Lib.hid hb1
  clear hb1
  cases ok with
  | false =>
    go_wp2
    go_ret
    exact ⟨rfl, HW.out.trans (HB.out.mono hXs)⟩
  | true =>
  obtain ⟨hn, P2, M2, F2, hp, rfl, rfl, hR⟩ := HO2.out rfl
  have hpp : P2 = p2 := by omega
  subst hpp
  have R2 := Lib.hid hR
  have N2 : Hid (F2 ≠ 2) := Lib.hid (fun h => hn (by rw [h]; rfl))
  clear HO2 hp hR hn
  have hWW := HW.out.trans (HB.out.mono hXs)
  have hV1 := V1.out.below HB.out
  have hr1 := keep_row HB.out HR1.out
  have hV2 := V2.out.below HB.out
  have hr2 := keep_row HB.out HR2.out
  have hT0 := T0.out.below HB.out
  clear T0
  have T0 := Lib.hid hT0
  clear hT0
  clear HW HB hXs V1 HR1 V2 HR2
  have HW := Lib.hid hWW
  have V1 := Lib.hid hV1
  have HR1 := Lib.hid hr1
  have V2 := Lib.hid hV2
  have HR2 := Lib.hid hr2
  have hWs := HW.out.size
  clear hWW hV1 hr1 hV2 hr2
  by_cases hn : n1 = n2
  case neg =>
    have t : (!n1 == n2) = true := by cases n1 <;> cases n2 <;> simp_all
    clear hn
    go_wp2
    go_ret
    exact ⟨rfl, HW.out⟩
  have t : (!n1 == n2) = false := by cases n1 <;> cases n2 <;> simp_all
  have HN := Lib.hid hn
  clear hn
  have hf1 : F1 ≤ 1 := by have := R1.out.form'; have := N1.out; omega
  have hf2 : F2 ≤ 1 := by have := R2.out.form'; have := N2.out; omega
  have HF1 := Lib.hid hf1
  have HF2 := Lib.hid hf2
  clear hf1 hf2
  go_upto_region 5 with fail
  clear t
  have hw4 := Below.refl w4.heap.size w4
  have hle0 : w4.heap.size ≤ w4.heap.size := Nat.le_refl _
  have hle1 : w4.heap.size ≤ w4.heap.size + 1 := Nat.le_succ _
  obtain ⟨s1, hs1⟩ : ∃ s, s = dyN F1 n1 := ⟨_, rfl⟩
  obtain ⟨s2, hs2⟩ : ∃ s, s = dyN F2 n2 := ⟨_, rfl⟩
  obtain ⟨X1, hX1⟩ : ∃ s, s = dyE F1 e1 := ⟨_, rfl⟩
  obtain ⟨X2, hX2⟩ : ∃ s, s = dyE F2 e2 := ⟨_, rfl⟩
  obtain ⟨A1, hA1⟩ : ∃ s, s = dyM F1 (wv xs1) := ⟨_, rfl⟩
  obtain ⟨A2, hA2⟩ : ∃ s, s = dyM F2 (wv xs2) := ⟨_, rfl⟩
  have HO1 := Lib.hid (fun (W' : World) (h : Below w4.heap.size w4 W') => ofReal_any 300 1000 P1 M1 F1 e1 n1 v1 xs1 W' (V1.out.below h) R1.out)
  have HO2 := Lib.hid (fun (W' : World) (h : Below w4.heap.size w4 W') => ofReal_any 300 1000 P2 M2 F2 e2 n2 v2 xs2 W' (V2.out.below h) R2.out)
  rw [← hs1, ← hX1, ← hA1] at HO1
  rw [← hs2, ← hX2, ← hA2] at HO2
  have H1 := Lib.hid (And.intro hs1 (And.intro hX1 hA1))
  have H2 := Lib.hid (And.intro hs2 (And.intro hX2 hA2))
  clear hs1 hs2 hX1 hX2 hA1 hA2
  go_cut [7, 8] (fun s7 s8 wx => ∃ (g h : Nat) (a b : Value), s7 = .pointer (some ⟨g, 0, none⟩) ∧ s8 = .pointer (some ⟨h, 0, none⟩) ∧ TwoD w4 wx s1 s2 X1 X2 A1 A2 g h a b)
  case rest =>
    obtain ⟨g, h, a, b, rfl, rfl, hgh, hgW, hhW, hrg, hrh, ha, hb, nA, nB, hbx⟩ := hcut
    have hSa := ha.isS
    have hSb := hb.isS
    obtain ⟨g0, g1, g2, g3, g4, g5⟩ := row3 hrg
    obtain ⟨h0, h1, h2, h3, h4, h5⟩ := row3 hrh
    have hg3 := (Array.getElem?_eq_some_iff.1 hrg).1
    have hh3 := (Array.getElem?_eq_some_iff.1 hrh).1
    go_upto_region 7 with fail
    obtain ⟨Y, hY⟩ : ∃ Y, Y = (wc.setCell ⟨g, 0, none⟩ (.bool false)).setCell ⟨h, 0, none⟩ (.bool false) := ⟨_, rfl⟩
    have hrG : Y.heap[g]? = some (.cells #[.bool false, a, .int .i64 X1] 36 (0, 0)) := by rw [hY]; exact (heap_setCell_other _ _ _ _ (by simpa using hgh)).trans (row0_set hrg)
    have hrH : Y.heap[h]? = some (.cells #[.bool false, b, .int .i64 X2] 36 (0, 0)) := by rw [hY]; exact row0_set ((heap_setCell_other _ _ _ _ (by simpa using Ne.symm hgh)).trans hrh)
    have hbY : Below w4.heap.size w4 Y := by rw [hY]; exact bset (bset hbx hgW) hhW
    have NA := Lib.hid (show NatV Y a A1 by rw [hY]; exact natv_set (natv_set ha fun q => (nA q).1) fun q => (nA q).2)
    have NB := Lib.hid (show NatV Y b A2 by rw [hY]; exact natv_set (natv_set hb fun q => (nB q).1) fun q => (nB q).2)
    rw [← hY]
    clear hY g0 g1 g2 g3 g4 g5 h0 h1 h2 h3 h4 h5 hg3 hh3 hrg hrh ha hb nA nB hbx hw4 hle0 hle1 HO1 HO2 c10 c11 c12 c13 c14 c15 c20 c21 c22 c23 c24 c25
    have HRG := Lib.hid hrG
    have HRH := Lib.hid hrH
    have VY1 := Lib.hid (V1.out.below hbY)
    have VY2 := Lib.hid (V2.out.below hbY)
    have HR1 := Lib.hid (keep_row hbY HR1.out)
    have HR2 := Lib.hid (keep_row hbY HR2.out)
    have TY := Lib.hid (T0.out.below hbY)
    have HW := Lib.hid (HW.out.trans (hbY.mono hWs))
    have hYs := HW.out.size
    clear hrG hrH hbY V1 V2 T0 hWs hgW hhW hgh
    obtain ⟨E, hE⟩ : ∃ E, E = min X1 X2 := ⟨_, rfl⟩
    have hd1 := dy_bd R1.out
    have hd2 := dy_bd R2.out
    rw [← H1.out.2.1, ← H1.out.2.2] at hd1
    rw [← H2.out.2.1, ← H2.out.2.2] at hd2
    obtain ⟨C1, hC1⟩ : ∃ C, C = cmpI (lo A1 X1 E : Int) ((2 * lo A2 X2 E : Nat) : Int) := ⟨_, rfl⟩
    obtain ⟨C2, hC2⟩ : ∃ C, C = cmpI (lo A2 X2 E : Int) ((2 * lo A1 X1 E : Nat) : Int) := ⟨_, rfl⟩
    have HS1 : Hid (∀ w', Below Y.heap.size Y w' → Calls Tryz.prog 13 #[.agg #[.bool false, a, .int .i64 X1], .agg #[.bool false, a, .int .i64 X1]] w' fun e w5 => ∃ ng c M, e = .returned (.agg #[.bool ng, c, .int .i64 X1]) ∧ NatV w5 c M ∧ sI ng M = ((2 * A1 : Nat) : Int) ∧ Below w'.heap.size w' w5) := Lib.hid (fun w' hw => dTwice _ _ _ _ (NA.out.below hw) (by omega) (by omega))
    have HS2 : Hid (∀ w', Below Y.heap.size Y w' → Calls Tryz.prog 13 #[.agg #[.bool false, b, .int .i64 X2], .agg #[.bool false, b, .int .i64 X2]] w' fun e w5 => ∃ ng c M, e = .returned (.agg #[.bool ng, c, .int .i64 X2]) ∧ NatV w5 c M ∧ sI ng M = ((2 * A2 : Nat) : Int) ∧ Below w'.heap.size w' w5) := Lib.hid (fun w' hw => dTwice _ _ _ _ (NB.out.below hw) (by omega) (by omega))
    have HQ1 : Hid (∀ w' ng c M, Below Y.heap.size Y w' → NatV w' c M → sI ng M = ((2 * A2 : Nat) : Int) → Calls Tryz.prog 12 #[.agg #[.bool false, a, .int .i64 X1], .agg #[.bool ng, c, .int .i64 X2]] w' fun e w5 => e = .returned (.int .i64 C1) ∧ Below w'.heap.size w' w5) := Lib.hid (fun w' ng c M hw hc hs => by
      rw [hC1, hE]; exact ordTwice _ _ _ _ _ _ (NA.out.below hw) hc hs (by omega) (by omega) (by omega) (by omega))
    have HQ2 : Hid (∀ w' ng c M, Below Y.heap.size Y w' → NatV w' c M → sI ng M = ((2 * A1 : Nat) : Int) → Calls Tryz.prog 12 #[.agg #[.bool false, b, .int .i64 X2], .agg #[.bool ng, c, .int .i64 X1]] w' fun e w5 => e = .returned (.int .i64 C2) ∧ Below w'.heap.size w' w5) := Lib.hid (fun w' ng c M hw hc hs => by
      rw [hC2, hE, Int.min_comm X1 X2]; exact ordTwice _ _ _ _ _ _ (NB.out.below hw) hc hs (by omega) (by omega) (by omega) (by omega))
    have HC1 : Hid (C1 ≤ 0 → lo A1 X1 E ≤ 2 * lo A2 X2 E) := Lib.hid (fun h => by rw [hC1] at h; have := cmpI_le.1 h; omega)
    have HC2 : Hid (C2 ≤ 0 → lo A2 X2 E ≤ 2 * lo A1 X1 E) := Lib.hid (fun h => by rw [hC2] at h; have := cmpI_le.1 h; omega)
    have HE := Lib.hid hE
    have HBD : Hid (bl A1 ≤ 1000000 ∧ bl A2 ≤ 1000000 ∧ (-1000000 ≤ X1 ∧ X1 ≤ 1000000) ∧ (-1000000 ≤ X2 ∧ X2 ≤ 1000000)) := Lib.hid (by omega)
    clear hd1 hd2 hE hC1 hC2
    have hcc := Below.refl Y.heap.size Y
    obtain ⟨-, ⟨g0, g1, g2⟩, h0, h1, h2⟩ := ksD2 HRG.out HRH.out hcc
    by_cases hc1 : 0 < C1
    · have t1 : decide (0 < C1) = true := decide_eq_true hc1
      clear hc1
      have hcd := Below.drew hcc
      refine wp_region_held_drew (S := fun w' => Below Y.heap.size Y w' ∧ (w'.cell? ⟨g, 0, none⟩ = some (.bool false) ∧ w'.cell? ⟨g, 1, none⟩ = some a ∧ w'.cell? ⟨g, 2, none⟩ = some (.int .i64 X1)) ∧ w'.cell? ⟨h, 0, none⟩ = some (.bool false) ∧ w'.cell? ⟨h, 1, none⟩ = some b ∧ w'.cell? ⟨h, 2, none⟩ = some (.int .i64 X2)) (by kernel_rfl) (ksD2 HRG.out HRH.out hcd) (fun hHeld => ?_)
      refine wpAnyH_takeD (i := 0) (dd := some 40) (v := .agg #[.bool false, a, .int .i64 X1]) (by kernel_rfl) (by kernel_rfl) (by kernel_rfl) (by kernel_rfl) (fun _ _ _ h => h) (fun oi h => ?_) (by assumption) ?_
      · cases h; exact Or.inl ⟨by rfl, by intro w hSw; go_simp⟩
      try simp only [Act.put, List.setIfInBounds_toArray, List.set_cons_zero, List.set_cons_succ]
      refine wpAnyH_takeD (i := 1) (dd := some 41) (v := .agg #[.bool false, b, .int .i64 X2]) (by kernel_rfl) (by kernel_rfl) (by kernel_rfl) (by kernel_rfl) (fun _ _ _ h => h) (fun oi h => ?_) (by assumption) ?_
      · cases h; exact Or.inl ⟨by rfl, by intro w hSw; go_simp⟩
      try simp only [Act.put, List.setIfInBounds_toArray, List.set_cons_zero, List.set_cons_succ]
      refine wpAnyH_takeD (i := 2) (dd := some 42) (v := .agg #[.bool false, b, .int .i64 X2]) (by kernel_rfl) (by kernel_rfl) (by kernel_rfl) (by kernel_rfl) (fun _ _ _ h => h) (fun oi h => ?_) (by assumption) ?_
      · cases h; exact Or.inl ⟨by rfl, by intro w hSw; go_simp⟩
      try simp only [Act.put, List.setIfInBounds_toArray, List.set_cons_zero, List.set_cons_succ]
      refine wpAnyH_ready (rs := [3]) (by kernel_rfl) (by simp) (AllReadyH.cons rfl (fun K hK => ?_) AllReadyH.nil)
      go_simp
      go_at_call 13
      (with_reducible refine (HS2.out _ hcd).mono ?_)
      rintro _ w7 ⟨ng, c, Ma, rfl, hc, hs, hb7⟩
      have hTc := hc.isS
      have hb7 := bthen hcd hb7
      have D1 := Lib.hid (And.intro hc hs)
      clear hc hs
      refine hK.out _ _ (ksD2 HRG.out HRH.out hb7) (fun hHeld => ?_)
      clear hK K
      try simp only [Act.put, List.setIfInBounds_toArray, List.set_cons_zero, List.set_cons_succ]
      refine wpAnyH_ready (rs := [4]) (by kernel_rfl) (by simp) (AllReadyH.cons rfl (fun K hK => ?_) AllReadyH.nil)
      go_simp
      go_at_call 12
      (with_reducible refine (HQ1.out _ _ _ _ hb7 D1.out.1 D1.out.2).mono ?_)
      rintro _ w8 ⟨rfl, hb8⟩
      have hb8 := bthen hb7 hb8
      refine hK.out _ _ (ksD2 HRG.out HRH.out hb8) (fun hHeld => ?_)
      clear hK K
      try simp only [Act.put, List.setIfInBounds_toArray, List.set_cons_zero, List.set_cons_succ]
      refine wpAnyH_takeD (i := 5) (dd := some 45) (v := .bool true) (by kernel_rfl) (by kernel_rfl) (by kernel_rfl) (by kernel_rfl) (fun _ _ _ h => h) (fun oi h => ?_) (by assumption) ?_
      · cases h; exact Or.inl ⟨by rfl, by intro w hSw; go_simp⟩
      try simp only [Act.put, List.setIfInBounds_toArray, List.set_cons_zero, List.set_cons_succ]
      refine wpAnyH_takeD (i := 6) (dd := some 46) (v := .bool true) (by kernel_rfl) (by kernel_rfl) (by kernel_rfl) (by kernel_rfl) (fun _ _ _ h => h) (fun oi h => ?_) (by assumption) ?_
      · cases h; exact Or.inl ⟨by rfl, by intro w hSw; go_simp⟩
      try simp only [Act.put, List.setIfInBounds_toArray, List.set_cons_zero, List.set_cons_succ]
      refine wpAnyH_skip (i := 7) (dd := some 47) (by kernel_rfl) (by kernel_rfl) (by kernel_rfl) (by kernel_rfl) (fun _ _ _ h => h) (by assumption) ?_
      try simp only [Act.put, List.setIfInBounds_toArray, List.set_cons_zero, List.set_cons_succ]
      refine wpAnyH_skip (i := 8) (dd := some 48) (by kernel_rfl) (by kernel_rfl) (by kernel_rfl) (by kernel_rfl) (fun _ _ _ h => h) (by assumption) ?_
      try simp only [Act.put, List.setIfInBounds_toArray, List.set_cons_zero, List.set_cons_succ]
      refine wpAnyH_skip (i := 9) (dd := some 49) (by kernel_rfl) (by kernel_rfl) (by kernel_rfl) (by kernel_rfl) (fun _ _ _ h => h) (by assumption) ?_
      try simp only [Act.put, List.setIfInBounds_toArray, List.set_cons_zero, List.set_cons_succ]
      refine wpAnyH_skip (i := 10) (dd := some 50) (by kernel_rfl) (by kernel_rfl) (by kernel_rfl) (by kernel_rfl) (fun _ _ _ h => h) (by assumption) ?_
      try simp only [Act.put, List.setIfInBounds_toArray, List.set_cons_zero, List.set_cons_succ]
      refine wpAnyH_skip (i := 11) (dd := some 51) (by kernel_rfl) (by kernel_rfl) (by kernel_rfl) (by kernel_rfl) (fun _ _ _ h => h) (by assumption) ?_
      try simp only [Act.put, List.setIfInBounds_toArray, List.set_cons_zero, List.set_cons_succ]
      refine wpAnyH_skip (i := 12) (dd := some 52) (by kernel_rfl) (by kernel_rfl) (by kernel_rfl) (by kernel_rfl) (fun _ _ _ h => h) (by assumption) ?_
      try simp only [Act.put, List.setIfInBounds_toArray, List.set_cons_zero, List.set_cons_succ]
      refine wpAnyH_takeD (i := 13) (dd := some 53) (v := .bool true) (by kernel_rfl) (by kernel_rfl) (by kernel_rfl) (by kernel_rfl) (fun _ _ _ h => h) (fun oi h => ?_) (by assumption) ?_
      · cases h; exact Or.inl ⟨by rfl, by intro w hSw; go_simp⟩
      try simp only [Act.put, List.setIfInBounds_toArray, List.set_cons_zero, List.set_cons_succ]
      refine wpAnyH_done (by kernel_rfl) ?_ _
      all_goals
        go_wp2
        go_ret
        exact ⟨rfl, HW.out.trans (hb8.mono hYs)⟩
    have t1 : decide (0 < C1) = false := decide_eq_false hc1
    have HL1 := Lib.hid (HC1.out (by omega))
    clear hc1
    by_cases hc2 : 0 < C2
    · have t2 : decide (0 < C2) = true := decide_eq_true hc2
      clear hc2
      first
        | (go_region_held3 (fun w' => Below Y.heap.size Y w' ∧ (w'.cell? ⟨g, 0, none⟩ = some (.bool false) ∧ w'.cell? ⟨g, 1, none⟩ = some a ∧ w'.cell? ⟨g, 2, none⟩ = some (.int .i64 X1)) ∧ w'.cell? ⟨h, 0, none⟩ = some (.bool false) ∧ w'.cell? ⟨h, 1, none⟩ = some b ∧ w'.cell? ⟨h, 2, none⟩ = some (.int .i64 X2))
            ((refine ksD2 HRG.out HRH.out ?_; with_reducible first | assumption | exact Below.drew hcc))
            (first
              | (go_at_call 12; (with_reducible refine (HQ2.out _ _ _ _ hb9 D2.out.1 D2.out.2).mono ?_); rintro _ w10 ⟨rfl, hb10⟩; have hb10 := bthen hb9 hb10)
              | (go_at_call 12; (with_reducible refine (HQ1.out _ _ _ _ hb7 D1.out.1 D1.out.2).mono ?_); rintro _ w8 ⟨rfl, hb8⟩; have hb8 := bthen hb7 hb8)
              | (go_at_call 13; (with_reducible refine (HS1.out _ hb8).mono ?_); rintro _ w9 ⟨nh, d, Mb, rfl, hd, hs, hb9⟩; have hTd := hd.isS; have D2 := Lib.hid (And.intro hd hs); have hb9 := bthen hb8 hb9; clear hd hs)
              | (go_at_call 13; (with_reducible refine (HS2.out _ (And.left (by assumption))).mono ?_); rintro _ w7 ⟨ng, c, Ma, rfl, hc, hs, hb7⟩; have hTc := hc.isS; have hb7 := bthenL hb7 (by assumption); have D1 := Lib.hid (And.intro hc hs); clear hc hs)))
        | fail
      all_goals
        go_wp2
        go_ret
        exact ⟨rfl, HW.out.trans (hb10.mono hYs)⟩
    have t2 : decide (0 < C2) = false := decide_eq_false hc2
    have HL2 := Lib.hid (HC2.out (by omega))
    clear hc2
    first
      | (go_region_held3 (fun w' => Below Y.heap.size Y w' ∧ (w'.cell? ⟨g, 0, none⟩ = some (.bool false) ∧ w'.cell? ⟨g, 1, none⟩ = some a ∧ w'.cell? ⟨g, 2, none⟩ = some (.int .i64 X1)) ∧ w'.cell? ⟨h, 0, none⟩ = some (.bool false) ∧ w'.cell? ⟨h, 1, none⟩ = some b ∧ w'.cell? ⟨h, 2, none⟩ = some (.int .i64 X2))
          ((refine ksD2 HRG.out HRH.out ?_; with_reducible first | assumption | exact Below.drew hcc))
          (first
            | (go_at_call 12; (with_reducible refine (HQ2.out _ _ _ _ hb9 D2.out.1 D2.out.2).mono ?_); rintro _ w10 ⟨rfl, hb10⟩; have hb10 := bthen hb9 hb10)
            | (go_at_call 12; (with_reducible refine (HQ1.out _ _ _ _ hb7 D1.out.1 D1.out.2).mono ?_); rintro _ w8 ⟨rfl, hb8⟩; have hb8 := bthen hb7 hb8)
            | (go_at_call 13; (with_reducible refine (HS1.out _ hb8).mono ?_); rintro _ w9 ⟨nh, d, Mb, rfl, hd, hs, hb9⟩; have hTd := hd.isS; have D2 := Lib.hid (And.intro hd hs); have hb9 := bthen hb8 hb9; clear hd hs)
            | (go_at_call 13; (with_reducible refine (HS2.out _ (And.left (by assumption))).mono ?_); rintro _ w7 ⟨ng, c, Ma, rfl, hc, hs, hb7⟩; have hTc := hc.isS; have hb7 := bthenL hb7 (by assumption); have D1 := Lib.hid (And.intro hc hs); clear hc hs)))
      | fail
    all_goals
      clear g0 g1 g2 h0 h1 h2 t1 t2 HS1 HS2 HQ1 HQ2 HC1 HC2 HRG HRH NA NB D1 D2 hb7 hb8 hb9
      rw [HE.out] at HL1 HL2
      have VX1 := Lib.hid (VY1.out.below hb10)
      have VX2 := Lib.hid (VY2.out.below hb10)
      have HR1 := Lib.hid (keep_row hb10 HR1.out)
      have HR2 := Lib.hid (keep_row hb10 HR2.out)
      have TX := Lib.hid (TY.out.below hb10)
      have HW := Lib.hid (HW.out.trans (hb10.mono hYs))
      clear VY1 VY2 TY hYs hb10 hcc HE
      have hWs := HW.out.size
      have K1 : F1 = 1 → 0 < wv xs1 ∧ bl (wv xs1) ≤ P1 := fun h1 => by
        obtain ⟨_, _, _, h | h | h⟩ := R1.out <;> omega
      have K2 : F2 = 1 → 0 < wv xs2 ∧ bl (wv xs2) ≤ P2 := fun h1 => by
        obtain ⟨_, _, _, h | h | h⟩ := R2.out <;> omega
      obtain ⟨k, hk⟩ : ∃ k, k = b0 % 6 := ⟨_, rfl⟩
      have q1 : (b0 : Int) % 6 = (k : Int) := by omega
      have hkb : k ≤ 5 := by omega
      have Q2 : Hid (IntKind.i64.wrap ((b0 : Int).tmod 6) = (k : Int)) := Lib.hid (by rw [Int.tmod_eq_emod_of_nonneg (by omega), q1, wrap_i64_id (by omega) (by omega)])
      obtain ⟨q, hq⟩ : ∃ q, q = max P1 P2 := ⟨_, rfl⟩
      have em : max (P1 : Int) (P2 : Int) = (q : Int) := by omega
      have hp1 := R1.out.1
      have hpP1 := R1.out.2.1
      have hpP2 := R2.out.2.1
      have hqb : 0 < q ∧ q ≤ 300 := by omega
      obtain ⟨V, hV⟩ : ∃ V, V = smV s1 A1 X1 (!s2) A2 X2 := ⟨_, rfl⟩
      have hbV : bl V.natAbs ≤ q := by
        rw [hV, hq]
        refine smV_near (fun g1 g2 => ?_) HL1.out HL2.out ?_ ?_
        · have f1 : F1 = 1 := Nat.le_antisymm HF1.out (Nat.pos_of_ne_zero fun h0 => by rw [H1.out.2.2, h0] at g1; exact absurd g1 (Nat.lt_irrefl 0))
          have f2 : F2 = 1 := Nat.le_antisymm HF2.out (Nat.pos_of_ne_zero fun h0 => by rw [H2.out.2.2, h0] at g2; exact absurd g2 (Nat.lt_irrefl 0))
          rw [H1.out.1, H2.out.1, f1, f2, HN.out]
        · rw [H1.out.2.2]; unfold dyM; split
          · rename_i f1; exact (K1 f1).2
          · rw [bl_zero]; omega
        · rw [H2.out.2.2]; unfold dyM; split
          · rename_i f2; exact (K2 f2).2
          · rw [bl_zero]; omega
      have hx : F1 = 1 ∨ F2 = 0 := by
        by_cases f1 : F1 = 1
        · exact .inl f1
        · refine .inr (Nat.eq_zero_of_not_pos fun f2 => ?_)
          have f2 : F2 = 1 := Nat.le_antisymm HF2.out f2
          have g1 : A1 = 0 := by rw [H1.out.2.2]; exact if_neg f1
          have g2 : A2 = wv xs2 := by rw [H2.out.2.2]; exact if_pos f2
          have h3 := HL2.out
          rw [g1, lo_zero] at h3
          have h4 : A2 ≤ lo A2 X2 (min X1 X2) := Nat.le_mul_of_pos_right _ (Nat.two_pow_pos _)
          have := (K2 f2).1
          omega
      obtain ⟨XX, hXX⟩ : ∃ XX, XX = min X1 X2 := ⟨_, rfl⟩
      have HC : Hid (Calls Tryz.prog 14 #[.int .u64 0, .int .i64 (k : Int), .agg #[.int .u64 (P1 : Int), .int .i64 (M1 : Int), .int .i64 (F1 : Int), .bool n1, v1, .int .i64 e1], .agg #[.int .u64 (P2 : Int), .int .i64 (M2 : Int), .int .i64 (F2 : Int), .bool n2, v2, .int .i64 e2]] w10 fun e' w' => ∃ z zn, e' = .returned (.tuple #[z, .int .i64 0]) ∧ AddZ w' z 0 q k zn V XX ∧ Below w10.heap.size w10 w') := Lib.hid (by
        refine (impSub 300 1000 0 k P1 M1 F1 P2 M2 F2 n1 n2 v1 v2 e1 e2 xs1 xs2 w10 VX1.out VX2.out R1.out R2.out HF1.out HF2.out (by decide) (by decide) (by decide) hkb hx TX.out).mono ?_
        rintro _ w' ⟨z, A, rfl, hz, hb⟩
        rw [← H1.out.1, ← H1.out.2.1, ← H1.out.2.2, ← H2.out.1, ← H2.out.2.1, ← H2.out.2.2, ← hV, ← hXX, show pOf 0 (max P1 P2) = q from hq.symm] at hz
        have hA : A = 0 := hz.1.trans (rQ_fits _ hbV).2.2
        subst hA
        exact ⟨z, _, rfl, hz, hb⟩)
      have HBV := Lib.hid hbV
      have HVE := Lib.hid hV
      have HXE := Lib.hid hXX
      have V1 := Lib.hid VX1.out
      have V2 := Lib.hid VX2.out
      have T0 := Lib.hid TX.out
      have HXB : Hid (-1000000 ≤ XX ∧ XX ≤ 1000000) := Lib.hid (by have := HBD.out; omega)
      clear K1 K2 hk hq hp1 hpP1 hpP2 hV hXX hx HL1 HL2 hbV VX1 VX2 TX HN HF1 HF2
      obtain ⟨-, ⟨c10, c11, c12, c13, c14, c15⟩, ⟨c20, c21, c22, c23, c24, c25⟩⟩ := ksR2 HR1.out HR2.out (Below.refl _ _)
      go_wp2_with fail
      (with_reducible refine HC.out.mono ?_)
      rintro _ wN ⟨z, zn, rfl, hz, hb1⟩
      clear HC
      obtain ⟨fz, sg, vz, Ez, rfl, hSz⟩ := hz.form
      obtain ⟨Y9, hY⟩ : ∃ Y9, Y9 = wN.alloc (.cells #[.int .u64 (q : Int), .int .i64 (k : Int), .int .i64 (fz : Int), .bool sg, vz, .int .i64 Ez] 26) := ⟨_, rfl⟩
      have hbY : Below wN.heap.size wN Y9 := by rw [hY]; exact fbone _
      have hrz : Y9.heap[wN.heap.size]? = some (.cells #[.int .u64 (q : Int), .int .i64 (k : Int), .int .i64 (fz : Int), .bool sg, vz, .int .i64 Ez] 26 (0, 0)) := by rw [hY]; exact row_chain11
      have hbX := bthen hb1 hbY
      have hr1 := keep_row hbX HR1.out
      have HRx1 := Lib.hid hr1
      have VY1 := Lib.hid (V1.out.below hbX)
      have hr2 := keep_row hbX HR2.out
      have HRx2 := Lib.hid hr2
      have VY2 := Lib.hid (V2.out.below hbX)
      have HRz := Lib.hid hrz
      have HZ := Lib.hid (hz.below hbY)
      have HWY := Lib.hid (HW.out.trans (hbX.mono hWs))
      have TY := Lib.hid (T0.out.below hbX)
      have hYs := HWY.out.size
      have hcc := Below.refl Y9.heap.size Y9
      clear hb1 hbY hrz hbX hz c10 c11 c12 c13 c14 c15 c20 c21 c22 c23 c24 c25 HW hWs T0 hr1 V1 HR1 hr2 V2 HR2
      go_upto_region 10 with fail
      rw [← hY]
      clear hY
      have HVF : Hid (V = smV (dyN F1 n1) (dyM F1 (wv xs1)) (dyE F1 e1) (!dyN F2 n2) (dyM F2 (wv xs2)) (dyE F2 e2)) := Lib.hid (by rw [HVE.out, H1.out.1, H1.out.2.1, H1.out.2.2, H2.out.1, H2.out.2.1, H2.out.2.2])
      have HXF : Hid (XX = min (dyE F1 e1) (dyE F2 e2)) := Lib.hid (by rw [HXE.out, H1.out.2.1, H2.out.2.1])
      have HBE : Hid (bl (dyM F1 (wv xs1)) ≤ 1000000 ∧ bl (dyM F2 (wv xs2)) ≤ 1000000 ∧ (-1000000 ≤ dyE F1 e1 ∧ dyE F1 e1 ≤ 1000000) ∧ (-1000000 ≤ dyE F2 e2 ∧ dyE F2 e2 ≤ 1000000)) := Lib.hid (by rw [← H1.out.2.2, ← H2.out.2.2, ← H1.out.2.1, ← H2.out.2.1]; exact HBD.out)
      clear HVE HXE HBD H1 H2
      first
        | (go_region_held3 (fun w' => Below Y9.heap.size Y9 w' ∧ (w'.cell? ⟨w.heap.size, 0, none⟩ = some (.int .u64 (P1 : Int)) ∧ w'.cell? ⟨w.heap.size, 1, none⟩ = some (.int .i64 (M1 : Int)) ∧ w'.cell? ⟨w.heap.size, 2, none⟩ = some (.int .i64 (F1 : Int)) ∧ w'.cell? ⟨w.heap.size, 3, none⟩ = some (.bool n1) ∧ w'.cell? ⟨w.heap.size, 4, none⟩ = some (v1) ∧ w'.cell? ⟨w.heap.size, 5, none⟩ = some (.int .i64 e1)) ∧ (w'.cell? ⟨w.heap.size + 1, 0, none⟩ = some (.int .u64 (P2 : Int)) ∧ w'.cell? ⟨w.heap.size + 1, 1, none⟩ = some (.int .i64 (M2 : Int)) ∧ w'.cell? ⟨w.heap.size + 1, 2, none⟩ = some (.int .i64 (F2 : Int)) ∧ w'.cell? ⟨w.heap.size + 1, 3, none⟩ = some (.bool n2) ∧ w'.cell? ⟨w.heap.size + 1, 4, none⟩ = some (v2) ∧ w'.cell? ⟨w.heap.size + 1, 5, none⟩ = some (.int .i64 e2)) ∧ w'.cell? ⟨wN.heap.size, 0, none⟩ = some (.int .u64 (q : Int)) ∧ w'.cell? ⟨wN.heap.size, 1, none⟩ = some (.int .i64 (k : Int)) ∧ w'.cell? ⟨wN.heap.size, 2, none⟩ = some (.int .i64 (fz : Int)) ∧ w'.cell? ⟨wN.heap.size, 3, none⟩ = some (.bool sg) ∧ w'.cell? ⟨wN.heap.size, 4, none⟩ = some (vz) ∧ w'.cell? ⟨wN.heap.size, 5, none⟩ = some (.int .i64 Ez))
            ((refine ksR3 HRx1.out HRx2.out HRz.out ?_; with_reducible first | assumption | exact Below.drew hcc))
            (first
              | (go_at_call 10; (with_reducible refine (ofReal_any 300 1000 P2 M2 F2 e2 n2 v2 xs2 _ (VY2.out.below hb8) R2.out).mono ?_); rintro _ w9 ⟨_, rfl, ⟨b, rfl, hd2⟩, hb9⟩; have hT2 := hd2.isS; have D1x := Lib.hid (D1.out.below hb9); have hb9 := bthen hb8 hb9; have D2 := Lib.hid hd2; clear hd2)
              | (go_at_call 10; refine (ofReal_any 300 1000 P1 M1 F1 e1 n1 v1 xs1 _ (VY1.out.below (And.left (by assumption))) R1.out).mono ?_; rintro _ w8 ⟨_, rfl, ⟨a, rfl, hd1⟩, hb8⟩; have hT1 := hd1.isS; have hb8 := bthenL hb8 (by assumption); have D1 := Lib.hid hd1; clear hd1)
              | (go_at_call 15; (with_reducible refine (dOpp _ b _ _ hT2).mono ?_); rintro _ w9y ⟨rfl, hb9y⟩; have D1x := Lib.hid (D1x.out.below hb9y); have D2 := Lib.hid (D2.out.below hb9y); have hb9 := bthen hb9 hb9y)
              | (go_at_call 13; (with_reducible refine (dSum_sm _ _ a b _ _ _ _ _ D1x.out D2.out HBE.out.1 HBE.out.2.1 HBE.out.2.2.1 HBE.out.2.2.2).mono ?_); rintro _ w10 ⟨ng, c, Mr, rfl, hc, hs, hb10⟩; rw [← HVF.out] at hs; rw [← HXF.out]; have hTc := hc.isS; have D3 := Lib.hid hc; have HSV := Lib.hid hs; clear hc hs; have hb10 := bthen hb9 hb10)
              | (go_at_call 9; rw [Q2.out]; (with_reducible refine (spIsReal _ q k ng c Mr XX _ ((HZ.out.below hb10).fit HSV.out hqb.1 HBV.out) D3.out (by rw [sum_bl HSV.out]; have := HBV.out; omega) (by have := HXB.out; omega) (by have := HXB.out; omega)).mono ?_); rintro _ w12 ⟨rfl, hb12⟩; have hb12 := bthen hb10 hb12)))
        | fail
      all_goals
        go_wp2
        go_ret
        exact ⟨rfl, HWY.out.trans (hb12.mono hYs)⟩
  case first =>
    first
      | (go_region_held3 (fun w' => Below w4.heap.size w4 w' ∧ (w'.cell? ⟨w.heap.size, 0, none⟩ = some (.int .u64 (P1 : Int)) ∧ w'.cell? ⟨w.heap.size, 1, none⟩ = some (.int .i64 (M1 : Int)) ∧ w'.cell? ⟨w.heap.size, 2, none⟩ = some (.int .i64 (F1 : Int)) ∧ w'.cell? ⟨w.heap.size, 3, none⟩ = some (.bool n1) ∧ w'.cell? ⟨w.heap.size, 4, none⟩ = some (v1) ∧ w'.cell? ⟨w.heap.size, 5, none⟩ = some (.int .i64 e1)) ∧ w'.cell? ⟨w.heap.size + 1, 0, none⟩ = some (.int .u64 (P2 : Int)) ∧ w'.cell? ⟨w.heap.size + 1, 1, none⟩ = some (.int .i64 (M2 : Int)) ∧ w'.cell? ⟨w.heap.size + 1, 2, none⟩ = some (.int .i64 (F2 : Int)) ∧ w'.cell? ⟨w.heap.size + 1, 3, none⟩ = some (.bool n2) ∧ w'.cell? ⟨w.heap.size + 1, 4, none⟩ = some (v2) ∧ w'.cell? ⟨w.heap.size + 1, 5, none⟩ = some (.int .i64 e2))
          ((refine ksR2 HR1.out HR2.out ?_; repeat (with_reducible first | assumption | refine Below.drew ?_ | refine ballc ?_ _ | refine bset3 ?_ ?_)))
          (first
            | (go_at_call 10; (with_reducible refine (HO2.out _ (by repeat (with_reducible first | assumption | refine Below.drew ?_ | refine ballc ?_ _))).mono ?_); rintro _ w9 ⟨_, rfl, ⟨b, rfl, hdb⟩, hb9⟩; have hTb := hdb.isS; have hbw9 : Below w4.heap.size w4 w9 := bthen (by repeat (with_reducible first | assumption | refine Below.drew ?_ | refine ballc ?_ _)) hb9; have hz9 := hbw9.size; have ha9 : NatV w9 a A1 := (by first | exact hda.below hb9 | exact (hda.below (fbone _)).below hb9 | exact ((hda.below (fbone _)).below (fbone _)).below hb9);
                (first | (have hrP := box_row hb9; (try simp only [alz] at hrP); have hlP := (Array.getElem?_eq_some_iff.1 hrP).1; obtain ⟨p0, p1, p2, p3, p4, p5⟩ := row3 hrP) | skip);
                (first | (have hrQ := keep_row hb9 (keep_row (w := w8.alloc _) (fbone _) (heap_alloc_new w8 _)); have hlQ := (Array.getElem?_eq_some_iff.1 hrQ).1; obtain ⟨q0, q1, q2, q3, q4, q5⟩ := row3 hrQ) | skip);
                (first | (have hrU2 := keep_row hb9 hrU; have hlU := (Array.getElem?_eq_some_iff.1 hrU2).1; obtain ⟨k0, k1, k2, k3, k4, k5⟩ := row3 hrU2) | (have hrU2 := keep_row hb9 (keep_row (fbone _) hrU); have hlU := (Array.getElem?_eq_some_iff.1 hrU2).1; obtain ⟨k0, k1, k2, k3, k4, k5⟩ := row3 hrU2) | skip);
                (first | (have hrV2 := keep_row hb9 hrV; have hlV := (Array.getElem?_eq_some_iff.1 hrV2).1; obtain ⟨l0, l1, l2, l3, l4, l5⟩ := row3 hrV2) | skip))
            | (go_at_call 10; (with_reducible refine (HO1.out _ (by repeat (with_reducible first | assumption | refine Below.drew ?_ | refine ballc ?_ _))).mono ?_); rintro _ w8 ⟨_, rfl, ⟨a, rfl, hda⟩, hb8⟩; have hTa := hda.isS; have hbw8 : Below w4.heap.size w4 w8 := bthen (by repeat (with_reducible first | assumption | refine Below.drew ?_ | refine ballc ?_ _)) hb8; have hz8 := hbw8.size; have hz8' : w4.heap.size ≤ w8.heap.size + 1 := Nat.le_succ_of_le hz8;
                (first | (have hrU := box_rowD hb8; (try simp only [alz] at hrU); have hlU0 := (Array.getElem?_eq_some_iff.1 hrU).1; have nU1 : w4.heap.size ≠ w8.heap.size := (fun hc => by omega); have nU2 : w8.heap.size ≠ w4.heap.size := (fun hc => by omega)) | skip);
                (first | (have hrV := box_row2D hb8) | skip))))
      | fail
    all_goals go_wp2_with fail
    all_goals go_meet
    all_goals refine ⟨_, _, a, b, rfl, rfl, ?_⟩
    all_goals first
      | with_reducible exact twoD0 hbw9 ha9 hdb
      | with_reducible exact twoD0' hbw9 ha9 hdb
      | with_reducible refine twoD1 hbw9 ha9 hdb ?_ ?_
      | with_reducible refine twoD1' hbw9 ha9 hdb ?_ ?_
      | with_reducible refine twoD2 hbw9 ha9 hdb ?_ ?_ ?_ ?_ ?_
    all_goals first
      | with_reducible assumption
      | (with_reducible (intro hc)); omega
      | omega
end Go.Proofs.YtgbmlaffilccnaaGreatDoor
