/-
Texts of this proof, joined: DyA LwB InN RaE RcE RaF RoB. No condition.
-/
import Derived.Test.YtdepidpgbgfjlaaGreatDoorK03
import Derived.Test.YtdepidpgbgfjlaaGreatDoorK05
import Derived.Test.YtdepidpgbgfjlaaGreatDoorK15
import Derived.Test.YtdepidpgbgfjlaaGreatDoorK32
import Derived.Test.YtdepidpgbgfjlaaGreatDoorK34
import Derived.Deep.DeepCutAuto
namespace Go.Proofs.YtdepidpgbgfjlaaGreatDoor
open Go.RowKit

def dyN (f : Nat) (n : Bool) : Bool := if f = 1 then n else false
def dyM (f M : Nat) : Nat := if f = 1 then M else 0
def dyE (f : Nat) (e : Int) : Int := if f = 1 then e else 0
theorem ofReal_any (P E p m f : Nat) (e : Int) (neg : Bool) (v : Value) (ws : List Nat) (w : World) (hv : RW w v ws) (ho : RealOk P E p m f ws e) :
    Calls Tryz.prog 33 #[.agg #[.int .u64 p, .int .i64 m, .int .i64 f, .bool neg, v, .int .i64 e]] w fun e' w' => ∃ r, e' = .returned r ∧ DyV w' r (dyN f neg) (dyM f (wv ws)) (dyE f e) ∧ Below w.heap.size w w' := by
  by_cases hf : f = 1
  · subst hf
    obtain ⟨-, -, -, h | h | h⟩ := ho
    · exact absurd h (by decide)
    · exact absurd h (by decide)
    · exact ofReal_one p m e neg v ws w hv h.2.2.2.1
  · rw [dyN, dyM, dyE, if_neg hf, if_neg hf, if_neg hf]
    exact ofReal_other p m f e neg v w hv.isS hf
theorem RealOk.pos {P E p m f : Nat} {ws : List Nat} {e : Int} (h : RealOk P E p m f ws e) (hf : f = 1) : 0 < wv ws := by
  subst hf
  obtain ⟨-, -, -, h | h | h⟩ := h
  · exact absurd h (by decide)
  · exact absurd h (by decide)
  · exact h.2.1
theorem RealV.form {w : World} {z : Value} {p m f M : Nat} {neg : Bool} {X : Int} (h : RealV w z p m f neg M X) : ∃ (v : Value) (E : Int), z = .agg #[.int .u64 p, .int .i64 m, .int .i64 f, .bool neg, v, .int .i64 E] ∧ IsS v := by
  obtain ⟨v, E, zs, B, h1, h2, -⟩ := h
  exact ⟨v, E, h1, h2.isS⟩
theorem RatP.setNeg {w : World} {B b n d : Nat} {neg : Bool} (h : RatP w B b neg n d) (x : Bool) : RatP (w.setCell ⟨b, 0, none⟩ (.bool x)) B b x n d := by
  obtain ⟨v1, v2, h1, h2, h3, h4⟩ := h
  exact ⟨v1, v2, h1, rowset (i := 0) (.bool x) h2, h3.away h2 (by decide) 0 _, h4.away h2 (by decide) 0 _⟩
theorem rw_row3 {w : World} {k T : Nat} {a : Bool} {b c x y z v : Value} {ds : List Nat} (hv : RW w v ds) (hb : IsS b) (hc : IsS c) (h : w.heap[k]? = some (.cells #[.bool a, b, c] T (0, 0))) :
    RW (((w.setCell ⟨k, 0, none⟩ x).setCell ⟨k, 1, none⟩ y).setCell ⟨k, 2, none⟩ z) v ds := by
  refine ⟨⟨hv.ri.isS, hv.ri.len, fun i hi => ?_⟩, hv.lt⟩
  have hcell := hv.ri.cell i hi
  have hne : sBlk v ≠ k := by
    intro he
    rw [he, cell_of_row w k _ _ _ _ h] at hcell
    obtain ⟨b1, b2, b3, rfl⟩ := hb.form
    obtain ⟨c1, c2, c3, rfl⟩ := hc.form
    rcases Nat.lt_or_ge (sOff v + i) 3 with h3 | h3
    · rcases (by omega : sOff v + i = 0 ∨ sOff v + i = 1 ∨ sOff v + i = 2) with e | e | e <;> rw [e] at hcell <;> simp at hcell
    · rw [Array.getElem?_eq_none (by simpa using h3)] at hcell; cases hcell
  have hh : (((w.setCell ⟨k, 0, none⟩ x).setCell ⟨k, 1, none⟩ y).setCell ⟨k, 2, none⟩ z).heap[sBlk v]? = w.heap[sBlk v]? := by
    rw [heap_setCell_other _ _ _ _ (by simpa using hne), heap_setCell_other _ _ _ _ (by simpa using hne), heap_setCell_other _ _ _ _ (by simpa using hne)]
  exact (World.cell?_of_block hh).trans hcell
def rzN (f M : Nat) (e : Int) : Nat := raN (dyM f M) (dyE f e) / Nat.gcd (raN (dyM f M) (dyE f e)) (raD (dyE f e))
def rzD (f M : Nat) (e : Int) : Nat := raD (dyE f e) / Nat.gcd (raN (dyM f M) (dyE f e)) (raD (dyE f e))
theorem floatRat_num (B b p m f M : Nat) (e : Int) (neg : Bool) (w : World) (h : FloatAt w B b p m f neg M e) (hf : f = 0 ∨ f = 1 ∧ 0 < M ∧ bl M ≤ 300 ∧ -1000 ≤ e ∧ e ≤ 1000) (hT : DivW w) :
    Calls Tryz.prog 81 #[.pointer (some ⟨b, 0, none⟩), .pointer none] w fun e' w' => ∃ g, e' = .returned (.tuple #[.pointer (some ⟨g, 0, none⟩), .int .i8 0]) ∧ RatE w' w.heap.size g (dyN f neg) (rzN f M e) (rzD f M e) ∧ Below w.heap.size w w' := by
  rcases hf with rfl | ⟨rfl, h0, h1, h2, h3⟩
  · obtain ⟨-, r, x, hf, -⟩ := h
    have e1 : rzN 0 M e = 0 := by unfold rzN raN; rw [show dyM 0 M = 0 from rfl, Nat.zero_mul, Nat.zero_div]
    have e2 : rzD 0 M e = 1 := by unfold rzD; rw [show dyE 0 e = 0 from rfl, show raD 0 = 1 from rfl, Nat.gcd_one_right]
    rw [e1, e2]
    exact floatRat_zero b p m 0 x neg r w hf
  · exact floatRat_fin B b p m M e neg w h h0 h1 ⟨h2, h3⟩ hT
theorem raN_bl {M : Nat} {e : Int} (hM : bl M ≤ 300) (he : -1000 ≤ e ∧ e ≤ 1000) : bl (raN M e) ≤ 1300 ∧ bl (raD e) ≤ 1001 ∧ 0 < raD e := by
  have h1 := bl_two M e.toNat
  have h2 := bl_two 1 (-e).toNat
  rw [Nat.one_mul, show bl 1 = 1 from rfl] at h2
  unfold raN raD
  exact ⟨by omega, by omega, Nat.two_pow_pos _⟩
theorem nw_b {n k : Nat} (h : bl n ≤ 64 * k) : nw n ≤ k :=
  nw_le (Nat.lt_of_lt_of_le (lt_bl _) (by rw [show (18446744073709551616 : Nat) = 2 ^ 64 from rfl, ← Nat.pow_mul]; exact Nat.pow_le_pow_right (by decide) h))
theorem rz_bd {f M : Nat} {e : Int} (hM : bl (dyM f M) ≤ 300) (he : -1000 ≤ dyE f e ∧ dyE f e ≤ 1000) : nw (rzN f M e) ≤ 100 ∧ nw (rzD f M e) ≤ 100 := by
  obtain ⟨h1, h2, h3⟩ := raN_bl hM he
  have k1 : bl (rzN f M e) ≤ bl (raN (dyM f M) (dyE f e)) := bl_mono (Nat.div_le_self _ _)
  have k2 : bl (rzD f M e) ≤ bl (raD (dyE f e)) := bl_mono (Nat.div_le_self _ _)
  exact ⟨nw_b (by omega), nw_b (by omega)⟩
theorem dy_of {p m f : Nat} {ws : List Nat} {e : Int} (ho : RealOk 300 1000 p m f ws e) : bl (dyM f (wv ws)) ≤ 300 ∧ -1000 ≤ dyE f e ∧ dyE f e ≤ 1000 := by
  obtain ⟨h1, h2, h3, rfl | rfl | ⟨rfl, h4, h5, h6, h7, h8⟩⟩ := ho
  · exact ⟨show bl 0 ≤ 300 by decide, show (-1000 : Int) ≤ 0 by decide, show (0 : Int) ≤ 1000 by decide⟩
  · exact ⟨show bl 0 ≤ 300 by decide, show (-1000 : Int) ≤ 0 by decide, show (0 : Int) ≤ 1000 by decide⟩
  · exact ⟨Nat.le_trans h5 h2, h7, h8⟩
set_option maxRecDepth 100000 in
set_option maxHeartbeats 1600000 in
theorem implRat_num (p m f : Nat) (neg : Bool) (v : Value) (e : Int) (xs : List Nat) (w : World) (hv : RW w v xs) (ho : RealOk 300 1000 p m f xs e) (hf : f ≠ 2) (hT : DivW w) :
    Calls Tryz.prog 32 #[.agg #[.int .u64 p, .int .i64 m, .int .i64 f, .bool neg, v, .int .i64 e]] w fun e' w' => ∃ r1 r2, e' = .returned (.tuple #[.agg #[.bool (dyN f neg && decide (0 < rzN f (wv xs) e)), r1, r2], .int .i64 0, .bool true]) ∧ RW w' r1 (wds (rzN f (wv xs) e)) ∧ RW w' r2 (wds (rzD f (wv xs) e)) ∧ Below w.heap.size w w' := by
  have hS := hv.isS
  have hab := (Below.refl w.heap.size w).alloc (Nat.le_refl _) (.cells #[.int .u64 p, .int .i64 m, .int .i64 f, .bool neg, v, .int .i64 e] 39)
  have had := hab.alloc hab.size (.cells #[.bool false, .slice none 0 0, .slice none 0 0] 27)
  obtain ⟨X, hX⟩ : ∃ X, X = (w.alloc (.cells #[.int .u64 p, .int .i64 m, .int .i64 f, .bool neg, v, .int .i64 e] 39)).alloc (.cells #[.bool false, .slice none 0 0, .slice none 0 0] 27) := ⟨_, rfl⟩
  have hr1 : X.heap[w.heap.size]? = some (.cells #[.int .u64 p, .int .i64 m, .int .i64 f, .bool neg, v, .int .i64 e] 39 (0, 0)) := by rw [hX]; exact row_chain21
  have hr2 : X.heap[w.heap.size + 1]? = some (.cells #[.bool false, .slice none 0 0, .slice none 0 0] 27 (0, 0)) := by rw [hX]; exact row_chain22
  rw [← hX] at had
  obtain ⟨⟨c0, c1, c2, c3, c4, c5⟩, -⟩ := row6 hr1
  have hdy := dy_of ho
  have hfc : f = 0 ∨ f = 1 ∧ 0 < wv xs ∧ bl (wv xs) ≤ 300 ∧ -1000 ≤ e ∧ e ≤ 1000 := by
    obtain ⟨h1, h2, h3, h4 | h4 | ⟨h4, h5, h6, h7, h8, h9⟩⟩ := ho
    · exact Or.inl h4
    · exact absurd h4 hf
    · exact Or.inr ⟨h4, h5, Nat.le_trans h6 h2, h8, h9⟩
  obtain ⟨n1, n2⟩ := rz_bd hdy.1 hdy.2
  have HO := Lib.hid ho
  have HV := Lib.hid (hv.below had)
  have HT := Lib.hid (hT.below had)
  have HR2 := Lib.hid hr2
  have HAD := Lib.hid had
  have hXs := had.size
  have HFC := Lib.hid hfc
  obtain ⟨zN, hzN⟩ : ∃ z, z = rzN f (wv xs) e := ⟨_, rfl⟩
  obtain ⟨zD, hzD⟩ : ∃ z, z = rzD f (wv xs) e := ⟨_, rfl⟩
  have HN : Hid (∀ (W : World) (B b : Nat), FloatAt W B b p m f neg (wv xs) e → DivW W → Calls Tryz.prog 81 #[.pointer (some ⟨b, 0, none⟩), .pointer none] W fun e' w' => ∃ g, e' = .returned (.tuple #[.pointer (some ⟨g, 0, none⟩), .int .i8 0]) ∧ RatE w' W.heap.size g (dyN f neg) zN zD ∧ Below W.heap.size W w') := Lib.hid (fun W B b h hT => by rw [hzN, hzD]; exact floatRat_num B b p m f (wv xs) e neg W h HFC.out hT)
  rw [← hzN] at n1 ⊢
  rw [← hzD] at n2 ⊢
  obtain ⟨nn, hnn⟩ : ∃ x, x = dyN f neg := ⟨_, rfl⟩
  rw [← hnn] at HN ⊢
  obtain ⟨x, hx⟩ : ∃ x, x = (nn && decide (0 < zN)) := ⟨_, rfl⟩
  have HFE := Lib.hid (fun (W : World) (g B : Nat) (h : RatE W B g nn zN zD) => frac_E g B nn zN zD W h (by omega) (by omega))
  rw [← hx] at HFE ⊢
  clear hv ho hT hab had hr1 hr2 hdy hfc HFC hzN hzD hnn hf hx
  go_enter Tryz.func32, Tryz.ntmps32
  go_upto_region 1 with fail
  rw [← hX]
  clear hX
  go_wp2_with fail
  refine (float_any 300 1000 p m f neg v e xs X HV.out HO.out (by decide) (by decide)).mono ?_
  rintro _ w1 ⟨g, rfl, hF, hb1⟩
  have HF := Lib.hid hF
  have HT1 := Lib.hid (HT.out.below hb1)
  have HB1 := Lib.hid hb1
  clear hF hb1 c0 c1 c2 c3 c4 c5
  go_wp2_with fail
  refine (HN.out w1 _ g HF.out HT1.out).mono ?_
  rintro _ w2 ⟨g2, rfl, hR, hb2⟩
  have HR := Lib.hid hR
  have HB2 := Lib.hid (bthen HB1.out hb2)
  clear hR hb2
  go_wp2_with fail
  refine (HFE.out w2 g2 _ HR.out).mono ?_
  rintro _ w3 ⟨r1, r2, rfl, hq1, hq2, hb3⟩
  have hb4 := bthen HB2.out hb3
  have q := keep_row hb4 HR2.out
  have hSr1 := hq1.isS
  have hSr2 := hq2.isS
  obtain ⟨k0, k1, k2, f0, f1, f2⟩ := row3 q
  have p1 := rowset (i := 0) (.bool x) q
  have p2 := rowset (i := 1) r1 p1
  have p3 := rowset (i := 2) r2 p2
  obtain ⟨e0, e1, e2, -, -, -⟩ := row3 p3
  have a1 : RW (((w3.setCell ⟨w.heap.size + 1, 0, none⟩ (.bool x)).setCell ⟨w.heap.size + 1, 1, none⟩ r1).setCell ⟨w.heap.size + 1, 2, none⟩ r2) r1 (wds zN) := rw_row3 hq1 IsS.nil IsS.nil q
  have a2 : RW (((w3.setCell ⟨w.heap.size + 1, 0, none⟩ (.bool x)).setCell ⟨w.heap.size + 1, 1, none⟩ r1).setCell ⟨w.heap.size + 1, 2, none⟩ r2) r2 (wds zD) := rw_row3 hq2 IsS.nil IsS.nil q
  have A1 := Lib.hid a1
  have A2 := Lib.hid a2
  have B1 := Lib.hid (bset3 (a := .bool x) (b := r1) (c := r2) (HAD.out.trans (hb4.mono hXs)) (Nat.le_succ w.heap.size))
  clear q p1 p2 p3 a1 a2 hq1 hq2 hb3 hb4
  go_wp2
  refine bodyPost_ret (v := .tuple #[.agg #[.bool x, r1, r2], .int .i64 0, .bool true]) ?_ rfl ⟨r1, r2, rfl, A1.out, A2.out, B1.out⟩
  simp [results, Tryz.results32, go_sem, e0, e1, e2]
set_option maxRecDepth 100000 in
set_option maxHeartbeats 1600000 in
theorem over_any (neg : Bool) (a b : Value) (x y : Nat) (w : World) (ha : NatV w a x) (hb : NatV w b y) (hx : nl x ≤ 100000000) (hy : nl y ≤ 100000000) (hy0 : 0 < y) :
    Calls Tryz.prog 35 #[.bool neg, a, b] w fun e w' => ∃ q r, e = .returned (.agg #[.bool (neg && decide (0 < x)), q, r]) ∧ NatV w' q (x / Nat.gcd x y) ∧ NatV w' r (y / Nat.gcd x y) ∧ Below w.heap.size w w' := by
  have hSa := ha.isS
  have hSb := hb.isS
  have hLa := ha.len
  obtain ⟨G, hG⟩ : ∃ G, G = Nat.gcd x y := ⟨_, rfl⟩
  have hG0 : 0 < G := by rw [hG]; exact Nat.gcd_pos_of_pos_right x hy0
  have hGl : nl G ≤ 100000000 := by rw [hG]; exact Nat.le_trans (nl_mono (Nat.gcd_le_right x hy0)) hy
  obtain ⟨W, hW⟩ : ∃ W, W = w.alloc (.cells #[.bool false, .slice none 0 0, .slice none 0 0] 32) := ⟨_, rfl⟩
  have hrow : W.heap[w.heap.size]? = some (.cells #[.bool false, .slice none 0 0, .slice none 0 0] 32 (0, 0)) := by rw [hW]; exact box_row (Below.refl _ _)
  have hab : Below w.heap.size w W := by rw [hW]; exact (Below.refl _ _).alloc (Nat.le_refl _) _
  have HA := Lib.hid (ha.below hab)
  have HB := Lib.hid (hb.below hab)
  have HR := Lib.hid hrow
  have HG := Lib.hid hG
  rw [← hG]
  obtain ⟨l, hl⟩ : ∃ l, l = nl x := ⟨_, rfl⟩
  rw [← hl] at hLa
  have hdx : decide (0 < x) = decide (0 < l) := by
    rw [decide_eq_decide, hl]
    exact ⟨nl_pos, fun h => by rcases Nat.eq_zero_or_pos x with h0 | h0; (rw [h0, nl_zero] at h; omega); exact h0⟩
  rw [hdx]
  clear ha hb hrow hG hdx hl
  go_enter Tryz.func35, Tryz.ntmps35
  go_upto_region 1 with fail
  rw [← hW]
  clear hW
  go_wp2_with fail
  refine (spGcd a b x y W HA.out HB.out (by omega) (by omega)).mono ?_
  rintro _ w1 ⟨g, rfl, hg, hb1⟩
  rw [← HG.out] at hg
  have hSg := hg.isS
  have HGv := Lib.hid hg
  clear hg
  go_wp2_with fail
  refine (spDivMod a g x G w1 (HA.out.below hb1) HGv.out (by omega) (by omega) hG0).mono ?_
  rintro _ w2 ⟨_, rfl, q1, q2, rfl, hq1, hq2, hb2⟩
  have hSq1 := hq1.isS
  have hSq2 := hq2.isS
  have HQ1 := Lib.hid hq1
  have hb12 := bthen hb1 hb2
  clear hq1 hq2
  go_wp2_with fail
  refine (spDivMod b g y G w2 (HB.out.below hb12) (HGv.out.below hb2) (by omega) (by omega) hG0).mono ?_
  rintro _ w3 ⟨_, rfl, r1, r2, rfl, hr1, hr2, hb3⟩
  have hSr1 := hr1.isS
  have hSr2 := hr2.isS
  have HR1 := Lib.hid hr1
  have HQ1' := Lib.hid (HQ1.out.below hb3)
  have hb13 := bthen hb12 hb3
  have hrow3 := keep_row hb13 HR.out
  obtain ⟨k0, k1, k2, f0, f1, f2⟩ := row3 hrow3
  have hwB := hab.trans (hb13.mono hab.size)
  have HE := Lib.hid (fun z => row3 (row3_set (x := .bool z) (y := q1) (z := r1) hrow3))
  have HN := Lib.hid (fun z => natv_row3 (x := .bool z) (y := q1) (z := r1) IsS.nil IsS.nil HQ1'.out hrow3)
  have HM := Lib.hid (fun z => natv_row3 (x := .bool z) (y := q1) (z := r1) IsS.nil IsS.nil HR1.out hrow3)
  have HBB := Lib.hid (fun z => bset (i := 2) (u := r1) (bset (i := 1) (u := q1) (bset (i := 0) (u := .bool z) hwB (Nat.le_refl _)) (Nat.le_refl _)) (Nat.le_refl _))
  clear hr1 hr2 hrow3
  have hcs : decide (0 < l) = true ∨ decide (0 < l) = false := by cases decide (0 < l) <;> simp
  cases neg <;> rcases hcs with t1 | t1
  all_goals
    go_wp2
  · obtain ⟨e0, e1, e2, -, -, -⟩ := HE.out false
    refine bodyPost_ret (v := .agg #[.bool false, q1, r1]) ?_ rfl ⟨q1, r1, (by simp [t1]), HN.out false, HM.out false, HBB.out false⟩
    simp [results, Tryz.results35, go_sem, e0, e1, e2]
  · obtain ⟨e0, e1, e2, -, -, -⟩ := HE.out false
    refine bodyPost_ret (v := .agg #[.bool false, q1, r1]) ?_ rfl ⟨q1, r1, (by simp [t1]), HN.out false, HM.out false, HBB.out false⟩
    simp [results, Tryz.results35, go_sem, e0, e1, e2]
  · obtain ⟨e0, e1, e2, -, -, -⟩ := HE.out true
    refine bodyPost_ret (v := .agg #[.bool true, q1, r1]) ?_ rfl ⟨q1, r1, (by simp [t1]), HN.out true, HM.out true, HBB.out true⟩
    simp [results, Tryz.results35, go_sem, e0, e1, e2]
  · obtain ⟨e0, e1, e2, -, -, -⟩ := HE.out false
    refine bodyPost_ret (v := .agg #[.bool false, q1, r1]) ?_ rfl ⟨q1, r1, (by simp [t1]), HN.out false, HM.out false, HBB.out false⟩
    simp [results, Tryz.results35, go_sem, e0, e1, e2]
set_option maxRecDepth 100000 in
set_option maxHeartbeats 1600000 in
theorem implRat_inf (p m f : Nat) (neg : Bool) (v : Value) (e : Int) (xs : List Nat) (w : World) (hv : RW w v xs) (ho : RealOk 300 1000 p m f xs e) (hf : f = 2) :
    Calls Tryz.prog 32 #[.agg #[.int .u64 p, .int .i64 m, .int .i64 f, .bool neg, v, .int .i64 e]] w fun e' w' => ∃ c : Int, e' = .returned (.tuple #[.agg #[.bool false, .slice none 0 0, .slice none 0 0], .int .i64 c, .bool false]) ∧ Below w.heap.size w w' := by
  have hS := hv.isS
  have hab := (Below.refl w.heap.size w).alloc (Nat.le_refl _) (.cells #[.int .u64 p, .int .i64 m, .int .i64 f, .bool neg, v, .int .i64 e] 39)
  have had := hab.alloc hab.size (.cells #[.bool false, .slice none 0 0, .slice none 0 0] 27)
  obtain ⟨X, hX⟩ : ∃ X, X = (w.alloc (.cells #[.int .u64 p, .int .i64 m, .int .i64 f, .bool neg, v, .int .i64 e] 39)).alloc (.cells #[.bool false, .slice none 0 0, .slice none 0 0] 27) := ⟨_, rfl⟩
  have hr1 : X.heap[w.heap.size]? = some (.cells #[.int .u64 p, .int .i64 m, .int .i64 f, .bool neg, v, .int .i64 e] 39 (0, 0)) := by rw [hX]; exact row_chain21
  have hr2 : X.heap[w.heap.size + 1]? = some (.cells #[.bool false, .slice none 0 0, .slice none 0 0] 27 (0, 0)) := by rw [hX]; exact row_chain22
  rw [← hX] at had
  obtain ⟨⟨c0, c1, c2, c3, c4, c5⟩, -⟩ := row6 hr1
  have HO := Lib.hid ho
  have HV := Lib.hid (hv.below had)
  have HR2 := Lib.hid hr2
  have HAD := Lib.hid had
  have hXs := had.size
  have HF2 := Lib.hid hf
  clear hv ho hab had hr1 hr2 hf
  go_enter Tryz.func32, Tryz.ntmps32
  go_upto_region 1 with fail
  rw [← hX]
  clear hX
  go_wp2_with fail
  refine (float_any 300 1000 p m f neg v e xs X HV.out HO.out (by decide) (by decide)).mono ?_
  rintro _ w1 ⟨g, rfl, hF, hb1⟩
  rw [HF2.out] at hF
  obtain ⟨-, r, y, hF, -⟩ := hF
  have HF := Lib.hid hF
  have HB1 := Lib.hid hb1
  clear hF hb1 c0 c1 c2 c3 c4 c5
  go_wp2_with fail
  refine (floatRat_inf g p m 0 y neg r w1 HF.out).mono ?_
  rintro _ _ ⟨c, rfl, hc1, hc2, rfl⟩
  have q := keep_row HB1.out HR2.out
  obtain ⟨k0, k1, k2, f0, f1, f2⟩ := row3 q
  have p1 := rowset (i := 0) (.bool false) q
  have p2 := rowset (i := 1) (.slice none 0 0) p1
  have p3 := rowset (i := 2) (.slice none 0 0) p2
  obtain ⟨e0, e1, e2, -, -, -⟩ := row3 p3
  have B1 := Lib.hid (bset3 (a := .bool false) (b := .slice none 0 0) (c := .slice none 0 0) (HAD.out.trans (HB1.out.mono hXs)) (Nat.le_succ w.heap.size))
  have wc : IntKind.i64.wrap c = c := wrap_i64_id (by omega) (by omega)
  clear q p1 p2 p3
  go_wp2
  refine bodyPost_ret (v := .tuple #[.agg #[.bool false, .slice none 0 0, .slice none 0 0], .int .i64 c, .bool false]) ?_ rfl ⟨c, rfl, B1.out⟩
  simp [results, Tryz.results32, go_sem, e0, e1, e2]
theorem isFrac_same (b : Bool) (n d : Nat) : isFrac (b && decide (0 < n)) (wds n) (wds d) b n d = true := by
  unfold isFrac isNum; simp
theorem ks6Q {W X : World} {k0 k1 T0 T1 : Nat} {a0 b0 c0 a1 b1 c1 : Value} (h0 : W.heap[k0]? = some (.cells #[a0, b0, c0] T0 (0, 0))) (h1 : W.heap[k1]? = some (.cells #[a1, b1, c1] T1 (0, 0))) (h : Below W.heap.size W X) :
    Below W.heap.size W X ∧ (X.cell? ⟨k0, 0, none⟩ = some a0 ∧ X.cell? ⟨k0, 1, none⟩ = some b0 ∧ X.cell? ⟨k0, 2, none⟩ = some c0) ∧ X.cell? ⟨k1, 0, none⟩ = some a1 ∧ X.cell? ⟨k1, 1, none⟩ = some b1 ∧ X.cell? ⟨k1, 2, none⟩ = some c1 := by
  obtain ⟨x0, y0, z0, -, -, -⟩ := row3 (keep_row h h0)
  obtain ⟨x1, y1, z1, -, -, -⟩ := row3 (keep_row h h1)
  exact ⟨h, ⟨x0, y0, z0⟩, x1, y1, z1⟩
theorem rz_sign (n : Bool) (f M : Nat) (e : Int) : (n && decide (0 < rzN f M e)) = ((n && decide (0 < raN (dyM f M) (dyE f e))) && decide (0 < rzN f M e)) := by
  by_cases h : 0 < rzN f M e
  · have h2 : 0 < raN (dyM f M) (dyE f e) := Nat.lt_of_lt_of_le h (Nat.div_le_self _ _)
    rw [decide_eq_true h, decide_eq_true h2, Bool.and_true, Bool.and_true]
  · rw [decide_eq_false h, Bool.and_false, Bool.and_false]
set_option maxRecDepth 100000 in
set_option maxHeartbeats 3200000 in
theorem lawRat (p1 : Nat) (m1 f1 : Int) (n1 : Bool) (v1 : Value) (e1 : Int) (xs1 : List Nat) (w : World) (_hKar : KarW w) (hK : DivW w) (hv1 : RW w v1 xs1) (_hg1 : p1 ≤ 18446744073709551615 ∧ (-9223372036854775808 ≤ m1 ∧ m1 ≤ 9223372036854775807) ∧ (-9223372036854775808 ≤ f1 ∧ f1 ≤ 9223372036854775807) ∧ (-9223372036854775808 ≤ e1 ∧ e1 ≤ 9223372036854775807)) :
    Calls Tryz.prog 8 #[.agg #[.int .u64 p1, .int .i64 m1, .int .i64 f1, .bool n1, v1, .int .i64 e1]] w fun e' w' => e' = .returned (.bool true) ∧ Below w.heap.size w w' := by
  have UD := Lib.hid hK
  clear hK _hKar
  have hS1 := hv1.isS
  clear _hg1
  have hab1 := (Below.refl w.heap.size w).alloc (Nat.le_refl _) (.cells #[.int .u64 p1, .int .i64 m1, .int .i64 f1, .bool n1, v1, .int .i64 e1] 39)
  obtain ⟨X, hX⟩ : ∃ X, X = (w.alloc (.cells #[.int .u64 p1, .int .i64 m1, .int .i64 f1, .bool n1, v1, .int .i64 e1] 39)) := ⟨_, rfl⟩
  have hr1 : X.heap[w.heap.size]? = some (.cells #[.int .u64 p1, .int .i64 m1, .int .i64 f1, .bool n1, v1, .int .i64 e1] 39 (0, 0)) := by
    rw [hX]; exact row_chain11
  rw [← hX] at hab1
  obtain ⟨-, ⟨c10, c11, c12, c13, c14, c15⟩⟩ := ksR1 hr1 (Below.refl _ _)
  have HR1 := Lib.hid hr1
  have V1 := Lib.hid (hv1.below hab1)
  have hXs := hab1.size
  have HW := Lib.hid hab1
  clear hr1 hv1
  clear hab1
  go_enter Tryz.func8, Tryz.ntmps8
  go_upto_region 1 with fail
  rw [← hX]
  clear hX
  go_wp2_with fail
  refine (zzFits1_any p1 m1 f1 e1 n1 v1 xs1 X V1.out).mono ?_
  rintro _ w1 ⟨rfl, hb1⟩
  obtain ⟨fits, hfits⟩ : ∃ f, f = decide (xs1.length ≤ 2147483647) := ⟨_, rfl⟩
  rw [← hfits]
  clear c10 c11 c12 c13 c14 c15 hfits
  obtain ⟨-, ⟨c10, c11, c12, c13, c14, c15⟩⟩ := ksR1 HR1.out hb1
  have HB := Lib.hid hb1
  clear hb1
  cases fits with
  | false =>
    go_wp2
    go_ret
    exact ⟨rfl, HW.out.trans (HB.out.mono hXs)⟩
  | true =>
  go_wp2_with fail
  refine (real_any 300 1000 p1 m1 f1 e1 n1 v1 xs1 w1 (V1.out.below HB.out) (by decide) (by decide)).mono ?_
  rintro _ w2 ⟨ok, rfl, hok, hb1⟩
  have hb1 := bthen HB.out hb1
  have HO1 := Lib.hid hok
  clear c10 c11 c12 c13 c14 c15 HB hok
  obtain ⟨-, ⟨c10, c11, c12, c13, c14, c15⟩⟩ := ksR1 HR1.out hb1
  have HB := Lib.hid hb1
  clear hb1
  cases ok with
  | false =>
    go_wp2
    go_ret
    exact ⟨rfl, HW.out.trans (HB.out.mono hXs)⟩
  | true =>
  obtain ⟨P1, M1, F1, hp, rfl, rfl, hR⟩ := HO1.out rfl
  have hpp : P1 = p1 := by omega
  subst hpp
  have R1 := Lib.hid hR
  clear HO1 hp hR
  have hWW := HW.out.trans (HB.out.mono hXs)
  have hV1 := V1.out.below HB.out
  have hr1 := keep_row HB.out HR1.out
  clear HW HB hXs V1 HR1
  have HW := Lib.hid hWW
  have V1 := Lib.hid hV1
  have HR1 := Lib.hid hr1
  have hWs := HW.out.size
  clear hWW hV1 hr1
  by_cases hF2 : F1 = 2
  case pos =>
    have t : ((F1 : Int) == 2) = true := by rw [hF2]; rfl
    have HI := Lib.hid (implRat_inf P1 M1 F1 n1 v1 e1 xs1 w2 V1.out R1.out hF2)
    clear hF2
    go_wp2_with fail
    refine HI.out.mono ?_
    rintro _ wN ⟨c, rfl, hb1⟩
    obtain ⟨Y, hY⟩ : ∃ Y, Y = wN.alloc (.cells #[.bool false, .slice none 0 0, .slice none 0 0] 27) := ⟨_, rfl⟩
    have hbX : Below w2.heap.size w2 Y := by rw [hY]; exact bthen hb1 (fbone _)
    have hfin := Lib.hid (HW.out.trans (hbX.mono hWs))
    clear c10 c11 c12 c13 c14 c15
    obtain ⟨⟨c10, c11, c12, c13, c14, c15⟩, -⟩ := row6 (keep_row hbX HR1.out)
    clear hb1 hbX
    go_upto_region 6 with fail
    rw [← hY]
    clear hY
    go_wp2
    go_ret
    exact ⟨rfl, hfin.out⟩
  have t : ((F1 : Int) == 2) = false := by rw [beq_eq_false_iff_ne]; omega
  have HI := Lib.hid (implRat_num P1 M1 F1 n1 v1 e1 xs1 w2 V1.out R1.out hF2 (UD.out.below HW.out))
  obtain ⟨d1, d2, d3⟩ := dy_of R1.out
  obtain ⟨z1, z2⟩ := rz_bd (f := F1) (M := wv xs1) (e := e1) d1 ⟨d2, d3⟩
  obtain ⟨q1, q2, q3⟩ := raN_bl d1 ⟨d2, d3⟩
  have hsg := rz_sign (dyN F1 n1) F1 (wv xs1) e1
  have hzN : rzN F1 (wv xs1) e1 = raN (dyM F1 (wv xs1)) (dyE F1 e1) / Nat.gcd (raN (dyM F1 (wv xs1)) (dyE F1 e1)) (raD (dyE F1 e1)) := rfl
  have hzD : rzD F1 (wv xs1) e1 = raD (dyE F1 e1) / Nat.gcd (raN (dyM F1 (wv xs1)) (dyE F1 e1)) (raD (dyE F1 e1)) := rfl
  obtain ⟨zN, hN⟩ : ∃ x, x = rzN F1 (wv xs1) e1 := ⟨_, rfl⟩
  obtain ⟨zD, hD⟩ : ∃ x, x = rzD F1 (wv xs1) e1 := ⟨_, rfl⟩
  rw [← hN] at z1 hsg hzN HI
  rw [← hD] at z2 hzD HI
  have HOF := Lib.hid (fun (U : World) (hU : Below w2.heap.size w2 U) => ofReal_any 300 1000 P1 M1 F1 e1 n1 v1 xs1 U (V1.out.below hU) R1.out)
  obtain ⟨n, hn⟩ : ∃ x, x = dyN F1 n1 := ⟨_, rfl⟩
  obtain ⟨M, hM⟩ : ∃ x, x = dyM F1 (wv xs1) := ⟨_, rfl⟩
  obtain ⟨E, hE⟩ : ∃ x, x = dyE F1 e1 := ⟨_, rfl⟩
  rw [← hn] at hsg HI HOF
  rw [← hM] at d1 q1 hsg hzN hzD HOF
  rw [← hE] at d2 d3 q1 q2 q3 hsg hzN hzD HOF
  clear hF2 hN hD hn hM hE
  obtain ⟨x, hx⟩ : ∃ x, x = (n && decide (0 < zN)) := ⟨_, rfl⟩
  rw [← hx] at HI
  obtain ⟨a, ha⟩ := Int.eq_ofNat_of_zero_le (show 0 ≤ max E 0 by omega)
  obtain ⟨c, hc⟩ := Int.eq_ofNat_of_zero_le (show 0 ≤ max (-E) 0 by omega)
  have wE : IntKind.i64.wrap (-E) = -E := wrap_i64_id (by omega) (by omega)
  have hMb := nl_of_bl d1
  have HSHL : Hid (∀ (w' : World) (b : Value), NatV w' b M → Calls Tryz.prog 36 #[b, .int .i64 a] w' fun e w5 => ∃ r, e = .returned r ∧ NatV w5 r (raN M E) ∧ Below w'.heap.size w' w5) := Lib.hid (fun w' b hb => by
    have := spShl b M a w' hb (by omega) (by omega)
    rw [show M * 2 ^ a = raN M E by unfold raN; congr 2; omega] at this
    exact this.mono fun _ _ h => h)
  have HBIT : Hid (∀ (w' : World), Calls Tryz.prog 37 #[.int .i64 c] w' fun e w5 => ∃ r, e = .returned r ∧ NatV w5 r (raD E) ∧ Below w'.heap.size w' w5) := Lib.hid (fun w' => by
    have := spBit c w' (by omega)
    rw [show 2 ^ c = raD E by unfold raD; congr 1; omega] at this
    exact this.mono fun _ _ h => h)
  have m1 := nl_of_bl q1
  have m2 := nl_of_bl q2
  obtain ⟨y, hy⟩ : ∃ y, y = (n && decide (0 < raN M E)) := ⟨_, rfl⟩
  have HOV : Hid (∀ (w' : World) (r d : Value), NatV w' r (raN M E) → NatV w' d (raD E) → Calls Tryz.prog 35 #[.bool n, r, d] w' fun e w5 => ∃ q1 q2, e = .returned (.agg #[.bool y, q1, q2]) ∧ NatV w5 q1 zN ∧ NatV w5 q2 zD ∧ Below w'.heap.size w' w5) := Lib.hid (fun w' r d hr hd => by
    rw [hy, hzN, hzD]
    exact over_any n r d _ _ w' hr hd (by omega) (by omega) q3)
  have hxy : x = (y && decide (0 < zN)) := by rw [hx, hy]; exact hsg
  have HIS : Hid (∀ (w' : World) (r1 r2 q1 q2 : Value), RW w' r1 (wds zN) → RW w' r2 (wds zD) → NatV w' q1 zN → NatV w' q2 zD → Calls Tryz.prog 34 #[.agg #[.bool x, r1, r2], .agg #[.bool y, q1, q2]] w' fun e w5 => e = .returned (.bool true) ∧ Below w'.heap.size w' w5) := Lib.hid (fun w' r1 r2 q1 q2 h1 h2 h3 h4 => by
    have k1 : nl zN ≤ 1000000000 := Nat.le_trans (nl_of_bl (k := 6400) (by have := bl_nw zN; omega)) (by decide)
    have k2 : nl zD ≤ 1000000000 := Nat.le_trans (nl_of_bl (k := 6400) (by have := bl_nw zD; omega)) (by decide)
    have := isFraction_any x y r1 r2 q1 q2 _ _ _ _ w' h1 h2 h3 h4 (by rw [wds_length]; omega) (by rw [wds_length]; omega) k1 k2
    rw [show isFrac x (wds zN) (wds zD) y zN zD = true by rw [hxy]; exact isFrac_same _ _ _] at this
    exact this)
  clear hx hy hxy hsg hzN hzD q1 q2 q3 z1 z2 m1 m2 hMb
  go_wp2_with fail
  refine HI.out.mono ?_
  rintro _ wN ⟨r1, r2, rfl, hw1, hw2, hb1⟩
  have hSr1 := hw1.isS
  have hSr2 := hw2.isS
  obtain ⟨Y, hY⟩ : ∃ Y, Y = wN.alloc (.cells #[.bool x, r1, r2] 27) := ⟨_, rfl⟩
  have hbY : Below wN.heap.size wN Y := by rw [hY]; exact fbone _
  have hrz : Y.heap[wN.heap.size]? = some (.cells #[.bool x, r1, r2] 27 (0, 0)) := by rw [hY]; exact row_chain11
  have hbX := bthen hb1 hbY
  have HBX := Lib.hid hbX
  have HW1 := Lib.hid (hw1.below hbY)
  have HW2 := Lib.hid (hw2.below hbY)
  have HRZ0 := Lib.hid hrz
  clear c10 c11 c12 c13 c14 c15
  obtain ⟨⟨c10, c11, c12, c13, c14, c15⟩, -⟩ := row6 (keep_row hbX HR1.out)
  clear hb1 hbX hbY hrz hw1 hw2
  go_upto_region 6 with fail
  rw [← hY]
  clear hY
  go_wp2_with fail
  refine (HOF.out Y HBX.out).mono ?_
  rintro _ w2 ⟨_, rfl, ⟨b, rfl, hb⟩, hb2⟩
  have hSb := hb.isS
  obtain ⟨Z, hZ⟩ : ∃ Z, Z = w2.alloc (.cells #[.bool n, b, .int .i64 E] 44) := ⟨_, rfl⟩
  have hbZ : Below w2.heap.size w2 Z := by rw [hZ]; exact fbone _
  have hrv : Z.heap[w2.heap.size]? = some (.cells #[.bool n, b, .int .i64 E] 44 (0, 0)) := by rw [hZ]; exact row_chain11
  have hrz : Z.heap[wN.heap.size]? = some (.cells #[.bool x, r1, r2] 27 (0, 0)) := keep_row (bthen hb2 hbZ) HRZ0.out
  have HB := Lib.hid (hb.below hbZ)
  have G1 := Lib.hid (HW1.out.below (bthen hb2 hbZ))
  have G2 := Lib.hid (HW2.out.below (bthen hb2 hbZ))
  have HBZ := Lib.hid (HW.out.trans ((bthen HBX.out (bthen hb2 hbZ)).mono hWs))
  have HRZ := Lib.hid hrz
  have HRV := Lib.hid hrv
  obtain ⟨x0, x1, x2, -, -, -⟩ := row3 hrz
  obtain ⟨y0, y1, y2, -, -, -⟩ := row3 hrv
  have hcc := Below.refl Z.heap.size Z
  clear hb hb2 hbZ hrz hrv HW1 HW2 HRZ0 c10 c11 c12 c13 c14 c15 HOF
  go_upto_region 9 with fail
  rw [← hZ]
  clear hZ
  (go_region_held3 (fun w' => Below Z.heap.size Z w' ∧ (w'.cell? ⟨wN.heap.size, 0, none⟩ = some (.bool x) ∧ w'.cell? ⟨wN.heap.size, 1, none⟩ = some r1 ∧ w'.cell? ⟨wN.heap.size, 2, none⟩ = some r2) ∧ w'.cell? ⟨w2.heap.size, 0, none⟩ = some (.bool n) ∧ w'.cell? ⟨w2.heap.size, 1, none⟩ = some b ∧ w'.cell? ⟨w2.heap.size, 2, none⟩ = some (.int .i64 E))
    ((refine ks6Q HRZ.out HRV.out ?_; with_reducible first | assumption | exact Below.drew hcc))
    (first
      | (go_at_call 34; (with_reducible refine (HIS.out _ _ _ _ _ (G1.out.below hb6) (G2.out.below hb6) HQ1.out HQ2.out).mono ?_); rintro _ w7 ⟨rfl, hb7'⟩; have hb7 := bthen hb6 hb7')
      | (go_at_call 35; (with_reducible refine (HOV.out _ _ _ HR4.out HD5.out).mono ?_); rintro _ w6 ⟨u1, u2, rfl, hu1, hu2, hb6'⟩; have hSu1 := hu1.isS; have hSu2 := hu2.isS; have hb6 := bthen hb5 hb6'; have HQ1 := Lib.hid hu1; have HQ2 := Lib.hid hu2; clear hu1 hu2)
      | (go_at_call 37; (with_reducible refine (HBIT.out _).mono ?_); rintro _ w5 ⟨d, rfl, hd, hb5'⟩; have hSd := hd.isS; have hb5 := bthen hb4 hb5'; have HD5 := Lib.hid hd; have HR4 := Lib.hid (HR3.out.below hb5'); clear hd)
      | (go_at_call 36; (with_reducible refine (HSHL.out _ _ (HB.out.below (Below.drew hcc))).mono ?_); rintro _ w4 ⟨r, rfl, hr, hb4'⟩; have hSr := hr.isS; have hb4 : Below Z.heap.size Z w4 := bthen (Below.drew hcc) hb4'; have HR3 := Lib.hid hr; clear hr)))
  all_goals
    have hbe := HBZ.out.trans (hb7.mono HBZ.out.size)
    go_wp2
    go_ret
    exact ⟨rfl, hbe⟩
end Go.Proofs.YtdepidpgbgfjlaaGreatDoor
namespace Go.Proofs.YtdepidpgbgfjlaaGreatDoor
open Go.ChangeShapes Go.WideShapes Go.ChangeAt Go.RowKit

section
variable {H : Type} {enc : TypeId × Value → H} {P : Program} {w : World} {base : Nat} {spare : Nat → Bool} {held : Bool}
theorem trod_struct6 {t : TypeId} {f0 f1 f2 f3 f4 f5 : Field} {fuel : Nat} {cs : List Value} {x : DataW H × List MemPlace} (ht : P.underlying t = some (.struct #[f0, f1, f2, f3, f4, f5])) (h : DataW.trod enc P w base spare held fuel t cs = some x) :
    ∃ y0 y1 y2 y3 y4 y5 n, cs.length = P.cellsOf t ∧ DataW.trod enc P w base spare held n f0.type ((cs.drop f0.offset).take (P.cellsOf f0.type)) = some y0 ∧
      DataW.trod enc P w base spare held n f1.type ((cs.drop f1.offset).take (P.cellsOf f1.type)) = some y1 ∧ DataW.trod enc P w base spare held n f2.type ((cs.drop f2.offset).take (P.cellsOf f2.type)) = some y2 ∧
      DataW.trod enc P w base spare held n f3.type ((cs.drop f3.offset).take (P.cellsOf f3.type)) = some y3 ∧ DataW.trod enc P w base spare held n f4.type ((cs.drop f4.offset).take (P.cellsOf f4.type)) = some y4 ∧
      DataW.trod enc P w base spare held n f5.type ((cs.drop f5.offset).take (P.cellsOf f5.type)) = some y5 := by
  obtain ⟨xs, n, _, rfl, hl, hlen, hf⟩ := DataW.trod_struct ht h
  match xs, hlen with
  | [y0, y1, y2, y3, y4, y5], _ => exact ⟨y0, y1, y2, y3, y4, y5, n, hl, by simpa using hf 0 f0 rfl, by simpa using hf 1 f1 rfl, by simpa using hf 2 f2 rfl, by simpa using hf 3 f3 rfl, by simpa using hf 4 f4 rfl, by simpa using hf 5 f5 rfl⟩
end
section
variable {H : Type} {enc : TypeId × Value → H} {W : World} {base : Nat} {held : Bool}
theorem open_i64 {c : Value} {fuel : Nat} {x : DataW H × List MemPlace} (h : DataW.trod enc Tryz.prog W base (fun _ => true) held fuel 3 [c] = some x) : ∃ n : Int, c = .int .i64 n ∧ -9223372036854775808 ≤ n ∧ n ≤ 9223372036854775807 := by
  obtain ⟨n, hc, _, hw⟩ := DataW.trod_int Tryz.underlying3 h
  exact ⟨n, by simpa using hc, by simpa [Lit.wf, IntKind.min, IntKind.max, IntKind.signed, IntKind.bits] using hw⟩
theorem open_u64 {c : Value} {fuel : Nat} {x : DataW H × List MemPlace} (h : DataW.trod enc Tryz.prog W base (fun _ => true) held fuel 35 [c] = some x) : ∃ n : Nat, c = .int .u64 n ∧ n ≤ 18446744073709551615 := by
  obtain ⟨n, hc, _, hw⟩ := DataW.trod_int Tryz.underlying35 h
  have hb : 0 ≤ n ∧ n ≤ 18446744073709551615 := by simpa [Lit.wf, IntKind.min, IntKind.max, IntKind.signed, IntKind.bits] using hw
  obtain ⟨k, rfl⟩ := Int.eq_ofNat_of_zero_le hb.1
  exact ⟨k, by simpa using hc, by omega⟩
set_option maxRecDepth 100000 in
theorem open_real {v : Value} {r : Reach} {b0 : Nat} {d : DataW H} {p : List MemPlace} (hval : Value.okWide Tryz.prog W r b0 39 v) (h : DataW.Trod enc Tryz.prog W base (fun _ => true) held 39 v d p) :
    ∃ (q : Nat) (m f : Int) (n : Bool) (x : Value) (e : Int) (ws : List Nat), v = .agg #[.int .u64 q, .int .i64 m, .int .i64 f, .bool n, x, .int .i64 e] ∧ RW W x ws ∧
      (q ≤ 18446744073709551615 ∧ (-9223372036854775808 ≤ m ∧ m ≤ 9223372036854775807) ∧ (-9223372036854775808 ≤ f ∧ f ≤ 9223372036854775807) ∧ (-9223372036854775808 ≤ e ∧ e ≤ 9223372036854775807)) := by
  obtain ⟨cs, rfl, hsz⟩ := okWide_struct Tryz.underlying39 hval
  have hc : Tryz.prog.cellsOf 39 = 6 := by kernel_rfl
  rw [hc] at hsz
  obtain ⟨fuel, hf⟩ := h
  obtain ⟨y0, y1, y2, y3, y4, y5, n, hl, h0, h1, h2, h3, h4, h5⟩ := trod_struct6 Tryz.underlying39 hf
  match cs, hsz with
  | ⟨[c0, c1, c2, c3, c4, c5]⟩, _ =>
    have hcu : Tryz.prog.cellsOf 35 = 1 := by kernel_rfl
    have hci : Tryz.prog.cellsOf 3 = 1 := by kernel_rfl
    have hcb : Tryz.prog.cellsOf 4 = 1 := by kernel_rfl
    have hcs : Tryz.prog.cellsOf 23 = 1 := by kernel_rfl
    obtain ⟨q, rfl, hq⟩ := open_u64 (c := c0) (by simpa [hcu, Value.cells] using h0)
    obtain ⟨m, rfl, hm⟩ := open_i64 (c := c1) (by simpa [hci, Value.cells] using h1)
    obtain ⟨f, rfl, hf'⟩ := open_i64 (c := c2) (by simpa [hci, Value.cells] using h2)
    obtain ⟨b, hb, _⟩ := DataW.trod_bool Tryz.underlying4 h3
    have e3 : c3 = .bool b := by simpa [hcb, Value.cells] using hb
    subst e3
    obtain ⟨ws, hw⟩ := open_words (v := c4) (by simpa [hcs, Value.cells] using h4)
    obtain ⟨e, rfl, he⟩ := open_i64 (c := c5) (by simpa [hci, Value.cells] using h5)
    exact ⟨q, m, f, b, c4, e, ws, rfl, hw, hq, hm, hf', he⟩
end
end Go.Proofs.YtdepidpgbgfjlaaGreatDoor
