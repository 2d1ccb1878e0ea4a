/-
Texts of this proof, joined: FlV SrC SrD RnB RnC RnD RnE RnF. No condition.
-/
import Derived.Test.YtlgnaioodnhkjaaK02
import Derived.Test.YtlgnaioodnhkjaaK09
import Derived.Test.YtlgnaioodnhkjaaK14
import Derived.Laws.Externs
import Derived.Deep.DeepCutAuto
import Derived.Deep.CutBlock
/-
The reference's OfReal. No condition.
-/
namespace Go.Proofs.Ytlgnaioodnhkjaa
open Go.RowKit

theorem natv_dyad {w : World} {k T n : Nat} {a : Bool} {b x y z v : Value} (hb : IsS b) (hv : NatV w v n) (h : w.heap[k]? = some (.cells #[.bool a, b, .int .i64 0] T (0, 0))) :
    NatV (((w.setCell ⟨k, 0, none⟩ x).setCell ⟨k, 1, none⟩ y).setCell ⟨k, 2, none⟩ z) v n := by
  refine ⟨hv.isS, hv.len, fun i hi => ?_⟩
  have hne : sBlk v ≠ k := by
    intro he
    have ht := hv.cell (nl n - 1) (by omega)
    rw [he, cell_of_row w k _ _ _ _ h] at ht
    obtain ⟨b1, b2, b3, rfl⟩ := hb.form
    have hd : dig n (nl n - 1) ≠ 0 := dig_last (Nat.pos_of_ne_zero fun h0 => by rw [h0] at hi; rw [nl_zero] at hi; omega)
    rcases Nat.lt_or_ge (sOff v + (nl n - 1)) 3 with h3 | h3
    · rcases (by omega : sOff v + (nl n - 1) = 0 ∨ sOff v + (nl n - 1) = 1 ∨ sOff v + (nl n - 1) = 2) with e | e | e <;> rw [e] at ht <;> simp at ht
      exact hd (by omega)
    · rw [Array.getElem?_eq_none (by simpa using h3)] at ht; cases ht
  have hh : (((w.setCell ⟨k, 0, none⟩ x).setCell ⟨k, 1, none⟩ y).setCell ⟨k, 2, none⟩ z).heap[sBlk v]? = w.heap[sBlk v]? := by
    rw [heap_setCell_other _ _ _ _ (by simpa using hne), heap_setCell_other _ _ _ _ (by simpa using hne), heap_setCell_other _ _ _ _ (by simpa using hne)]
  exact (World.cell?_of_block hh).trans (hv.cell i hi)
theorem ks6R {X : World} {k t i : Nat} {a b c d e f u : Value} (hk : t ≠ k)
    (h : X.cell? ⟨k, 0, none⟩ = some a ∧ X.cell? ⟨k, 1, none⟩ = some b ∧ X.cell? ⟨k, 2, none⟩ = some c ∧ X.cell? ⟨k, 3, none⟩ = some d ∧ X.cell? ⟨k, 4, none⟩ = some e ∧ X.cell? ⟨k, 5, none⟩ = some f) :
    (X.setCell ⟨t, i, none⟩ u).cell? ⟨k, 0, none⟩ = some a ∧ (X.setCell ⟨t, i, none⟩ u).cell? ⟨k, 1, none⟩ = some b ∧ (X.setCell ⟨t, i, none⟩ u).cell? ⟨k, 2, none⟩ = some c ∧ (X.setCell ⟨t, i, none⟩ u).cell? ⟨k, 3, none⟩ = some d ∧ (X.setCell ⟨t, i, none⟩ u).cell? ⟨k, 4, none⟩ = some e ∧ (X.setCell ⟨t, i, none⟩ u).cell? ⟨k, 5, none⟩ = some f := by
  have hk' : ∀ j, (X.setCell ⟨t, i, none⟩ u).cell? ⟨k, j, none⟩ = X.cell? ⟨k, j, none⟩ := fun j => cell_other (by simpa using hk)
  simp only [hk']; exact h
/-- A dyadic value of the reference. -/
def DyV (w : World) (v : Value) (n : Bool) (x : Nat) (e : Int) : Prop := ∃ a, v = .agg #[.bool n, a, .int .i64 e] ∧ NatV w a x
set_option maxRecDepth 100000 in
set_option maxHeartbeats 800000 in
theorem ofReal_other (p m f : Nat) (e : Int) (neg : Bool) (v : Value) (w : World) (_hS : IsS v) (hf : f ≠ 1) :
    Calls Try.prog 26 #[.agg #[.int .u64 p, .int .i64 m, .int .i64 f, .bool neg, v, .int .i64 e]] w fun e' w' => ∃ r, e' = .returned r ∧ DyV w' r false 0 0 ∧ Below w.heap.size w w' := by
  have t1 : ((f : Int) != 1) = true := by rw [bne_iff_ne]; omega
  have hab := (Below.refl w.heap.size w).alloc (Nat.le_refl _) (.cells #[.int .u64 p, .int .i64 m, .int .i64 f, .bool neg, v, .int .i64 e] 50)
  have hac := hab.alloc hab.size (.cells #[.bool false, .slice none 0 0, .int .i64 0] 32)
  obtain ⟨X, hX⟩ : ∃ X, X = (w.alloc (.cells #[.int .u64 p, .int .i64 m, .int .i64 f, .bool neg, v, .int .i64 e] 50)).alloc (.cells #[.bool false, .slice none 0 0, .int .i64 0] 32) := ⟨_, rfl⟩
  have hr1 : X.heap[w.heap.size]? = some (.cells #[.int .u64 p, .int .i64 m, .int .i64 f, .bool neg, v, .int .i64 e] 50 (0, 0)) := by
    rw [hX]; exact keep_row (fbone _) (box_row (Below.refl _ _))
  have hr2 : X.heap[w.heap.size + 1]? = some (.cells #[.bool false, .slice none 0 0, .int .i64 0] 32 (0, 0)) := by
    rw [hX]
    have := box_row (Below.refl _ ((w.alloc (.cells #[.int .u64 p, .int .i64 m, .int .i64 f, .bool neg, v, .int .i64 e] 50)).alloc (.cells #[.bool false, .slice none 0 0, .int .i64 0] 32)))
    simpa using this
  rw [← hX] at hac
  obtain ⟨-, x0, x1, x2, x3, x4, x5⟩ := ks12 hr1 (Below.refl _ _)
  obtain ⟨y0, y1, y2, z0, z1, z2⟩ := row3 hr2
  have HR2 := Lib.hid hr2
  have HB := Lib.hid hac
  clear hr1 hr2 hab hac hf
  go_enter Try.func26, Try.ntmps26
  go_upto_region 1 with fail
  rw [← hX]
  clear hX
  go_wp2
  obtain ⟨hx0, hx1, hx2, -, -, -⟩ := row3 (row3_set (x := .bool false) (y := .slice none 0 0) (z := .int .i64 0) HR2.out)
  have hbY := bset (i := 2) (u := .int .i64 0) (bset (i := 1) (u := .slice none 0 0) (bset (i := 0) (u := .bool false) HB.out (Nat.le_succ _)) (Nat.le_succ _)) (Nat.le_succ _)
  refine bodyPost_ret (v := .agg #[.bool false, .slice none 0 0, .int .i64 0]) ?_ rfl ⟨_, rfl, ⟨_, rfl, NatV.zero IsS.nil rfl⟩, hbY⟩
  simp [results, Try.results26, go_sem, hx0, hx1, hx2]
set_option maxRecDepth 100000 in
set_option maxHeartbeats 1600000 in
theorem ofReal_one (p m : Nat) (e : Int) (neg : Bool) (v : Value) (ws : List Nat) (w : World) (hv : RW w v ws) (hl : ws.length ≤ 1000000) :
    Calls Try.prog 26 #[.agg #[.int .u64 p, .int .i64 m, .int .i64 1, .bool neg, v, .int .i64 e]] w fun e' w' => ∃ r, e' = .returned r ∧ DyV w' r neg (wv ws) e ∧ Below w.heap.size w w' := by
  have hS := hv.isS
  have hab := (Below.refl w.heap.size w).alloc (Nat.le_refl _) (.cells #[.int .u64 p, .int .i64 m, .int .i64 1, .bool neg, v, .int .i64 e] 50)
  have hac := hab.alloc hab.size (.cells #[.bool false, .slice none 0 0, .int .i64 0] 32)
  obtain ⟨X, hX⟩ : ∃ X, X = (w.alloc (.cells #[.int .u64 p, .int .i64 m, .int .i64 1, .bool neg, v, .int .i64 e] 50)).alloc (.cells #[.bool false, .slice none 0 0, .int .i64 0] 32) := ⟨_, rfl⟩
  have hr1 : X.heap[w.heap.size]? = some (.cells #[.int .u64 p, .int .i64 m, .int .i64 1, .bool neg, v, .int .i64 e] 50 (0, 0)) := by
    rw [hX]; exact keep_row (fbone _) (box_row (Below.refl _ _))
  have hr2 : X.heap[w.heap.size + 1]? = some (.cells #[.bool false, .slice none 0 0, .int .i64 0] 32 (0, 0)) := by
    rw [hX]
    have := box_row (Below.refl _ ((w.alloc (.cells #[.int .u64 p, .int .i64 m, .int .i64 1, .bool neg, v, .int .i64 e] 50)).alloc (.cells #[.bool false, .slice none 0 0, .int .i64 0] 32)))
    simpa using this
  rw [← hX] at hac
  obtain ⟨-, x0, x1, x2, x3, x4, x5⟩ := ks12 hr1 (Below.refl _ _)
  have HR1 := Lib.hid hr1
  have HR2 := Lib.hid hr2
  have HB := Lib.hid hac
  have HV := Lib.hid (hv.below hac)
  have hcc := Below.refl X.heap.size X
  have hXs := hac.size
  clear hr1 hr2 hab hac hv
  go_enter Try.func26, Try.ntmps26
  go_upto_region 1 with fail
  rw [← hX]
  clear hX
  go_upto_region 3 with fail
  have hN := Lib.hid (show w.heap.size + 1 ≠ w.heap.size by omega)
  clear x0 x1 x2 x3 x4 x5
  first
    | (go_region_held3 (fun w' => w'.cell? ⟨w.heap.size, 0, none⟩ = some (.int .u64 (p : Int)) ∧ w'.cell? ⟨w.heap.size, 1, none⟩ = some (.int .i64 (m : Int)) ∧ w'.cell? ⟨w.heap.size, 2, none⟩ = some (.int .i64 1) ∧ w'.cell? ⟨w.heap.size, 3, none⟩ = some (.bool neg) ∧ w'.cell? ⟨w.heap.size, 4, none⟩ = some v ∧ w'.cell? ⟨w.heap.size, 5, none⟩ = some (.int .i64 e))
        ((first | (refine (ks12 HR1.out ?_).2; first | assumption | exact Below.drew hcc) | exact ks6R hN.out (ks6R hN.out (ks6R hN.out (ks12 HR1.out (by assumption)).2))))
        (first
          | (go_at_call 33; refine (spOf v ws _ (HV.out.below (Below.drew hcc)) (by omega)).mono ?_; rintro _ w3 ⟨d, rfl, hd, hb3⟩; have hSd := hd.isS; have hb3 : Below X.heap.size X w3 := bthen (Below.drew hcc) hb3; have hvr := keep_row hb3 HR2.out; obtain ⟨hv0, hv1, hv2, hf0, hf1, hf2⟩ := row3 hvr)))
    | fail
  all_goals go_wp2
  all_goals
    obtain ⟨hx0, hx1, hx2, -, -, -⟩ := row3 (row3_set (x := .bool neg) (y := d) (z := .int .i64 e) hvr)
    have hn := natv_dyad (x := .bool neg) (y := d) (z := .int .i64 e) IsS.nil hd hvr
    have hbY := bset (i := 2) (u := .int .i64 e) (bset (i := 1) (u := d) (bset (i := 0) (u := .bool neg) (HB.out.trans (hb3.mono hXs)) (Nat.le_succ _)) (Nat.le_succ _)) (Nat.le_succ _)
    refine bodyPost_ret (v := .agg #[.bool neg, d, .int .i64 e]) ?_ rfl ⟨_, rfl, ⟨_, rfl, hn⟩, hbY⟩
    simp [results, Try.results26, go_sem, hx0, hx1, hx2]
end Go.Proofs.Ytlgnaioodnhkjaa

/-
The reference's Cut and Round. No condition.
-/
namespace Go.Proofs.Ytlgnaioodnhkjaa
open Go.RowKit

/-- A magnitude by 2 to k, rounded. -/
def ctU (m : Nat) (neg : Bool) (x k : Nat) : Bool := awy neg (decide (x / 2 ^ k % 2 = 1)) (lef (x % 2 ^ k) (2 ^ k) 0) m
def ctQ (m : Nat) (neg : Bool) (x k : Nat) : Nat := x / 2 ^ k + if ctU m neg x k then 1 else 0
def ctA (m : Nat) (neg : Bool) (x k : Nat) : Int := if lef (x % 2 ^ k) (2 ^ k) 0 = 0 then 0 else if ctU m neg x k != neg then 1 else -1
theorem ct_rQ (p m : Nat) (neg : Bool) (M : Nat) : ctQ m neg M (rk p M) = rQ p m neg 0 M := rfl
theorem ct_rA (p m : Nat) (neg : Bool) (M : Nat) : ctA m neg M (rk p M) = rA p m neg 0 M := rfl
theorem lef_le (R D s : Nat) : lef R D s ≤ 3 := by unfold lef; repeat' split
                                                   all_goals omega
theorem nl_succ (x : Nat) : nl (x + 1) ≤ nl x + 1 := nl_le (by have := lt_nl x; rw [Nat.pow_succ]; omega)
set_option maxRecDepth 100000 in
set_option maxHeartbeats 1600000 in
theorem spCut_pos (neg : Bool) (a : Value) (x k m : Nat) (w : World) (ha : NatV w a x) (hx : nl x ≤ 10000000) (hk0 : 0 < k) (hk : k ≤ 160000000) (hm : m ≤ 5) :
    Calls Try.prog 51 #[.bool neg, a, .int .i64 k, .int .i64 m] w fun e w' => ∃ r, e = .returned (.tuple #[r, .int .i64 (ctA m neg x k)]) ∧ NPost (ctQ m neg x k) w r w' := by
  have hSa := ha.isS
  have Hs := Lib.hid (spSplit a x k w ha (by omega) (by omega))
  have hq : nl (x / 2 ^ k) ≤ 100000000 := Nat.le_trans (nl_mono (Nat.div_le_self x _)) (by omega)
  have t0 : decide ((k : Int) ≤ 0) = false := decide_eq_false (by omega)
  have hl3 := lef_le (x % 2 ^ k) (2 ^ k) 0
  obtain ⟨U, hU⟩ : ∃ U, U = ctU m neg x k := ⟨_, rfl⟩
  obtain ⟨l, hl⟩ : ∃ l, l = lef (x % 2 ^ k) (2 ^ k) 0 := ⟨_, rfl⟩
  obtain ⟨q, hqq⟩ : ∃ q, q = x / 2 ^ k := ⟨_, rfl⟩
  have hU2 : U = awy neg (decide (q / 2 ^ 0 % 2 = 1)) l m := by rw [hU, hl, hqq, Nat.pow_zero, Nat.div_one]; rfl
  have HA : Hid (ctA m neg x k = if l = 0 then 0 else if U != neg then 1 else -1) := Lib.hid (by rw [hU, hl]; rfl)
  have HQ : Hid (ctQ m neg x k = q + if U then 1 else 0) := Lib.hid (by rw [hU, hqq]; rfl)
  rw [← hl, ← hqq] at Hs
  rw [← hl] at hl3
  rw [← hqq] at hq
  have HU := Lib.hid hU2
  have HL := Lib.hid hl
  have HUU := Lib.hid hU
  clear hU hU2 hl hqq ha
  go_enter Try.func51, Try.ntmps51
  go_wp2_with fail
  refine Hs.out.mono ?_
  rintro _ w1 ⟨r1, rfl, hn1, hb1⟩
  have hS1 := hn1.isS
  have HN := Lib.hid hn1
  have HB := Lib.hid hb1
  clear hn1 hb1
  by_cases hl0 : l = 0
  · have t1 : ((l : Int) == 0) = true := by rw [hl0]; rfl
    have HL0 := Lib.hid hl0
    clear hl0
    go_wp2
    go_ret2
    have hu : U = false := by rw [HU.out, HL0.out]; exact awy_zero _ _ _
    refine ⟨r1, ?_, ?_, HB.out⟩
    · rw [HA.out, if_pos HL0.out]; rfl
    · rw [HQ.out, hu]; exact HN.out
  · have t1 : ((l : Int) == 0) = false := by rw [beq_eq_false_iff_ne]; omega
    have HL0 := Lib.hid hl0
    clear hl0
    have hq2 : nl q ≤ 1000000000 := by omega
    have hH := spHas r1 q 0 w1 HN.out hq2 (by omega)
    rw [show ((0 : Nat) : Int) = 0 from rfl] at hH
    have HH := Lib.hid hH
    clear hH
    go_wp2_with fail
    refine HH.out.mono ?_
    rintro _ _ ⟨rfl, rfl⟩
    obtain ⟨od, hod⟩ : ∃ o, o = decide (q / 2 ^ 0 % 2 = 1) := ⟨_, rfl⟩
    have hU3 := HU.out
    rw [← hod] at hU3 ⊢
    have HU3 := Lib.hid hU3
    clear hod hU3
    go_wp2_with fail
    refine (spAway neg od l m w1 hl3 hm).mono ?_
    rintro _ _ ⟨rfl, rfl⟩
    rw [← HU3.out]
    cases U with
    | false =>
      cases neg with
      | false =>
        go_wp2
        go_ret2
        refine ⟨r1, ?_, ?_, HB.out⟩
        · rw [HA.out, if_neg HL0.out]; rfl
        · rw [HQ.out]; exact HN.out
      | true =>
        go_wp2
        go_ret2
        refine ⟨r1, ?_, ?_, HB.out⟩
        · rw [HA.out, if_neg HL0.out]; rfl
        · rw [HQ.out]; exact HN.out
    | true =>
      have hSm := spSmall 1 w1 (by decide)
      rw [show ((1 : Nat) : Int) = 1 from rfl] at hSm
      have HSm := Lib.hid hSm
      clear hSm
      go_wp2_with fail
      refine HSm.out.mono ?_
      rintro _ w2 ⟨r2, rfl, hn2, hb2⟩
      have hS2 := hn2.isS
      have HN2 := Lib.hid hn2
      have HN12 := Lib.hid (HN.out.below hb2)
      have HB2 := Lib.hid (bthen HB.out hb2)
      clear hn2 hb2
      go_wp2_with fail
      refine (spAdd r1 r2 q 1 w2 HN12.out HN2.out hq2 (by decide)).mono ?_
      rintro _ w3 ⟨r3, rfl, hn3, hb3⟩
      have hS3 := hn3.isS
      have HN3 := Lib.hid hn3
      have HB3 := Lib.hid (bthen HB2.out hb3)
      clear hn3 hb3
      cases neg with
      | false =>
        go_wp2
        go_ret2
        refine ⟨r3, ?_, ?_, HB3.out⟩
        · rw [HA.out, if_neg HL0.out]; rfl
        · rw [HQ.out]; exact HN3.out
      | true =>
        go_wp2
        go_ret2
        refine ⟨r3, ?_, ?_, HB3.out⟩
        · rw [HA.out, if_neg HL0.out]; rfl
        · rw [HQ.out]; exact HN3.out
set_option maxRecDepth 100000 in
theorem spCut_neg (neg : Bool) (a : Value) (x k : Nat) (n m : Int) (w : World) (ha : NatV w a x) (hx : nl x ≤ 10000000) (hn : n = -(k : Int)) (hk : k ≤ 160000000) :
    Calls Try.prog 51 #[.bool neg, a, .int .i64 n, .int .i64 m] w fun e w' => ∃ r, e = .returned (.tuple #[r, .int .i64 0]) ∧ NPost (x * 2 ^ k) w r w' := by
  have hSa := ha.isS
  have t0 : decide (n ≤ 0) = true := decide_eq_true (by omega)
  have e1 : -n = (k : Int) := by omega
  have g1 : -160000000 ≤ n := by omega
  have g2 : n ≤ 0 := by omega
  have HS := Lib.hid (spShl a x k w ha (by omega) (by omega))
  clear hn ha
  go_enter Try.func51, Try.ntmps51
  go_wp2_with fail
  refine HS.out.mono ?_
  rintro _ w1 ⟨r1, rfl, hn1, hb1⟩
  have hS1 := hn1.isS
  have HN := Lib.hid hn1
  have HB := Lib.hid hb1
  clear hn1 hb1
  go_wp2
  go_ret2
  exact ⟨r1, rfl, HN.out, HB.out⟩
end Go.Proofs.Ytlgnaioodnhkjaa

/-
The reference's Round. No condition.
-/
namespace Go.Proofs.Ytlgnaioodnhkjaa
open Go.RowKit

theorem ctQ_zero (m : Nat) (neg : Bool) (x : Nat) : ctQ m neg x 0 = x ∧ ctA m neg x 0 = 0 := by
  have h : lef (x % 2 ^ 0) (2 ^ 0) 0 = 0 := by rw [Nat.pow_zero, Nat.mod_one]; exact lef_exact _
  refine ⟨?_, by unfold ctA; rw [if_pos h]⟩
  unfold ctQ ctU; rw [h, awy_zero]; simp
theorem spCut_any (neg : Bool) (a : Value) (x k m : Nat) (w : World) (ha : NatV w a x) (hx : nl x ≤ 10000000) (hk : k ≤ 160000000) (hm : m ≤ 5) :
    Calls Try.prog 51 #[.bool neg, a, .int .i64 k, .int .i64 m] w fun e w' => ∃ r, e = .returned (.tuple #[r, .int .i64 (ctA m neg x k)]) ∧ NPost (ctQ m neg x k) w r w' := by
  rcases Nat.eq_zero_or_pos k with rfl | h
  · rw [(ctQ_zero m neg x).1, (ctQ_zero m neg x).2]
    have := spCut_neg neg a x 0 ((0 : Nat) : Int) (m : Int) w ha hx rfl (by decide)
    rw [Nat.pow_zero, Nat.mul_one] at this
    exact this
  · exact spCut_pos neg a x k m w ha hx h hk hm
set_option maxRecDepth 100000 in
set_option maxHeartbeats 1600000 in
theorem spRound (neg : Bool) (a : Value) (e : Int) (x p m : Nat) (w : World) (ha : NatV w a x) (hx : bl x ≤ 10000000) (hp : p ≤ 100000000) (hm : m ≤ 5) (he1 : -4000000000 ≤ e) (he2 : e ≤ 4000000000) :
    Calls Try.prog 21 #[.agg #[.bool neg, a, .int .i64 e], .int .i64 p, .int .i64 m] w fun e' w' => ∃ r, e' = .returned (.tuple #[.agg #[.bool neg, r, .int .i64 (e + (rk p x : Nat))], .int .i64 (rA p m neg 0 x)]) ∧ NPost (rQ p m neg 0 x) w r w' := by
  have hSa := ha.isS
  have hnl : nl x ≤ 10000000 := nl_bl (by omega)
  have hab := (Below.refl w.heap.size w).alloc (Nat.le_refl _) (.cells #[.bool neg, a, .int .i64 e] 32)
  have hac := hab.alloc hab.size (.cells #[.bool false, .slice none 0 0, .int .i64 0] 32)
  obtain ⟨X, hX⟩ : ∃ X, X = (w.alloc (.cells #[.bool neg, a, .int .i64 e] 32)).alloc (.cells #[.bool false, .slice none 0 0, .int .i64 0] 32) := ⟨_, rfl⟩
  have hr1 : X.heap[w.heap.size]? = some (.cells #[.bool neg, a, .int .i64 e] 32 (0, 0)) := by
    rw [hX]; exact keep_row (fbone _) (box_row (Below.refl _ _))
  have hr2 : X.heap[w.heap.size + 1]? = some (.cells #[.bool false, .slice none 0 0, .int .i64 0] 32 (0, 0)) := by
    rw [hX]
    have := box_row (Below.refl _ ((w.alloc (.cells #[.bool neg, a, .int .i64 e] 32)).alloc (.cells #[.bool false, .slice none 0 0, .int .i64 0] 32)))
    simpa using this
  rw [← hX] at hac
  obtain ⟨x0, x1, x2, -, -, -⟩ := row3 hr1
  have HR1 := Lib.hid hr1
  have HR2 := Lib.hid hr2
  have HN := Lib.hid (ha.below hac)
  have HB := Lib.hid hac
  have hXs := hac.size
  obtain ⟨l, hl⟩ : ∃ l, l = bl x := ⟨_, rfl⟩
  obtain ⟨k, hk⟩ : ∃ k, k = rk p x := ⟨_, rfl⟩
  have emax : max (0 : Int) ((l : Int) - (p : Int)) = (k : Int) := by rw [hk, hl]; unfold rk; omega
  have hkl : k ≤ 10000000 := by rw [hk]; unfold rk; omega
  have hll : l ≤ 10000000 := by omega
  have HL := Lib.hid hl
  have HK := Lib.hid hk
  have hx9 : nl x ≤ 1000000000 := by omega
  rw [← hk]
  clear hr1 hr2 hab hac ha hl hk hx
  go_enter Try.func21, Try.ntmps21
  go_upto_region 1 with fail
  rw [← hX]
  clear hX
  go_wp2_with fail
  refine (spLen a x X HN.out hx9).mono ?_
  rintro _ _ ⟨rfl, rfl⟩
  rw [← HL.out]
  go_wp2_with fail
  refine (spCut_any neg a x k m X HN.out hnl (by omega) hm).mono ?_
  rintro _ w1 ⟨r1, rfl, hn1, hb1⟩
  have hS1 := hn1.isS
  have hr1 := keep_row hb1 HR1.out
  have hr2 := keep_row hb1 HR2.out
  have HN1 := Lib.hid hn1
  have HB1 := Lib.hid (HB.out.trans (hb1.mono hXs))
  have HQ2 := Lib.hid hr2
  obtain ⟨y0, y1, y2, -, -, -⟩ := row3 hr1
  obtain ⟨z0, z1, z2, g0, g1, g2⟩ := row3 hr2
  clear x0 x1 x2 hn1 hb1 hr1 hr2 HR1 HR2 HB
  obtain ⟨A, hA⟩ : ∃ A, A = ctA m neg x k := ⟨_, rfl⟩
  rw [← hA]
  have HA := Lib.hid hA
  clear hA
  obtain ⟨E, hE⟩ : ∃ E, E = e + (k : Int) := ⟨_, rfl⟩
  have HE := Lib.hid hE
  have hE2 : e + (k : Int) = E := hE.symm
  have hEb : -4000000000 ≤ E ∧ E ≤ 4010000000 := by omega
  clear hE
  go_wp2
  obtain ⟨hx0, hx1, hx2, -, -, -⟩ := row3 (row3_set (x := .bool neg) (y := r1) (z := .int .i64 E) HQ2.out)
  have hn := natv_dyad (x := .bool neg) (y := r1) (z := .int .i64 E) IsS.nil HN1.out HQ2.out
  have hbY := bset (i := 2) (u := .int .i64 E) (bset (i := 1) (u := r1) (bset (i := 0) (u := .bool neg) HB1.out (Nat.le_succ _)) (Nat.le_succ _)) (Nat.le_succ _)
  refine bodyPost_ret (v := .tuple #[.agg #[.bool neg, r1, .int .i64 E], .int .i64 A]) ?_ rfl ⟨r1, ?_, ?_⟩
  · simp [results, Try.results21, go_sem, hx0, hx1, hx2]
  · rw [HA.out, HE.out, HK.out]; rfl
  · rw [HK.out] at hn
    exact ⟨hn, hbY⟩
end Go.Proofs.Ytlgnaioodnhkjaa

/-
bits.Add; addVW in place. No condition.
-/
namespace Go.Proofs.Ytlgnaioodnhkjaa
open Go.RowKit

theorem add64_0 (x y : Int) (hx : 0 ≤ x) (hy : 0 ≤ y) (w : World) : (callFunc 146 #[.int .u64 x, .int .u64 y, .int .u64 0]).run Try.prog w =
    .ok (.value (.tuple #[.int .u64 ((x + y) % 18446744073709551616), .int .u64 ((x + y) / 18446744073709551616)])) w := by
  rw [run_callFunc_extern Try.func146 (by kernel_rfl) (by kernel_rfl) (by kernel_rfl) (e := add64Entry) (by kernel_rfl), run_add64 x y 0 hx hy (by decide) (by decide)]
  simp [Result.andThen]
theorem add64 (x y c : Int) (hx : 0 ≤ x) (hy : 0 ≤ y) (hc0 : 0 ≤ c) (hc : c ≤ 1) (w : World) : (callFunc 146 #[.int .u64 x, .int .u64 y, .int .u64 c]).run Try.prog w =
    .ok (.value (.tuple #[.int .u64 ((x + y + c) % 18446744073709551616), .int .u64 ((x + y + c) / 18446744073709551616)])) w := by
  rw [run_callFunc_extern Try.func146 (by kernel_rfl) (by kernel_rfl) (by kernel_rfl) (e := add64Entry) (by kernel_rfl), run_add64 x y c hx hy hc0 hc]
  simp [Result.andThen]
set_option maxRecDepth 100000 in
theorem bitsAdd0 (x y s c : Nat) (w : World) (h : x + y = s + 18446744073709551616 * c) (hs : s < 18446744073709551616) :
    Calls Try.prog 135 #[.int .u64 x, .int .u64 y, .int .u64 0] w fun e w' => e = .returned (.tuple #[.int .u64 s, .int .u64 c]) ∧ w = w' := by
  have h1 : ((x : Int) + y) % 18446744073709551616 = s := by omega
  have h2 : ((x : Int) + y) / 18446744073709551616 = c := by omega
  have g1 : (0 : Int) ≤ x := by omega
  have g2 : (0 : Int) ≤ y := by omega
  clear h hs
  go_enter Try.func135, Try.ntmps135
  go_wp2_with (simp only [add64_0 x y g1 g2, h1, h2])
  go_ret2
  exact ⟨rfl, rfl⟩
theorem sizeWord : (Try.prog.info? 112).map (·.size) = some 1 := by kernel_rfl
theorem neqW_same (w : World) (a : Addr) : (binOp .neq 193 (.pointer (some a)) (.pointer (some a))).run Try.prog w = .ok (.bool false) w := by
  obtain ⟨j, hj, hz⟩ := info_size sizeWord
  exact Lib.run_neq_ptr_same w a Try.underlying193 hj
theorem wset {ws : List Nat} {i : Nat} (hi : i < ws.length) (d : Nat) : wv (ws.set i d) + 18446744073709551616 ^ i * ws.getD i 0 = wv ws + 18446744073709551616 ^ i * d := wv_set hi d
theorem set_lt {ws : List Nat} (h : ∀ d ∈ ws, d < 18446744073709551616) {i d : Nat} (hd : d < 18446744073709551616) : ∀ x ∈ ws.set i d, x < 18446744073709551616 := by
  intro x hx
  rcases List.mem_or_eq_of_mem_set hx with h1 | h1
  · exact h x h1
  · rw [h1]; exact hd
theorem getD_setW (os : List Nat) (i j d : Nat) (hi : i < os.length) : (os.set i d).getD j 0 = if i = j then d else os.getD j 0 := by
  simp only [List.getD_eq_getElem?_getD, List.getElem?_set]
  split
  · rename_i h; subst h; simp
  · rfl
/-- addVW's loop: behind k words the carry is 1. -/
def AvRel (S : Nat) (ws : List Nat) (B k : Nat) (w : World) (v : Value) (wr : World) : Prop :=
  ∃ os : List Nat, Own wr B 112 v (cellsW os) ∧ os.length = ws.length ∧ (∀ d ∈ os, d < 18446744073709551616) ∧ (∀ j, k ≤ j → os.getD j 0 = ws.getD j 0) ∧ wv os + 18446744073709551616 ^ k = S ∧ Below B w wr ∧ Only (sBlk v) w wr
theorem AvRel.put {S : Nat} {ws : List Nat} {B k e : Nat} {w wr : World} {v : Value} (h : AvRel S ws B k w v wr) (hk : k < ws.length) (he : e < 18446744073709551616) :
    ∃ os : List Nat, Own (wr.setCell ⟨sBlk v, sOff v + k, none⟩ (.int .u64 (e : Int))) B 112 v (cellsW os) ∧ os.length = ws.length ∧ (∀ d ∈ os, d < 18446744073709551616) ∧ (∀ j, k + 1 ≤ j → os.getD j 0 = ws.getD j 0) ∧
      wv os + 18446744073709551616 ^ k * (1 + ws.getD k 0) = S + 18446744073709551616 ^ k * e ∧ Below B w (wr.setCell ⟨sBlk v, sOff v + k, none⟩ (.int .u64 (e : Int))) ∧ Only (sBlk v) w (wr.setCell ⟨sBlk v, sOff v + k, none⟩ (.int .u64 (e : Int))) := by
  obtain ⟨os, h1, h2, h3, h4, h5, h6, h7⟩ := h
  have hcap : 0 < sCap v := by have := h1.isS.le; have := h1.len; rw [cellsW_length] at this; omega
  have ho := h1.set (i := k) (by rw [cellsW_length]; omega) (.int .u64 (e : Int))
  rw [cellsW_set] at ho
  refine ⟨os.set k e, ho, by simpa using h2, set_lt h3 he, fun j hj => by rw [getD_setW _ _ _ _ (by omega), if_neg (by omega)]; exact h4 j (by omega), ?_, bset h6 (h1.lt hcap).1, fun b hb hne => ?_⟩
  · have := wset (ws := os) (i := k) (by omega) e
    rw [h4 k (Nat.le_refl _)] at this
    rw [Nat.mul_add, Nat.mul_one]; omega
  · rw [heap_setCell_other _ _ _ _ (by simpa using fun h : b = sBlk v => hne h)]; exact h7 b hb hne
set_option maxRecDepth 100000 in
set_option maxHeartbeats 1600000 in
theorem addVW_any (v : Value) (ws : List Nat) (y B : Nat) (w : World) (ho : Own w B 112 v (cellsW ws)) (hd : ∀ d ∈ ws, d < 18446744073709551616) (hl0 : 0 < ws.length) (hl : ws.length ≤ 1000000000) (hy : y < 18446744073709551616) :
    Calls Try.prog 120 #[v, v, .int .u64 y] w fun e w' => ∃ c : Nat, e = .returned (.int .u64 c) ∧ ∃ os : List Nat, Own w' B 112 v (cellsW os) ∧ os.length = ws.length ∧ (∀ d ∈ os, d < 18446744073709551616) ∧ wv os + 18446744073709551616 ^ ws.length * c = wv ws + y ∧ Below B w w' ∧ Only (sBlk v) w w' := by
  have hS := ho.isS
  have hL : sLen v = ws.length := by rw [ho.len, cellsW_length]
  have hcap : 0 < sCap v := by have := hS.le; omega
  have hB := (ho.lt hcap).1
  have c0 := (ho.rw' hd).cell 0 (by omega)
  rw [Nat.add_zero] at c0
  have f0 := ho.frozen hcap (sOff v)
  have hd0 := getD_ltW hd 0
  obtain ⟨d0, hdd⟩ : ∃ d, d = ws.getD 0 0 := ⟨_, rfl⟩
  rw [← hdd] at c0 hd0
  obtain ⟨L, hLL⟩ : ∃ L, L = ws.length := ⟨_, rfl⟩
  rw [← hLL] at hL hl0 hl
  obtain ⟨c, s, hcs, hs, hc1⟩ : ∃ c s, d0 + y = s + 18446744073709551616 * c ∧ s < 18446744073709551616 ∧ c ≤ 1 := ⟨(d0 + y) / 18446744073709551616, (d0 + y) % 18446744073709551616, by omega, by omega, by omega⟩
  have O1 := ho.set (i := 0) (by rw [cellsW_length]; omega) (.int .u64 (s : Int))
  rw [cellsW_set, Nat.add_zero] at O1
  have B1 := bset (i := sOff v) (u := .int .u64 (s : Int)) (Below.refl B w) hB
  have hw := wset (ws := ws) (i := 0) (by omega) s
  rw [← hdd, Nat.pow_zero, Nat.one_mul, Nat.one_mul] at hw
  have t0 : ((L : Int) == 0) = false := by rw [beq_eq_false_iff_ne]; omega
  have N1 : Only (sBlk v) w (w.setCell ⟨sBlk v, sOff v, none⟩ (.int .u64 (s : Int))) := fun b hb hne => heap_setCell_other _ _ _ _ (by simpa using fun h : b = sBlk v => hne h)
  have HL := Lib.hid hLL
  have HD := Lib.hid hd
  have Hdd := Lib.hid hdd
  have HCS := Lib.hid hcs
  have HW := Lib.hid hw
  have HO1 := Lib.hid O1
  have HB1 := Lib.hid B1
  have HN1 := Lib.hid N1
  have hneq := neqW_same
  clear ho hd hLL hdd hw O1 B1 N1
  rcases (by omega : c = 0 ∨ c = 1) with rfl | rfl
  · go_enter Try.func120, Try.ntmps120
    go_wp2_with fail
    refine (bitsAdd0 d0 y s 0 w HCS.out hs).mono ?_
    rintro _ _ ⟨rfl, rfl⟩
    go_wp2_with fail
    go_quiet (fail)
    go_wp2
    go_ret
    refine ⟨0, rfl, _, HO1.out.drewN _, by simp, set_lt HD.out hs, ?_, undrewN' HB1.out, HN1.out⟩
    have := HW.out; have := HCS.out; omega
  · have HR1 : Hid (AvRel (wv ws + y) ws B 1 w v (w.setCell ⟨sBlk v, sOff v, none⟩ (.int .u64 (s : Int)))) := Lib.hid
      ⟨_, HO1.out, by simp, set_lt HD.out hs, fun j hj => by rw [getD_setW _ _ _ _ (by have := HL.out; omega), if_neg (by omega)], by have := HW.out; have := HCS.out; rw [Nat.pow_one]; omega, HB1.out, HN1.out⟩
    go_enter Try.func120, Try.ntmps120
    go_wp2_with fail
    refine (bitsAdd0 d0 y s 1 w HCS.out hs).mono ?_
    rintro _ _ ⟨rfl, rfl⟩
    go_wp2
    go_loopw [9] (fun i wr => ∃ k : Nat, 1 ≤ k ∧ k ≤ L ∧ i = .int .i64 k ∧ AvRel (wv ws + y) ws B k w v wr) (fun i _ => L - (intOf i).toNat)
    case atStart => exact ⟨1, Nat.le_refl _, hl0, rfl, HR1.out⟩
    case round =>
      obtain ⟨k, hk1, hk, rfl, hrel⟩ := hrel
      have HREL := Lib.hid hrel
      obtain ⟨os, h1, h2, h3, h4, h5, h6, h7⟩ := hrel
      have HOs := Lib.hid h1
      have fz := h1.frozen hcap (sOff v + k)
      rcases Nat.lt_or_ge k L with hkL | hkL
      · have c1 := (h1.rw' h3).cell k (by rw [h2, ← HL.out]; exact hkL)
        rw [h4 k (Nat.le_refl _)] at c1
        have hdk := getD_ltW HD.out k
        obtain ⟨d, hd⟩ : ∃ d, d = ws.getD k 0 := ⟨_, rfl⟩
        rw [← hd] at c1 hdk
        have HDk := Lib.hid hd
        clear hd h1 h2 h3 h4 h5 h6 h7
        by_cases hmx : d = 18446744073709551615
        · have PUT := Lib.hid (HREL.out.put (e := 0) (by rw [← HL.out]; exact hkL) (by decide))
          subst hmx
          go_wp2
          refine ⟨⟨k + 1, by omega, by omega, by simp, ?_⟩, by simp [intOf]; omega⟩
          obtain ⟨os', g1, g2, g3, g4, g5, g6, g7⟩ := PUT.out
          refine ⟨os', g1, g2, g3, g4, ?_, g6, g7⟩
          have hp := Nat.pow_succ (n := 18446744073709551616) (m := k)
          rw [← HDk.out] at g5
          omega
        · obtain ⟨d1, hd1⟩ : ∃ d1, d1 = d + 1 := ⟨_, rfl⟩
          have hwr : IntKind.u64.wrap ((d : Int) + 1) = (d1 : Int) := by rw [IntKind.wrap_u64, hd1]; omega
          have PUT := Lib.hid (HREL.out.put (e := d1) (by rw [← HL.out]; exact hkL) (by omega))
          have HD1 := Lib.hid hd1
          have tm : ((d : Int) != 18446744073709551615) = true := by rw [bne_iff_ne]; omega
          clear hmx hd1
          go_wp2_with fail
          go_quiet (fail)
          go_wp2
          go_ret
          obtain ⟨os', g1, g2, g3, g4, g5, g6, g7⟩ := PUT.out
          rw [← HDk.out] at g5
          refine ⟨0, rfl, os', g1.drewN _, g2, g3, ?_, undrewN' g6, g7⟩
          rw [Nat.mul_comm] at g5
          rw [Nat.mul_comm (18446744073709551616 ^ k)] at g5
          have : (1 + d) * 18446744073709551616 ^ k = d1 * 18446744073709551616 ^ k := by rw [HD1.out, Nat.add_comm]
          omega
      · have hkk : k = L := by omega
        subst hkk
        clear fz
        go_wp2
        go_ret
        refine ⟨1, rfl, os, h1, h2, h3, ?_, h6, h7⟩
        rw [← HL.out, Nat.mul_one]; exact h5
end Go.Proofs.Ytlgnaioodnhkjaa

/-
Rounding: the bits that decide, the words that remain; plain numbers. No condition.
-/
namespace Go.Proofs.Ytlgnaioodnhkjaa
open Go.RowKit

/-- What is left, told by the rounding bit and the sticky bit. -/
def lefV (rb sf : Nat) : Nat := if rb = 0 then (if sf = 0 then 0 else 1) else (if sf = 0 then 2 else 3)
/-- The sticky bit with what is known to be behind. -/
def sfV (N r s : Nat) : Nat := if s = 0 then stV N r else 1
theorem stV_le (N r : Nat) : stV N r ≤ 1 := by unfold stV; split <;> omega
theorem sfV_le (N r s : Nat) : sfV N r s ≤ 1 := by unfold sfV; split; exact stV_le _ _; omega
theorem lef_bits (N r s : Nat) : lef (N % 2 ^ (r + 1)) (2 ^ (r + 1)) s = lefV (N / 2 ^ r % 2) (sfV N r s) := by
  have h1 : N % 2 ^ (r + 1) = N % 2 ^ r + 2 ^ r * (N / 2 ^ r % 2) := Nat.mod_pow_succ
  have h2 : N % 2 ^ r < 2 ^ r := Nat.mod_lt _ (Nat.two_pow_pos r)
  have h3 : N / 2 ^ r % 2 = 0 ∨ N / 2 ^ r % 2 = 1 := by omega
  have hst : sfV N r s = 0 ↔ N % 2 ^ r = 0 ∧ s = 0 := by
    unfold sfV stV
    by_cases h0 : s = 0
    · rw [if_pos h0]; split <;> simp_all
    · rw [if_neg h0]; simp_all
  rw [h1, Nat.pow_succ]
  generalize N % 2 ^ r = R at *
  generalize 2 ^ r = D at *
  unfold lef lefV
  rcases h3 with h3 | h3 <;> rw [h3] <;> simp only [Nat.mul_zero, Nat.mul_one, Nat.add_zero, if_true, hst] <;> by_cases hR : R = 0 <;> by_cases hs : s = 0 <;> simp only [hR, hs, and_self, and_true, and_false, if_true, if_false, Nat.zero_add] <;> (repeat' split) <;> first | rfl | omega
/-- Whether the code adds one. -/
def incV (m : Nat) (neg : Bool) (rb sb : Nat) (odd : Bool) : Bool :=
  if m = 4 then neg else if m = 2 then false else if m = 0 then (decide (rb ≠ 0) && (decide (sb ≠ 0) || odd)) else if m = 1 then decide (rb ≠ 0) else if m = 3 then true else !neg
theorem incV_eq {m rb sb sf : Nat} (neg odd : Bool) (hm : m ≤ 5) (hrb : rb ≤ 1) (hsf : sf ≤ 1) (h1 : rb = 0 ∨ m = 0 → sb = sf) (h2 : ¬ (rb = 0 ∧ sb = 0)) : awy neg odd (lefV rb sf) m = incV m neg rb sb odd := by
  rcases (by omega : rb = 0 ∨ rb = 1) with rfl | rfl <;> rcases (by omega : sf = 0 ∨ sf = 1) with rfl | rfl <;> rcases (by omega : m = 0 ∨ m = 1 ∨ m = 2 ∨ m = 3 ∨ m = 4 ∨ m = 5) with rfl | rfl | rfl | rfl | rfl | rfl <;> simp_all [awy, lefV, incV]
theorem lefV_pos {m rb sb sf : Nat} (hrb : rb ≤ 1) (h1 : rb = 0 ∨ m = 0 → sb = sf) (h2 : ¬ (rb = 0 ∧ sb = 0)) : lefV rb sf ≠ 0 := by
  unfold lefV
  rcases (by omega : rb = 0 ∨ rb = 1) with rfl | rfl
  · have := h1 (.inl rfl); rw [if_pos rfl]; split <;> omega
  · rw [if_neg (by decide)]; split <;> omega
theorem lefV_zero {m rb sb sf : Nat} (h1 : rb = 0 ∨ m = 0 → sb = sf) (h2 : rb = 0) (h3 : sb = 0) : lefV rb sf = 0 := by
  have := h1 (.inl h2)
  unfold lefV; rw [if_pos h2, if_pos (by omega)]
theorem wv_drop {ws : List Nat} (h : ∀ d ∈ ws, d < 18446744073709551616) {k : Nat} (hk : k ≤ ws.length) : wv (ws.drop k) = wv ws / 18446744073709551616 ^ k := by
  have h1 := wv_append (ws.take k) (ws.drop k)
  rw [List.take_append_drop, List.length_take, Nat.min_eq_left hk] at h1
  have h2 := wv_lt (a := ws.take k) (fun d hd => h d (List.mem_of_mem_take hd))
  rw [List.length_take, Nat.min_eq_left hk] at h2
  rw [h1, Nat.add_mul_div_left _ _ (wpow_pos k), Nat.div_eq_of_lt h2, Nat.zero_add]
theorem w_two (k : Nat) : (18446744073709551616 : Nat) ^ k = 2 ^ (64 * k) := by rw [show (18446744073709551616 : Nat) = 2 ^ 64 from rfl, ← Nat.pow_mul]
/-- The bits behind the precision are struck. -/
theorem andNot_clear {d t : Nat} (ht : t < 64) (hd : d < 18446744073709551616) : bits .andNot .u64 (d : Int) (((2 ^ t - 1 : Nat)) : Int) = ((d / 2 ^ t * 2 ^ t : Nat) : Int) := by
  have hS : 2 ^ t ≤ 9223372036854775808 := Nat.pow_le_pow_right (show 0 < 2 by decide) (show t ≤ 63 by omega)
  rw [u64_andNot_nat d (2 ^ t - 1) hd (by omega)]
  congr 1
  apply Nat.eq_of_testBit_eq
  intro i
  rw [Nat.testBit_and, show (18446744073709551615 : Nat) - (2 ^ t - 1) = 2 ^ 64 - ((2 ^ t - 1) + 1) by omega, Nat.testBit_two_pow_sub_succ (show 2 ^ t - 1 < 2 ^ 64 by omega), Nat.testBit_two_pow_sub_one, Nat.mul_comm, Nat.testBit_two_pow_mul, Nat.testBit_div_two_pow]
  by_cases hi : i < t
  · simp [hi, show ¬ t ≤ i by omega]
  · rw [show i - t + t = i by omega]
    by_cases h64 : i < 64
    · simp [hi, h64, show t ≤ i by omega]
    · rw [Nat.testBit_lt_two_pow (Nat.lt_of_lt_of_le hd (show 18446744073709551616 ≤ 2 ^ i from Nat.pow_le_pow_right (show 0 < 2 by decide) (show 64 ≤ i by omega)))]; simp
/-- The last bit that remains. -/
theorem and_lsb {d t : Nat} (ht : t < 64) (hd : d < 18446744073709551616) : bits .and .u64 (d : Int) ((2 ^ t : Nat) : Int) = ((d / 2 ^ t % 2 * 2 ^ t : Nat) : Int) := by
  have hS : 2 ^ t ≤ 9223372036854775808 := Nat.pow_le_pow_right (show 0 < 2 by decide) (show t ≤ 63 by omega)
  rw [bits_and_u64_nat d (2 ^ t) hd (by omega)]
  congr 1
  apply Nat.eq_of_testBit_eq
  intro i
  rw [Nat.testBit_and, Nat.testBit_two_pow, Nat.mul_comm, Nat.testBit_two_pow_mul]
  by_cases hi : t = i
  · subst hi
    rw [Nat.testBit_eq_decide_div_mod_eq, Nat.sub_self, Nat.testBit_eq_decide_div_mod_eq, Nat.pow_zero, Nat.div_one, Nat.mod_mod]
    simp
  · simp only [hi, decide_false, Bool.and_false]
    by_cases h2 : t ≤ i
    · rw [Nat.testBit_lt_two_pow (show d / 2 ^ t % 2 < 2 ^ (i - t) from Nat.lt_of_lt_of_le (Nat.mod_lt _ (by decide)) (Nat.pow_le_pow_right (show 0 < 2 by decide) (show 1 ≤ i - t by omega)))]; simp
    · simp [h2]
theorem or_msb {d : Nat} (hd : d < 9223372036854775808) : bits .or .u64 (d : Int) 9223372036854775808 = ((d + 9223372036854775808 : Nat) : Int) := by
  have h := bits_or_u64_nat d 9223372036854775808 (by omega) (by decide)
  have e : d ||| 9223372036854775808 = d + 9223372036854775808 := by
    have := Nat.two_pow_add_eq_or_of_lt (i := 63) (b := d) (by simpa using hd) 1
    rw [Nat.mul_one] at this
    rw [Nat.or_comm, Nat.add_comm]; exact this.symm
  rw [e] at h
  exact h
/-- What is kept of a mantissa: words without too many, the first bit at the top, nothing behind the precision. -/
def Good (ws : List Nat) (p : Nat) : Prop := 0 < ws.length ∧ ws.length ≤ 1000000 ∧ (∀ d ∈ ws, d < 18446744073709551616) ∧ 2 ^ (64 * ws.length - 1) ≤ wv ws ∧ Fits ws p
theorem Good.bl {ws : List Nat} {p : Nat} (h : Good ws p) : bl (wv ws) = 64 * ws.length := by
  obtain ⟨h0, -, h2, h3, -⟩ := h
  have h4 := wv_lt h2
  rw [w_two] at h4
  have := bl_of (k := 64 * ws.length - 1) h3 (by rw [show 64 * ws.length - 1 + 1 = 64 * ws.length by omega]; exact h4)
  omega
theorem clear_wv {ws : List Nat} {t : Nat} (h : ∀ d ∈ ws, d < 18446744073709551616) (h0 : 0 < ws.length) (ht : t ≤ 64) : wv (ws.set 0 (ws.getD 0 0 / 2 ^ t * 2 ^ t)) = wv ws / 2 ^ t * 2 ^ t := by
  have h1 := wset (ws := ws) (i := 0) h0 (ws.getD 0 0 / 2 ^ t * 2 ^ t)
  rw [Nat.pow_zero, Nat.one_mul, Nat.one_mul] at h1
  have h2 : ws.getD 0 0 = wv ws % 18446744073709551616 := by rw [← wv_dig h 0, wdg_zero_eq]
  have h3 := Nat.div_add_mod (wv ws) (2 ^ t)
  have h4 := Nat.div_add_mod (ws.getD 0 0) (2 ^ t)
  have h5 : ws.getD 0 0 % 2 ^ t = wv ws % 2 ^ t := by
    rw [h2, ← word_split ht, Nat.mul_comm, Nat.mod_mul_right_mod]
  rw [Nat.mul_comm] at h3 h4
  omega
end Go.Proofs.Ytlgnaioodnhkjaa

/-
rshVU: a number's words are shifted to the right, in place or from elsewhere. No condition.
-/
namespace Go.Proofs.Ytlgnaioodnhkjaa
open Go.RowKit

theorem wdg_shr (X i : Nat) {s : Nat} (hs0 : 0 < s) (hs : s < 64) : (wdg X i / 2 ^ s) ||| (wdg X (i + 1) * 2 ^ (64 - s) % 18446744073709551616) = wdg (X / 2 ^ s) i := by
  have hc : wdg X i / 2 ^ s < 2 ^ (64 - s) := by
    refine Nat.div_lt_of_lt_mul ?_
    rw [Nat.mul_comm, word_split (by omega)]; exact wdg_lt X i
  rw [Nat.or_comm, shl_or (by omega) hc]
  have h1 := wdv_step X i
  have e : wdg (X / 2 ^ s) i = X / 18446744073709551616 ^ i / 2 ^ s % 18446744073709551616 := by
    unfold wdg; rw [Nat.div_div_eq_div_mul, Nat.mul_comm, ← Nat.div_div_eq_div_mul]
  rw [e, h1]
  have hW : (18446744073709551616 : Nat) = 2 ^ s * 2 ^ (64 - s) := by rw [Nat.mul_comm, word_split (by omega)]
  have h2 : (18446744073709551616 * (X / 18446744073709551616 ^ (i + 1)) + wdg X i) / 2 ^ s = wdg X i / 2 ^ s + X / 18446744073709551616 ^ (i + 1) * 2 ^ (64 - s) := by
    rw [show 18446744073709551616 * (X / 18446744073709551616 ^ (i + 1)) = 2 ^ s * (X / 18446744073709551616 ^ (i + 1) * 2 ^ (64 - s)) by rw [hW, Nat.mul_assoc, Nat.mul_comm (2 ^ (64 - s))], Nat.add_comm, Nat.add_mul_div_left _ _ (Nat.two_pow_pos s)]
  rw [h2]
  have h3 : wdg X (i + 1) * 2 ^ (64 - s) % 18446744073709551616 = X / 18446744073709551616 ^ (i + 1) * 2 ^ (64 - s) % 18446744073709551616 := by
    unfold wdg; rw [Nat.mod_mul_mod]
  rw [h3]
  generalize X / 18446744073709551616 ^ (i + 1) = Y
  generalize wdg X i / 2 ^ s = a at hc
  have h4 : Y * 2 ^ (64 - s) % 18446744073709551616 = 2 ^ (64 - s) * (Y % 2 ^ s) := by
    conv => lhs; rw [hW, Nat.mul_comm (2 ^ s), Nat.mul_comm _ (2 ^ (64 - s)), Nat.mul_mod_mul_left]
  have h5 : Y % 2 ^ s < 2 ^ s := Nat.mod_lt _ (Nat.two_pow_pos s)
  have h6 : 2 ^ (64 - s) * (Y % 2 ^ s) + 2 ^ (64 - s) ≤ 18446744073709551616 := by
    rw [← Nat.mul_succ]
    refine Nat.le_trans (Nat.mul_le_mul_left _ (Nat.succ_le_of_lt h5)) ?_
    rw [word_split (by omega)]; exact Nat.le_refl _
  generalize Y * 2 ^ (64 - s) = Z at h4
  rw [← h4] at h6
  omega
theorem wdg_shr_top (X L : Nat) {s : Nat} (hX : X < 18446744073709551616 ^ (L + 1)) (hs0 : 0 < s) (hs : s < 64) : wdg X L / 2 ^ s = wdg (X / 2 ^ s) L := by
  have h := wdg_shr X L hs0 hs
  have h0 : wdg X (L + 1) = 0 := by unfold wdg; rw [Nat.div_eq_of_lt hX]
  rw [h0] at h
  simpa using h
/-- rshVU's loop: the words below k are shifted, the source is as it was from k on. -/
def RsRel (Y : Nat) (xs : List Nat) (x : Value) (L B k : Nat) (w : World) (v : Value) (wr : World) : Prop :=
  ∃ os : List Nat, Own wr B 112 v (cellsW os) ∧ os.length = L ∧ (∀ d ∈ os, d < 18446744073709551616) ∧ (∀ j, j < k → os.getD j 0 = wdg Y j) ∧
    (∀ j, k ≤ j → j < L → wr.cell? ⟨sBlk x, sOff x + j, none⟩ = some (.int .u64 ((xs.getD j 0 : Nat) : Int))) ∧ Below B w wr ∧ Only (sBlk v) w wr
theorem RsRel.put {Y L B k : Nat} {xs : List Nat} {x : Value} {w wr : World} {v : Value} (h : RsRel Y xs x L B k w v wr) (hal : sBlk x = sBlk v → sOff v ≤ sOff x) (hk : k < L) {y : Nat} (hy : y = wdg Y k) :
    RsRel Y xs x L B (k + 1) w v (wr.setCell ⟨sBlk v, sOff v + k, none⟩ (.int .u64 (y : Int))) := by
  obtain ⟨os, ho, hol, hod, hog, hx, hb, hon⟩ := h
  have hcap : 0 < sCap v := by have := ho.isS.le; have := ho.len; rw [cellsW_length] at this; omega
  have h1 := ho.set (i := k) (by rw [cellsW_length, hol]; exact hk) (.int .u64 (y : Int))
  rw [cellsW_set] at h1
  refine ⟨os.set k y, h1, by simpa using hol, set_lt hod (by rw [hy]; exact wdg_lt _ _), fun j hj => ?_, fun j hj hjl => ?_, bset hb (ho.lt hcap).1, fun j hj hne => ?_⟩
  · rw [getD_setW _ _ _ _ (by omega)]
    split
    · rename_i e; subst e; exact hy
    · exact hog j (by omega)
  · rw [World.cell?_setCell_other (h := fun e => ?_)]
    · exact hx j (by omega) hjl
    · have e1 : sBlk v = sBlk x := congrArg Addr.block e
      have e2 : sOff v + k = sOff x + j := congrArg Addr.off e
      have := hal e1.symm
      omega
  · rw [heap_setCell_other _ _ _ _ (by simpa using hne)]
    exact hon j hj hne
theorem RsRel.drewN {Y L B k : Nat} {xs : List Nat} {x : Value} {w wr : World} {v : Value} (h : RsRel Y xs x L B k w v wr) (n : Nat) : RsRel Y xs x L B k w v (wr.drewN n) := by
  obtain ⟨os, ho, hol, hod, hog, hx, hb, hon⟩ := h
  exact ⟨os, ho.drewN n, hol, hod, hog, hx, undrewN' hb, fun i hi hne => hon i hi hne⟩
set_option maxRecDepth 100000 in
set_option maxHeartbeats 1600000 in
theorem rshVU_g_any (v x : Value) (os xs : List Nat) (X s B : Nat) (w : World) (ho : Own w B 112 v (cellsW os)) (hod : ∀ d ∈ os, d < 18446744073709551616) (hx : RW w x xs) (hX : wv xs = X) (hlen : os.length = xs.length) (hal : sBlk x = sBlk v → sOff v ≤ sOff x)
    (hl0 : 0 < xs.length) (hl : xs.length ≤ 1000000000) (hs0 : 0 < s) (hs : s < 64) :
    Calls Try.prog 136 #[v, x, .int .u64 s] w fun e w' => ∃ c : Nat, e = .returned (.int .u64 c) ∧ Own w' B 112 v (cellsW (wdsN (X / 2 ^ s) xs.length)) ∧ Below B w w' ∧ Only (sBlk v) w w' := by
  have hS := ho.isS
  have hSx := hx.isS
  have hL : sLen v = os.length := by rw [ho.len, cellsW_length]
  have hLx : sLen x = xs.length := hx.len
  have hcap : 0 < sCap v := by have := hS.le; omega
  have hB := (ho.lt hcap).1
  have hget : ∀ j, xs.getD j 0 = wdg X j := fun j => by rw [← hX, wv_dig hx.lt]
  have hXl : X < 18446744073709551616 ^ xs.length := by rw [← hX]; exact wv_lt hx.lt
  obtain ⟨L, hLw⟩ : ∃ L, L + 1 = xs.length := ⟨xs.length - 1, by omega⟩
  have R0 : RsRel (X / 2 ^ s) xs x (L + 1) B 0 w v w := ⟨os, ho, by omega, hod, fun j hj => absurd hj (by omega), fun j _ hj => hx.cell j (by omega), Below.refl _ _, Only.refl _ _⟩
  have hc := hx.cell 0 (by omega)
  rw [hget, Nat.add_zero] at hc
  rw [← hLw] at hlen hLx hl hXl ⊢
  rw [hlen] at hL
  have n1 := and63 hs
  have n2 := and63 (show 64 - s < 64 by omega)
  obtain ⟨r, hr⟩ : ∃ r, r = 64 - s := ⟨_, rfl⟩
  rw [← hr] at n2
  have hr64 : r < 64 := by omega
  have e1 : (64 : Int) - (s : Int) = (r : Int) := by omega
  have hS2 : (2 : Int) ^ s = ((2 ^ s : Nat) : Int) := by simp
  have hR2 : (2 : Int) ^ r = ((2 ^ r : Nat) : Int) := by simp
  obtain ⟨t, ht⟩ : ∃ t, t = wdg X 0 := ⟨_, rfl⟩
  rw [← ht] at hc
  obtain ⟨S, hSS⟩ : ∃ S, S = 2 ^ s := ⟨_, rfl⟩
  rw [← hSS] at hS2
  have HS := Lib.hid hSS
  obtain ⟨R, hR⟩ : ∃ R, R = 2 ^ r := ⟨_, rfl⟩
  rw [← hR] at hR2
  have hm0 := wrapU t R
  have htl : t < 18446744073709551616 := by rw [ht]; exact wdg_lt _ _
  obtain ⟨q, hq⟩ : ∃ q, q = t * R % 18446744073709551616 := ⟨_, rfl⟩
  rw [← hq] at hm0
  have ts : ((s : Int) == 0) = false := by rw [beq_eq_false_iff_ne]; omega
  have HW := Lib.hid hLw
  have HG := Lib.hid hget
  have HR := Lib.hid hR
  have Hr := Lib.hid hr
  have HR0 := Lib.hid R0
  have HXl := Lib.hid hXl
  have HAL := Lib.hid hal
  clear ho hLw hX hl0 hget ht hR hq hr hSS R0 hx hlen hod hXl hal
  go_enter Try.func136, Try.ntmps136
  go_wp2
  go_loopw [8] (fun i wr => ∃ k : Nat, k ≤ L ∧ i = .int .i64 ((k + 1 : Nat) : Int) ∧ RsRel (X / 2 ^ s) xs x (L + 1) B k w v wr) (fun i _ => L + 1 - (intOf i).toNat)
  case atStart => exact ⟨0, Nat.zero_le _, rfl, HR0.out⟩
  case round =>
    obtain ⟨k, hk, rfl, hrel⟩ := hrel
    have HREL := Lib.hid hrel
    obtain ⟨os2, ho, hol, hod, hog, hx, hb, hon⟩ := hrel
    have fz := ho.frozen hcap
    have c0 := hx k (Nat.le_refl _) (by omega)
    rw [HG.out] at c0
    obtain ⟨d0, hd0⟩ : ∃ d, d = wdg X k := ⟨_, rfl⟩
    rw [← hd0] at c0
    have hd0l : d0 < 18446744073709551616 := by rw [hd0]; exact wdg_lt _ _
    have hq0 : (d0 : Int) / (S : Int) = ((d0 / S : Nat) : Int) := by simp
    obtain ⟨q0, hqq⟩ : ∃ q, q = d0 / S := ⟨_, rfl⟩
    rw [← hqq] at hq0
    have hq0l : q0 ≤ d0 := by rw [hqq]; exact Nat.div_le_self _ _
    have hfz := fz (sOff v + k)
    have cv := (ho.rw' hod).cell k (by omega)
    obtain ⟨g0, hg0⟩ : ∃ g, g = os2.getD k 0 := ⟨_, rfl⟩
    rw [← hg0] at cv
    clear hg0
    rcases Nat.lt_or_ge k L with hkL | hkL
    · have c1 := hx (k + 1) (by omega) (by omega)
      rw [HG.out] at c1
      obtain ⟨d1, hd1⟩ : ∃ d, d = wdg X (k + 1) := ⟨_, rfl⟩
      rw [← hd1] at c1
      have hm := wrapU d1 R
      obtain ⟨m, hmm⟩ : ∃ m, m = d1 * R % 18446744073709551616 := ⟨_, rfl⟩
      rw [← hmm] at hm
      have hor := bits_or_u64_nat q0 m (by omega) (by rw [hmm]; exact Nat.mod_lt _ (by decide))
      have hy : q0 ||| m = wdg (X / 2 ^ s) k := by rw [hqq, hmm, hd0, hd1, HR.out, Hr.out, HS.out]; exact wdg_shr X k hs0 hs
      rw [hy] at hor
      obtain ⟨y, hyy⟩ : ∃ y, y = wdg (X / 2 ^ s) k := ⟨_, rfl⟩
      rw [← hyy] at hor
      have HY := Lib.hid hyy
      clear fz hy hd0 hd1 hmm hqq hyy hx hog hod hol ho hon
      go_wp2
      (refine wp_region_hoist 18 (by kernel_rfl) (by kernel_rfl) ⟨fun _ _ _ h => (by first | exact (hQp _ _ _ h).elim | cases h.2.1 | (obtain ⟨_, h3, _⟩ := h.2; cases h3)), fun _ _ h => (by first | exact (hQo _ _ h).elim | cases h.1 | (obtain ⟨_, h3, _⟩ := h; cases h3))⟩ ?_; simp only [List.take_succ_cons, List.take_zero, List.drop_succ_cons, List.drop_zero]; (repeat (go_big_quiet_step (fail))); refine wpQuiet_nil ?_; rintro _ ⟨nq, rfl⟩)
      go_wp2
      refine ⟨⟨k + 1, by omega, by simp, ?_⟩, by simp [intOf]; omega⟩
      exact (HREL.out.drewN nq).put HAL.out (by omega) HY.out
    · have hkk : k = L := by omega
      subst hkk
      have HY : Hid (q0 = wdg (X / 2 ^ s) k) := Lib.hid (by rw [hqq, hd0, HS.out]; exact wdg_shr_top X k HXl.out hs0 hs)
      clear fz hd0 hqq hx hog hod hol ho hon
      go_wp2
      go_ret
      obtain ⟨os3, f1, f2, f3, f4, f5, f6, f7⟩ := HREL.out.put HAL.out (Nat.lt_succ_self k) HY.out
      have e := wdsN_of f2 f4
      rw [← e]
      exact ⟨_, rfl, f1, f6, f7⟩
set_option maxRecDepth 100000 in
theorem rshVU_any (v x : Value) (os xs : List Nat) (X s B : Nat) (w : World) (ho : Own w B 112 v (cellsW os)) (hod : ∀ d ∈ os, d < 18446744073709551616) (hx : RW w x xs) (hX : wv xs = X) (hlen : os.length = xs.length) (hal : sBlk x = sBlk v → sOff v ≤ sOff x)
    (hl0 : 0 < xs.length) (hl : xs.length ≤ 1000000000) (hs0 : 0 < s) (hs : s < 64) :
    Calls Try.prog 121 #[v, x, .int .u64 s] w fun e w' => ∃ c : Nat, e = .returned (.int .u64 c) ∧ Own w' B 112 v (cellsW (wdsN (X / 2 ^ s) xs.length)) ∧ Below B w w' ∧ Only (sBlk v) w w' := by
  have hS := ho.isS
  have hSx := hx.isS
  have HO := Lib.hid ho
  have HD := Lib.hid hod
  have HX := Lib.hid hx
  have HN := Lib.hid hX
  have HL := Lib.hid hlen
  have HA := Lib.hid hal
  clear ho hod hx hX hlen hal
  go_enter Try.func121, Try.ntmps121
  go_wp2_with fail
  refine (rshVU_g_any v x os xs X s B w HO.out HD.out HX.out HN.out HL.out HA.out hl0 hl hs0 hs).mono ?_
  rintro _ w1 ⟨c, rfl, h1, h2, h3⟩
  go_wp2
  go_ret
  exact ⟨_, rfl, h1, h2, h3⟩
end Go.Proofs.Ytlgnaioodnhkjaa

/-
Floats: round, any mode. No condition.
-/
namespace Go.Proofs.Ytlgnaioodnhkjaa
open Go.RowKit

theorem wpList_copy_F {P : Program} {w : World} {ops : Array Oper} {rest : List Oper} {o : Oper} {a : Act} {Q : Exit → Act → World → Prop} (hgd : o.guard = none) (d s : Operand) (dT sT : TypeId)
    (ho : o.op = .call { callee := .builtin .copy, args := #[d, s], argTypes := #[dT, sT] }) (elem : TypeId) (hu : P.underlying dT = some (.slice elem)) (hsz : (P.info? elem).map (·.size) = some 1)
    (v vx : Value) (hd : a.eval d = v) (hs : a.eval s = vx) (B : Nat) (xs : List Value) (hown : Own w B elem v xs) (cs : List Value) (h0 : 0 < cs.length) (hlen : cs.length ≤ xs.length) (hsx : IsS vx) (hlx : sLen vx = cs.length)
    (hsrc : ∀ j u, cs[j]? = some u → w.cell? ⟨sBlk vx, sOff vx + j, none⟩ = some u) (h1 : ∀ v ∈ cs, v.oneCell' = true)
    (h : ∀ w', Own w' B elem v (cs ++ xs.drop cs.length) → Below B w w' → Only (sBlk v) w w' → wpList P ops Q rest (a.put o.dst (goInt cs.length)) w') : wpList P ops Q (o :: rest) a w := by
  have hL := hown.len
  have hC := hown.isS.le
  have hCx := hsx.le
  rcases hown.row with hr | ⟨hb, cur, hg, hcs, ht⟩
  · omega
  · have hv := hown.isS.out (by omega)
    have hvx := hsx.out (by omega)
    refine wpList_copy_own hgd d s dT sT ho elem hu hsz (sBlk v) (sOff v) (sLen v) (sCap v) ⟨sBlk vx, sOff vx, none⟩ (sLen vx) (sCap vx) (hd.trans hv) (hs.trans hvx) cur elem hg cs (by rw [hlx, hL]; exact (Nat.min_eq_left hlen).symm) (fun j u hj => by rw [add_none]; exact hsrc j u hj) (by omega) h1 ?_
    refine h _ ⟨hown.isS, by simp; omega, hown.cap, .inr ⟨hb, _, setRow_heap w _ _ _ _ _ hg, ?_, ?_⟩⟩ (below_setRow (Below.refl _ _) hb _) (fun k hk hne => setRow_other w _ k _ hne)
    · simp; omega
    · have hlt : (cur.toList.take (sOff v)).length = sOff v := by simp; omega
      rw [List.toList_toArray, List.drop_left' hlt]
      have e1 : (cs ++ xs.drop cs.length).length = cs.length + (xs.length - cs.length) := by simp
      have e2 : xs.drop cs.length = (cur.toList.drop (sOff v + cs.length)).take (xs.length - cs.length) := by
        conv => lhs; rw [← ht, List.drop_take, List.drop_drop]
      rw [e1, e2, List.take_append, List.take_of_length_le (show cs.length ≤ cs.length + (xs.length - cs.length) by omega)]
      congr 2; omega
theorem cellsW_drop (ws : List Nat) (k : Nat) : (cellsW ws).drop k = cellsW (ws.drop k) := by unfold cellsW; rw [List.map_drop]
theorem cellsW_take (ws : List Nat) (k : Nat) : (cellsW ws).take k = cellsW (ws.take k) := by unfold cellsW; rw [List.map_take]
theorem Own.dropW {w : World} {B e L k : Nat} {v : Value} {ws : List Nat} (h : Own w B e v (cellsW ws)) (hL : L = ws.length) (hk : k ≤ L) : Own w B e (subS v k L) (cellsW (ws.drop k)) := by
  have := h.sub (l := k) (n := L) hk (by rw [cellsW_length]; omega)
  rw [List.take_of_length_le (by rw [cellsW_length]; omega), cellsW_drop] at this
  exact this
set_option maxRecDepth 100000 in
theorem makeAcc_any (x : Bool) (w : World) : Calls Try.prog 119 #[.bool x] w fun e w' => e = .returned (.int .i8 (if x then 1 else -1)) ∧ w = w' := by
  cases x <;> go_enter Try.func119, Try.ntmps119 <;> go_wp2 <;> go_ret <;> exact ⟨rfl, rfl⟩
end Go.Proofs.Ytlgnaioodnhkjaa

/-
Floats: round, any mode. No condition.
-/
namespace Go.Proofs.Ytlgnaioodnhkjaa
open Go.RowKit

/-- What round gives: a value of N times 2 to X, rounded. -/
def RndP (B b p m : Nat) (neg : Bool) (s N : Nat) (X : Int) (w w' : World) : Prop :=
  ∃ v ws e, FltR w' b p m (rA p m neg s N) 1 neg v e ∧ Own w' B 112 v (cellsW ws) ∧ Good ws p ∧ deq (wv ws) (e - 64 * (ws.length : Int)) (rQ p m neg s N) (X + rk p N) ∧ Below B w w'
/-- The same ahead of the last step: the last bits are not struck yet. -/
def RndM (B b p m : Nat) (neg : Bool) (s N n t : Nat) (X : Int) (w w' : World) : Prop :=
  ∃ v ws e, FltR w' b p m (rA p m neg s N) 1 neg v e ∧ Own w' B 112 v (cellsW ws) ∧ ws.length = n ∧ (∀ d ∈ ws, d < 18446744073709551616) ∧ 2 ^ (64 * n - 1) ≤ wv ws ∧ deq (wv ws / 2 ^ t * 2 ^ t) (e - 64 * (n : Int)) (rQ p m neg s N) (X + rk p N) ∧ Below B w w'
theorem rnd_setup {ws : List Nat} {p : Nat} (hd : ∀ d ∈ ws, d < 18446744073709551616) (hp0 : 0 < p) (hpL : p < 64 * ws.length) (htop : 2 ^ (64 * ws.length - 1) ≤ wv ws) {r n t : Nat} (hr : r = 64 * ws.length - p - 1) (hn : n = (p + 63) / 64) (ht : t = 64 * n - p) :
    bl (wv ws) = 64 * ws.length ∧ rk p (wv ws) = r + 1 ∧ n ≤ ws.length ∧ 0 < n ∧ t < 64 ∧ t + p = 64 * n ∧ (∀ d ∈ ws.drop (ws.length - n), d < 18446744073709551616) ∧ (ws.drop (ws.length - n)).length = n ∧
      wv (ws.drop (ws.length - n)) / 2 ^ t = wv ws / 2 ^ rk p (wv ws) ∧ wv (ws.drop (ws.length - n)) < 2 ^ (64 * n) ∧ 2 ^ (64 * n - 1) ≤ wv (ws.drop (ws.length - n)) := by
  have h4 := wv_lt hd
  rw [w_two] at h4
  have hb := bl_of (k := 64 * ws.length - 1) htop (by rw [show 64 * ws.length - 1 + 1 = 64 * ws.length by omega]; exact h4)
  have hnl : n ≤ ws.length := by omega
  have hk : rk p (wv ws) = r + 1 := by unfold rk; omega
  have hdd : ∀ d ∈ ws.drop (ws.length - n), d < 18446744073709551616 := fun d h => hd d (List.mem_of_mem_drop h)
  have hlen : (ws.drop (ws.length - n)).length = n := by rw [List.length_drop]; omega
  have hlt := wv_lt hdd
  rw [hlen, w_two] at hlt
  have hv := wv_drop hd (show ws.length - n ≤ ws.length by omega)
  refine ⟨by omega, hk, hnl, by omega, by omega, by omega, hdd, hlen, ?_, hlt, ?_⟩
  · rw [hv, w_two, Nat.div_div_eq_div_mul, ← Nat.pow_add, hk]; congr 2; omega
  · rw [hv, w_two, Nat.le_div_iff_mul_le (Nat.two_pow_pos _), ← Nat.pow_add]
    exact Nat.le_trans (Nat.pow_le_pow_right (by decide) (by omega)) htop
/-- Nothing is carried out. -/
theorem fin_a {N3 Q n t p L r : Nat} {e : Int} (h : N3 / 2 ^ t = Q) (ht : t + p = 64 * n) (hr : r + 1 + p = 64 * L) : deq (N3 / 2 ^ t * 2 ^ t) (e - 64 * (n : Int)) Q (e - 64 * (L : Int) + ((r + 1 : Nat) : Int)) := by
  rw [h]
  refine ⟨0, t, by simp, ?_⟩
  push_cast; omega
/-- One is carried out. -/
theorem fin_b {x n t p L r : Nat} {e : Int} (hx : x < 2 ^ t) (hn : 0 < n) (hp : 0 < p) (ht : t + p = 64 * n) (hr : r + 1 + p = 64 * L) : deq ((2 ^ (64 * n - 1) + x) / 2 ^ t * 2 ^ t) (e + 1 - 64 * (n : Int)) (2 ^ p) (e - 64 * (L : Int) + ((r + 1 : Nat) : Int)) := by
  have e1 : (2 ^ (64 * n - 1) + x) / 2 ^ t = 2 ^ (p - 1) := by
    rw [show 64 * n - 1 = t + (p - 1) by omega, Nat.pow_add, Nat.mul_add_div (Nat.two_pow_pos t), Nat.div_eq_of_lt hx]; rfl
  rw [e1, ← Nat.pow_add]
  refine ⟨1, t, ?_, ?_⟩
  · rw [← Nat.pow_add, ← Nat.pow_add]; congr 1; omega
  · push_cast; omega
/-- The tests of the sticky bit. -/
theorem and1 {x : Nat} (h : x ≤ 1) : bits .and .u64 (x : Int) 1 = (x : Int) := by
  rcases (by omega : x = 0 ∨ x = 1) with rfl | rfl <;> decide +kernel
theorem or01 {x y : Nat} (hx : x ≤ 1) (hy : y ≤ 1) : (bits .or .u64 (x : Int) (y : Int) != 0) = !(decide (x = 0) && decide (y = 0)) := by
  rcases (by omega : x = 0 ∨ x = 1) with rfl | rfl <;> rcases (by omega : y = 0 ∨ y = 1) with rfl | rfl <;> decide +kernel
/-- A part of a function's code: 1, 2 a sequence's parts, 3, 4 a condition's, 5 a block's body. -/
def nav : List Nat → Code → Code
  | [], c => c
  | 1 :: ks, .seq a _ => nav ks a
  | 2 :: ks, .seq _ b => nav ks b
  | 3 :: ks, .cond _ t _ => nav ks t
  | 4 :: ks, .cond _ _ e => nav ks e
  | 5 :: ks, .block _ b => nav ks b
  | _, c => c
def fbody (f : Func) : Code := f.body.getD .skip
end Go.Proofs.Ytlgnaioodnhkjaa
