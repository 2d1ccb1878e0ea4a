/-
Texts of this proof, joined: InJ InK InL RcE NgA RnA FlA Shelf BiA FlI FlJ FlK RnB. No condition.
-/
import Derived.Test.YtlapgbkngkejpaaDoorK02
import Derived.Test.YtlapgbkngkejpaaDoorK03
import Derived.Test.YtlapgbkngkejpaaDoorK04
import Derived.Test.YtlapgbkngkejpaaDoorK05
import Derived.Shelf.Bits.Mul64
import Derived.Test.YtlapgbkngkejpaaDoorProg
import Derived.Lib.BitFns
import Derived.Laws.Externs
/-
The package's numbers: cmp. No condition.
-/
namespace Go.Proofs.YtlapgbkngkejpaaDoor
open Go.RowKit

theorem wdiv_step (n i : Nat) : n / 18446744073709551616 ^ i = 18446744073709551616 * (n / 18446744073709551616 ^ (i + 1)) + wdg n i := by
  unfold wdg
  rw [Nat.pow_succ, ← Nat.div_div_eq_div_mul]
  omega
theorem lt_of_nw {x y : Nat} (h : nw x < nw y) : x < y := by
  refine Nat.lt_of_not_le fun hc => ?_
  have := nw_mono hc
  omega
theorem lt_of_wdg {x y i : Nat} (he : x / 18446744073709551616 ^ (i + 1) = y / 18446744073709551616 ^ (i + 1)) (h : wdg x i < wdg y i) : x < y := by
  have h1 := wdiv_step x i
  have h2 := wdiv_step y i
  refine Nat.lt_of_not_le fun hc => ?_
  have := Nat.div_le_div_right (c := 18446744073709551616 ^ i) hc
  omega
set_option maxRecDepth 100000 in
set_option maxHeartbeats 800000 in
theorem cmp_any (a b : Value) (x y : Nat) (w : World) (ha : RW w a (wds x)) (hb : RW w b (wds y)) (hx : nw x ≤ 1000000000) (hy : nw y ≤ 1000000000) :
    Calls Tryd.prog 41 #[a, b] w fun e w' => e = .returned (.int .i64 (cmpN x y)) ∧ ∃ n, w' = w.drewN n := by
  have hSa := ha.isS
  have hSb := hb.isS
  have hLa := ha.len
  have hLb := hb.len
  rw [wds_length] at hLa hLb
  obtain ⟨la, hla⟩ : ∃ la, la = nw x := ⟨_, rfl⟩
  obtain ⟨lb, hlb⟩ : ∃ lb, lb = nw y := ⟨_, rfl⟩
  rw [← hla] at hLa hx
  rw [← hlb] at hLb hy
  have Hla := Lib.hid hla
  have Hlb := Lib.hid hlb
  have Ha := Lib.hid ha
  have Hb := Lib.hid hb
  clear hla hlb ha hb
  by_cases h1 : la < lb
  · have t1 : decide (la < lb) = true := by rw [decide_eq_true_iff]; exact h1
    have t2 : ((la : Int) == lb) = false := by rw [beq_eq_false_iff_ne]; omega
    go_enter Tryd.func41, Tryd.ntmps41
    go_wp2
    go_ret
    exact ⟨ret_int (cmpN_lt (lt_of_nw (by rw [← Hla.out, ← Hlb.out]; exact h1))).symm, 0, rfl⟩
  · have t1 : decide (la < lb) = false := by rw [decide_eq_false_iff_not]; exact h1
    by_cases h2 : lb < la
    · have t2 : decide (lb < la) = true := by rw [decide_eq_true_iff]; exact h2
      have t3 : ((la : Int) == lb) = false := by rw [beq_eq_false_iff_ne]; omega
      go_enter Tryd.func41, Tryd.ntmps41
      go_wp2
      go_ret
      exact ⟨ret_int (cmpN_gt (lt_of_nw (by rw [← Hla.out, ← Hlb.out]; exact h2))).symm, 0, rfl⟩
    · have t2 : decide (lb < la) = false := by rw [decide_eq_false_iff_not]; exact h2
      obtain rfl : la = lb := by omega
      clear h1 h2 t1 t2
      by_cases h0 : la = 0
      · have hxy : x = y := by
          have e1 := nw_eq_zero.1 (Hla.out.symm.trans h0)
          have e2 := nw_eq_zero.1 (Hlb.out.symm.trans h0)
          rw [e1, e2]
        have HXY := Lib.hid hxy
        subst h0
        clear hxy
        go_enter Tryd.func41, Tryd.ntmps41
        go_wp2
        go_ret
        exact ⟨ret_int (by rw [HXY.out, cmpN_eq]), 0, rfl⟩
      · have t0 : ((la : Int) == 0) = false := by rw [beq_eq_false_iff_ne]; omega
        have hpos : 1 ≤ la := by omega
        have H0 := Lib.hid h0
        clear h0
        go_enter Tryd.func41, Tryd.ntmps41
        go_wp2
        go_loopw [7] (fun i wr => ∃ k : Nat, k + 1 ≤ la ∧ i = .int .i64 (k : Int) ∧ x / 18446744073709551616 ^ (k + 1) = y / 18446744073709551616 ^ (k + 1) ∧ ∃ n, wr = w.drewN n) (fun i _ => (intOf i).toNat)
        case atStart =>
          refine ⟨la - 1, by omega, by go_num, ?_, 0, rfl⟩
          have e1 := lt_nw x
          have e2 := lt_nw y
          rw [← Hla.out] at e1
          rw [← Hlb.out] at e2
          rw [show la - 1 + 1 = la by omega, Nat.div_eq_of_lt e1, Nat.div_eq_of_lt e2]
        case round =>
          obtain ⟨k, hk, rfl, hv, nn, rfl⟩ := hrel
          have Hv := Lib.hid hv
          clear hv
          have ca := Ha.out.cell k (by rw [wds_length, ← Hla.out]; omega)
          have cb := Hb.out.cell k (by rw [wds_length, ← Hlb.out]; omega)
          rw [wds_getD] at ca cb
          obtain ⟨p, hp⟩ : ∃ p, p = wdg x k := ⟨_, rfl⟩
          obtain ⟨q, hq⟩ : ∃ q, q = wdg y k := ⟨_, rfl⟩
          rw [← hp] at ca
          rw [← hq] at cb
          have Hp := Lib.hid hp
          have Hq := Lib.hid hq
          clear hp hq
          have hkn : k < la := by omega
          by_cases h3 : p < q
          · have t3 : decide (p < q) = true := by rw [decide_eq_true_iff]; exact h3
            have t4 : ((p : Int) == q) = false := by rw [beq_eq_false_iff_ne]; omega
            have hk0 : decide (0 < k) = true ∨ decide (0 < k) = false := by cases decide (0 < k) <;> simp
            rcases hk0 with hk0 | hk0
            all_goals
              go_wp2
              go_quiet (fail)
              go_wp2
              go_quiet (fail)
              go_wp2
              go_ret
              exact ⟨ret_int (cmpN_lt (lt_of_wdg Hv.out (by rw [← Hp.out, ← Hq.out]; exact h3))).symm, by simp only [World.drewN_drewN]; exact ⟨_, rfl⟩⟩
          · have t3 : decide (p < q) = false := by rw [decide_eq_false_iff_not]; exact h3
            by_cases h4 : q < p
            · have t4 : ((p : Int) == q) = false := by rw [beq_eq_false_iff_ne]; omega
              have t5 : decide (q < p) = true := by rw [decide_eq_true_iff]; exact h4
              have hk0 : decide (0 < k) = true ∨ decide (0 < k) = false := by cases decide (0 < k) <;> simp
              rcases hk0 with hk0 | hk0
              all_goals
                go_wp2
                go_quiet (fail)
                go_wp2
                go_quiet (fail)
                go_wp2
                go_quiet (fail)
                go_wp2
                go_ret
                exact ⟨ret_int (cmpN_gt (lt_of_wdg Hv.out.symm (by rw [← Hp.out, ← Hq.out]; exact h4))).symm, by simp only [World.drewN_drewN]; exact ⟨_, rfl⟩⟩
            · have t4 : ((p : Int) == q) = true := by rw [beq_iff_eq]; omega
              have t5 : decide (q < p) = false := by rw [decide_eq_false_iff_not]; exact h4
              have hpq : p = q := by omega
              have e1 := wdiv_step x k
              have e2 := wdiv_step y k
              rw [← Hp.out] at e1
              rw [← Hq.out] at e2
              have e3 : x / 18446744073709551616 ^ k = y / 18446744073709551616 ^ k := by rw [e1, e2, Hv.out, hpq]
              have E3 := Lib.hid e3
              have HPQ := Lib.hid hpq
              clear e1 e2 e3 hpq h3 h4
              by_cases hk0 : 0 < k
              · have t6 : decide (0 < k) = true := decide_eq_true hk0
                go_wp2
                go_quiet (fail)
                go_wp2
                refine ⟨⟨k - 1, by omega, by go_num, ?_, by first | exact ⟨_, rfl⟩ | (simp only [World.drewN_drewN]; exact ⟨_, rfl⟩)⟩, by simp [intOf]; omega⟩
                rw [show k - 1 + 1 = k by omega]; exact E3.out
              · have t6 : decide (0 < k) = false := decide_eq_false hk0
                obtain rfl : k = 0 := by omega
                rw [Nat.add_zero] at ca cb
                go_wp2
                go_quiet (fail)
                go_wp2
                go_quiet (fail)
                go_wp2
                go_quiet (fail)
                go_wp2
                go_ret
                refine ⟨ret_int ?_, by simp only [World.drewN_drewN]; exact ⟨_, rfl⟩⟩
                have := E3.out
                rw [Nat.pow_zero, Nat.div_one, Nat.div_one] at this
                rw [this, cmpN_eq]
end Go.Proofs.YtlapgbkngkejpaaDoor

/-
The package's fractions: Sign, IsInt. No condition.
-/
namespace Go.Proofs.YtlapgbkngkejpaaDoor
open Go.RowKit

theorem keepc {w w' : World} {b i : Nat} {v : Value} (h : w.cell? ⟨b, i, none⟩ = some v) (hb : Below w.heap.size w w') : w'.cell? ⟨b, i, none⟩ = some v :=
  (hb.cell (p := ⟨b, i, none⟩) (World.block_lt_of_cell? w _ h)).trans h
end Go.Proofs.YtlapgbkngkejpaaDoor

/-
Signs: SignOf, the thin package's RatSign, RatIsInt. No condition.
-/
namespace Go.Proofs.YtlapgbkngkejpaaDoor
open Go.RowKit

def sg (neg : Bool) (n : Nat) : Int := if n = 0 then 0 else if neg then -1 else 1
theorem sg_nw (neg : Bool) (n : Nat) : sgnI neg (nw n) = sg neg n := by
  unfold sgnI sg
  by_cases h : n = 0
  · rw [if_pos h, if_pos (nw_eq_zero.2 h)]
  · rw [if_neg h, if_neg (fun e => h (nw_eq_zero.1 e))]
theorem nl_eq_zero {n : Nat} : nl n = 0 ↔ n = 0 := ⟨fun h => by rcases Nat.eq_zero_or_pos n with h' | h'; exact h'; have := nl_pos h'; omega, fun h => by rw [h]; rfl⟩
theorem sg_nl (neg : Bool) (n : Nat) : sgnI neg (nl n) = sg neg n := by
  unfold sgnI sg
  by_cases h : n = 0
  · rw [if_pos h, if_pos (nl_eq_zero.2 h)]
  · rw [if_neg h, if_neg (fun e => h (nl_eq_zero.1 e))]
theorem sg_and (neg : Bool) (n : Nat) : sg (neg && decide (0 < n)) n = sg neg n := by
  unfold sg
  by_cases h : n = 0
  · rw [if_pos h, if_pos h]
  · rw [decide_eq_true (show 0 < n by omega), Bool.and_true]
theorem sg_bd (neg : Bool) (n : Nat) : -1 ≤ sg neg n ∧ sg neg n ≤ 1 := by unfold sg; split; omega; split <;> omega
set_option maxRecDepth 100000 in
theorem signOf_any (neg : Bool) (a1 a2 : Value) (n : Nat) (w : World) (hS1 : IsS a1) (_hS2 : IsS a2) (hL : sLen a1 = nl n) :
    Calls Tryd.prog 12 #[.agg #[.bool neg, a1, a2]] w fun e w' => e = .returned (.int .i64 (sg neg n)) ∧ Below w.heap.size w w' := by
  obtain ⟨l, hl⟩ : ∃ l, l = nl n := ⟨_, rfl⟩
  rw [← sg_nl, ← hl]
  rw [← hl] at hL
  clear hl
  have hab := (Below.refl w.heap.size w).alloc (Nat.le_refl _) (.cells #[.bool neg, a1, a2] 31)
  by_cases h0 : l = 0
  · subst h0
    go_enter Tryd.func12, Tryd.ntmps12
    go_wp2
    go_ret
    exact ⟨rfl, hab⟩
  · have t1 : ((l : Int) == 0) = false := by rw [beq_eq_false_iff_ne]; omega
    have H0 := Lib.hid h0
    clear h0
    cases neg
    · have E : Hid (sgnI false l = 1) := Lib.hid (by unfold sgnI; rw [if_neg H0.out]; rfl)
      go_enter Tryd.func12, Tryd.ntmps12
      go_wp2
      go_ret
      exact ⟨congrArg (fun z => Ending.returned (.int .i64 z)) E.out.symm, hab⟩
    · have E : Hid (sgnI true l = -1) := Lib.hid (by unfold sgnI; rw [if_neg H0.out]; rfl)
      go_enter Tryd.func12, Tryd.ntmps12
      go_wp2
      go_ret
      exact ⟨congrArg (fun z => Ending.returned (.int .i64 z)) E.out.symm, hab⟩
end Go.Proofs.YtlapgbkngkejpaaDoor

/-
A fraction in lowest terms, as the reference makes it: Over. No condition.
-/
namespace Go.Proofs.YtlapgbkngkejpaaDoor
open Go.RowKit

set_option maxRecDepth 100000 in
set_option maxHeartbeats 1600000 in
theorem over_any (neg : Bool) (a b : Value) (x y : Nat) (w : World) (ha : NatV w a x) (hb : NatV w b y) (hx : nl x ≤ 100000000) (hy : nl y ≤ 100000000) (hy0 : 0 < y) :
    Calls Tryd.prog 27 #[.bool neg, a, b] w fun e w' => ∃ q r, e = .returned (.agg #[.bool (neg && decide (0 < x)), q, r]) ∧ NatV w' q (x / Nat.gcd x y) ∧ NatV w' r (y / Nat.gcd x y) ∧ Below w.heap.size w w' := by
  have hSa := ha.isS
  have hSb := hb.isS
  have hLa := ha.len
  obtain ⟨G, hG⟩ : ∃ G, G = Nat.gcd x y := ⟨_, rfl⟩
  have hG0 : 0 < G := by rw [hG]; exact Nat.gcd_pos_of_pos_right x hy0
  have hGl : nl G ≤ 100000000 := by rw [hG]; exact Nat.le_trans (nl_mono (Nat.gcd_le_right x hy0)) hy
  obtain ⟨W, hW⟩ : ∃ W, W = w.alloc (.cells #[.bool false, .slice none 0 0, .slice none 0 0] 31) := ⟨_, rfl⟩
  have hrow : W.heap[w.heap.size]? = some (.cells #[.bool false, .slice none 0 0, .slice none 0 0] 31 (0, 0)) := by rw [hW]; exact box_row (Below.refl _ _)
  have hab : Below w.heap.size w W := by rw [hW]; exact (Below.refl _ _).alloc (Nat.le_refl _) _
  have HA := Lib.hid (ha.below hab)
  have HB := Lib.hid (hb.below hab)
  have HR := Lib.hid hrow
  have HG := Lib.hid hG
  rw [← hG]
  obtain ⟨l, hl⟩ : ∃ l, l = nl x := ⟨_, rfl⟩
  rw [← hl] at hLa
  have hdx : decide (0 < x) = decide (0 < l) := by
    rw [decide_eq_decide, hl]
    exact ⟨nl_pos, fun h => by rcases Nat.eq_zero_or_pos x with h0 | h0; (rw [h0, nl_zero] at h; omega); exact h0⟩
  rw [hdx]
  clear ha hb hrow hG hdx hl
  go_enter Tryd.func27, Tryd.ntmps27
  go_upto_region 1 with fail
  rw [← hW]
  clear hW
  go_wp2_with fail
  refine (spGcd a b x y W HA.out HB.out (by omega) (by omega)).mono ?_
  rintro _ w1 ⟨g, rfl, hg, hb1⟩
  rw [← HG.out] at hg
  have hSg := hg.isS
  have HGv := Lib.hid hg
  clear hg
  go_wp2_with fail
  refine (spDivMod a g x G w1 (HA.out.below hb1) HGv.out (by omega) (by omega) hG0).mono ?_
  rintro _ w2 ⟨_, rfl, q1, q2, rfl, hq1, hq2, hb2⟩
  have hSq1 := hq1.isS
  have hSq2 := hq2.isS
  have HQ1 := Lib.hid hq1
  have hb12 := bthen hb1 hb2
  clear hq1 hq2
  go_wp2_with fail
  refine (spDivMod b g y G w2 (HB.out.below hb12) (HGv.out.below hb2) (by omega) (by omega) hG0).mono ?_
  rintro _ w3 ⟨_, rfl, r1, r2, rfl, hr1, hr2, hb3⟩
  have hSr1 := hr1.isS
  have hSr2 := hr2.isS
  have HR1 := Lib.hid hr1
  have HQ1' := Lib.hid (HQ1.out.below hb3)
  have hb13 := bthen hb12 hb3
  have hrow3 := keep_row hb13 HR.out
  obtain ⟨k0, k1, k2, f0, f1, f2⟩ := row3 hrow3
  have hwB := hab.trans (hb13.mono hab.size)
  have HE := Lib.hid (fun z => row3 (row3_set (x := .bool z) (y := q1) (z := r1) hrow3))
  have HN := Lib.hid (fun z => natv_row3 (x := .bool z) (y := q1) (z := r1) IsS.nil IsS.nil HQ1'.out hrow3)
  have HM := Lib.hid (fun z => natv_row3 (x := .bool z) (y := q1) (z := r1) IsS.nil IsS.nil HR1.out hrow3)
  have HBB := Lib.hid (fun z => bset (i := 2) (u := r1) (bset (i := 1) (u := q1) (bset (i := 0) (u := .bool z) hwB (Nat.le_refl _)) (Nat.le_refl _)) (Nat.le_refl _))
  clear hr1 hr2 hrow3
  have hcs : decide (0 < l) = true ∨ decide (0 < l) = false := by cases decide (0 < l) <;> simp
  cases neg <;> rcases hcs with t1 | t1
  all_goals
    go_wp2
  · obtain ⟨e0, e1, e2, -, -, -⟩ := HE.out false
    refine bodyPost_ret (v := .agg #[.bool false, q1, r1]) ?_ rfl ⟨q1, r1, (by simp [t1]), HN.out false, HM.out false, HBB.out false⟩
    simp [results, Tryd.results27, go_sem, e0, e1, e2]
  · obtain ⟨e0, e1, e2, -, -, -⟩ := HE.out false
    refine bodyPost_ret (v := .agg #[.bool false, q1, r1]) ?_ rfl ⟨q1, r1, (by simp [t1]), HN.out false, HM.out false, HBB.out false⟩
    simp [results, Tryd.results27, go_sem, e0, e1, e2]
  · obtain ⟨e0, e1, e2, -, -, -⟩ := HE.out true
    refine bodyPost_ret (v := .agg #[.bool true, q1, r1]) ?_ rfl ⟨q1, r1, (by simp [t1]), HN.out true, HM.out true, HBB.out true⟩
    simp [results, Tryd.results27, go_sem, e0, e1, e2]
  · obtain ⟨e0, e1, e2, -, -, -⟩ := HE.out false
    refine bodyPost_ret (v := .agg #[.bool false, q1, r1]) ?_ rfl ⟨q1, r1, (by simp [t1]), HN.out false, HM.out false, HBB.out false⟩
    simp [results, Tryd.results27, go_sem, e0, e1, e2]
end Go.Proofs.YtlapgbkngkejpaaDoor

/-
A fraction's opposite, as the reference tells it. No condition.
-/
namespace Go.Proofs.YtlapgbkngkejpaaDoor
open Go.RowKit

set_option maxRecDepth 100000 in
theorem negated_any (neg : Bool) (a1 a2 : Value) (n : Nat) (w : World) (hS1 : IsS a1) (hS2 : IsS a2) (hL : sLen a1 = nl n) :
    Calls Tryd.prog 14 #[.agg #[.bool neg, a1, a2]] w fun e w' => e = .returned (.agg #[.bool (!neg && decide (0 < n)), a1, a2]) ∧ Below w.heap.size w w' := by
  have hlp := len_pos_iff n
  obtain ⟨l, hl⟩ : ∃ l, l = nl n := ⟨_, rfl⟩
  rw [← hl] at hL hlp
  rw [← hlp]
  have hab := ((Below.refl w.heap.size w).alloc (Nat.le_refl _) (.cells #[.bool neg, a1, a2] 31)).alloc ((Below.refl w.heap.size w).alloc (Nat.le_refl _) (.cells #[.bool neg, a1, a2] 31)).size (.cells #[.bool false, .slice none 0 0, .slice none 0 0] 31)
  obtain ⟨W, hW⟩ : ∃ W, W = (w.alloc (.cells #[.bool neg, a1, a2] 31)).alloc (.cells #[.bool false, .slice none 0 0, .slice none 0 0] 31) := ⟨_, rfl⟩
  have hrow0 : W.heap[w.heap.size]? = some (.cells #[.bool neg, a1, a2] 31 (0, 0)) := by rw [hW]; exact box_row ((Below.refl _ _).alloc (Nat.le_refl _) _)
  have hrow1 : W.heap[w.heap.size + 1]? = some (.cells #[.bool false, .slice none 0 0, .slice none 0 0] 31 (0, 0)) := by
    rw [hW]
    have := box_row (Below.refl _ ((w.alloc (.cells #[.bool neg, a1, a2] 31)).alloc (.cells #[.bool false, .slice none 0 0, .slice none 0 0] 31)))
    simpa using this
  rw [← hW] at hab
  obtain ⟨x0, x1, x2, -, -, -⟩ := row3 hrow0
  obtain ⟨k0, k1, k2, f0, f1, f2⟩ := row3 hrow1
  have HE := Lib.hid (fun x => row3 (row3_set (x := .bool x) (y := a1) (z := a2) hrow1))
  have HB := Lib.hid (fun x => bset3 (a := .bool x) (b := a1) (c := a2) hab (show w.heap.size ≤ w.heap.size + 1 by omega))
  clear hrow0 hrow1 hl hlp
  have hcs : decide (0 < l) = true ∨ decide (0 < l) = false := by cases decide (0 < l) <;> simp
  cases neg <;> rcases hcs with t1 | t1
  all_goals
    rw [t1]
    go_enter Tryd.func14, Tryd.ntmps14
    go_upto_region 1 with fail
    rw [← hW]
    clear hW
    go_wp2
  · obtain ⟨e0, e1, e2, -, -, -⟩ := HE.out true
    refine bodyPost_ret (v := .agg #[.bool true, a1, a2]) ?_ rfl ⟨rfl, HB.out true⟩
    simp [results, Tryd.results14, go_sem, e0, e1, e2]
  all_goals
    obtain ⟨e0, e1, e2, -, -, -⟩ := HE.out false
    refine bodyPost_ret (v := .agg #[.bool false, a1, a2]) ?_ rfl ⟨rfl, HB.out false⟩
    simp [results, Tryd.results14, go_sem, e0, e1, e2]
end Go.Proofs.YtlapgbkngkejpaaDoor

/-
Rounding of dyadic values, in plain numbers: equal values, odd parts, what is left, which way. No condition.
-/
namespace Go.Proofs.YtlapgbkngkejpaaDoor
open Go.RowKit

/-- M times 2 to E is N times 2 to F. -/
def deq (M : Nat) (E : Int) (N : Nat) (F : Int) : Prop := ∃ i j : Nat, M * 2 ^ i = N * 2 ^ j ∧ E - i = F - j
theorem deq.refl (M : Nat) (E : Int) : deq M E M E := ⟨0, 0, rfl, rfl⟩
theorem deq.symm {M N : Nat} {E F : Int} (h : deq M E N F) : deq N F M E := by
  obtain ⟨i, j, h1, h2⟩ := h; exact ⟨j, i, h1.symm, h2.symm⟩
theorem deq.trans {M N K : Nat} {E F G : Int} (h : deq M E N F) (k : deq N F K G) : deq M E K G := by
  obtain ⟨i, j, h1, h2⟩ := h
  obtain ⟨a, b, k1, k2⟩ := k
  refine ⟨i + a, b + j, ?_, by omega⟩
  rw [Nat.pow_add, ← Nat.mul_assoc, h1, Nat.mul_assoc, Nat.mul_comm (2 ^ j), ← Nat.mul_assoc, k1, Nat.mul_assoc, ← Nat.pow_add]
theorem deq.shl (M : Nat) (E : Int) (t : Nat) : deq (M * 2 ^ t) E M (E + t) := ⟨0, t, by simp, by omega⟩
theorem deq.exp {M N : Nat} {E F : Int} (h : deq M E N F) (x : Int) : deq M (E + x) N (F + x) := by
  obtain ⟨i, j, h1, h2⟩ := h; exact ⟨i, j, h1, by omega⟩
theorem deq.pos {M N : Nat} {E F : Int} (h : deq M E N F) (hM : 0 < M) : 0 < N := by
  obtain ⟨i, j, h1, -⟩ := h
  have := Nat.mul_pos hM (Nat.two_pow_pos i)
  rw [h1] at this
  exact Nat.pos_of_mul_pos_right this
theorem bl_mul {x : Nat} (h : 0 < x) (n : Nat) : bl (x * 2 ^ n) = bl x + n := by
  have h1 := bl_ge h
  have h2 := lt_bl x
  have h3 := bl_pos h
  have e : bl x + n = (bl x - 1 + n) + 1 := by omega
  rw [e]
  refine bl_of ?_ ?_
  · rw [Nat.pow_add]; exact Nat.mul_le_mul_right _ h1
  · rw [show bl x - 1 + n + 1 = bl x + n by omega, Nat.pow_add]
    exact Nat.mul_lt_mul_of_pos_right h2 (Nat.two_pow_pos n)
theorem deq.bl {M N : Nat} {E F : Int} (h : deq M E N F) (hM : 0 < M) : (bl M : Int) + E = (bl N : Int) + F := by
  have hN := h.pos hM
  obtain ⟨i, j, h1, h2⟩ := h
  have := congrArg Go.Proofs.YtlapgbkngkejpaaDoor.bl h1
  rw [bl_mul hM, bl_mul hN] at this
  omega
/-- Values with the same exponent. -/
theorem deq.same {M N : Nat} {E : Int} (h : deq M E N E) : M = N := by
  obtain ⟨i, j, h1, h2⟩ := h
  have : i = j := by omega
  subst this
  exact Nat.eq_of_mul_eq_mul_right (Nat.two_pow_pos i) h1

/-! ### Odd parts -/
def tzF : Nat → Nat → Nat
  | 0, _ => 0
  | f + 1, n => if n % 2 = 1 then 0 else tzF f (n / 2) + 1
/-- How often 2 divides a number above 0. -/
def tz (n : Nat) : Nat := tzF n n
/-- A number without its divisors 2. -/
def od (n : Nat) : Nat := n / 2 ^ tz n
theorem tzF_ok : ∀ f n : Nat, 0 < n → n ≤ f → ∃ o : Nat, n = o * 2 ^ tzF f n ∧ o % 2 = 1
  | 0, n, h, hf => by omega
  | f + 1, n, h, hf => by
    unfold tzF
    by_cases h1 : n % 2 = 1
    · rw [if_pos h1]; exact ⟨n, by simp, h1⟩
    · rw [if_neg h1]
      obtain ⟨o, h2, h3⟩ := tzF_ok f (n / 2) (by omega) (by omega)
      refine ⟨o, ?_, h3⟩
      rw [Nat.pow_succ, ← Nat.mul_assoc, ← h2]; omega
theorem od_tz {n : Nat} (h : 0 < n) : n = od n * 2 ^ tz n ∧ od n % 2 = 1 := by
  obtain ⟨o, h1, h2⟩ := tzF_ok n n h (Nat.le_refl _)
  have h3 : od n = o := by
    unfold od
    conv => lhs; lhs; rw [h1]
    exact Nat.mul_div_cancel _ (Nat.two_pow_pos _)
  rw [h3]; exact ⟨h1, h2⟩
theorem odd_two {o p s t : Nat} (ho : o % 2 = 1) (hp : p % 2 = 1) (h : o * 2 ^ s = p * 2 ^ t) : s = t ∧ o = p := by
  rcases Nat.lt_trichotomy s t with c | c | c
  · obtain ⟨k, rfl⟩ : ∃ k, t = s + (k + 1) := ⟨t - s - 1, by omega⟩
    rw [Nat.pow_add, Nat.mul_comm (2 ^ s), ← Nat.mul_assoc] at h
    have := Nat.eq_of_mul_eq_mul_right (Nat.two_pow_pos s) h
    rw [Nat.pow_succ, ← Nat.mul_assoc] at this
    omega
  · subst c
    exact ⟨rfl, Nat.eq_of_mul_eq_mul_right (Nat.two_pow_pos s) h⟩
  · obtain ⟨k, rfl⟩ : ∃ k, s = t + (k + 1) := ⟨s - t - 1, by omega⟩
    rw [Nat.pow_add, Nat.mul_comm (2 ^ t), ← Nat.mul_assoc] at h
    have := Nat.eq_of_mul_eq_mul_right (Nat.two_pow_pos t) h
    rw [Nat.pow_succ, ← Nat.mul_assoc] at this
    omega
theorem od_pos {n : Nat} (h : 0 < n) : 0 < od n := by have := (od_tz h).2; omega
theorem od_of {n o t : Nat} (h : n = o * 2 ^ t) (ho : o % 2 = 1) : od n = o ∧ tz n = t := by
  have hn : 0 < n := by rw [h]; exact Nat.mul_pos (by omega) (Nat.two_pow_pos t)
  have h2 := od_tz hn
  have h3 := odd_two h2.2 ho (h2.1.symm.trans h)
  exact ⟨h3.2, h3.1⟩
theorem od_deq {n : Nat} (h : 0 < n) (E : Int) : deq n E (od n) (E + tz n) := ⟨0, tz n, by rw [Nat.pow_zero, Nat.mul_one]; exact (od_tz h).1, by omega⟩
theorem deq.od {M N : Nat} {E F : Int} (h : deq M E N F) (hM : 0 < M) : od M = od N ∧ E + tz M = F + tz N := by
  have hN := h.pos hM
  have h1 := ((od_deq hM E).symm.trans h).trans (od_deq hN F)
  obtain ⟨i, j, a, b⟩ := h1
  have := odd_two (od_tz hM).2 (od_tz hN).2 a
  exact ⟨this.2, by omega⟩
theorem bl_od {n : Nat} (h : 0 < n) : bl n = bl (od n) + tz n := by
  conv => lhs; rw [(od_tz h).1]
  exact bl_mul (od_pos h) _
theorem tz_le {n : Nat} (h : 0 < n) : tz n < bl n := by have := bl_od h; have := bl_pos (od_pos h); omega
theorem tz_dvd {n k : Nat} (h : 0 < n) (hk : n % 2 ^ k = 0) : k ≤ tz n := by
  obtain ⟨q, hq⟩ : ∃ q, n = q * 2 ^ k := ⟨n / 2 ^ k, by have := Nat.div_add_mod n (2 ^ k); rw [hk] at this; rw [Nat.mul_comm]; omega⟩
  have hq0 : 0 < q := by rcases Nat.eq_zero_or_pos q with rfl | h1; simp at hq; omega; exact h1
  have h1 := (od_tz hq0).1
  rw [h1, Nat.mul_assoc, ← Nat.pow_add] at hq
  have := (od_of hq (od_tz hq0).2).2
  omega
theorem tz_low {n k : Nat} (h : 0 < n) (hk : k ≤ tz n) : n % 2 ^ k = 0 := by
  have h1 := (od_tz h).1
  rw [h1, show tz n = (tz n - k) + k by omega, Nat.pow_add, ← Nat.mul_assoc]
  exact Nat.mul_mod_left _ _

/-! ### Rounding -/
/-- What is left of the next unit: 0 nothing, 1 less than a half, 2 a half, 3 more; s tells that there is more behind. -/
def lef (R D s : Nat) : Nat := if R = 0 ∧ s = 0 then 0 else if 2 * R < D then 1 else if 2 * R = D ∧ s = 0 then 2 else 3
/-- Whether a magnitude is rounded up. -/
def awy (neg odd : Bool) (left mode : Nat) : Bool :=
  if mode = 0 then decide (left = 3) || (decide (left = 2) && odd) else if mode = 1 then decide (2 ≤ left) else if mode = 3 then decide (0 < left)
  else if mode = 4 then decide (0 < left) && neg else if mode = 5 then decide (0 < left) && !neg else false
/-- How many bits are cut off. -/
def rk (p M : Nat) : Nat := bl M - p
def rL (p s M : Nat) : Nat := lef (M % 2 ^ rk p M) (2 ^ rk p M) s
def rU (p m : Nat) (neg : Bool) (s M : Nat) : Bool := awy neg (decide (M / 2 ^ rk p M % 2 = 1)) (rL p s M) m
/-- The rounded magnitude, in units of 2 to rk. -/
def rQ (p m : Nat) (neg : Bool) (s M : Nat) : Nat := M / 2 ^ rk p M + if rU p m neg s M then 1 else 0
/-- The side of the exact value on which it is. -/
def rA (p m : Nat) (neg : Bool) (s M : Nat) : Int := if rL p s M = 0 then 0 else if rU p m neg s M != neg then 1 else -1
theorem awy_zero (neg odd : Bool) (mode : Nat) : awy neg odd 0 mode = false := by
  unfold awy; repeat' split
  all_goals simp
theorem lef_scale (R D s : Nat) {S : Nat} (h : 0 < S) : lef (R * S) (D * S) s = lef R D s := by
  unfold lef
  have e1 : R * S = 0 ↔ R = 0 := by rw [Nat.mul_eq_zero]; exact ⟨fun h' => h'.resolve_right (by omega), .inl⟩
  have e2 : 2 * (R * S) < D * S ↔ 2 * R < D := by rw [← Nat.mul_assoc]; exact ⟨fun h' => Nat.lt_of_mul_lt_mul_right h', fun h' => Nat.mul_lt_mul_of_pos_right h' h⟩
  have e3 : 2 * (R * S) = D * S ↔ 2 * R = D := by rw [← Nat.mul_assoc]; exact ⟨fun h' => Nat.eq_of_mul_eq_mul_right h h', fun h' => by rw [h']⟩
  simp only [e1, e2, e3]
theorem lef_exact (D : Nat) : lef 0 D 0 = 0 := by simp [lef]
theorem lef_zero {R D s : Nat} : lef R D s = 0 ↔ R = 0 ∧ s = 0 := by
  unfold lef
  split
  · simp_all
  · rename_i h; refine ⟨fun h' => ?_, fun h' => absurd h' h⟩
    split at h'
    · omega
    · split at h' <;> omega
/-- What fits is exact. -/
theorem rQ_fits {p m M : Nat} (neg : Bool) (h : bl M ≤ p) : rk p M = 0 ∧ rQ p m neg 0 M = M ∧ rA p m neg 0 M = 0 := by
  have h0 : rk p M = 0 := by unfold rk; omega
  have h1 : rL p 0 M = 0 := by unfold rL; rw [h0, Nat.pow_zero, Nat.mod_one]; exact lef_exact _
  refine ⟨h0, ?_, ?_⟩
  · unfold rQ rU; rw [h1, awy_zero, h0]; simp
  · unfold rA; rw [if_pos h1]
theorem rnd_shl {p m M : Nat} (neg : Bool) (hM : 0 < M) (t : Nat) (E : Int) :
    deq (rQ p m neg 0 (M * 2 ^ t)) (E + rk p (M * 2 ^ t)) (rQ p m neg 0 M) (E + t + rk p M) ∧ rA p m neg 0 (M * 2 ^ t) = rA p m neg 0 M := by
  have hb := bl_mul hM t
  rcases Nat.lt_or_ge p (bl M) with hp | hp
  · have k1 : rk p (M * 2 ^ t) = rk p M + t := by unfold rk; omega
    have hP := Nat.two_pow_pos t
    have d1 : M * 2 ^ t / 2 ^ rk p (M * 2 ^ t) = M / 2 ^ rk p M := by rw [k1, Nat.pow_add]; exact Nat.mul_div_mul_right _ _ hP
    have l1 : rL p 0 (M * 2 ^ t) = rL p 0 M := by
      unfold rL
      rw [k1, Nat.pow_add, Nat.mul_mod_mul_right, lef_scale _ _ _ hP]
    have u1 : rU p m neg 0 (M * 2 ^ t) = rU p m neg 0 M := by unfold rU; rw [d1, l1]
    have q1 : rQ p m neg 0 (M * 2 ^ t) = rQ p m neg 0 M := by unfold rQ; rw [d1, u1]
    refine ⟨?_, by unfold rA; rw [l1, u1]⟩
    rw [q1, k1]
    exact ⟨0, 0, rfl, by omega⟩
  · obtain ⟨k0, q0, a0⟩ := rQ_fits (m := m) neg hp
    rw [k0, q0, a0]
    obtain ⟨c, hc⟩ : ∃ c, rk p (M * 2 ^ t) = c := ⟨_, rfl⟩
    have hct : c ≤ t := by unfold rk at hc; omega
    have hm : M * 2 ^ t % 2 ^ c = 0 := by
      rw [show t = (t - c) + c by omega, Nat.pow_add, ← Nat.mul_assoc]; exact Nat.mul_mod_left _ _
    have l1 : rL p 0 (M * 2 ^ t) = 0 := by unfold rL; rw [hc, hm]; exact lef_exact _
    have q1 : rQ p m neg 0 (M * 2 ^ t) = M * 2 ^ (t - c) := by
      unfold rQ rU
      rw [l1, awy_zero, hc, show t = (t - c) + c by omega, Nat.pow_add, ← Nat.mul_assoc, Nat.mul_div_cancel _ (Nat.two_pow_pos c)]
      simp
    refine ⟨?_, by unfold rA; rw [if_pos l1]⟩
    rw [q1, hc]
    exact ⟨0, t - c, by simp, by omega⟩
/-- Equal values are rounded to equal values. -/
theorem rnd_deq {p m M N : Nat} {E F : Int} (neg : Bool) (hM : 0 < M) (h : deq M E N F) :
    deq (rQ p m neg 0 M) (E + rk p M) (rQ p m neg 0 N) (F + rk p N) ∧ rA p m neg 0 M = rA p m neg 0 N := by
  have hN := h.pos hM
  obtain ⟨i, j, h1, h2⟩ := h
  obtain ⟨a1, a2⟩ := rnd_shl (p := p) (m := m) neg hM i (E - i)
  obtain ⟨b1, b2⟩ := rnd_shl (p := p) (m := m) neg hN j (F - j)
  rw [h1] at a1 a2
  rw [h2] at a1
  have := a1.symm.trans b1
  exact ⟨by simpa [show F - (j : Int) + (i : Int) = E by omega] using this, a2.symm.trans b2⟩
/-- The rounded magnitude has as many bits as are asked for, or is the next power of 2. -/
theorem rQ_bound {p m M : Nat} (neg : Bool) (s : Nat) (hp0 : 0 < p) (hp : p < bl M) : 2 ^ (p - 1) ≤ M / 2 ^ rk p M ∧ M / 2 ^ rk p M < 2 ^ p ∧ rQ p m neg s M ≤ 2 ^ p := by
  have hM : 0 < M := by rcases Nat.eq_zero_or_pos M with rfl | h; rw [bl_zero] at hp; omega; exact h
  have h1 := bl_ge hM
  have h2 := lt_bl M
  have hk : rk p M + p = bl M := by unfold rk; omega
  have h3 : M / 2 ^ rk p M < 2 ^ p := by
    refine Nat.div_lt_of_lt_mul ?_
    rw [← Nat.pow_add, hk]; exact h2
  have h4 : 2 ^ (p - 1) ≤ M / 2 ^ rk p M := by
    rw [Nat.le_div_iff_mul_le (Nat.two_pow_pos _), ← Nat.pow_add]
    refine Nat.le_trans (Nat.pow_le_pow_right (by decide) ?_) h1
    omega
  refine ⟨h4, h3, ?_⟩
  unfold rQ; split <;> omega
end Go.Proofs.YtlapgbkngkejpaaDoor

/-
Words: single bits, what lies below a bit, shifts; plain arithmetic. No condition.
-/
namespace Go.Proofs.YtlapgbkngkejpaaDoor

theorem wdv_step (n i : Nat) : n / 18446744073709551616 ^ i = 18446744073709551616 * (n / 18446744073709551616 ^ (i + 1)) + wdg n i := by
  unfold wdg
  rw [Nat.pow_succ, ← Nat.div_div_eq_div_mul]
  omega
theorem two_word (i : Nat) : (2 : Nat) ^ i = 18446744073709551616 ^ (i / 64) * 2 ^ (i % 64) := by
  rw [show (18446744073709551616 : Nat) = 2 ^ 64 from rfl, ← Nat.pow_mul, ← Nat.pow_add, Nat.div_add_mod]
theorem word_split {s : Nat} (h : s ≤ 64) : 2 ^ (64 - s) * 2 ^ s = 18446744073709551616 := by
  rw [← Nat.pow_add, show 64 - s + s = 64 by omega]
theorem wdg_bit (n i : Nat) : wdg n (i / 64) / 2 ^ (i % 64) % 2 = n / 2 ^ i % 2 := by
  unfold wdg
  rw [two_word i, ← Nat.div_div_eq_div_mul]
  generalize n / 18446744073709551616 ^ (i / 64) = m
  have hs : i % 64 < 64 := Nat.mod_lt _ (by decide)
  have e := word_split (show i % 64 ≤ 64 by omega)
  have e2 : 2 ^ (64 - i % 64) = 2 * 2 ^ (63 - i % 64) := by rw [show 64 - i % 64 = 63 - i % 64 + 1 by omega, Nat.pow_succ, Nat.mul_comm]
  generalize hP : 2 ^ (i % 64) = P at *
  generalize 2 ^ (63 - i % 64) = Q at *
  generalize 2 ^ (64 - i % 64) = R at *
  subst e2
  have hP0 : 0 < P := by rw [← hP]; exact Nat.pow_pos (by decide)
  rw [← e, Nat.mul_comm (2 * Q) P, Nat.mod_mul_right_div_self, Nat.mod_mul_right_mod]
theorem wlow_zero {n : Nat} : ∀ j : Nat, n % 18446744073709551616 ^ j = 0 ↔ ∀ k, k < j → wdg n k = 0
  | 0 => by simp [Nat.mod_one]
  | j + 1 => by
    have ih := wlow_zero (n := n) j
    have hs := wmod_succ n j
    have hp := wpow_pos j
    constructor
    · intro h k hk
      rw [h] at hs
      have h1 : n % 18446744073709551616 ^ j = 0 := by omega
      have h2 : 18446744073709551616 ^ j * wdg n j = 0 := by omega
      rcases (by omega : k < j ∨ k = j) with hk' | rfl
      · exact ih.1 h1 k hk'
      · rcases Nat.mul_eq_zero.1 h2 with h | h
        · omega
        · exact h
    · intro h
      rw [hs, ih.2 (fun k hk => h k (by omega)), h j (by omega)]
      simp
theorem sticky_iff (n i : Nat) : n % 2 ^ i = 0 ↔ (∀ k, k < i / 64 → wdg n k = 0) ∧ wdg n (i / 64) % 2 ^ (i % 64) = 0 := by
  rw [two_word i, Nat.mod_mul, ← wlow_zero]
  have hs : i % 64 < 64 := Nat.mod_lt _ (by decide)
  have e := word_split (show i % 64 ≤ 64 by omega)
  have h1 : wdg n (i / 64) % 2 ^ (i % 64) = n / 18446744073709551616 ^ (i / 64) % 2 ^ (i % 64) := by
    unfold wdg
    rw [← e, Nat.mul_comm, Nat.mod_mul_right_mod]
  rw [h1]
  have hp := wpow_pos (i / 64)
  generalize n / 18446744073709551616 ^ (i / 64) % 2 ^ (i % 64) = c
  generalize n % 18446744073709551616 ^ (i / 64) = a
  generalize 18446744073709551616 ^ (i / 64) = B at *
  constructor
  · intro h
    have h1 : a = 0 := by omega
    have h2 : B * c = 0 := by omega
    exact ⟨h1, (Nat.mul_eq_zero.1 h2).resolve_left (by omega)⟩
  · rintro ⟨rfl, rfl⟩; simp
theorem wdg_shl_zero (n : Nat) {s : Nat} (_hs : s ≤ 64) : wdg (n * 2 ^ s) 0 = wdg n 0 * 2 ^ s % 18446744073709551616 := by
  rw [wdg_zero_eq, wdg_zero_eq, Nat.mod_mul_mod]
theorem div_shl (n i : Nat) {s : Nat} (hs : s ≤ 64) : n * 2 ^ s / 18446744073709551616 ^ (i + 1) = wdg n i / 2 ^ (64 - s) + n / 18446744073709551616 ^ (i + 1) * 2 ^ s := by
  have hB := wpow_pos i
  have e := word_split hs
  have h1 : n = n % 18446744073709551616 ^ i + 18446744073709551616 ^ i * (wdg n i + 18446744073709551616 * (n / 18446744073709551616 ^ (i + 1))) := by
    have := wdv_step n i
    rw [Nat.add_comm (wdg n i), ← this]
    exact (Nat.mod_add_div n _).symm
  have hl := Nat.mod_lt n hB
  have hS : 0 < 2 ^ s := Nat.pow_pos (by decide)
  have hR : 0 < 2 ^ (64 - s) := Nat.pow_pos (by decide)
  have h3 : n * 2 ^ s / 18446744073709551616 ^ i = n % 18446744073709551616 ^ i * 2 ^ s / 18446744073709551616 ^ i + (wdg n i + 18446744073709551616 * (n / 18446744073709551616 ^ (i + 1))) * 2 ^ s := by
    conv => lhs; rw [h1]
    rw [Nat.add_mul, Nat.mul_assoc, Nat.add_mul_div_left _ _ hB]
  have h4 : n % 18446744073709551616 ^ i * 2 ^ s / 18446744073709551616 ^ i < 2 ^ s := Nat.div_lt_of_lt_mul (Nat.mul_lt_mul_of_pos_right hl hS)
  rw [Nat.pow_succ, ← Nat.div_div_eq_div_mul, h3]
  rw [Nat.pow_succ] at *
  generalize n % 18446744073709551616 ^ i * 2 ^ s / 18446744073709551616 ^ i = c at *
  generalize wdg n i = d at *
  generalize n / (18446744073709551616 ^ i * 18446744073709551616) = m at *
  generalize 2 ^ s = S at *
  generalize 2 ^ (64 - s) = R at *
  have h5 : c + (d + 18446744073709551616 * m) * S = (c + d * S) + 18446744073709551616 * (m * S) := by rw [Nat.add_mul, Nat.mul_assoc]; omega
  rw [h5, Nat.add_mul_div_left _ _ (by decide)]
  congr 1
  rw [← e, Nat.mul_comm R S, ← Nat.div_div_eq_div_mul, Nat.mul_comm d S, Nat.add_mul_div_left _ _ hS, Nat.div_eq_of_lt h4, Nat.zero_add]
theorem wdg_shl_succ (n i : Nat) {s : Nat} (hs : s < 64) : wdg (n * 2 ^ s) (i + 1) = wdg n i / 2 ^ (64 - s) + wdg n (i + 1) * 2 ^ s % 18446744073709551616 := by
  have e := word_split (show s ≤ 64 by omega)
  have h1 := div_shl n i (show s ≤ 64 by omega)
  have hd := wdg_lt n i
  have hS : 0 < 2 ^ s := Nat.pow_pos (by decide)
  have hR : 0 < 2 ^ (64 - s) := Nat.pow_pos (by decide)
  have h2 : wdg n i / 2 ^ (64 - s) < 2 ^ s := Nat.div_lt_of_lt_mul (by rw [e]; exact hd)
  show n * 2 ^ s / 18446744073709551616 ^ (i + 1) % 18446744073709551616 = _
  rw [h1]
  have h3 : wdg n (i + 1) * 2 ^ s % 18446744073709551616 = n / 18446744073709551616 ^ (i + 1) * 2 ^ s % 18446744073709551616 := by
    unfold wdg; rw [Nat.mod_mul_mod]
  rw [h3]
  have h4 : n / 18446744073709551616 ^ (i + 1) * 2 ^ s % 18446744073709551616 = n / 18446744073709551616 ^ (i + 1) % 2 ^ (64 - s) * 2 ^ s := by
    rw [← e, Nat.mul_mod_mul_right]
  have h5 : n / 18446744073709551616 ^ (i + 1) % 2 ^ (64 - s) < 2 ^ (64 - s) := Nat.mod_lt _ hR
  rw [h4]
  generalize wdg n i / 2 ^ (64 - s) = c at *
  generalize hm : n / 18446744073709551616 ^ (i + 1) = m at *
  have h6 : (m % 2 ^ (64 - s) + 1) * 2 ^ s ≤ 2 ^ (64 - s) * 2 ^ s := Nat.mul_le_mul_right _ h5
  rw [e, Nat.add_mul, Nat.one_mul] at h6
  rw [Nat.add_mod, h4, Nat.mod_eq_of_lt (show c < 18446744073709551616 by omega), Nat.mod_eq_of_lt (by omega)]
/-- The two parts of a shifted word don't meet. -/
theorem shl_or {c m s : Nat} (hs : s < 64) (hc : c < 2 ^ s) : (m * 2 ^ s % 18446744073709551616) ||| c = c + m * 2 ^ s % 18446744073709551616 := by
  have e := word_split (show s ≤ 64 by omega)
  have h4 : m * 2 ^ s % 18446744073709551616 = 2 ^ s * (m % 2 ^ (64 - s)) := by
    rw [← e, Nat.mul_mod_mul_right, Nat.mul_comm]
  rw [h4, ← Nat.two_pow_add_eq_or_of_lt hc, Nat.add_comm]
end Go.Proofs.YtlapgbkngkejpaaDoor

/-
  DERIVED: THE SHELF's CONTRACTS AT THIS DUMP, IN PLAIN WORDS (tools/lay-plain.mjs out of 'TrydShelf.lean', which tools/lay-shelf.mjs wrote): THE SAME DECLARATIONS UNDER THE SAME NAMES: 'import', 'namespace', 'open', 'def', 'theorem' AND NOTHING ELSE: no command of the shelf's: FOR A HAND-IN. Each laying: the table of numbers ('.._ren') and one theorem, a field a fact of the dump's own or the kernel's comparison; each contract: ONE APPLICATION.
-/
namespace Go.Proofs
open Go.Shelf
def Tryd.lays264_ren : Go.Shelf.Ren := ⟨fun | 264 => 92 | n => n, fun | 53 => 120 | 46 => 58 | n => n, fun | n => n⟩
theorem Tryd.lays264 : Go.Proofs.Lays.n264 Tryd.prog Tryd.lays264_ren := {
  mixed := by kernel_rfl
  f264 := Tryd.func92.trans (congrArg some (by kernel_rfl))
  t46 := Tryd.underlying58
  a46 := Tryd.isAgg58
  z46 := Tryd.sizeOf58
  v46 := Tryd.zeroValue58
  t53 := Tryd.underlying120
  a53 := Tryd.isAgg120
  z53 := Tryd.sizeOf120
  v53 := Tryd.zeroValue120 }
open Go.RowKit Go.Lib in
theorem Tryd.bits_Mul64 (x y : Nat) (hx : x < 18446744073709551616) (hy : y < 18446744073709551616) (w : World) :
    Calls Tryd.prog 92 #[.int .u64 x, .int .u64 y] w fun e w' => e = .returned (.tuple #[.int .u64 ((x * y / 18446744073709551616 : Nat) : Int), .int .u64 ((x * y % 18446744073709551616 : Nat) : Int)]) ∧ w' = w := Any.bits_Mul64 Tryd.lays264 x y hx hy w
def Tryd.lays212_ren : Go.Shelf.Ren := ⟨fun | 212 => 87 | 263 => 91 | 264 => 92 | n => n, fun | 46 => 58 | 51 => 117 | 146 => 118 | 53 => 120 | 148 => 121 | n => n, fun | n => n⟩
theorem Tryd.lays212 : Go.Proofs.Lays.n212 Tryd.prog Tryd.lays212_ren := {
  mixed := by kernel_rfl
  f212 := Tryd.func87.trans (congrArg some (by kernel_rfl))
  f263 := Tryd.func91.trans (congrArg some (by kernel_rfl))
  f264 := Tryd.func92.trans (congrArg some (by kernel_rfl))
  t46 := Tryd.underlying58
  a46 := Tryd.isAgg58
  z46 := Tryd.sizeOf58
  v46 := Tryd.zeroValue58
  t51 := Tryd.underlying117
  a51 := Tryd.isAgg117
  z51 := Tryd.sizeOf117
  v51 := Tryd.zeroValue117
  t53 := Tryd.underlying120
  a53 := Tryd.isAgg120
  z53 := Tryd.sizeOf120
  v53 := Tryd.zeroValue120
  t146 := Tryd.underlying118
  a146 := Tryd.isAgg118
  z146 := Tryd.sizeOf118
  v146 := Tryd.zeroValue118
  t148 := Tryd.underlying121
  a148 := Tryd.isAgg121
  z148 := Tryd.sizeOf121
  v148 := Tryd.zeroValue121 }
open Go.RowKit Go.Lib in
/-- math/bits.Mul: "Mul returns the full-width product of x and y": on a machine of 64 bits: Mul64's. (LAID: no walk: one application.) -/
theorem Tryd.bits_Mul (x y : Nat) (hx : x < 18446744073709551616) (hy : y < 18446744073709551616) (w : World) :
    Calls Tryd.prog 87 #[.int .u64 x, .int .u64 y] w fun e w' => e = .returned (.tuple #[.int .u64 ((x * y / 18446744073709551616 : Nat) : Int), .int .u64 ((x * y % 18446744073709551616 : Nat) : Int)]) ∧ w' = w := Any.bits_Mul Tryd.lays212 x y hx hy w
end Go.Proofs

/-
Lengths in bits; a number of one word. No condition.
-/
namespace Go.Proofs.YtlapgbkngkejpaaDoor
open Go.RowKit

theorem bitLenAux_eq : ∀ (f x : Nat), x < 2 ^ f → Lib.bitLenAux f x = bl x
  | 0, x, h => by
    have : x = 0 := by omega
    subst this; rfl
  | f + 1, x, h => by
    unfold Lib.bitLenAux
    split
    · rename_i h0; subst h0; rfl
    · rename_i h0
      rw [bitLenAux_eq f (x / 2) (by rw [Nat.pow_succ] at h; omega), ← bl_half (show 0 < x by omega)]; omega
theorem bitLen_eq {x : Nat} (h : x < 18446744073709551616) : Lib.bitLen x = bl x := bitLenAux_eq 64 x h
theorem bl_le64 {x : Nat} (h : x < 18446744073709551616) : bl x ≤ 64 := bl_le h
theorem fbone {W : World} (o : Obj) : Below W.heap.size W (W.alloc o) := (Below.refl _ _).alloc (Nat.le_refl _) _
theorem get_lt {w : World} {k : Nat} {o : Obj} (h : w.heap[k]? = some o) : k < w.heap.size := by
  obtain ⟨h, _⟩ := Array.getElem?_eq_some_iff.1 h
  exact h
theorem RW.dropW {w : World} {v : Value} {ws : List Nat} {k : Nat} (h : RW w v ws) (hk : k ≤ ws.length) : RW w (subS v k ws.length) (ws.drop k) := by
  refine ⟨?_, fun d hd => h.lt d (List.mem_of_mem_drop hd)⟩
  have := h.ri.sub (l := k) (n := ws.length) hk (by rw [ints_length]; exact Nat.le_refl _)
  rw [List.take_of_length_le (by rw [ints_length]; exact Nat.le_refl _)] at this
  unfold ints at this ⊢
  rw [List.map_drop]
  exact this
theorem cellsW_zeros (n : Nat) : List.replicate n (Value.int .u64 0) = cellsW (List.replicate n 0) := by
  unfold cellsW; rw [List.map_replicate]; rfl
end Go.Proofs.YtlapgbkngkejpaaDoor

/-
Floats: the number of bits; a shift to the left in place. No condition.
-/
namespace Go.Proofs.YtlapgbkngkejpaaDoor
open Go.RowKit

theorem bl_or {a b : Nat} (h : b ≤ a) : bl (a ||| b) = bl a := by
  refine Nat.le_antisymm (bl_le (Nat.or_lt_two_pow (lt_bl a) (Nat.lt_of_le_of_lt h (lt_bl a)))) (bl_mono Nat.left_le_or)
theorem or_lt64 {a b : Nat} (ha : a < 18446744073709551616) (hb : b < 18446744073709551616) : a ||| b < 18446744073709551616 := Nat.or_lt_two_pow (n := 64) ha hb
theorem bl_words {n : Nat} (h : 0 < n) : bl n = 64 * (nw n - 1) + bl (wdg n (nw n - 1)) := by
  have hp := nw_pos h
  have h1 := wmod_succ n (nw n - 1)
  rw [show nw n - 1 + 1 = nw n by omega, wmod_nw (Nat.le_refl _)] at h1
  have e : (18446744073709551616 : Nat) ^ (nw n - 1) = 2 ^ (64 * (nw n - 1)) := by rw [show (18446744073709551616 : Nat) = 2 ^ 64 from rfl, ← Nat.pow_mul]
  rw [e] at h1
  exact bl_shift (Nat.pos_of_ne_zero (wdg_last h)) h1
/-- One step of the smear. -/
theorem smear {t q t' k : Nat} (ht : t < 18446744073709551616) (hq : q = t / k) (ht' : t' = t ||| q) : bits .or .u64 (t : Int) (q : Int) = (t' : Int) ∧ t' < 18446744073709551616 ∧ bl t' = bl t ∧ (t : Int) / (k : Int) = (q : Int) := by
  have hqt : q ≤ t := by rw [hq]; exact Nat.div_le_self _ _
  refine ⟨by rw [ht']; exact bits_or_u64_nat t q ht (by omega), by rw [ht']; exact or_lt64 ht (by omega), by rw [ht']; exact bl_or hqt, by rw [hq]; simp⟩
end Go.Proofs.YtlapgbkngkejpaaDoor

/-
Words: a shift to the left in place. No condition.
-/
namespace Go.Proofs.YtlapgbkngkejpaaDoor
open Go.RowKit

/-- So many words of a number. -/
def wdsN (n L : Nat) : List Nat := (List.range L).map (wdg n)
theorem wdsN_length (n L : Nat) : (wdsN n L).length = L := by simp [wdsN]
theorem wdsN_lt {n L : Nat} : ∀ d ∈ wdsN n L, d < 18446744073709551616 := by
  intro d h
  obtain ⟨i, _, rfl⟩ := List.mem_map.1 h
  exact wdg_lt n i
theorem wdsN_getD {n L i : Nat} (h : i < L) : (wdsN n L).getD i 0 = wdg n i := by simp [wdsN, List.getD_eq_getElem?_getD, h]
theorem wdsN_wv (n L : Nat) : wv (wdsN n L) = n % 18446744073709551616 ^ L := wv_range n L
theorem wdsN_nw (n : Nat) : wdsN n (nw n) = wds n := rfl
theorem wdsN_of {os : List Nat} {n L : Nat} (hl : os.length = L) (h : ∀ j, j < L → os.getD j 0 = wdg n j) : os = wdsN n L := by
  refine list_ext_getD (by rw [wdsN_length, hl]) fun i => ?_
  by_cases hi : i < L
  · rw [h i hi, wdsN_getD hi]
  · rw [List.getD_eq_getElem?_getD, List.getD_eq_getElem?_getD, List.getElem?_eq_none (by omega), List.getElem?_eq_none (by rw [wdsN_length]; omega)]
/-- The words above place k are shifted. -/
def LsRel (N s L B k : Nat) (w : World) (v : Value) (wr : World) : Prop :=
  ∃ os : List Nat, Own wr B 59 v (cellsW os) ∧ os.length = L ∧ (∀ d ∈ os, d < 18446744073709551616) ∧ (∀ j, j < L → os.getD j 0 = if k < j then wdg (N * 2 ^ s) j else wdg N j) ∧ Below B w wr ∧ Only (sBlk v) w wr
theorem and63 {s : Nat} (h : s < 64) : bits .and .u64 (s : Int) 63 = (s : Int) := by
  rw [show (63 : Int) = ((63 : Nat) : Int) from rfl, bits_and_u64_nat _ _ (by omega) (by decide), show (63 : Nat) = 2 ^ 6 - 1 from rfl, Nat.and_two_pow_sub_one_eq_mod]
  congr 1; omega
theorem wrapU (a b : Nat) : IntKind.u64.wrap ((a : Int) * (b : Int)) = ((a * b % 18446744073709551616 : Nat) : Int) := by
  rw [IntKind.wrap_u64]; simp
theorem LsRel.put {N s L B k : Nat} {w wr : World} {v : Value} {os : List Nat} (_hs : s < 64) (hcap : 0 < sCap v) (ho : Own wr B 59 v (cellsW os)) (hol : os.length = L) (hod : ∀ d ∈ os, d < 18446744073709551616) (hog : ∀ j, j < L → os.getD j 0 = if k < j then wdg (N * 2 ^ s) j else wdg N j)
    (hb : Below B w wr) (hon : Only (sBlk v) w wr) (hk : k < L) {y : Nat} (hy : y = wdg (N * 2 ^ s) k) :
    ∃ os' : List Nat, Own (wr.setCell ⟨sBlk v, sOff v + k, none⟩ (.int .u64 (y : Int))) B 59 v (cellsW os') ∧ os'.length = L ∧ (∀ d ∈ os', d < 18446744073709551616) ∧ (∀ j, j < L → os'.getD j 0 = if k ≤ j then wdg (N * 2 ^ s) j else wdg N j) ∧
      Below B w (wr.setCell ⟨sBlk v, sOff v + k, none⟩ (.int .u64 (y : Int))) ∧ Only (sBlk v) w (wr.setCell ⟨sBlk v, sOff v + k, none⟩ (.int .u64 (y : Int))) := by
  have h1 := ho.set (i := k) (by rw [cellsW_length, hol]; exact hk) (.int .u64 (y : Int))
  rw [cellsW_set] at h1
  refine ⟨os.set k y, h1, by simpa using hol, ?_, ?_, bset hb (ho.lt hcap).1, fun j hj hne => ?_⟩
  · intro d hd
    rcases List.mem_or_eq_of_mem_set hd with h | h
    · exact hod d h
    · rw [h, hy]; exact wdg_lt _ _
  · intro j hj
    by_cases hjk : j = k
    · subst hjk
      rw [if_pos (Nat.le_refl _), ← hy]
      simp [List.getD_eq_getElem?_getD, hol, hk]
    · have := hog j hj
      rw [List.getD_eq_getElem?_getD, List.getElem?_set_ne (fun h => hjk h.symm), ← List.getD_eq_getElem?_getD, this]
      by_cases hlt : k < j
      · rw [if_pos hlt, if_pos (by omega)]
      · rw [if_neg hlt, if_neg (by omega)]
  · rw [heap_setCell_other _ _ _ _ (by simpa using hne)]
    exact hon j hj hne
set_option maxRecDepth 100000 in
set_option maxHeartbeats 1600000 in
theorem lshVU_g_any (v : Value) (ws : List Nat) (N s B : Nat) (w : World) (ho : Own w B 59 v (cellsW ws)) (hd : ∀ d ∈ ws, d < 18446744073709551616) (hN : wv ws = N) (hl0 : 0 < ws.length) (hl : ws.length ≤ 1000000000) (hs0 : 0 < s) (hs : s < 64) :
    Calls Tryd.prog 95 #[v, v, .int .u64 s] w fun e w' => e = .returned (.int .u64 (wdg N (ws.length - 1) / 2 ^ (64 - s) : Nat)) ∧ Own w' B 59 v (cellsW (wdsN (N * 2 ^ s) ws.length)) ∧ Below B w w' ∧ Only (sBlk v) w w' := by
  have hS := ho.isS
  have hL : sLen v = ws.length := by rw [ho.len, cellsW_length]
  have hcap : 0 < sCap v := by have := hS.le; omega
  have hB := (ho.lt hcap).1
  have hget : ∀ j, ws.getD j 0 = wdg N j := fun j => by rw [← hN, wv_dig hd]
  obtain ⟨L, hLw⟩ : ∃ L, L + 1 = ws.length := ⟨ws.length - 1, by omega⟩
  have hc := (ho.rw' hd).cell L (by omega)
  rw [hget] at hc
  rw [← hLw] at hL hl ⊢
  rw [Nat.add_sub_cancel]
  have n1 := and63 hs
  have n2 := and63 (show 64 - s < 64 by omega)
  obtain ⟨r, hr⟩ : ∃ r, r = 64 - s := ⟨_, rfl⟩
  rw [← hr] at n2 ⊢
  have hr64 : r < 64 := by omega
  have e1 : (64 : Int) - (s : Int) = (r : Int) := by omega
  have hS2 : (2 : Int) ^ s = ((2 ^ s : Nat) : Int) := by simp
  have hR2 : (2 : Int) ^ r = ((2 ^ r : Nat) : Int) := by simp
  obtain ⟨t, ht⟩ : ∃ t, t = wdg N L := ⟨_, rfl⟩
  rw [← ht] at hc ⊢
  obtain ⟨S, hSS⟩ : ∃ S, S = 2 ^ s := ⟨_, rfl⟩
  rw [← hSS] at hS2
  have HS := Lib.hid hSS
  clear hSS
  obtain ⟨R, hR⟩ : ∃ R, R = 2 ^ r := ⟨_, rfl⟩
  rw [← hR] at hR2 ⊢
  have hqt : (t : Int) / (R : Int) = ((t / R : Nat) : Int) := by simp
  have htl : t < 18446744073709551616 := by rw [ht]; exact wdg_lt _ _
  obtain ⟨q, hq⟩ : ∃ q, q = t / R := ⟨_, rfl⟩
  rw [← hq] at hqt ⊢
  have ts : ((s : Int) == 0) = false := by rw [beq_eq_false_iff_ne]; omega
  have HO := Lib.hid ho
  have HW := Lib.hid hLw
  have HD := Lib.hid hd
  have HG := Lib.hid hget
  have HR := Lib.hid hR
  have Hr := Lib.hid hr
  clear ho hLw hd hN hl0 hget ht hR hq hr
  go_enter Tryd.func95, Tryd.ntmps95
  go_wp2
  go_loopw [8] (fun i wr => ∃ k : Nat, k ≤ L ∧ i = .int .i64 k ∧ LsRel N s (L + 1) B k w v wr) (fun i _ => (intOf i).toNat)
  case atStart => exact ⟨L, Nat.le_refl _, rfl, ws, HO.out, HW.out.symm, HD.out, fun j hj => by rw [if_neg (by omega)]; exact HG.out j, Below.refl _ _, Only.refl _ _⟩
  case round =>
    obtain ⟨k, hk, rfl, os, ho, hol, hod, hog, hbl, hon⟩ := hrel
    have hbk := ho.lt hcap
    have Hol := Lib.hid hol
    have Hod := Lib.hid hod
    have Hog := Lib.hid hog
    have HB' := Lib.hid hbl
    have HOn := Lib.hid hon
    have HOs := Lib.hid ho
    have fz := ho.frozen hcap
    clear hol hod hog hbl hon ho
    rcases Nat.eq_zero_or_pos k with hk0 | hk0
    · subst hk0
      have c0 := (HOs.out.rw' Hod.out).cell 0 (by rw [Hol.out]; omega)
      have g0 := Hog.out 0 (by omega)
      rw [if_neg (by omega)] at g0
      rw [g0, Nat.add_zero] at c0
      obtain ⟨d0, hd0⟩ : ∃ d, d = wdg N 0 := ⟨_, rfl⟩
      rw [← hd0] at c0
      have hm := wrapU d0 S
      obtain ⟨m, hmm⟩ : ∃ m, m = d0 * S % 18446744073709551616 := ⟨_, rfl⟩
      rw [← hmm] at hm
      have fz0 := fz (sOff v)
      have HM := Lib.hid (show m = wdg (N * 2 ^ s) 0 by rw [wdg_shl_zero _ (by omega), hmm, hd0, HS.out])
      have Fin := Lib.hid (LsRel.put hs hcap HOs.out Hol.out Hod.out Hog.out HB'.out HOn.out (Nat.succ_pos L) HM.out)
      clear fz g0 hd0 hmm
      go_wp2
      go_ret
      obtain ⟨os', f1, f2, f3, f4, f5, f6⟩ := Fin.out
      rw [Nat.add_zero] at f1 f5 f6
      have e := wdsN_of f2 (fun i hi => (f4 i hi).trans (if_pos (Nat.zero_le _)))
      rw [← e]
      exact ⟨rfl, f1, f5, f6⟩
    · obtain ⟨j, rfl⟩ : ∃ j, k = j + 1 := ⟨k - 1, by omega⟩
      have c1 := (HOs.out.rw' Hod.out).cell (j + 1) (by rw [Hol.out]; omega)
      have c0 := (HOs.out.rw' Hod.out).cell j (by rw [Hol.out]; omega)
      rw [Hog.out (j + 1) (by omega), if_neg (by omega)] at c1
      rw [Hog.out j (by omega), if_neg (by omega)] at c0
      obtain ⟨d1, hd1⟩ : ∃ d, d = wdg N (j + 1) := ⟨_, rfl⟩
      obtain ⟨d0, hd0⟩ : ∃ d, d = wdg N j := ⟨_, rfl⟩
      rw [← hd1] at c1
      rw [← hd0] at c0
      have hm := wrapU d1 S
      have hq0 : (d0 : Int) / (R : Int) = ((d0 / R : Nat) : Int) := by simp
      obtain ⟨m, hmm⟩ : ∃ m, m = d1 * S % 18446744073709551616 := ⟨_, rfl⟩
      obtain ⟨q0, hqq⟩ : ∃ q, q = d0 / R := ⟨_, rfl⟩
      rw [← hmm] at hm
      rw [← hqq] at hq0
      have hd0l : d0 < 18446744073709551616 := by rw [hd0]; exact wdg_lt _ _
      have hq0l : q0 < 2 ^ s := by
        rw [hqq, HR.out, Hr.out]
        refine Nat.div_lt_of_lt_mul ?_
        rw [word_split (by omega)]; exact hd0l
      have hor := bits_or_u64_nat m q0 (by rw [hmm]; exact Nat.mod_lt _ (by decide)) (by have := Nat.div_le_self d0 R; omega)
      have hy : m ||| q0 = wdg (N * 2 ^ s) (j + 1) := by
        rw [wdg_shl_succ _ _ hs, hmm, HS.out, shl_or hs hq0l, hqq, hd0, hd1, HR.out, Hr.out]
      rw [hy] at hor
      obtain ⟨y, hyy⟩ : ∃ y, y = wdg (N * 2 ^ s) (j + 1) := ⟨_, rfl⟩
      rw [← hyy] at hor
      have HY := Lib.hid hyy
      have fz1 := fz (sOff v + (j + 1))
      have hj1 : j + 1 < L + 1 := by omega
      clear fz hy hq0l hd0 hd1 hmm hqq hyy
      go_wp2
      (refine wp_region_hoist 16 (by kernel_rfl) (by kernel_rfl) ⟨fun _ _ _ h => (by first | exact (hQp _ _ _ h).elim | cases h.2.1 | (obtain ⟨_, h3, _⟩ := h.2; cases h3)), fun _ _ h => (by first | exact (hQo _ _ h).elim | cases h.1 | (obtain ⟨_, h3, _⟩ := h; cases h3))⟩ ?_; simp only [List.take_succ_cons, List.take_zero, List.drop_succ_cons, List.drop_zero]; (repeat (go_big_quiet_step (fail))); refine wpQuiet_nil ?_; rintro _ ⟨nq, rfl⟩)
      go_wp2
      refine ⟨⟨j, by omega, rfl, ?_⟩, by simp [intOf]⟩
      obtain ⟨os', f1, f2, f3, f4, f5, f6⟩ := LsRel.put (wr := wr.drewN nq) hs hcap (HOs.out.drewN nq) Hol.out Hod.out Hog.out (undrewN' HB'.out) (fun i hi hne => HOn.out i hi hne) hj1 HY.out
      exact ⟨os', f1, f2, f3, fun i hi => by rw [f4 i hi]; by_cases h : j < i; rw [if_pos h, if_pos (by omega)]; rw [if_neg h, if_neg (by omega)], f5, f6⟩
set_option maxRecDepth 100000 in
theorem lshVU_any (v : Value) (ws : List Nat) (N s B : Nat) (w : World) (ho : Own w B 59 v (cellsW ws)) (hd : ∀ d ∈ ws, d < 18446744073709551616) (hN : wv ws = N) (hl0 : 0 < ws.length) (hl : ws.length ≤ 1000000000) (hs0 : 0 < s) (hs : s < 64) :
    Calls Tryd.prog 90 #[v, v, .int .u64 s] w fun e w' => e = .returned (.int .u64 (wdg N (ws.length - 1) / 2 ^ (64 - s) : Nat)) ∧ Own w' B 59 v (cellsW (wdsN (N * 2 ^ s) ws.length)) ∧ Below B w w' ∧ Only (sBlk v) w w' := by
  have hS := ho.isS
  have HO := Lib.hid ho
  have HD := Lib.hid hd
  have HN := Lib.hid hN
  clear ho hd hN
  go_enter Tryd.func90, Tryd.ntmps90
  go_wp2_with fail
  refine (lshVU_g_any v ws N s B w HO.out HD.out HN.out hl0 hl hs0 hs).mono ?_
  rintro _ w1 ⟨rfl, h1, h2, h3⟩
  go_wp2
  go_ret
  exact ⟨rfl, h1, h2, h3⟩
end Go.Proofs.YtlapgbkngkejpaaDoor

/-
Floats: fnorm; a bit of words, and whether there is one below. No condition.
-/
namespace Go.Proofs.YtlapgbkngkejpaaDoor
open Go.RowKit

theorem ret_u64 {a b : Int} (h : a = b) : Ending.returned (.int .u64 a) = Ending.returned (.int .u64 b) := by rw [h]
/-- Whether there is a bit below. -/
def stV (n i : Nat) : Nat := if n % 2 ^ i = 0 then 0 else 1
theorem stV_zero {n i : Nat} (h : n % 2 ^ i = 0) : stV n i = 0 := if_pos h
theorem stV_one {n i : Nat} (h : n % 2 ^ i ≠ 0) : stV n i = 1 := if_neg h
theorem low_shl {d s : Nat} (hs : s < 64) : d * 2 ^ (64 - s) % 18446744073709551616 = 0 ↔ d % 2 ^ s = 0 := by
  have e := word_split (show s ≤ 64 by omega)
  have hR : 0 < 2 ^ (64 - s) := Nat.pow_pos (by decide)
  rw [← e, Nat.mul_comm (2 ^ (64 - s)), Nat.mul_mod_mul_right]
  constructor
  · intro h; exact (Nat.mul_eq_zero.1 h).resolve_right (by omega)
  · intro h; rw [h, Nat.zero_mul]
/-- Nothing is to be rounded: the words' bits fit, or all behind the precision are 0 and there is no word too many. -/
def Fits (ws : List Nat) (p : Nat) : Prop := 64 * ws.length ≤ p ∨ (p < 64 * ws.length ∧ wv ws % 2 ^ (64 * ws.length - p) = 0 ∧ ws.length = (p + 63) / 64)
end Go.Proofs.YtlapgbkngkejpaaDoor

/-
bits.Add; addVW in place. No condition.
-/
namespace Go.Proofs.YtlapgbkngkejpaaDoor
open Go.RowKit

theorem add64_0 (x y : Int) (hx : 0 ≤ x) (hy : 0 ≤ y) (w : World) : (callFunc 86 #[.int .u64 x, .int .u64 y, .int .u64 0]).run Tryd.prog w =
    .ok (.value (.tuple #[.int .u64 ((x + y) % 18446744073709551616), .int .u64 ((x + y) / 18446744073709551616)])) w := by
  rw [run_callFunc_extern Tryd.func86 (by kernel_rfl) (by kernel_rfl) (by kernel_rfl) (e := add64Entry) (by kernel_rfl), run_add64 x y 0 hx hy (by decide) (by decide)]
  simp [Result.andThen]
theorem add64 (x y c : Int) (hx : 0 ≤ x) (hy : 0 ≤ y) (hc0 : 0 ≤ c) (hc : c ≤ 1) (w : World) : (callFunc 86 #[.int .u64 x, .int .u64 y, .int .u64 c]).run Tryd.prog w =
    .ok (.value (.tuple #[.int .u64 ((x + y + c) % 18446744073709551616), .int .u64 ((x + y + c) / 18446744073709551616)])) w := by
  rw [run_callFunc_extern Tryd.func86 (by kernel_rfl) (by kernel_rfl) (by kernel_rfl) (e := add64Entry) (by kernel_rfl), run_add64 x y c hx hy hc0 hc]
  simp [Result.andThen]
set_option maxRecDepth 100000 in
theorem bitsAdd0 (x y s c : Nat) (w : World) (h : x + y = s + 18446744073709551616 * c) (hs : s < 18446744073709551616) :
    Calls Tryd.prog 78 #[.int .u64 x, .int .u64 y, .int .u64 0] w fun e w' => e = .returned (.tuple #[.int .u64 s, .int .u64 c]) ∧ w = w' := by
  have h1 : ((x : Int) + y) % 18446744073709551616 = s := by omega
  have h2 : ((x : Int) + y) / 18446744073709551616 = c := by omega
  have g1 : (0 : Int) ≤ x := by omega
  have g2 : (0 : Int) ≤ y := by omega
  clear h hs
  go_enter Tryd.func78, Tryd.ntmps78
  go_wp2_with (simp only [add64_0 x y g1 g2, h1, h2])
  go_ret2
  exact ⟨rfl, rfl⟩
theorem sizeWord : (Tryd.prog.info? 59).map (·.size) = some 1 := by kernel_rfl
theorem neqW_same (w : World) (a : Addr) : (binOp .neq 101 (.pointer (some a)) (.pointer (some a))).run Tryd.prog w = .ok (.bool false) w := by
  obtain ⟨j, hj, hz⟩ := info_size sizeWord
  exact Lib.run_neq_ptr_same w a Tryd.underlying101 hj
theorem wset {ws : List Nat} {i : Nat} (hi : i < ws.length) (d : Nat) : wv (ws.set i d) + 18446744073709551616 ^ i * ws.getD i 0 = wv ws + 18446744073709551616 ^ i * d := wv_set hi d
theorem set_lt {ws : List Nat} (h : ∀ d ∈ ws, d < 18446744073709551616) {i d : Nat} (hd : d < 18446744073709551616) : ∀ x ∈ ws.set i d, x < 18446744073709551616 := by
  intro x hx
  rcases List.mem_or_eq_of_mem_set hx with h1 | h1
  · exact h x h1
  · rw [h1]; exact hd
theorem getD_setW (os : List Nat) (i j d : Nat) (hi : i < os.length) : (os.set i d).getD j 0 = if i = j then d else os.getD j 0 := by
  simp only [List.getD_eq_getElem?_getD, List.getElem?_set]
  split
  · rename_i h; subst h; simp
  · rfl
/-- addVW's loop: behind k words the carry is 1. -/
def AvRel (S : Nat) (ws : List Nat) (B k : Nat) (w : World) (v : Value) (wr : World) : Prop :=
  ∃ os : List Nat, Own wr B 59 v (cellsW os) ∧ os.length = ws.length ∧ (∀ d ∈ os, d < 18446744073709551616) ∧ (∀ j, k ≤ j → os.getD j 0 = ws.getD j 0) ∧ wv os + 18446744073709551616 ^ k = S ∧ Below B w wr ∧ Only (sBlk v) w wr
theorem AvRel.put {S : Nat} {ws : List Nat} {B k e : Nat} {w wr : World} {v : Value} (h : AvRel S ws B k w v wr) (hk : k < ws.length) (he : e < 18446744073709551616) :
    ∃ os : List Nat, Own (wr.setCell ⟨sBlk v, sOff v + k, none⟩ (.int .u64 (e : Int))) B 59 v (cellsW os) ∧ os.length = ws.length ∧ (∀ d ∈ os, d < 18446744073709551616) ∧ (∀ j, k + 1 ≤ j → os.getD j 0 = ws.getD j 0) ∧
      wv os + 18446744073709551616 ^ k * (1 + ws.getD k 0) = S + 18446744073709551616 ^ k * e ∧ Below B w (wr.setCell ⟨sBlk v, sOff v + k, none⟩ (.int .u64 (e : Int))) ∧ Only (sBlk v) w (wr.setCell ⟨sBlk v, sOff v + k, none⟩ (.int .u64 (e : Int))) := by
  obtain ⟨os, h1, h2, h3, h4, h5, h6, h7⟩ := h
  have hcap : 0 < sCap v := by have := h1.isS.le; have := h1.len; rw [cellsW_length] at this; omega
  have ho := h1.set (i := k) (by rw [cellsW_length]; omega) (.int .u64 (e : Int))
  rw [cellsW_set] at ho
  refine ⟨os.set k e, ho, by simpa using h2, set_lt h3 he, fun j hj => by rw [getD_setW _ _ _ _ (by omega), if_neg (by omega)]; exact h4 j (by omega), ?_, bset h6 (h1.lt hcap).1, fun b hb hne => ?_⟩
  · have := wset (ws := os) (i := k) (by omega) e
    rw [h4 k (Nat.le_refl _)] at this
    rw [Nat.mul_add, Nat.mul_one]; omega
  · rw [heap_setCell_other _ _ _ _ (by simpa using fun h : b = sBlk v => hne h)]; exact h7 b hb hne
set_option maxRecDepth 100000 in
set_option maxHeartbeats 1600000 in
theorem addVW_any (v : Value) (ws : List Nat) (y B : Nat) (w : World) (ho : Own w B 59 v (cellsW ws)) (hd : ∀ d ∈ ws, d < 18446744073709551616) (hl0 : 0 < ws.length) (hl : ws.length ≤ 1000000000) (hy : y < 18446744073709551616) :
    Calls Tryd.prog 70 #[v, v, .int .u64 y] w fun e w' => ∃ c : Nat, e = .returned (.int .u64 c) ∧ ∃ os : List Nat, Own w' B 59 v (cellsW os) ∧ os.length = ws.length ∧ (∀ d ∈ os, d < 18446744073709551616) ∧ wv os + 18446744073709551616 ^ ws.length * c = wv ws + y ∧ Below B w w' ∧ Only (sBlk v) w w' := by
  have hS := ho.isS
  have hL : sLen v = ws.length := by rw [ho.len, cellsW_length]
  have hcap : 0 < sCap v := by have := hS.le; omega
  have hB := (ho.lt hcap).1
  have c0 := (ho.rw' hd).cell 0 (by omega)
  rw [Nat.add_zero] at c0
  have f0 := ho.frozen hcap (sOff v)
  have hd0 := getD_ltW hd 0
  obtain ⟨d0, hdd⟩ : ∃ d, d = ws.getD 0 0 := ⟨_, rfl⟩
  rw [← hdd] at c0 hd0
  obtain ⟨L, hLL⟩ : ∃ L, L = ws.length := ⟨_, rfl⟩
  rw [← hLL] at hL hl0 hl
  obtain ⟨c, s, hcs, hs, hc1⟩ : ∃ c s, d0 + y = s + 18446744073709551616 * c ∧ s < 18446744073709551616 ∧ c ≤ 1 := ⟨(d0 + y) / 18446744073709551616, (d0 + y) % 18446744073709551616, by omega, by omega, by omega⟩
  have O1 := ho.set (i := 0) (by rw [cellsW_length]; omega) (.int .u64 (s : Int))
  rw [cellsW_set, Nat.add_zero] at O1
  have B1 := bset (i := sOff v) (u := .int .u64 (s : Int)) (Below.refl B w) hB
  have hw := wset (ws := ws) (i := 0) (by omega) s
  rw [← hdd, Nat.pow_zero, Nat.one_mul, Nat.one_mul] at hw
  have t0 : ((L : Int) == 0) = false := by rw [beq_eq_false_iff_ne]; omega
  have N1 : Only (sBlk v) w (w.setCell ⟨sBlk v, sOff v, none⟩ (.int .u64 (s : Int))) := fun b hb hne => heap_setCell_other _ _ _ _ (by simpa using fun h : b = sBlk v => hne h)
  have HL := Lib.hid hLL
  have HD := Lib.hid hd
  have Hdd := Lib.hid hdd
  have HCS := Lib.hid hcs
  have HW := Lib.hid hw
  have HO1 := Lib.hid O1
  have HB1 := Lib.hid B1
  have HN1 := Lib.hid N1
  have hneq := neqW_same
  clear ho hd hLL hdd hw O1 B1 N1
  rcases (by omega : c = 0 ∨ c = 1) with rfl | rfl
  · go_enter Tryd.func70, Tryd.ntmps70
    go_wp2_with fail
    refine (bitsAdd0 d0 y s 0 w HCS.out hs).mono ?_
    rintro _ _ ⟨rfl, rfl⟩
    go_wp2_with fail
    go_quiet (fail)
    go_wp2
    go_ret
    refine ⟨0, rfl, _, HO1.out.drewN _, by simp, set_lt HD.out hs, ?_, undrewN' HB1.out, HN1.out⟩
    have := HW.out; have := HCS.out; omega
  · have HR1 : Hid (AvRel (wv ws + y) ws B 1 w v (w.setCell ⟨sBlk v, sOff v, none⟩ (.int .u64 (s : Int)))) := Lib.hid
      ⟨_, HO1.out, by simp, set_lt HD.out hs, fun j hj => by rw [getD_setW _ _ _ _ (by have := HL.out; omega), if_neg (by omega)], by have := HW.out; have := HCS.out; rw [Nat.pow_one]; omega, HB1.out, HN1.out⟩
    go_enter Tryd.func70, Tryd.ntmps70
    go_wp2_with fail
    refine (bitsAdd0 d0 y s 1 w HCS.out hs).mono ?_
    rintro _ _ ⟨rfl, rfl⟩
    go_wp2
    go_loopw [9] (fun i wr => ∃ k : Nat, 1 ≤ k ∧ k ≤ L ∧ i = .int .i64 k ∧ AvRel (wv ws + y) ws B k w v wr) (fun i _ => L - (intOf i).toNat)
    case atStart => exact ⟨1, Nat.le_refl _, hl0, rfl, HR1.out⟩
    case round =>
      obtain ⟨k, hk1, hk, rfl, hrel⟩ := hrel
      have HREL := Lib.hid hrel
      obtain ⟨os, h1, h2, h3, h4, h5, h6, h7⟩ := hrel
      have HOs := Lib.hid h1
      have fz := h1.frozen hcap (sOff v + k)
      rcases Nat.lt_or_ge k L with hkL | hkL
      · have c1 := (h1.rw' h3).cell k (by rw [h2, ← HL.out]; exact hkL)
        rw [h4 k (Nat.le_refl _)] at c1
        have hdk := getD_ltW HD.out k
        obtain ⟨d, hd⟩ : ∃ d, d = ws.getD k 0 := ⟨_, rfl⟩
        rw [← hd] at c1 hdk
        have HDk := Lib.hid hd
        clear hd h1 h2 h3 h4 h5 h6 h7
        by_cases hmx : d = 18446744073709551615
        · have PUT := Lib.hid (HREL.out.put (e := 0) (by rw [← HL.out]; exact hkL) (by decide))
          subst hmx
          go_wp2
          refine ⟨⟨k + 1, by omega, by omega, by simp, ?_⟩, by simp [intOf]; omega⟩
          obtain ⟨os', g1, g2, g3, g4, g5, g6, g7⟩ := PUT.out
          refine ⟨os', g1, g2, g3, g4, ?_, g6, g7⟩
          have hp := Nat.pow_succ (n := 18446744073709551616) (m := k)
          rw [← HDk.out] at g5
          omega
        · obtain ⟨d1, hd1⟩ : ∃ d1, d1 = d + 1 := ⟨_, rfl⟩
          have hwr : IntKind.u64.wrap ((d : Int) + 1) = (d1 : Int) := by rw [IntKind.wrap_u64, hd1]; omega
          have PUT := Lib.hid (HREL.out.put (e := d1) (by rw [← HL.out]; exact hkL) (by omega))
          have HD1 := Lib.hid hd1
          have tm : ((d : Int) != 18446744073709551615) = true := by rw [bne_iff_ne]; omega
          clear hmx hd1
          go_wp2_with fail
          go_quiet (fail)
          go_wp2
          go_ret
          obtain ⟨os', g1, g2, g3, g4, g5, g6, g7⟩ := PUT.out
          rw [← HDk.out] at g5
          refine ⟨0, rfl, os', g1.drewN _, g2, g3, ?_, undrewN' g6, g7⟩
          rw [Nat.mul_comm] at g5
          rw [Nat.mul_comm (18446744073709551616 ^ k)] at g5
          have : (1 + d) * 18446744073709551616 ^ k = d1 * 18446744073709551616 ^ k := by rw [HD1.out, Nat.add_comm]
          omega
      · have hkk : k = L := by omega
        subst hkk
        clear fz
        go_wp2
        go_ret
        refine ⟨1, rfl, os, h1, h2, h3, ?_, h6, h7⟩
        rw [← HL.out, Nat.mul_one]; exact h5
end Go.Proofs.YtlapgbkngkejpaaDoor
