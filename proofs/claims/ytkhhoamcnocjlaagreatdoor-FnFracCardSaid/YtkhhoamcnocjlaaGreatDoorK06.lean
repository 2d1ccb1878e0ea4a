/-
Texts of this proof, joined: InH InI InJ InK InL RcE NgA RnA FlA Shelf BiA FlI. No condition.
-/
import Derived.Test.YtkhhoamcnocjlaaGreatDoorK02
import Derived.Test.YtkhhoamcnocjlaaGreatDoorK03
import Derived.Test.YtkhhoamcnocjlaaGreatDoorK04
import Derived.Test.YtkhhoamcnocjlaaGreatDoorK05
import Derived.Shelf.Small.Bits
import Derived.Shelf.Strconv.Itoa0
import Derived.Shelf.Bits.Mul64
import Derived.Test.YtkhhoamcnocjlaaGreatDoorProg
import Derived.Lib.BitFns
/-
The thin package's fractions: rat, fraction. No condition.
-/
namespace Go.Proofs.YtkhhoamcnocjlaaGreatDoor
open Go.RowKit

theorem RW.belowB {w w' : World} {v : Value} {ds : List Nat} {B : Nat} (h : RW w v ds) (hb : Below B w w') (hlt : 0 < ds.length → sBlk v < B) : RW w' v ds := ⟨h.ri.belowB hb (by rw [ints_length]; exact hlt), h.lt⟩
set_option maxRecDepth 100000 in
set_option maxHeartbeats 800000 in
theorem rat_any (b : Bool) (v1 v2 : Value) (ns ds : List Nat) (w : World) (h1 : RW w v1 ns) (h2 : RW w v2 ds) (hl1 : ns.length ≤ 100000) (hl2 : ds.length ≤ 100000) :
    Calls Tryz.prog 56 #[.agg #[.bool b, v1, v2]] w fun e w' => ∃ g, e = .returned (.pointer (some ⟨g, 0, none⟩)) ∧ RatP w' w.heap.size g (b && decide (0 < wv ns)) (wv ns) (wv ds) ∧ Below w.heap.size w w' := by
  have hS1 := h1.isS
  have hS2 := h2.isS
  have hL2 := h2.len
  obtain ⟨la, hla⟩ : ∃ la, la = ds.length := ⟨_, rfl⟩
  rw [← hla] at hL2 hl2
  have Hla := Lib.hid hla
  have H1 := Lib.hid h1
  have H2 := Lib.hid h2
  clear h1 h2 hla
  have hab := (Below.refl w.heap.size w).alloc (Nat.le_refl _) (.cells #[.bool b, v1, v2] 51)
  obtain ⟨W, hW⟩ : ∃ W, W = w.alloc (.cells #[.bool b, v1, v2] 51) := ⟨_, rfl⟩
  have hrow : W.heap[w.heap.size]? = some (.cells #[.bool b, v1, v2] 51 (0, 0)) := by rw [hW]; exact box_row (Below.refl _ _)
  rw [← hW] at hab
  have hWs : w.heap.size ≤ W.heap.size := hab.size
  have hx : W.cell? ⟨w.heap.size, 0, none⟩ = some (.bool b) := (row_at (i := 0) hrow rfl).1
  have hy : W.cell? ⟨w.heap.size, 1, none⟩ = some v1 := (row_at (i := 1) hrow rfl).1
  have hWlt : w.heap.size < W.heap.size := (heap_alloc_lt (o := .cells #[] 0) hrow).2
  have ha1 := (Below.refl W.heap.size W).alloc (Nat.le_refl _) (.cells #[.bool false, .slice none 0 0, .bool false, .slice none 0 0] 98)
  have hrow1 := box_row (Below.refl _ (W.alloc (.cells #[.bool false, .slice none 0 0, .bool false, .slice none 0 0] 98)))
  have HR := Lib.hid hrow
  have R1 := Lib.hid (H1.out.below hab)
  have R2 := Lib.hid (H2.out.below hab)
  clear hrow
  go_enter Tryz.func56, Tryz.ntmps56
  go_upto_region 1 with fail
  rw [← hW]
  clear hW
  have HR1 := Lib.hid hrow1
  clear hrow1
  go_wp2_with fail
  refine (of_any b v1 ns _ (R1.out.below ha1) (by omega)).mono ?_
  rintro _ w1 ⟨c, rfl, hI, hb1⟩
  have hIW := hI.mono (show W.heap.size ≤ (W.alloc (.cells #[.bool false, .slice none 0 0, .bool false, .slice none 0 0] 98)).heap.size from ha1.size)
  have hr1 := keep_row hb1 HR1.out
  have hcb : W.heap.size ≠ c := by
    obtain ⟨_, hc, _, _⟩ := hI
    have : W.heap.size < (W.alloc (.cells #[.bool false, .slice none 0 0, .bool false, .slice none 0 0] 98)).heap.size := by simp
    omega
  have hnn : nw (wv ns) ≤ 100000000 := Nat.le_trans (nw_le (wv_lt R1.out.lt)) (by omega)
  have HI := Lib.hid hIW
  have HB1 := Lib.hid (bthen ha1 hb1)
  have Hr1 := Lib.hid hr1
  clear hI hIW hb1 hr1
  go_wp2_with fail
  refine (ratSetInt W.heap.size c W.heap.size _ _ w1 Hr1.out HI.out hcb hnn (Nat.le_refl _)).mono ?_
  rintro _ w2 ⟨rfl, hR2, hb2⟩
  have HR2 := Lib.hid hR2
  have HB2 := Lib.hid (HB1.out.trans hb2)
  clear hR2 hb2
  have hy2 : w2.cell? ⟨w.heap.size, 2, none⟩ = some v2 := (row_at (i := 2) (keep_row HB2.out HR.out) rfl).1
  go_wp2
  have hR2d := Lib.hid (R2.out.belowB HB2.out (fun h => by have := R2.out.ri.lt (by rw [ints_length]; exact h); omega))
  go_loopw [4, 15] (fun v i wr => ∃ k : Nat, k ≤ la ∧ i = .int .i64 k ∧ OfW ds w2.heap.size k w2 v wr) (fun _ i _ => la - (intOf i).toNat)
  case atStart => exact ⟨0, Nat.zero_le _, rfl, Own.nil _ _ _, Below.refl _ _⟩
  case round =>
    obtain ⟨i, hi, rfl, hO, hbl⟩ := hrel
    have hbz := hbl.size
    have hSo : IsS u4 := hO.isS
    have HO := Lib.hid hO
    clear hO hy2 hx hy
    by_cases hia : i < la
    · have ca := (hR2d.out.below hbl).cell i (by rw [← Hla.out]; exact hia)
      obtain ⟨d, hd⟩ : ∃ d, d = ds.getD i 0 := ⟨_, rfl⟩
      rw [← hd] at ca
      have Hd := Lib.hid hd
      clear hd
      have hlk : (cellsW (ds.take i)).length = i := by rw [cellsW_length]; have := Hla.out; simp; omega
      have Hlk := Lib.hid hlk
      clear hlk
      go_wp2_with (at_builtin; refine wpList_append_O rfl _ _ _ _ rfl elemW w2.heap.size _ _ rfl (HO.out.alloc _) _ rfl 1 [.int .u64 (d : Int)] (srcOne Tryz.underlying93 wr _ _) ?c3 ?c4 ?c5 ?_)
      case c3 => rw [Hlk.out]; unfold maxLen; omega
      case c4 => rw [Hlk.out]; omega
      case c5 => simp; omega
      rintro v1 w1 ho1 hb1 - - -
      have hs := OfW.step (by rw [← Hla.out]; exact hia) (by rw [← Hd.out]; exact ho1) ((hbl.alloc hbz _).trans hb1)
      have Hs := Lib.hid hs
      clear hs ho1
      go_wp2
      go_roundw
      case rel => exact ⟨i + 1, by omega, by go_num, Hs.out⟩
      case measure => simp [intOf]; omega
    · have hil : i = la := by omega
      subst hil
      have hfull : ds.take i = ds := List.take_of_length_le (by rw [Hla.out]; exact Nat.le_refl _)
      have ho := HO.out
      rw [hfull] at ho
      have Ho := Lib.hid ho
      have Hrw := Lib.hid (ho.rw' R2.out.lt)
      obtain ⟨a1, a2, hA, hrow, hoA, hoB⟩ := HR2.out.below hbl
      have hSa := hoB.isS
      have hLa : 0 < sLen a2 := by rw [hoB.len, cellsW_length, wds_one]; decide
      have k3 := row_at (i := 3) hrow rfl
      have k2 := row_at (i := 2) hrow rfl
      have HRow := Lib.hid hrow
      have HA := Lib.hid hoA
      clear hfull ho hrow hoA hoB
      go_wp2_with fail
      refine (ratDenom W.heap.size a2 wr k3.1 hSa hLa).mono ?_
      rintro _ _ ⟨rfl, rfl⟩
      go_wp2_with fail
      refine (intSetBits W.heap.size 2 (.bool false) a2 u4 ds wr k2 k3 Hrw.out (by rw [← Hla.out]; omega)).mono ?_
      rintro _ w3 ⟨rfl, hw3⟩
      have q1 := rowset (i := 2 + 1) (subS u4 0 (nw (wv ds))) HRow.out
      have q2 := rowset (i := 2) (.bool false) q1
      have hgs : W.heap.size ≤ w2.heap.size := HB2.out.size
      have o1 := (HA.out.away HRow.out (by decide) (2 + 1) (subS u4 0 (nw (wv ds)))).away q1 (by decide) 2 (.bool false)
      have o2 := (((Ho.out.takeW R2.out.lt).away HRow.out (by decide) (2 + 1) (subS u4 0 (nw (wv ds)))).away q1 (by decide) 2 (.bool false)).mono hgs
      have bb := bset (i := 2) (u := .bool false) (bset (i := 2 + 1) (u := subS u4 0 (nw (wv ds))) (HB2.out.trans (hbl.mono hgs)) (Nat.le_refl _)) (Nat.le_refl _)
      have bW := hab.trans (bb.mono hWs)
      have fin : RatP w3 w.heap.size W.heap.size (b && decide (0 < wv ns)) (wv ns) (wv ds) := by
        rw [hw3]
        exact ⟨a1, _, hWs, q2, o1.mono hWs, o2.mono hWs⟩
      rw [← hw3] at bW
      have F := Lib.hid fin
      have BW := Lib.hid bW
      clear hw3 q1 q2 o1 o2 bb fin bW k2 k3
      go_wp2
      go_ret
      exact ⟨W.heap.size, rfl, F.out, BW.out⟩
end Go.Proofs.YtkhhoamcnocjlaaGreatDoor

/-
The thin package's fractions: fraction. No condition.
-/
namespace Go.Proofs.YtkhhoamcnocjlaaGreatDoor
open Go.RowKit

set_option maxRecDepth 100000 in
set_option maxHeartbeats 800000 in
theorem frac_any (b B : Nat) (neg : Bool) (n d : Nat) (w : World) (h : RatP w B b neg n d) (hd : 0 < d) (hl1 : nw n ≤ 100000000) (hl2 : nw d ≤ 100000000) :
    Calls Tryz.prog 54 #[.pointer (some ⟨b, 0, none⟩)] w fun e w' => ∃ r1 r2, e = .returned (.agg #[.bool (neg && decide (0 < n)), r1, r2]) ∧ RW w' r1 (wds n) ∧ RW w' r2 (wds d) ∧ Below w.heap.size w w' := by
  have hab := (Below.refl w.heap.size w).alloc (Nat.le_refl _) (.cells #[.bool false, .slice none 0 0, .slice none 0 0] 51)
  have hrow0 := box_row (Below.refl _ (w.alloc (.cells #[.bool false, .slice none 0 0, .slice none 0 0] 51)))
  obtain ⟨W, hW⟩ : ∃ W, W = w.alloc (.cells #[.bool false, .slice none 0 0, .slice none 0 0] 51) := ⟨_, rfl⟩
  rw [← hW] at hab hrow0
  obtain ⟨v1, v2, hB, hr, ho1, ho2⟩ := h
  have hr' := keep_row hab hr
  have k0 := (row_at (i := 0) hr' rfl).1
  have k1 := (row_at (i := 1) hr' rfl).1
  have R1 := Lib.hid ((ho1.rw' (wds_all n)).below hab)
  have R2 := Lib.hid ((ho2.rw' (wds_all d)).below hab)
  have hS1 := ho1.isS
  have hS2 := ho2.isS
  have hL2 : 0 < sLen v2 := by rw [ho2.len, cellsW_length, wds_length]; exact nw_pos hd
  have HR := Lib.hid hr'
  have H0 := Lib.hid hrow0
  have hWs := hab.size
  obtain ⟨x, hx⟩ : ∃ x, x = (neg && decide (0 < n)) := ⟨_, rfl⟩
  rw [← hx]
  have HX := Lib.hid hx
  clear hr hr' hrow0 ho1 ho2 hx
  go_enter Tryz.func54, Tryz.ntmps54
  go_upto_region 1 with fail
  rw [← hW]
  clear hW
  go_wp2_with fail
  refine (ratNum b W).mono ?_
  rintro _ _ ⟨rfl, rfl⟩
  go_wp2_with fail
  refine (told_any b 0 neg v1 n W k0 k1 R1.out hl1).mono ?_
  rintro _ w1 ⟨r1, rfl, hq1, hb1⟩
  rw [← HX.out]
  have hSr1 := hq1.isS
  have k3 := (row_at (i := 3) (keep_row hb1 HR.out) rfl).1
  have HB1 := Lib.hid hb1
  have HQ1 := Lib.hid hq1
  clear hb1 hq1 k0 k1
  go_wp2_with fail
  refine (ratDenom b v2 w1 k3 hS2 hL2).mono ?_
  rintro _ _ ⟨rfl, rfl⟩
  go_wp2_with fail
  refine (wordsOf_any b 2 v2 (wds d) w1 k3 (R2.out.below HB1.out) (by rw [wds_length]; exact hl2)).mono ?_
  rintro _ w2 ⟨r2, rfl, hq2, hb2⟩
  have hSr2 := hq2.isS
  have hb12 := bthen HB1.out hb2
  have hrow2 := keep_row hb12 H0.out
  have k0 := row_at (i := 0) hrow2 rfl
  have k1 := row_at (i := 1) hrow2 rfl
  have k2 := row_at (i := 2) hrow2 rfl
  obtain ⟨k00, k01⟩ := k0
  obtain ⟨k10, k11⟩ := k1
  obtain ⟨k20, k21⟩ := k2
  have p1 := rowset (i := 0) (.bool x) hrow2
  have p2 := rowset (i := 1) r1 p1
  have p3 := rowset (i := 2) r2 p2
  have e0 := (row_at (i := 0) p3 rfl).1
  have e1 := (row_at (i := 1) p3 rfl).1
  have e2 := (row_at (i := 2) p3 rfl).1
  have a1 := (((HQ1.out.below hb2).away hrow2 (by decide) 0 (.bool x)).away p1 (by decide) 1 r1).away p2 (by decide) 2 r2
  have a2 := ((hq2.away hrow2 (by decide) 0 (.bool x)).away p1 (by decide) 1 r1).away p2 (by decide) 2 r2
  have b1 := bset (i := 2) (u := r2) (bset (i := 1) (u := r1) (bset (i := 0) (u := .bool x) (hab.trans (hb12.mono hWs)) (Nat.le_refl _)) (Nat.le_refl _)) (Nat.le_refl _)
  have A1 := Lib.hid (a1.rw' (wds_all n))
  have A2 := Lib.hid (a2.rw' (wds_all d))
  have B1 := Lib.hid b1
  clear hq2 hb2 hb12 hrow2 p1 p2 p3 a1 a2 b1 k3
  go_wp2
  refine bodyPost_ret (v := .agg #[.bool x, r1, r2]) ?_ rfl ⟨r1, r2, rfl, A1.out, A2.out, B1.out⟩
  simp [results, Tryz.results54, go_sem, e0, e1, e2]
end Go.Proofs.YtkhhoamcnocjlaaGreatDoor

/-
The package's numbers: cmp. No condition.
-/
namespace Go.Proofs.YtkhhoamcnocjlaaGreatDoor
open Go.RowKit

theorem wdiv_step (n i : Nat) : n / 18446744073709551616 ^ i = 18446744073709551616 * (n / 18446744073709551616 ^ (i + 1)) + wdg n i := by
  unfold wdg
  rw [Nat.pow_succ, ← Nat.div_div_eq_div_mul]
  omega
theorem lt_of_nw {x y : Nat} (h : nw x < nw y) : x < y := by
  refine Nat.lt_of_not_le fun hc => ?_
  have := nw_mono hc
  omega
theorem lt_of_wdg {x y i : Nat} (he : x / 18446744073709551616 ^ (i + 1) = y / 18446744073709551616 ^ (i + 1)) (h : wdg x i < wdg y i) : x < y := by
  have h1 := wdiv_step x i
  have h2 := wdiv_step y i
  refine Nat.lt_of_not_le fun hc => ?_
  have := Nat.div_le_div_right (c := 18446744073709551616 ^ i) hc
  omega
set_option maxRecDepth 100000 in
set_option maxHeartbeats 800000 in
theorem cmp_any (a b : Value) (x y : Nat) (w : World) (ha : RW w a (wds x)) (hb : RW w b (wds y)) (hx : nw x ≤ 1000000000) (hy : nw y ≤ 1000000000) :
    Calls Tryz.prog 137 #[a, b] w fun e w' => e = .returned (.int .i64 (cmpN x y)) ∧ ∃ n, w' = w.drewN n := by
  have hSa := ha.isS
  have hSb := hb.isS
  have hLa := ha.len
  have hLb := hb.len
  rw [wds_length] at hLa hLb
  obtain ⟨la, hla⟩ : ∃ la, la = nw x := ⟨_, rfl⟩
  obtain ⟨lb, hlb⟩ : ∃ lb, lb = nw y := ⟨_, rfl⟩
  rw [← hla] at hLa hx
  rw [← hlb] at hLb hy
  have Hla := Lib.hid hla
  have Hlb := Lib.hid hlb
  have Ha := Lib.hid ha
  have Hb := Lib.hid hb
  clear hla hlb ha hb
  by_cases h1 : la < lb
  · have t1 : decide (la < lb) = true := by rw [decide_eq_true_iff]; exact h1
    have t2 : ((la : Int) == lb) = false := by rw [beq_eq_false_iff_ne]; omega
    go_enter Tryz.func137, Tryz.ntmps137
    go_wp2
    go_ret
    exact ⟨ret_int (cmpN_lt (lt_of_nw (by rw [← Hla.out, ← Hlb.out]; exact h1))).symm, 0, rfl⟩
  · have t1 : decide (la < lb) = false := by rw [decide_eq_false_iff_not]; exact h1
    by_cases h2 : lb < la
    · have t2 : decide (lb < la) = true := by rw [decide_eq_true_iff]; exact h2
      have t3 : ((la : Int) == lb) = false := by rw [beq_eq_false_iff_ne]; omega
      go_enter Tryz.func137, Tryz.ntmps137
      go_wp2
      go_ret
      exact ⟨ret_int (cmpN_gt (lt_of_nw (by rw [← Hla.out, ← Hlb.out]; exact h2))).symm, 0, rfl⟩
    · have t2 : decide (lb < la) = false := by rw [decide_eq_false_iff_not]; exact h2
      obtain rfl : la = lb := by omega
      clear h1 h2 t1 t2
      by_cases h0 : la = 0
      · have hxy : x = y := by
          have e1 := nw_eq_zero.1 (Hla.out.symm.trans h0)
          have e2 := nw_eq_zero.1 (Hlb.out.symm.trans h0)
          rw [e1, e2]
        have HXY := Lib.hid hxy
        subst h0
        clear hxy
        go_enter Tryz.func137, Tryz.ntmps137
        go_wp2
        go_ret
        exact ⟨ret_int (by rw [HXY.out, cmpN_eq]), 0, rfl⟩
      · have t0 : ((la : Int) == 0) = false := by rw [beq_eq_false_iff_ne]; omega
        have hpos : 1 ≤ la := by omega
        have H0 := Lib.hid h0
        clear h0
        go_enter Tryz.func137, Tryz.ntmps137
        go_wp2
        go_loopw [7] (fun i wr => ∃ k : Nat, k + 1 ≤ la ∧ i = .int .i64 (k : Int) ∧ x / 18446744073709551616 ^ (k + 1) = y / 18446744073709551616 ^ (k + 1) ∧ ∃ n, wr = w.drewN n) (fun i _ => (intOf i).toNat)
        case atStart =>
          refine ⟨la - 1, by omega, by go_num, ?_, 0, rfl⟩
          have e1 := lt_nw x
          have e2 := lt_nw y
          rw [← Hla.out] at e1
          rw [← Hlb.out] at e2
          rw [show la - 1 + 1 = la by omega, Nat.div_eq_of_lt e1, Nat.div_eq_of_lt e2]
        case round =>
          obtain ⟨k, hk, rfl, hv, nn, rfl⟩ := hrel
          have Hv := Lib.hid hv
          clear hv
          have ca := Ha.out.cell k (by rw [wds_length, ← Hla.out]; omega)
          have cb := Hb.out.cell k (by rw [wds_length, ← Hlb.out]; omega)
          rw [wds_getD] at ca cb
          obtain ⟨p, hp⟩ : ∃ p, p = wdg x k := ⟨_, rfl⟩
          obtain ⟨q, hq⟩ : ∃ q, q = wdg y k := ⟨_, rfl⟩
          rw [← hp] at ca
          rw [← hq] at cb
          have Hp := Lib.hid hp
          have Hq := Lib.hid hq
          clear hp hq
          have hkn : k < la := by omega
          by_cases h3 : p < q
          · have t3 : decide (p < q) = true := by rw [decide_eq_true_iff]; exact h3
            have t4 : ((p : Int) == q) = false := by rw [beq_eq_false_iff_ne]; omega
            have hk0 : decide (0 < k) = true ∨ decide (0 < k) = false := by cases decide (0 < k) <;> simp
            rcases hk0 with hk0 | hk0
            all_goals
              go_wp2
              go_quiet (fail)
              go_wp2
              go_quiet (fail)
              go_wp2
              go_ret
              exact ⟨ret_int (cmpN_lt (lt_of_wdg Hv.out (by rw [← Hp.out, ← Hq.out]; exact h3))).symm, by simp only [World.drewN_drewN]; exact ⟨_, rfl⟩⟩
          · have t3 : decide (p < q) = false := by rw [decide_eq_false_iff_not]; exact h3
            by_cases h4 : q < p
            · have t4 : ((p : Int) == q) = false := by rw [beq_eq_false_iff_ne]; omega
              have t5 : decide (q < p) = true := by rw [decide_eq_true_iff]; exact h4
              have hk0 : decide (0 < k) = true ∨ decide (0 < k) = false := by cases decide (0 < k) <;> simp
              rcases hk0 with hk0 | hk0
              all_goals
                go_wp2
                go_quiet (fail)
                go_wp2
                go_quiet (fail)
                go_wp2
                go_quiet (fail)
                go_wp2
                go_ret
                exact ⟨ret_int (cmpN_gt (lt_of_wdg Hv.out.symm (by rw [← Hp.out, ← Hq.out]; exact h4))).symm, by simp only [World.drewN_drewN]; exact ⟨_, rfl⟩⟩
            · have t4 : ((p : Int) == q) = true := by rw [beq_iff_eq]; omega
              have t5 : decide (q < p) = false := by rw [decide_eq_false_iff_not]; exact h4
              have hpq : p = q := by omega
              have e1 := wdiv_step x k
              have e2 := wdiv_step y k
              rw [← Hp.out] at e1
              rw [← Hq.out] at e2
              have e3 : x / 18446744073709551616 ^ k = y / 18446744073709551616 ^ k := by rw [e1, e2, Hv.out, hpq]
              have E3 := Lib.hid e3
              have HPQ := Lib.hid hpq
              clear e1 e2 e3 hpq h3 h4
              by_cases hk0 : 0 < k
              · have t6 : decide (0 < k) = true := decide_eq_true hk0
                go_wp2
                go_quiet (fail)
                go_wp2
                refine ⟨⟨k - 1, by omega, by go_num, ?_, by first | exact ⟨_, rfl⟩ | (simp only [World.drewN_drewN]; exact ⟨_, rfl⟩)⟩, by simp [intOf]; omega⟩
                rw [show k - 1 + 1 = k by omega]; exact E3.out
              · have t6 : decide (0 < k) = false := decide_eq_false hk0
                obtain rfl : k = 0 := by omega
                rw [Nat.add_zero] at ca cb
                go_wp2
                go_quiet (fail)
                go_wp2
                go_quiet (fail)
                go_wp2
                go_quiet (fail)
                go_wp2
                go_ret
                refine ⟨ret_int ?_, by simp only [World.drewN_drewN]; exact ⟨_, rfl⟩⟩
                have := E3.out
                rw [Nat.pow_zero, Nat.div_one, Nat.div_one] at this
                rw [this, cmpN_eq]
end Go.Proofs.YtkhhoamcnocjlaaGreatDoor

/-
The package's fractions: Sign, IsInt. No condition.
-/
namespace Go.Proofs.YtkhhoamcnocjlaaGreatDoor
open Go.RowKit

set_option maxRecDepth 100000 in
theorem natOne_any (w : World) : Calls Tryz.prog 160 #[] w fun e w' => ∃ r, e = .returned r ∧ Own w' w.heap.size 147 r (cellsW (wds 1)) ∧ Below w.heap.size w w' := by
  have ho : Own (w.alloc (.cells #[.int .u64 1] 147)) w.heap.size 147 (.slice (some ⟨w.heap.size, 0, none⟩) 1 1) (cellsW (wds 1)) := by
    rw [wds_one]
    exact ⟨IsS.mk (Nat.le_refl _), rfl, by rw [sCap_mk]; unfold maxLen; omega, .inr ⟨Nat.le_refl _, _, heap_alloc_new w _, by simp, by simp [cellsW]⟩⟩
  have HO := Lib.hid ho
  clear ho
  go_enter Tryz.func160, Tryz.ntmps160
  go_wp2
  go_ret
  exact ⟨_, rfl, HO.out, (Below.refl _ _).alloc (Nat.le_refl _) _⟩
theorem keepc {w w' : World} {b i : Nat} {v : Value} (h : w.cell? ⟨b, i, none⟩ = some v) (hb : Below w.heap.size w w') : w'.cell? ⟨b, i, none⟩ = some v :=
  (hb.cell (p := ⟨b, i, none⟩) (World.block_lt_of_cell? w _ h)).trans h
end Go.Proofs.YtkhhoamcnocjlaaGreatDoor

/-
Signs: SignOf, the thin package's RatSign, RatIsInt. No condition.
-/
namespace Go.Proofs.YtkhhoamcnocjlaaGreatDoor
open Go.RowKit

def sg (neg : Bool) (n : Nat) : Int := if n = 0 then 0 else if neg then -1 else 1
theorem sg_nw (neg : Bool) (n : Nat) : sgnI neg (nw n) = sg neg n := by
  unfold sgnI sg
  by_cases h : n = 0
  · rw [if_pos h, if_pos (nw_eq_zero.2 h)]
  · rw [if_neg h, if_neg (fun e => h (nw_eq_zero.1 e))]
theorem nl_eq_zero {n : Nat} : nl n = 0 ↔ n = 0 := ⟨fun h => by rcases Nat.eq_zero_or_pos n with h' | h'; exact h'; have := nl_pos h'; omega, fun h => by rw [h]; rfl⟩
theorem sg_nl (neg : Bool) (n : Nat) : sgnI neg (nl n) = sg neg n := by
  unfold sgnI sg
  by_cases h : n = 0
  · rw [if_pos h, if_pos (nl_eq_zero.2 h)]
  · rw [if_neg h, if_neg (fun e => h (nl_eq_zero.1 e))]
theorem sg_and (neg : Bool) (n : Nat) : sg (neg && decide (0 < n)) n = sg neg n := by
  unfold sg
  by_cases h : n = 0
  · rw [if_pos h, if_pos h]
  · rw [decide_eq_true (show 0 < n by omega), Bool.and_true]
theorem sg_bd (neg : Bool) (n : Nat) : -1 ≤ sg neg n ∧ sg neg n ≤ 1 := by unfold sg; split; omega; split <;> omega
end Go.Proofs.YtkhhoamcnocjlaaGreatDoor

/-
A fraction in lowest terms, as the reference makes it: Over. No condition.
-/
namespace Go.Proofs.YtkhhoamcnocjlaaGreatDoor
open Go.RowKit

set_option maxRecDepth 100000 in
set_option maxHeartbeats 1600000 in
theorem over_any (neg : Bool) (a b : Value) (x y : Nat) (w : World) (ha : NatV w a x) (hb : NatV w b y) (hx : nl x ≤ 100000000) (hy : nl y ≤ 100000000) (hy0 : 0 < y) :
    Calls Tryz.prog 23 #[.bool neg, a, b] w fun e w' => ∃ q r, e = .returned (.agg #[.bool (neg && decide (0 < x)), q, r]) ∧ NatV w' q (x / Nat.gcd x y) ∧ NatV w' r (y / Nat.gcd x y) ∧ Below w.heap.size w w' := by
  have hSa := ha.isS
  have hSb := hb.isS
  have hLa := ha.len
  obtain ⟨G, hG⟩ : ∃ G, G = Nat.gcd x y := ⟨_, rfl⟩
  have hG0 : 0 < G := by rw [hG]; exact Nat.gcd_pos_of_pos_right x hy0
  have hGl : nl G ≤ 100000000 := by rw [hG]; exact Nat.le_trans (nl_mono (Nat.gcd_le_right x hy0)) hy
  obtain ⟨W, hW⟩ : ∃ W, W = w.alloc (.cells #[.bool false, .slice none 0 0, .slice none 0 0] 57) := ⟨_, rfl⟩
  have hrow : W.heap[w.heap.size]? = some (.cells #[.bool false, .slice none 0 0, .slice none 0 0] 57 (0, 0)) := by rw [hW]; exact box_row (Below.refl _ _)
  have hab : Below w.heap.size w W := by rw [hW]; exact (Below.refl _ _).alloc (Nat.le_refl _) _
  have HA := Lib.hid (ha.below hab)
  have HB := Lib.hid (hb.below hab)
  have HR := Lib.hid hrow
  have HG := Lib.hid hG
  rw [← hG]
  obtain ⟨l, hl⟩ : ∃ l, l = nl x := ⟨_, rfl⟩
  rw [← hl] at hLa
  have hdx : decide (0 < x) = decide (0 < l) := by
    rw [decide_eq_decide, hl]
    exact ⟨nl_pos, fun h => by rcases Nat.eq_zero_or_pos x with h0 | h0; (rw [h0, nl_zero] at h; omega); exact h0⟩
  rw [hdx]
  clear ha hb hrow hG hdx hl
  go_enter Tryz.func23, Tryz.ntmps23
  go_upto_region 1 with fail
  rw [← hW]
  clear hW
  go_wp2_with fail
  refine (spGcd a b x y W HA.out HB.out (by omega) (by omega)).mono ?_
  rintro _ w1 ⟨g, rfl, hg, hb1⟩
  rw [← HG.out] at hg
  have hSg := hg.isS
  have HGv := Lib.hid hg
  clear hg
  go_wp2_with fail
  refine (spDivMod a g x G w1 (HA.out.below hb1) HGv.out (by omega) (by omega) hG0).mono ?_
  rintro _ w2 ⟨_, rfl, q1, q2, rfl, hq1, hq2, hb2⟩
  have hSq1 := hq1.isS
  have hSq2 := hq2.isS
  have HQ1 := Lib.hid hq1
  have hb12 := bthen hb1 hb2
  clear hq1 hq2
  go_wp2_with fail
  refine (spDivMod b g y G w2 (HB.out.below hb12) (HGv.out.below hb2) (by omega) (by omega) hG0).mono ?_
  rintro _ w3 ⟨_, rfl, r1, r2, rfl, hr1, hr2, hb3⟩
  have hSr1 := hr1.isS
  have hSr2 := hr2.isS
  have HR1 := Lib.hid hr1
  have HQ1' := Lib.hid (HQ1.out.below hb3)
  have hb13 := bthen hb12 hb3
  have hrow3 := keep_row hb13 HR.out
  obtain ⟨k0, k1, k2, f0, f1, f2⟩ := row3 hrow3
  have hwB := hab.trans (hb13.mono hab.size)
  have HE := Lib.hid (fun z => row3 (row3_set (x := .bool z) (y := q1) (z := r1) hrow3))
  have HN := Lib.hid (fun z => natv_row3 (x := .bool z) (y := q1) (z := r1) IsS.nil IsS.nil HQ1'.out hrow3)
  have HM := Lib.hid (fun z => natv_row3 (x := .bool z) (y := q1) (z := r1) IsS.nil IsS.nil HR1.out hrow3)
  have HBB := Lib.hid (fun z => bset (i := 2) (u := r1) (bset (i := 1) (u := q1) (bset (i := 0) (u := .bool z) hwB (Nat.le_refl _)) (Nat.le_refl _)) (Nat.le_refl _))
  clear hr1 hr2 hrow3
  have hcs : decide (0 < l) = true ∨ decide (0 < l) = false := by cases decide (0 < l) <;> simp
  cases neg <;> rcases hcs with t1 | t1
  all_goals
    go_wp2
  · obtain ⟨e0, e1, e2, -, -, -⟩ := HE.out false
    refine bodyPost_ret (v := .agg #[.bool false, q1, r1]) ?_ rfl ⟨q1, r1, (by simp [t1]), HN.out false, HM.out false, HBB.out false⟩
    simp [results, Tryz.results23, go_sem, e0, e1, e2]
  · obtain ⟨e0, e1, e2, -, -, -⟩ := HE.out false
    refine bodyPost_ret (v := .agg #[.bool false, q1, r1]) ?_ rfl ⟨q1, r1, (by simp [t1]), HN.out false, HM.out false, HBB.out false⟩
    simp [results, Tryz.results23, go_sem, e0, e1, e2]
  · obtain ⟨e0, e1, e2, -, -, -⟩ := HE.out true
    refine bodyPost_ret (v := .agg #[.bool true, q1, r1]) ?_ rfl ⟨q1, r1, (by simp [t1]), HN.out true, HM.out true, HBB.out true⟩
    simp [results, Tryz.results23, go_sem, e0, e1, e2]
  · obtain ⟨e0, e1, e2, -, -, -⟩ := HE.out false
    refine bodyPost_ret (v := .agg #[.bool false, q1, r1]) ?_ rfl ⟨q1, r1, (by simp [t1]), HN.out false, HM.out false, HBB.out false⟩
    simp [results, Tryz.results23, go_sem, e0, e1, e2]
end Go.Proofs.YtkhhoamcnocjlaaGreatDoor

/-
A fraction's opposite, as the reference tells it. No condition.
-/
namespace Go.Proofs.YtkhhoamcnocjlaaGreatDoor
open Go.RowKit

end Go.Proofs.YtkhhoamcnocjlaaGreatDoor

/-
Rounding of dyadic values, in plain numbers: equal values, odd parts, what is left, which way. No condition.
-/
namespace Go.Proofs.YtkhhoamcnocjlaaGreatDoor
open Go.RowKit

/-- M times 2 to E is N times 2 to F. -/
def deq (M : Nat) (E : Int) (N : Nat) (F : Int) : Prop := ∃ i j : Nat, M * 2 ^ i = N * 2 ^ j ∧ E - i = F - j
theorem deq.refl (M : Nat) (E : Int) : deq M E M E := ⟨0, 0, rfl, rfl⟩
theorem deq.symm {M N : Nat} {E F : Int} (h : deq M E N F) : deq N F M E := by
  obtain ⟨i, j, h1, h2⟩ := h; exact ⟨j, i, h1.symm, h2.symm⟩
theorem deq.trans {M N K : Nat} {E F G : Int} (h : deq M E N F) (k : deq N F K G) : deq M E K G := by
  obtain ⟨i, j, h1, h2⟩ := h
  obtain ⟨a, b, k1, k2⟩ := k
  refine ⟨i + a, b + j, ?_, by omega⟩
  rw [Nat.pow_add, ← Nat.mul_assoc, h1, Nat.mul_assoc, Nat.mul_comm (2 ^ j), ← Nat.mul_assoc, k1, Nat.mul_assoc, ← Nat.pow_add]
theorem deq.shl (M : Nat) (E : Int) (t : Nat) : deq (M * 2 ^ t) E M (E + t) := ⟨0, t, by simp, by omega⟩
theorem deq.exp {M N : Nat} {E F : Int} (h : deq M E N F) (x : Int) : deq M (E + x) N (F + x) := by
  obtain ⟨i, j, h1, h2⟩ := h; exact ⟨i, j, h1, by omega⟩
theorem deq.pos {M N : Nat} {E F : Int} (h : deq M E N F) (hM : 0 < M) : 0 < N := by
  obtain ⟨i, j, h1, -⟩ := h
  have := Nat.mul_pos hM (Nat.two_pow_pos i)
  rw [h1] at this
  exact Nat.pos_of_mul_pos_right this
theorem bl_mul {x : Nat} (h : 0 < x) (n : Nat) : bl (x * 2 ^ n) = bl x + n := by
  have h1 := bl_ge h
  have h2 := lt_bl x
  have h3 := bl_pos h
  have e : bl x + n = (bl x - 1 + n) + 1 := by omega
  rw [e]
  refine bl_of ?_ ?_
  · rw [Nat.pow_add]; exact Nat.mul_le_mul_right _ h1
  · rw [show bl x - 1 + n + 1 = bl x + n by omega, Nat.pow_add]
    exact Nat.mul_lt_mul_of_pos_right h2 (Nat.two_pow_pos n)
theorem deq.bl {M N : Nat} {E F : Int} (h : deq M E N F) (hM : 0 < M) : (bl M : Int) + E = (bl N : Int) + F := by
  have hN := h.pos hM
  obtain ⟨i, j, h1, h2⟩ := h
  have := congrArg Go.Proofs.YtkhhoamcnocjlaaGreatDoor.bl h1
  rw [bl_mul hM, bl_mul hN] at this
  omega
/-- Values with the same exponent. -/
theorem deq.same {M N : Nat} {E : Int} (h : deq M E N E) : M = N := by
  obtain ⟨i, j, h1, h2⟩ := h
  have : i = j := by omega
  subst this
  exact Nat.eq_of_mul_eq_mul_right (Nat.two_pow_pos i) h1

/-! ### Odd parts -/
def tzF : Nat → Nat → Nat
  | 0, _ => 0
  | f + 1, n => if n % 2 = 1 then 0 else tzF f (n / 2) + 1
/-- How often 2 divides a number above 0. -/
def tz (n : Nat) : Nat := tzF n n
/-- A number without its divisors 2. -/
def od (n : Nat) : Nat := n / 2 ^ tz n
theorem tzF_ok : ∀ f n : Nat, 0 < n → n ≤ f → ∃ o : Nat, n = o * 2 ^ tzF f n ∧ o % 2 = 1
  | 0, n, h, hf => by omega
  | f + 1, n, h, hf => by
    unfold tzF
    by_cases h1 : n % 2 = 1
    · rw [if_pos h1]; exact ⟨n, by simp, h1⟩
    · rw [if_neg h1]
      obtain ⟨o, h2, h3⟩ := tzF_ok f (n / 2) (by omega) (by omega)
      refine ⟨o, ?_, h3⟩
      rw [Nat.pow_succ, ← Nat.mul_assoc, ← h2]; omega
theorem od_tz {n : Nat} (h : 0 < n) : n = od n * 2 ^ tz n ∧ od n % 2 = 1 := by
  obtain ⟨o, h1, h2⟩ := tzF_ok n n h (Nat.le_refl _)
  have h3 : od n = o := by
    unfold od
    conv => lhs; lhs; rw [h1]
    exact Nat.mul_div_cancel _ (Nat.two_pow_pos _)
  rw [h3]; exact ⟨h1, h2⟩
theorem odd_two {o p s t : Nat} (ho : o % 2 = 1) (hp : p % 2 = 1) (h : o * 2 ^ s = p * 2 ^ t) : s = t ∧ o = p := by
  rcases Nat.lt_trichotomy s t with c | c | c
  · obtain ⟨k, rfl⟩ : ∃ k, t = s + (k + 1) := ⟨t - s - 1, by omega⟩
    rw [Nat.pow_add, Nat.mul_comm (2 ^ s), ← Nat.mul_assoc] at h
    have := Nat.eq_of_mul_eq_mul_right (Nat.two_pow_pos s) h
    rw [Nat.pow_succ, ← Nat.mul_assoc] at this
    omega
  · subst c
    exact ⟨rfl, Nat.eq_of_mul_eq_mul_right (Nat.two_pow_pos s) h⟩
  · obtain ⟨k, rfl⟩ : ∃ k, s = t + (k + 1) := ⟨s - t - 1, by omega⟩
    rw [Nat.pow_add, Nat.mul_comm (2 ^ t), ← Nat.mul_assoc] at h
    have := Nat.eq_of_mul_eq_mul_right (Nat.two_pow_pos t) h
    rw [Nat.pow_succ, ← Nat.mul_assoc] at this
    omega
theorem od_pos {n : Nat} (h : 0 < n) : 0 < od n := by have := (od_tz h).2; omega
theorem od_of {n o t : Nat} (h : n = o * 2 ^ t) (ho : o % 2 = 1) : od n = o ∧ tz n = t := by
  have hn : 0 < n := by rw [h]; exact Nat.mul_pos (by omega) (Nat.two_pow_pos t)
  have h2 := od_tz hn
  have h3 := odd_two h2.2 ho (h2.1.symm.trans h)
  exact ⟨h3.2, h3.1⟩
theorem od_deq {n : Nat} (h : 0 < n) (E : Int) : deq n E (od n) (E + tz n) := ⟨0, tz n, by rw [Nat.pow_zero, Nat.mul_one]; exact (od_tz h).1, by omega⟩
theorem deq.od {M N : Nat} {E F : Int} (h : deq M E N F) (hM : 0 < M) : od M = od N ∧ E + tz M = F + tz N := by
  have hN := h.pos hM
  have h1 := ((od_deq hM E).symm.trans h).trans (od_deq hN F)
  obtain ⟨i, j, a, b⟩ := h1
  have := odd_two (od_tz hM).2 (od_tz hN).2 a
  exact ⟨this.2, by omega⟩
theorem bl_od {n : Nat} (h : 0 < n) : bl n = bl (od n) + tz n := by
  conv => lhs; rw [(od_tz h).1]
  exact bl_mul (od_pos h) _
theorem tz_le {n : Nat} (h : 0 < n) : tz n < bl n := by have := bl_od h; have := bl_pos (od_pos h); omega
theorem tz_dvd {n k : Nat} (h : 0 < n) (hk : n % 2 ^ k = 0) : k ≤ tz n := by
  obtain ⟨q, hq⟩ : ∃ q, n = q * 2 ^ k := ⟨n / 2 ^ k, by have := Nat.div_add_mod n (2 ^ k); rw [hk] at this; rw [Nat.mul_comm]; omega⟩
  have hq0 : 0 < q := by rcases Nat.eq_zero_or_pos q with rfl | h1; simp at hq; omega; exact h1
  have h1 := (od_tz hq0).1
  rw [h1, Nat.mul_assoc, ← Nat.pow_add] at hq
  have := (od_of hq (od_tz hq0).2).2
  omega
theorem tz_low {n k : Nat} (h : 0 < n) (hk : k ≤ tz n) : n % 2 ^ k = 0 := by
  have h1 := (od_tz h).1
  rw [h1, show tz n = (tz n - k) + k by omega, Nat.pow_add, ← Nat.mul_assoc]
  exact Nat.mul_mod_left _ _

/-! ### Rounding -/
/-- What is left of the next unit: 0 nothing, 1 less than a half, 2 a half, 3 more; s tells that there is more behind. -/
def lef (R D s : Nat) : Nat := if R = 0 ∧ s = 0 then 0 else if 2 * R < D then 1 else if 2 * R = D ∧ s = 0 then 2 else 3
/-- Whether a magnitude is rounded up. -/
def awy (neg odd : Bool) (left mode : Nat) : Bool :=
  if mode = 0 then decide (left = 3) || (decide (left = 2) && odd) else if mode = 1 then decide (2 ≤ left) else if mode = 3 then decide (0 < left)
  else if mode = 4 then decide (0 < left) && neg else if mode = 5 then decide (0 < left) && !neg else false
/-- How many bits are cut off. -/
def rk (p M : Nat) : Nat := bl M - p
def rL (p s M : Nat) : Nat := lef (M % 2 ^ rk p M) (2 ^ rk p M) s
def rU (p m : Nat) (neg : Bool) (s M : Nat) : Bool := awy neg (decide (M / 2 ^ rk p M % 2 = 1)) (rL p s M) m
/-- The rounded magnitude, in units of 2 to rk. -/
def rQ (p m : Nat) (neg : Bool) (s M : Nat) : Nat := M / 2 ^ rk p M + if rU p m neg s M then 1 else 0
/-- The side of the exact value on which it is. -/
def rA (p m : Nat) (neg : Bool) (s M : Nat) : Int := if rL p s M = 0 then 0 else if rU p m neg s M != neg then 1 else -1
theorem awy_zero (neg odd : Bool) (mode : Nat) : awy neg odd 0 mode = false := by
  unfold awy; repeat' split
  all_goals simp
theorem lef_scale (R D s : Nat) {S : Nat} (h : 0 < S) : lef (R * S) (D * S) s = lef R D s := by
  unfold lef
  have e1 : R * S = 0 ↔ R = 0 := by rw [Nat.mul_eq_zero]; exact ⟨fun h' => h'.resolve_right (by omega), .inl⟩
  have e2 : 2 * (R * S) < D * S ↔ 2 * R < D := by rw [← Nat.mul_assoc]; exact ⟨fun h' => Nat.lt_of_mul_lt_mul_right h', fun h' => Nat.mul_lt_mul_of_pos_right h' h⟩
  have e3 : 2 * (R * S) = D * S ↔ 2 * R = D := by rw [← Nat.mul_assoc]; exact ⟨fun h' => Nat.eq_of_mul_eq_mul_right h h', fun h' => by rw [h']⟩
  simp only [e1, e2, e3]
theorem lef_exact (D : Nat) : lef 0 D 0 = 0 := by simp [lef]
theorem lef_zero {R D s : Nat} : lef R D s = 0 ↔ R = 0 ∧ s = 0 := by
  unfold lef
  split
  · simp_all
  · rename_i h; refine ⟨fun h' => ?_, fun h' => absurd h' h⟩
    split at h'
    · omega
    · split at h' <;> omega
/-- What fits is exact. -/
theorem rQ_fits {p m M : Nat} (neg : Bool) (h : bl M ≤ p) : rk p M = 0 ∧ rQ p m neg 0 M = M ∧ rA p m neg 0 M = 0 := by
  have h0 : rk p M = 0 := by unfold rk; omega
  have h1 : rL p 0 M = 0 := by unfold rL; rw [h0, Nat.pow_zero, Nat.mod_one]; exact lef_exact _
  refine ⟨h0, ?_, ?_⟩
  · unfold rQ rU; rw [h1, awy_zero, h0]; simp
  · unfold rA; rw [if_pos h1]
theorem rnd_shl {p m M : Nat} (neg : Bool) (hM : 0 < M) (t : Nat) (E : Int) :
    deq (rQ p m neg 0 (M * 2 ^ t)) (E + rk p (M * 2 ^ t)) (rQ p m neg 0 M) (E + t + rk p M) ∧ rA p m neg 0 (M * 2 ^ t) = rA p m neg 0 M := by
  have hb := bl_mul hM t
  rcases Nat.lt_or_ge p (bl M) with hp | hp
  · have k1 : rk p (M * 2 ^ t) = rk p M + t := by unfold rk; omega
    have hP := Nat.two_pow_pos t
    have d1 : M * 2 ^ t / 2 ^ rk p (M * 2 ^ t) = M / 2 ^ rk p M := by rw [k1, Nat.pow_add]; exact Nat.mul_div_mul_right _ _ hP
    have l1 : rL p 0 (M * 2 ^ t) = rL p 0 M := by
      unfold rL
      rw [k1, Nat.pow_add, Nat.mul_mod_mul_right, lef_scale _ _ _ hP]
    have u1 : rU p m neg 0 (M * 2 ^ t) = rU p m neg 0 M := by unfold rU; rw [d1, l1]
    have q1 : rQ p m neg 0 (M * 2 ^ t) = rQ p m neg 0 M := by unfold rQ; rw [d1, u1]
    refine ⟨?_, by unfold rA; rw [l1, u1]⟩
    rw [q1, k1]
    exact ⟨0, 0, rfl, by omega⟩
  · obtain ⟨k0, q0, a0⟩ := rQ_fits (m := m) neg hp
    rw [k0, q0, a0]
    obtain ⟨c, hc⟩ : ∃ c, rk p (M * 2 ^ t) = c := ⟨_, rfl⟩
    have hct : c ≤ t := by unfold rk at hc; omega
    have hm : M * 2 ^ t % 2 ^ c = 0 := by
      rw [show t = (t - c) + c by omega, Nat.pow_add, ← Nat.mul_assoc]; exact Nat.mul_mod_left _ _
    have l1 : rL p 0 (M * 2 ^ t) = 0 := by unfold rL; rw [hc, hm]; exact lef_exact _
    have q1 : rQ p m neg 0 (M * 2 ^ t) = M * 2 ^ (t - c) := by
      unfold rQ rU
      rw [l1, awy_zero, hc, show t = (t - c) + c by omega, Nat.pow_add, ← Nat.mul_assoc, Nat.mul_div_cancel _ (Nat.two_pow_pos c)]
      simp
    refine ⟨?_, by unfold rA; rw [if_pos l1]⟩
    rw [q1, hc]
    exact ⟨0, t - c, by simp, by omega⟩
/-- Equal values are rounded to equal values. -/
theorem rnd_deq {p m M N : Nat} {E F : Int} (neg : Bool) (hM : 0 < M) (h : deq M E N F) :
    deq (rQ p m neg 0 M) (E + rk p M) (rQ p m neg 0 N) (F + rk p N) ∧ rA p m neg 0 M = rA p m neg 0 N := by
  have hN := h.pos hM
  obtain ⟨i, j, h1, h2⟩ := h
  obtain ⟨a1, a2⟩ := rnd_shl (p := p) (m := m) neg hM i (E - i)
  obtain ⟨b1, b2⟩ := rnd_shl (p := p) (m := m) neg hN j (F - j)
  rw [h1] at a1 a2
  rw [h2] at a1
  have := a1.symm.trans b1
  exact ⟨by simpa [show F - (j : Int) + (i : Int) = E by omega] using this, a2.symm.trans b2⟩
/-- The rounded magnitude has as many bits as are asked for, or is the next power of 2. -/
theorem rQ_bound {p m M : Nat} (neg : Bool) (s : Nat) (hp0 : 0 < p) (hp : p < bl M) : 2 ^ (p - 1) ≤ M / 2 ^ rk p M ∧ M / 2 ^ rk p M < 2 ^ p ∧ rQ p m neg s M ≤ 2 ^ p := by
  have hM : 0 < M := by rcases Nat.eq_zero_or_pos M with rfl | h; rw [bl_zero] at hp; omega; exact h
  have h1 := bl_ge hM
  have h2 := lt_bl M
  have hk : rk p M + p = bl M := by unfold rk; omega
  have h3 : M / 2 ^ rk p M < 2 ^ p := by
    refine Nat.div_lt_of_lt_mul ?_
    rw [← Nat.pow_add, hk]; exact h2
  have h4 : 2 ^ (p - 1) ≤ M / 2 ^ rk p M := by
    rw [Nat.le_div_iff_mul_le (Nat.two_pow_pos _), ← Nat.pow_add]
    refine Nat.le_trans (Nat.pow_le_pow_right (by decide) ?_) h1
    omega
  refine ⟨h4, h3, ?_⟩
  unfold rQ; split <;> omega
end Go.Proofs.YtkhhoamcnocjlaaGreatDoor

/-
Words: single bits, what lies below a bit, shifts; plain arithmetic. No condition.
-/
namespace Go.Proofs.YtkhhoamcnocjlaaGreatDoor

theorem wdv_step (n i : Nat) : n / 18446744073709551616 ^ i = 18446744073709551616 * (n / 18446744073709551616 ^ (i + 1)) + wdg n i := by
  unfold wdg
  rw [Nat.pow_succ, ← Nat.div_div_eq_div_mul]
  omega
theorem two_word (i : Nat) : (2 : Nat) ^ i = 18446744073709551616 ^ (i / 64) * 2 ^ (i % 64) := by
  rw [show (18446744073709551616 : Nat) = 2 ^ 64 from rfl, ← Nat.pow_mul, ← Nat.pow_add, Nat.div_add_mod]
theorem word_split {s : Nat} (h : s ≤ 64) : 2 ^ (64 - s) * 2 ^ s = 18446744073709551616 := by
  rw [← Nat.pow_add, show 64 - s + s = 64 by omega]
theorem wdg_bit (n i : Nat) : wdg n (i / 64) / 2 ^ (i % 64) % 2 = n / 2 ^ i % 2 := by
  unfold wdg
  rw [two_word i, ← Nat.div_div_eq_div_mul]
  generalize n / 18446744073709551616 ^ (i / 64) = m
  have hs : i % 64 < 64 := Nat.mod_lt _ (by decide)
  have e := word_split (show i % 64 ≤ 64 by omega)
  have e2 : 2 ^ (64 - i % 64) = 2 * 2 ^ (63 - i % 64) := by rw [show 64 - i % 64 = 63 - i % 64 + 1 by omega, Nat.pow_succ, Nat.mul_comm]
  generalize hP : 2 ^ (i % 64) = P at *
  generalize 2 ^ (63 - i % 64) = Q at *
  generalize 2 ^ (64 - i % 64) = R at *
  subst e2
  have hP0 : 0 < P := by rw [← hP]; exact Nat.pow_pos (by decide)
  rw [← e, Nat.mul_comm (2 * Q) P, Nat.mod_mul_right_div_self, Nat.mod_mul_right_mod]
theorem wlow_zero {n : Nat} : ∀ j : Nat, n % 18446744073709551616 ^ j = 0 ↔ ∀ k, k < j → wdg n k = 0
  | 0 => by simp [Nat.mod_one]
  | j + 1 => by
    have ih := wlow_zero (n := n) j
    have hs := wmod_succ n j
    have hp := wpow_pos j
    constructor
    · intro h k hk
      rw [h] at hs
      have h1 : n % 18446744073709551616 ^ j = 0 := by omega
      have h2 : 18446744073709551616 ^ j * wdg n j = 0 := by omega
      rcases (by omega : k < j ∨ k = j) with hk' | rfl
      · exact ih.1 h1 k hk'
      · rcases Nat.mul_eq_zero.1 h2 with h | h
        · omega
        · exact h
    · intro h
      rw [hs, ih.2 (fun k hk => h k (by omega)), h j (by omega)]
      simp
theorem sticky_iff (n i : Nat) : n % 2 ^ i = 0 ↔ (∀ k, k < i / 64 → wdg n k = 0) ∧ wdg n (i / 64) % 2 ^ (i % 64) = 0 := by
  rw [two_word i, Nat.mod_mul, ← wlow_zero]
  have hs : i % 64 < 64 := Nat.mod_lt _ (by decide)
  have e := word_split (show i % 64 ≤ 64 by omega)
  have h1 : wdg n (i / 64) % 2 ^ (i % 64) = n / 18446744073709551616 ^ (i / 64) % 2 ^ (i % 64) := by
    unfold wdg
    rw [← e, Nat.mul_comm, Nat.mod_mul_right_mod]
  rw [h1]
  have hp := wpow_pos (i / 64)
  generalize n / 18446744073709551616 ^ (i / 64) % 2 ^ (i % 64) = c
  generalize n % 18446744073709551616 ^ (i / 64) = a
  generalize 18446744073709551616 ^ (i / 64) = B at *
  constructor
  · intro h
    have h1 : a = 0 := by omega
    have h2 : B * c = 0 := by omega
    exact ⟨h1, (Nat.mul_eq_zero.1 h2).resolve_left (by omega)⟩
  · rintro ⟨rfl, rfl⟩; simp
theorem wdg_shl_zero (n : Nat) {s : Nat} (_hs : s ≤ 64) : wdg (n * 2 ^ s) 0 = wdg n 0 * 2 ^ s % 18446744073709551616 := by
  rw [wdg_zero_eq, wdg_zero_eq, Nat.mod_mul_mod]
theorem div_shl (n i : Nat) {s : Nat} (hs : s ≤ 64) : n * 2 ^ s / 18446744073709551616 ^ (i + 1) = wdg n i / 2 ^ (64 - s) + n / 18446744073709551616 ^ (i + 1) * 2 ^ s := by
  have hB := wpow_pos i
  have e := word_split hs
  have h1 : n = n % 18446744073709551616 ^ i + 18446744073709551616 ^ i * (wdg n i + 18446744073709551616 * (n / 18446744073709551616 ^ (i + 1))) := by
    have := wdv_step n i
    rw [Nat.add_comm (wdg n i), ← this]
    exact (Nat.mod_add_div n _).symm
  have hl := Nat.mod_lt n hB
  have hS : 0 < 2 ^ s := Nat.pow_pos (by decide)
  have hR : 0 < 2 ^ (64 - s) := Nat.pow_pos (by decide)
  have h3 : n * 2 ^ s / 18446744073709551616 ^ i = n % 18446744073709551616 ^ i * 2 ^ s / 18446744073709551616 ^ i + (wdg n i + 18446744073709551616 * (n / 18446744073709551616 ^ (i + 1))) * 2 ^ s := by
    conv => lhs; rw [h1]
    rw [Nat.add_mul, Nat.mul_assoc, Nat.add_mul_div_left _ _ hB]
  have h4 : n % 18446744073709551616 ^ i * 2 ^ s / 18446744073709551616 ^ i < 2 ^ s := Nat.div_lt_of_lt_mul (Nat.mul_lt_mul_of_pos_right hl hS)
  rw [Nat.pow_succ, ← Nat.div_div_eq_div_mul, h3]
  rw [Nat.pow_succ] at *
  generalize n % 18446744073709551616 ^ i * 2 ^ s / 18446744073709551616 ^ i = c at *
  generalize wdg n i = d at *
  generalize n / (18446744073709551616 ^ i * 18446744073709551616) = m at *
  generalize 2 ^ s = S at *
  generalize 2 ^ (64 - s) = R at *
  have h5 : c + (d + 18446744073709551616 * m) * S = (c + d * S) + 18446744073709551616 * (m * S) := by rw [Nat.add_mul, Nat.mul_assoc]; omega
  rw [h5, Nat.add_mul_div_left _ _ (by decide)]
  congr 1
  rw [← e, Nat.mul_comm R S, ← Nat.div_div_eq_div_mul, Nat.mul_comm d S, Nat.add_mul_div_left _ _ hS, Nat.div_eq_of_lt h4, Nat.zero_add]
theorem wdg_shl_succ (n i : Nat) {s : Nat} (hs : s < 64) : wdg (n * 2 ^ s) (i + 1) = wdg n i / 2 ^ (64 - s) + wdg n (i + 1) * 2 ^ s % 18446744073709551616 := by
  have e := word_split (show s ≤ 64 by omega)
  have h1 := div_shl n i (show s ≤ 64 by omega)
  have hd := wdg_lt n i
  have hS : 0 < 2 ^ s := Nat.pow_pos (by decide)
  have hR : 0 < 2 ^ (64 - s) := Nat.pow_pos (by decide)
  have h2 : wdg n i / 2 ^ (64 - s) < 2 ^ s := Nat.div_lt_of_lt_mul (by rw [e]; exact hd)
  show n * 2 ^ s / 18446744073709551616 ^ (i + 1) % 18446744073709551616 = _
  rw [h1]
  have h3 : wdg n (i + 1) * 2 ^ s % 18446744073709551616 = n / 18446744073709551616 ^ (i + 1) * 2 ^ s % 18446744073709551616 := by
    unfold wdg; rw [Nat.mod_mul_mod]
  rw [h3]
  have h4 : n / 18446744073709551616 ^ (i + 1) * 2 ^ s % 18446744073709551616 = n / 18446744073709551616 ^ (i + 1) % 2 ^ (64 - s) * 2 ^ s := by
    rw [← e, Nat.mul_mod_mul_right]
  have h5 : n / 18446744073709551616 ^ (i + 1) % 2 ^ (64 - s) < 2 ^ (64 - s) := Nat.mod_lt _ hR
  rw [h4]
  generalize wdg n i / 2 ^ (64 - s) = c at *
  generalize hm : n / 18446744073709551616 ^ (i + 1) = m at *
  have h6 : (m % 2 ^ (64 - s) + 1) * 2 ^ s ≤ 2 ^ (64 - s) * 2 ^ s := Nat.mul_le_mul_right _ h5
  rw [e, Nat.add_mul, Nat.one_mul] at h6
  rw [Nat.add_mod, h4, Nat.mod_eq_of_lt (show c < 18446744073709551616 by omega), Nat.mod_eq_of_lt (by omega)]
/-- The two parts of a shifted word don't meet. -/
theorem shl_or {c m s : Nat} (hs : s < 64) (hc : c < 2 ^ s) : (m * 2 ^ s % 18446744073709551616) ||| c = c + m * 2 ^ s % 18446744073709551616 := by
  have e := word_split (show s ≤ 64 by omega)
  have h4 : m * 2 ^ s % 18446744073709551616 = 2 ^ s * (m % 2 ^ (64 - s)) := by
    rw [← e, Nat.mul_mod_mul_right, Nat.mul_comm]
  rw [h4, ← Nat.two_pow_add_eq_or_of_lt hc, Nat.add_comm]
end Go.Proofs.YtkhhoamcnocjlaaGreatDoor

/-
  DERIVED: THE SHELF's CONTRACTS AT THIS DUMP, IN PLAIN WORDS (tools/lay-plain.mjs out of 'TryzShelf.lean', which tools/lay-shelf.mjs wrote): THE SAME DECLARATIONS UNDER THE SAME NAMES: 'import', 'namespace', 'open', 'def', 'theorem' AND NOTHING ELSE: no command of the shelf's: FOR A HAND-IN. Each laying: the table of numbers ('.._ren') and one theorem, a field a fact of the dump's own or the kernel's comparison; each contract: ONE APPLICATION.
-/
namespace Go.Proofs
open Go.Shelf
def Tryz.lays128_ren : Go.Shelf.Ren := ⟨fun | 128 => 191 | n => n, fun | 51 => 116 | 3 => 3 | 4 => 4 | 46 => 23 | 5 => 5 | 9 => 9 | n => n, fun | n => n⟩
theorem Tryz.lays128 : Go.Proofs.Lays.n128 Tryz.prog Tryz.lays128_ren := {
  mixed := by kernel_rfl
  f128 := Tryz.func191.trans (congrArg some (by kernel_rfl))
  t3 := Tryz.underlying3
  a3 := Tryz.isAgg3
  z3 := Tryz.sizeOf3
  v3 := Tryz.zeroValue3
  t4 := Tryz.underlying4
  a4 := Tryz.isAgg4
  z4 := Tryz.sizeOf4
  v4 := Tryz.zeroValue4
  t5 := Tryz.underlying5
  a5 := Tryz.isAgg5
  z5 := Tryz.sizeOf5
  v5 := Tryz.zeroValue5
  t9 := Tryz.underlying9
  a9 := Tryz.isAgg9
  z9 := Tryz.sizeOf9
  v9 := Tryz.zeroValue9
  t46 := Tryz.underlying23
  a46 := Tryz.isAgg23
  z46 := Tryz.sizeOf23
  v46 := Tryz.zeroValue23
  t51 := Tryz.underlying116
  a51 := Tryz.isAgg116
  z51 := Tryz.sizeOf116
  v51 := Tryz.zeroValue116 }
/-- bits.Len32: "Len32 returns the minimum number of bits required to represent x; the result is 0 for x == 0.": IT RETURNS 'Lib.bitLen x'; the world is as it was. ('h0', 'h1': x is a uint32.) (LAID: no walk: one application.) -/
theorem Tryz.bits_Len32 (x : Int) (w : World) (h0 : 0 ≤ x) (h1 : x ≤ 4294967295) :
    Calls Tryz.prog 191 #[.int .u32 x] w fun e w' => e = .returned (.int .i64 (Lib.bitLen x.toNat)) ∧ w' = w := Any.bits_Len32 Tryz.lays128 x w h0 h1
def Tryz.lays125_ren : Go.Shelf.Ren := ⟨fun | 125 => 170 | 128 => 191 | 129 => 192 | n => n, fun | 46 => 23 | 3 => 3 | 51 => 116 | 53 => 191 | 4 => 4 | 5 => 5 | 9 => 9 | n => n, fun | n => n⟩
theorem Tryz.lays125 : Go.Proofs.Lays.n125 Tryz.prog Tryz.lays125_ren := {
  mixed := by kernel_rfl
  f125 := Tryz.func170.trans (congrArg some (by kernel_rfl))
  f128 := Tryz.func191.trans (congrArg some (by kernel_rfl))
  f129 := Tryz.func192.trans (congrArg some (by kernel_rfl))
  t3 := Tryz.underlying3
  a3 := Tryz.isAgg3
  z3 := Tryz.sizeOf3
  v3 := Tryz.zeroValue3
  t4 := Tryz.underlying4
  a4 := Tryz.isAgg4
  z4 := Tryz.sizeOf4
  v4 := Tryz.zeroValue4
  t5 := Tryz.underlying5
  a5 := Tryz.isAgg5
  z5 := Tryz.sizeOf5
  v5 := Tryz.zeroValue5
  t9 := Tryz.underlying9
  a9 := Tryz.isAgg9
  z9 := Tryz.sizeOf9
  v9 := Tryz.zeroValue9
  t46 := Tryz.underlying23
  a46 := Tryz.isAgg23
  z46 := Tryz.sizeOf23
  v46 := Tryz.zeroValue23
  t51 := Tryz.underlying116
  a51 := Tryz.isAgg116
  z51 := Tryz.sizeOf116
  v51 := Tryz.zeroValue116
  t53 := Tryz.underlying191
  a53 := Tryz.isAgg191
  z53 := Tryz.sizeOf191
  v53 := Tryz.zeroValue191 }
/-- bits.Len: "Len returns the minimum number of bits required to represent x; the result is 0 for x == 0.": IT RETURNS 'Lib.bitLen x'; the world is as it was. (A uint has 64 bits in the model.) ITS CALLEE bits.Len64 IS MET BY ITS OWN CONTRACT OFF THE SHELF (lay that first). (LAID: no walk: one application.) -/
theorem Tryz.bits_Len (x : Int) (w : World) (h0 : 0 ≤ x) (h1 : x ≤ 18446744073709551615) :
    Calls Tryz.prog 170 #[.int .u64 x] w fun e w' => e = .returned (.int .i64 (Lib.bitLen x.toNat)) ∧ w' = w := Any.bits_Len Tryz.lays125 x w h0 h1
def Tryz.lays134_ren : Go.Shelf.Ren := ⟨fun | 134 => 212 | 129 => 192 | n => n, fun | 53 => 191 | 3 => 3 | 4 => 4 | 46 => 23 | 5 => 5 | 9 => 9 | n => n, fun | n => n⟩
theorem Tryz.lays134 : Go.Proofs.Lays.n134 Tryz.prog Tryz.lays134_ren := {
  mixed := by kernel_rfl
  f129 := Tryz.func192.trans (congrArg some (by kernel_rfl))
  f134 := Tryz.func212.trans (congrArg some (by kernel_rfl))
  t3 := Tryz.underlying3
  a3 := Tryz.isAgg3
  z3 := Tryz.sizeOf3
  v3 := Tryz.zeroValue3
  t4 := Tryz.underlying4
  a4 := Tryz.isAgg4
  z4 := Tryz.sizeOf4
  v4 := Tryz.zeroValue4
  t5 := Tryz.underlying5
  a5 := Tryz.isAgg5
  z5 := Tryz.sizeOf5
  v5 := Tryz.zeroValue5
  t9 := Tryz.underlying9
  a9 := Tryz.isAgg9
  z9 := Tryz.sizeOf9
  v9 := Tryz.zeroValue9
  t46 := Tryz.underlying23
  a46 := Tryz.isAgg23
  z46 := Tryz.sizeOf23
  v46 := Tryz.zeroValue23
  t53 := Tryz.underlying191
  a53 := Tryz.isAgg191
  z53 := Tryz.sizeOf191
  v53 := Tryz.zeroValue191 }
/-- bits.LeadingZeros64: "LeadingZeros64 returns the number of leading zero bits in x; the result is 64 for x == 0.": IT RETURNS '64 - Lib.bitLen x'; the world is as it was. ITS CALLEE bits.Len64 IS MET BY ITS OWN CONTRACT OFF THE SHELF (lay that first): entered in place it sends the kernel out of memory. (LAID: no walk: one application.) -/
theorem Tryz.bits_LeadingZeros64 (x : Int) (w : World) (h0 : 0 ≤ x) (h1 : x ≤ 18446744073709551615) :
    Calls Tryz.prog 212 #[.int .u64 x] w fun e w' => e = .returned (.int .i64 (64 - (Lib.bitLen x.toNat : Int))) ∧ w' = w := Any.bits_LeadingZeros64 Tryz.lays134 x w h0 h1
def Tryz.lays130_ren : Go.Shelf.Ren := ⟨fun | 130 => 171 | 125 => 170 | 128 => 191 | 129 => 192 | n => n, fun | 46 => 23 | 3 => 3 | 51 => 116 | 53 => 191 | 4 => 4 | 5 => 5 | 9 => 9 | n => n, fun | n => n⟩
theorem Tryz.lays130 : Go.Proofs.Lays.n130 Tryz.prog Tryz.lays130_ren := {
  mixed := by kernel_rfl
  f125 := Tryz.func170.trans (congrArg some (by kernel_rfl))
  f128 := Tryz.func191.trans (congrArg some (by kernel_rfl))
  f129 := Tryz.func192.trans (congrArg some (by kernel_rfl))
  f130 := Tryz.func171.trans (congrArg some (by kernel_rfl))
  t3 := Tryz.underlying3
  a3 := Tryz.isAgg3
  z3 := Tryz.sizeOf3
  v3 := Tryz.zeroValue3
  t4 := Tryz.underlying4
  a4 := Tryz.isAgg4
  z4 := Tryz.sizeOf4
  v4 := Tryz.zeroValue4
  t5 := Tryz.underlying5
  a5 := Tryz.isAgg5
  z5 := Tryz.sizeOf5
  v5 := Tryz.zeroValue5
  t9 := Tryz.underlying9
  a9 := Tryz.isAgg9
  z9 := Tryz.sizeOf9
  v9 := Tryz.zeroValue9
  t46 := Tryz.underlying23
  a46 := Tryz.isAgg23
  z46 := Tryz.sizeOf23
  v46 := Tryz.zeroValue23
  t51 := Tryz.underlying116
  a51 := Tryz.isAgg116
  z51 := Tryz.sizeOf116
  v51 := Tryz.zeroValue116
  t53 := Tryz.underlying191
  a53 := Tryz.isAgg191
  z53 := Tryz.sizeOf191
  v53 := Tryz.zeroValue191 }
/-- bits.LeadingZeros: "LeadingZeros returns the number of leading zero bits in x; the result is [UintSize] for x == 0.": IT RETURNS '64 - Lib.bitLen x'; the world is as it was. ITS CALLEE bits.Len IS MET BY ITS OWN CONTRACT OFF THE SHELF (lay that first): entered in place it sends the kernel out of memory. (LAID: no walk: one application.) -/
theorem Tryz.bits_LeadingZeros (x : Int) (w : World) (h0 : 0 ≤ x) (h1 : x ≤ 18446744073709551615) :
    Calls Tryz.prog 171 #[.int .u64 x] w fun e w' => e = .returned (.int .i64 (64 - (Lib.bitLen x.toNat : Int))) ∧ w' = w := Any.bits_LeadingZeros Tryz.lays130 x w h0 h1
def Tryz.lays129_ren : Go.Shelf.Ren := ⟨fun | 129 => 192 | n => n, fun | 53 => 191 | 3 => 3 | 4 => 4 | 46 => 23 | 5 => 5 | 9 => 9 | n => n, fun | n => n⟩
theorem Tryz.lays129 : Go.Proofs.Lays.n129 Tryz.prog Tryz.lays129_ren := {
  mixed := by kernel_rfl
  f129 := Tryz.func192.trans (congrArg some (by kernel_rfl))
  t3 := Tryz.underlying3
  a3 := Tryz.isAgg3
  z3 := Tryz.sizeOf3
  v3 := Tryz.zeroValue3
  t4 := Tryz.underlying4
  a4 := Tryz.isAgg4
  z4 := Tryz.sizeOf4
  v4 := Tryz.zeroValue4
  t5 := Tryz.underlying5
  a5 := Tryz.isAgg5
  z5 := Tryz.sizeOf5
  v5 := Tryz.zeroValue5
  t9 := Tryz.underlying9
  a9 := Tryz.isAgg9
  z9 := Tryz.sizeOf9
  v9 := Tryz.zeroValue9
  t46 := Tryz.underlying23
  a46 := Tryz.isAgg23
  z46 := Tryz.sizeOf23
  v46 := Tryz.zeroValue23
  t53 := Tryz.underlying191
  a53 := Tryz.isAgg191
  z53 := Tryz.sizeOf191
  v53 := Tryz.zeroValue191 }
/-- bits.Len64: "Len64 returns the minimum number of bits required to represent x; the result is 0 for x == 0.": IT RETURNS 'Lib.bitLen x'; the world is as it was. ('h0', 'h1': x is a uint64.) (LAID: no walk: one application.) -/
theorem Tryz.bits_Len64 (x : Int) (w : World) (h0 : 0 ≤ x) (h1 : x ≤ 18446744073709551615) :
    Calls Tryz.prog 192 #[.int .u64 x] w fun e w' => e = .returned (.int .i64 (Lib.bitLen x.toNat)) ∧ w' = w := Any.bits_Len64 Tryz.lays129 x w h0 h1
def Tryz.lays264_ren : Go.Shelf.Ren := ⟨fun | 264 => 214 | n => n, fun | 53 => 191 | 46 => 23 | n => n, fun | n => n⟩
theorem Tryz.lays264 : Go.Proofs.Lays.n264 Tryz.prog Tryz.lays264_ren := {
  mixed := by kernel_rfl
  f264 := Tryz.func214.trans (congrArg some (by kernel_rfl))
  t46 := Tryz.underlying23
  a46 := Tryz.isAgg23
  z46 := Tryz.sizeOf23
  v46 := Tryz.zeroValue23
  t53 := Tryz.underlying191
  a53 := Tryz.isAgg191
  z53 := Tryz.sizeOf191
  v53 := Tryz.zeroValue191 }
open Go.RowKit Go.Lib in
theorem Tryz.bits_Mul64 (x y : Nat) (hx : x < 18446744073709551616) (hy : y < 18446744073709551616) (w : World) :
    Calls Tryz.prog 214 #[.int .u64 x, .int .u64 y] w fun e w' => e = .returned (.tuple #[.int .u64 ((x * y / 18446744073709551616 : Nat) : Int), .int .u64 ((x * y % 18446744073709551616 : Nat) : Int)]) ∧ w' = w := Any.bits_Mul64 Tryz.lays264 x y hx hy w
def Tryz.lays212_ren : Go.Shelf.Ren := ⟨fun | 212 => 210 | 263 => 213 | 264 => 214 | n => n, fun | 46 => 23 | 51 => 116 | 146 => 223 | 53 => 191 | 148 => 225 | n => n, fun | n => n⟩
theorem Tryz.lays212 : Go.Proofs.Lays.n212 Tryz.prog Tryz.lays212_ren := {
  mixed := by kernel_rfl
  f212 := Tryz.func210.trans (congrArg some (by kernel_rfl))
  f263 := Tryz.func213.trans (congrArg some (by kernel_rfl))
  f264 := Tryz.func214.trans (congrArg some (by kernel_rfl))
  t46 := Tryz.underlying23
  a46 := Tryz.isAgg23
  z46 := Tryz.sizeOf23
  v46 := Tryz.zeroValue23
  t51 := Tryz.underlying116
  a51 := Tryz.isAgg116
  z51 := Tryz.sizeOf116
  v51 := Tryz.zeroValue116
  t53 := Tryz.underlying191
  a53 := Tryz.isAgg191
  z53 := Tryz.sizeOf191
  v53 := Tryz.zeroValue191
  t146 := Tryz.underlying223
  a146 := Tryz.isAgg223
  z146 := Tryz.sizeOf223
  v146 := Tryz.zeroValue223
  t148 := Tryz.underlying225
  a148 := Tryz.isAgg225
  z148 := Tryz.sizeOf225
  v148 := Tryz.zeroValue225 }
open Go.RowKit Go.Lib in
/-- math/bits.Mul: "Mul returns the full-width product of x and y": on a machine of 64 bits: Mul64's. (LAID: no walk: one application.) -/
theorem Tryz.bits_Mul (x y : Nat) (hx : x < 18446744073709551616) (hy : y < 18446744073709551616) (w : World) :
    Calls Tryz.prog 210 #[.int .u64 x, .int .u64 y] w fun e w' => e = .returned (.tuple #[.int .u64 ((x * y / 18446744073709551616 : Nat) : Int), .int .u64 ((x * y % 18446744073709551616 : Nat) : Int)]) ∧ w' = w := Any.bits_Mul Tryz.lays212 x y hx hy w
end Go.Proofs

/-
Lengths in bits; a number of one word. No condition.
-/
namespace Go.Proofs.YtkhhoamcnocjlaaGreatDoor
open Go.RowKit

theorem bitLenAux_eq : ∀ (f x : Nat), x < 2 ^ f → Lib.bitLenAux f x = bl x
  | 0, x, h => by
    have : x = 0 := by omega
    subst this; rfl
  | f + 1, x, h => by
    unfold Lib.bitLenAux
    split
    · rename_i h0; subst h0; rfl
    · rename_i h0
      rw [bitLenAux_eq f (x / 2) (by rw [Nat.pow_succ] at h; omega), ← bl_half (show 0 < x by omega)]; omega
theorem bitLen_eq {x : Nat} (h : x < 18446744073709551616) : Lib.bitLen x = bl x := bitLenAux_eq 64 x h
theorem bl_le64 {x : Nat} (h : x < 18446744073709551616) : bl x ≤ 64 := bl_le h
theorem lz64 (x : Nat) (w : World) (h : x < 18446744073709551616) :
    Calls Tryz.prog 212 #[.int .u64 x] w fun e w' => e = .returned (.int .i64 ((64 - bl x : Nat) : Int)) ∧ w = w' := by
  refine (Tryz.bits_LeadingZeros64 (x : Int) w (by omega) (by omega)).mono ?_
  rintro _ _ ⟨rfl, rfl⟩
  have := bl_le64 h
  refine ⟨?_, rfl⟩
  rw [Int.toNat_natCast, bitLen_eq h]
  exact congrArg (fun z => Ending.returned (.int .i64 z)) (by omega)
set_option maxRecDepth 100000 in
theorem setUint64_nil (d : Nat) (w : World) (h0 : 0 < d) (hd : d < 18446744073709551616) :
    Calls Tryz.prog 147 #[.slice none 0 0, .int .u64 d] w fun e w' => ∃ r, e = .returned r ∧ Own w' w.heap.size 147 r (cellsW [d]) ∧ Below w.heap.size w w' := by
  have H0 := Lib.hid h0
  have HD := Lib.hid hd
  clear h0 hd
  go_enter Tryz.func147, Tryz.ntmps147
  go_wp2_with fail
  refine (setWord_nil d w H0.out HD.out).mono ?_
  rintro _ w1 ⟨r, rfl, ho, hb⟩
  have hS := ho.isS
  go_wp2
  go_ret
  exact ⟨_, rfl, ho, hb⟩

theorem fbone {W : World} (o : Obj) : Below W.heap.size W (W.alloc o) := (Below.refl _ _).alloc (Nat.le_refl _) _
theorem get_lt {w : World} {k : Nat} {o : Obj} (h : w.heap[k]? = some o) : k < w.heap.size := by
  obtain ⟨h, _⟩ := Array.getElem?_eq_some_iff.1 h
  exact h
theorem RW.dropW {w : World} {v : Value} {ws : List Nat} {k : Nat} (h : RW w v ws) (hk : k ≤ ws.length) : RW w (subS v k ws.length) (ws.drop k) := by
  refine ⟨?_, fun d hd => h.lt d (List.mem_of_mem_drop hd)⟩
  have := h.ri.sub (l := k) (n := ws.length) hk (by rw [ints_length]; exact Nat.le_refl _)
  rw [List.take_of_length_le (by rw [ints_length]; exact Nat.le_refl _)] at this
  unfold ints at this ⊢
  rw [List.map_drop]
  exact this
theorem cellsW_zeros (n : Nat) : List.replicate n (Value.int .u64 0) = cellsW (List.replicate n 0) := by
  unfold cellsW; rw [List.map_replicate]; rfl
end Go.Proofs.YtkhhoamcnocjlaaGreatDoor

/-
Floats: the number of bits; a shift to the left in place. No condition.
-/
namespace Go.Proofs.YtkhhoamcnocjlaaGreatDoor
open Go.RowKit

theorem bl_or {a b : Nat} (h : b ≤ a) : bl (a ||| b) = bl a := by
  refine Nat.le_antisymm (bl_le (Nat.or_lt_two_pow (lt_bl a) (Nat.lt_of_le_of_lt h (lt_bl a)))) (bl_mono Nat.left_le_or)
theorem or_lt64 {a b : Nat} (ha : a < 18446744073709551616) (hb : b < 18446744073709551616) : a ||| b < 18446744073709551616 := Nat.or_lt_two_pow (n := 64) ha hb
theorem bl_words {n : Nat} (h : 0 < n) : bl n = 64 * (nw n - 1) + bl (wdg n (nw n - 1)) := by
  have hp := nw_pos h
  have h1 := wmod_succ n (nw n - 1)
  rw [show nw n - 1 + 1 = nw n by omega, wmod_nw (Nat.le_refl _)] at h1
  have e : (18446744073709551616 : Nat) ^ (nw n - 1) = 2 ^ (64 * (nw n - 1)) := by rw [show (18446744073709551616 : Nat) = 2 ^ 64 from rfl, ← Nat.pow_mul]
  rw [e] at h1
  exact bl_shift (Nat.pos_of_ne_zero (wdg_last h)) h1
/-- One step of the smear. -/
theorem smear {t q t' k : Nat} (ht : t < 18446744073709551616) (hq : q = t / k) (ht' : t' = t ||| q) : bits .or .u64 (t : Int) (q : Int) = (t' : Int) ∧ t' < 18446744073709551616 ∧ bl t' = bl t ∧ (t : Int) / (k : Int) = (q : Int) := by
  have hqt : q ≤ t := by rw [hq]; exact Nat.div_le_self _ _
  refine ⟨by rw [ht']; exact bits_or_u64_nat t q ht (by omega), by rw [ht']; exact or_lt64 ht (by omega), by rw [ht']; exact bl_or hqt, by rw [hq]; simp⟩
set_option maxRecDepth 100000 in
set_option maxHeartbeats 800000 in
theorem bitLen_any (v : Value) (M : Nat) (w : World) (hv : RW w v (wds M)) (hl : nw M ≤ 1000000000) :
    Calls Tryz.prog 138 #[v] w fun e w' => e = .returned (.int .i64 (bl M : Nat)) ∧ w = w' := by
  have hS := hv.isS
  have hL := hv.len
  rw [wds_length] at hL
  rcases Nat.eq_zero_or_pos M with h0 | h0
  · subst h0
    have hL0 : sLen v = 0 := hL
    clear hL
    go_enter Tryz.func138, Tryz.ntmps138
    go_wp2
    go_ret
    exact ⟨rfl, rfl⟩
  · have hp := nw_pos h0
    have e := bl_words h0
    have hc := hv.cell (nw M - 1) (by rw [wds_length]; omega)
    rw [wds_getD] at hc
    have ht := wdg_lt M (nw M - 1)
    obtain ⟨j, hj⟩ : ∃ j, nw M = j + 1 := ⟨nw M - 1, by omega⟩
    rw [hj, Nat.add_sub_cancel] at e hc ht
    rw [hj] at hL hl
    obtain ⟨t, htt⟩ : ∃ t, t = wdg M j := ⟨_, rfl⟩
    rw [← htt] at e hc ht
    obtain ⟨q1, hq1⟩ : ∃ q, q = t / 2 := ⟨_, rfl⟩
    obtain ⟨t1, ht1⟩ : ∃ u, u = t ||| q1 := ⟨_, rfl⟩
    obtain ⟨o1, b1, l1, d1'⟩ := smear ht hq1 ht1
    have d1 : (t : Int) / 2 = (q1 : Int) := d1'
    obtain ⟨q2, hq2⟩ : ∃ q, q = t1 / 4 := ⟨_, rfl⟩
    obtain ⟨t2, ht2⟩ : ∃ u, u = t1 ||| q2 := ⟨_, rfl⟩
    obtain ⟨o2, b2, l2, d2'⟩ := smear b1 hq2 ht2
    have d2 : (t1 : Int) / 4 = (q2 : Int) := d2'
    obtain ⟨q3, hq3⟩ : ∃ q, q = t2 / 16 := ⟨_, rfl⟩
    obtain ⟨t3, ht3⟩ : ∃ u, u = t2 ||| q3 := ⟨_, rfl⟩
    obtain ⟨o3, b3, l3, d3'⟩ := smear b2 hq3 ht3
    have d3 : (t2 : Int) / 16 = (q3 : Int) := d3'
    obtain ⟨q4, hq4⟩ : ∃ q, q = t3 / 256 := ⟨_, rfl⟩
    obtain ⟨t4, ht4⟩ : ∃ u, u = t3 ||| q4 := ⟨_, rfl⟩
    obtain ⟨o4, b4, l4, d4'⟩ := smear b3 hq4 ht4
    have d4 : (t3 : Int) / 256 = (q4 : Int) := d4'
    obtain ⟨q5, hq5⟩ : ∃ q, q = t4 / 65536 := ⟨_, rfl⟩
    obtain ⟨t5, ht5⟩ : ∃ u, u = t4 ||| q5 := ⟨_, rfl⟩
    obtain ⟨o5, b5, l5, d5'⟩ := smear b4 hq5 ht5
    have d5 : (t4 : Int) / 65536 = (q5 : Int) := d5'
    obtain ⟨q6, hq6⟩ : ∃ q, q = t5 / 4294967296 := ⟨_, rfl⟩
    obtain ⟨q6', hq6'⟩ : ∃ q, q = t5 / 65536 := ⟨_, rfl⟩
    obtain ⟨t6, ht6⟩ : ∃ u, u = t5 ||| q6 := ⟨_, rfl⟩
    obtain ⟨o6, b6, l6, -⟩ := smear b5 hq6 ht6
    have d6 : (t5 : Int) / 65536 = (q6' : Int) := by rw [hq6']; simp
    have d6' : (q6' : Int) / 65536 = (q6 : Int) := by rw [hq6, hq6']; omega
    have E : Hid (bl M = 64 * j + bl t6) := Lib.hid (by rw [e, l6, l5, l4, l3, l2, l1])
    have B6 := Lib.hid b6
    clear hj htt hq1 ht1 hq2 ht2 hq3 ht3 hq4 ht4 hq5 ht5 hq6 hq6' ht6 l1 l2 l3 l4 l5 l6 e hv h0 hp d1' d2' d3' d4' d5'
    go_enter Tryz.func138, Tryz.ntmps138
    go_wp2_with fail
    refine (Tryz.bits_Len (t6 : Int) w (by omega) (by have := B6.out; omega)).mono ?_
    rintro _ _ ⟨rfl, rfl⟩
    rw [Int.toNat_natCast, bitLen_eq B6.out]
    have hb := bl_le64 B6.out
    obtain ⟨l, hl'⟩ : ∃ l, l = bl t6 := ⟨_, rfl⟩
    rw [← hl'] at hb E ⊢
    clear hl'
    go_wp2
    go_ret
    exact ⟨congrArg (fun z => Ending.returned (.int .i64 z)) (by rw [E.out]; omega), rfl⟩
set_option maxRecDepth 100000 in
theorem intBitLen (b o : Nat) (v : Value) (M : Nat) (w : World) (hc : w.cell? ⟨b, o + 1, none⟩ = some v) (hv : RW w v (wds M)) (hl : nw M ≤ 1000000000) :
    Calls Tryz.prog 108 #[.pointer (some ⟨b, o, none⟩)] w fun e w' => e = .returned (.int .i64 (bl M : Nat)) ∧ w = w' := by
  have hS := hv.isS
  have HV := Lib.hid hv
  clear hv
  go_enter Tryz.func108, Tryz.ntmps108
  go_wp2_with fail
  refine (bitLen_any v M w HV.out hl).mono ?_
  rintro _ _ ⟨rfl, rfl⟩
  go_wp2
  go_ret
  exact ⟨rfl, rfl⟩
set_option maxRecDepth 100000 in
theorem nlz_any (x : Nat) (w : World) (h : x < 18446744073709551616) :
    Calls Tryz.prog 139 #[.int .u64 x] w fun e w' => e = .returned (.int .u64 ((64 - bl x : Nat) : Int)) ∧ w = w' := by
  have hb := bl_le64 h
  have H := Lib.hid h
  have E : Hid ((64 : Int) - (Lib.bitLen x : Nat) = ((64 - bl x : Nat) : Int)) := Lib.hid (by rw [bitLen_eq h]; omega)
  obtain ⟨s, hs⟩ : ∃ s, s = 64 - bl x := ⟨_, rfl⟩
  have hs64 : s ≤ 64 := by omega
  rw [← hs] at E ⊢
  clear h hs hb
  go_enter Tryz.func139, Tryz.ntmps139
  go_wp2_with fail
  refine (Tryz.bits_LeadingZeros (x : Int) w (by omega) (by have := H.out; omega)).mono ?_
  rintro _ _ ⟨rfl, rfl⟩
  rw [Int.toNat_natCast, E.out]
  go_wp2
  go_ret
  exact ⟨rfl, rfl⟩
end Go.Proofs.YtkhhoamcnocjlaaGreatDoor
