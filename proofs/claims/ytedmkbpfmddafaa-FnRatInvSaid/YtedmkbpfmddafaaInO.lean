/-
The statements on a fraction's magnitude and on a fraction with its sign turned. No condition.
-/
import Derived.Test.YtedmkbpfmddafaaInN
namespace Go.Proofs.Ytedmkbpfmddafaa
open Go.RowKit

set_option maxRecDepth 100000 in
theorem negated_any (neg : Bool) (a1 a2 : Value) (n : Nat) (w : World) (hS1 : IsS a1) (hS2 : IsS a2) (hL : sLen a1 = nl n) :
    Calls Try.prog 37 #[.agg #[.bool neg, a1, a2]] w fun e w' => e = .returned (.agg #[.bool (!neg && decide (0 < n)), a1, a2]) ∧ Below w.heap.size w w' := by
  have hlp := len_pos_iff n
  obtain ⟨l, hl⟩ : ∃ l, l = nl n := ⟨_, rfl⟩
  rw [← hl] at hL hlp
  rw [← hlp]
  have hab := ((Below.refl w.heap.size w).alloc (Nat.le_refl _) (.cells #[.bool neg, a1, a2] 58)).alloc ((Below.refl w.heap.size w).alloc (Nat.le_refl _) (.cells #[.bool neg, a1, a2] 58)).size (.cells #[.bool false, .slice none 0 0, .slice none 0 0] 58)
  obtain ⟨W, hW⟩ : ∃ W, W = (w.alloc (.cells #[.bool neg, a1, a2] 58)).alloc (.cells #[.bool false, .slice none 0 0, .slice none 0 0] 58) := ⟨_, rfl⟩
  have hrow0 : W.heap[w.heap.size]? = some (.cells #[.bool neg, a1, a2] 58 (0, 0)) := by rw [hW]; exact box_row ((Below.refl _ _).alloc (Nat.le_refl _) _)
  have hrow1 : W.heap[w.heap.size + 1]? = some (.cells #[.bool false, .slice none 0 0, .slice none 0 0] 58 (0, 0)) := by
    rw [hW]
    have := box_row (Below.refl _ ((w.alloc (.cells #[.bool neg, a1, a2] 58)).alloc (.cells #[.bool false, .slice none 0 0, .slice none 0 0] 58)))
    simpa using this
  rw [← hW] at hab
  obtain ⟨x0, x1, x2, -, -, -⟩ := row3 hrow0
  obtain ⟨k0, k1, k2, f0, f1, f2⟩ := row3 hrow1
  have HE := Lib.hid (fun x => row3 (row3_set (x := .bool x) (y := a1) (z := a2) hrow1))
  have HB := Lib.hid (fun x => bset3 (a := .bool x) (b := a1) (c := a2) hab (show w.heap.size ≤ w.heap.size + 1 by omega))
  clear hrow0 hrow1 hl hlp
  have hcs : decide (0 < l) = true ∨ decide (0 < l) = false := by cases decide (0 < l) <;> simp
  cases neg <;> rcases hcs with t1 | t1
  all_goals
    rw [t1]
    go_enter Try.func37, Try.ntmps37
    go_upto_region 1 with fail
    rw [← hW]
    clear hW
    go_wp2
  · obtain ⟨e0, e1, e2, -, -, -⟩ := HE.out true
    refine bodyPost_ret (v := .agg #[.bool true, a1, a2]) ?_ rfl ⟨rfl, HB.out true⟩
    simp [results, Try.results37, go_sem, e0, e1, e2]
  all_goals
    obtain ⟨e0, e1, e2, -, -, -⟩ := HE.out false
    refine bodyPost_ret (v := .agg #[.bool false, a1, a2]) ?_ rfl ⟨rfl, HB.out false⟩
    simp [results, Try.results37, go_sem, e0, e1, e2]
theorem isFrac_same (x neg : Bool) (n d : Nat) (h : x = (neg && decide (0 < n))) : isFrac x (wds n) (wds d) neg n d = true := by
  unfold isFrac isNum; rw [h]; simp
set_option maxRecDepth 100000 in
set_option maxHeartbeats 1600000 in
theorem lawRatAbs (b : Bool) (v1 v2 : Value) (ns ds : List Nat) (w : World) (h1 : RW w v1 ns) (h2 : RW w v2 ds) :
    Calls Try.prog 8 #[.agg #[.bool b, v1, v2]] w fun e w' => e = .returned (.bool true) ∧ Below w.heap.size w w' := by
  have hS1 := h1.isS
  have hS2 := h2.isS
  have hab := (Below.refl w.heap.size w).alloc (Nat.le_refl _) (.cells #[.bool b, v1, v2] 55)
  obtain ⟨W, hW⟩ : ∃ W, W = w.alloc (.cells #[.bool b, v1, v2] 55) := ⟨_, rfl⟩
  have hrow : W.heap[w.heap.size]? = some (.cells #[.bool b, v1, v2] 55 (0, 0)) := by rw [hW]; exact box_row (Below.refl _ _)
  rw [← hW] at hab
  obtain ⟨x0, x1, x2, -, -, -⟩ := row3 hrow
  have hWlt : w.heap.size < W.heap.size := (heap_alloc_lt (o := .cells #[] 0) hrow).2
  have HR := Lib.hid hrow
  have R1 := Lib.hid (h1.below hab)
  have R2 := Lib.hid (h2.below hab)
  have hWs := hab.size
  clear hrow h1 h2
  go_enter Try.func8, Try.ntmps8
  go_upto_region 1 with fail
  rw [← hW]
  clear hW
  go_wp2_with fail
  refine (zzFits3_any b v1 v2 ns ds W R1.out R2.out).mono ?_
  rintro _ w1 ⟨rfl, hb1⟩
  obtain ⟨y0, y1, y2, -, -, -⟩ := row3 (keep_row hb1 HR.out)
  have bb1 := hab.trans (hb1.mono hWs)
  obtain ⟨fits, hfits⟩ : ∃ f, f = (decide (ns.length ≤ 2147483647) && decide (ds.length ≤ 2147483647)) := ⟨_, rfl⟩
  rw [← hfits]
  clear hfits
  have HB1 := Lib.hid hb1
  clear hb1
  cases fits with
  | false =>
    go_wp2
    go_ret
    exact ⟨rfl, bb1⟩
  | true =>
    go_wp2_with fail
    refine (fraction_any b v1 v2 40 ns ds w1 (R1.out.below HB1.out) (R2.out.below HB1.out) (by decide)).mono ?_
    rintro _ w2 ⟨_, rfl, bb, a1, a2, ok, rfl, hA1, hA2, hb2, hok⟩
    have HOK := Lib.hid hok
    have HB2 := Lib.hid (bthen HB1.out hb2)
    clear hok hb2
    have hr2 := keep_row HB2.out HR.out
    have ha3 := (Below.refl w2.heap.size w2).alloc (Nat.le_refl _) (.cells #[.bool false, a1, a2] 58)
    go_upto_region 5 with fail
    obtain ⟨X, hX⟩ : ∃ X, X = w2.alloc (.cells #[.bool false, a1, a2] 58) := ⟨_, rfl⟩
    have hrX : X.heap[w2.heap.size]? = some (.cells #[.bool false, a1, a2] 58 (0, 0)) := by rw [hX]; exact box_row (Below.refl _ _)
    rw [← hX] at ha3 ⊢
    clear hX
    obtain ⟨c0, c1, c2, -, -, -⟩ := row3 (keep_row ha3 hr2)
    obtain ⟨d0, d1, d2, -, -, -⟩ := row3 hrX
    have hXX := Below.refl X.heap.size X
    have hWX := bthen HB2.out ha3
    have hwX := hab.trans (hWX.mono hWs)
    cases ok with
    | false =>
      go_quiet (fail)
      go_wp2
      go_ret
      exact ⟨rfl, undrewN' hwX⟩
    | true =>
      obtain ⟨hbb, hn40, hd40, hdp, hfr, -, hN1, hN2⟩ := HOK.out rfl
      subst hbb
      have Q1 := Lib.hid (R1.out.below hWX)
      have Q2 := Lib.hid (R2.out.below hWX)
      have N1 := Lib.hid (hN1.below ha3)
      have N2 := Lib.hid (hN2.below ha3)
      have hLa := hN1.len
      have hnn : nl (wv ns) ≤ 1000000000 := Nat.le_trans (nl_wv R1.out.lt) (by omega)
      have hnd : nl (wv ds) ≤ 1000000000 := Nat.le_trans (nl_wv R2.out.lt) (by omega)
      have hwn : (wds (wv ns)).length ≤ 1000000000 := by rw [wds_length]; exact Nat.le_trans (nw_le (wv_lt R1.out.lt)) (by omega)
      have hwd : (wds (wv ds)).length ≤ 1000000000 := by rw [wds_length]; exact Nat.le_trans (nw_le (wv_lt R2.out.lt)) (by omega)
      have HLa := Lib.hid hLa
      have Hn := Lib.hid hn40
      have Hd := Lib.hid hd40
      have Hdp := Lib.hid hdp
      have Hnn := Lib.hid hnn
      have Hnd := Lib.hid hnd
      have Hwn := Lib.hid hwn
      have Hwd := Lib.hid hwd
      clear hN1 hN2 hfr hLa hn40 hd40 hdp hnn hnd hwn hwd

      first
        | (go_region_held3 (fun w' => Below X.heap.size X w' ∧ w'.cell? ⟨w.heap.size, 0, none⟩ = some (.bool bb) ∧ w'.cell? ⟨w.heap.size, 1, none⟩ = some v1 ∧ w'.cell? ⟨w.heap.size, 2, none⟩ = some v2 ∧ w'.cell? ⟨w2.heap.size, 0, none⟩ = some (.bool false) ∧ w'.cell? ⟨w2.heap.size, 1, none⟩ = some a1 ∧ w'.cell? ⟨w2.heap.size, 2, none⟩ = some a2)
            ((refine ks6B c0 c1 c2 d0 d1 d2 ?_; first | assumption | exact Below.drew hXX))
            (first
              | (go_at_call 35; refine (impAbs bb v1 v2 ns ds _ (Q1.out.below (And.left (by assumption))) (Q2.out.below (And.left (by assumption))) (Nat.le_trans Hn.out (by decide)) (Nat.le_trans Hd.out (by decide)) Hdp.out).mono ?_; rintro _ w3 ⟨r1, r2, rfl, hr1, hr2, hb3⟩; have hSr1 := hr1.isS; have hSr2 := hr2.isS; have hb3 := bthenL hb3 (by assumption))
              | (go_at_call 34; refine (isFraction_any _ _ _ _ _ _ _ _ _ _ _ hr1 hr2 (N1.out.below hb3) (N2.out.below hb3) Hwn.out Hwd.out Hnn.out Hnd.out).mono ?_; rintro _ w7 ⟨rfl, hb7⟩; rw [isFrac_same false false _ _ rfl]; have hb7 := bthen hb3 hb7)))
        | fail
      all_goals
        go_wp2
        go_ret
        exact ⟨rfl, bthen hwX hb7⟩
set_option maxRecDepth 100000 in
set_option maxHeartbeats 1600000 in
theorem lawRatNeg (b : Bool) (v1 v2 : Value) (ns ds : List Nat) (w : World) (h1 : RW w v1 ns) (h2 : RW w v2 ds) :
    Calls Try.prog 9 #[.agg #[.bool b, v1, v2]] w fun e w' => e = .returned (.bool true) ∧ Below w.heap.size w w' := by
  have hS1 := h1.isS
  have hS2 := h2.isS
  have hab := (Below.refl w.heap.size w).alloc (Nat.le_refl _) (.cells #[.bool b, v1, v2] 55)
  obtain ⟨W, hW⟩ : ∃ W, W = w.alloc (.cells #[.bool b, v1, v2] 55) := ⟨_, rfl⟩
  have hrow : W.heap[w.heap.size]? = some (.cells #[.bool b, v1, v2] 55 (0, 0)) := by rw [hW]; exact box_row (Below.refl _ _)
  rw [← hW] at hab
  obtain ⟨x0, x1, x2, -, -, -⟩ := row3 hrow
  have hWlt : w.heap.size < W.heap.size := (heap_alloc_lt (o := .cells #[] 0) hrow).2
  have HR := Lib.hid hrow
  have R1 := Lib.hid (h1.below hab)
  have R2 := Lib.hid (h2.below hab)
  have hWs := hab.size
  clear hrow h1 h2
  go_enter Try.func9, Try.ntmps9
  go_upto_region 1 with fail
  rw [← hW]
  clear hW
  go_wp2_with fail
  refine (zzFits3_any b v1 v2 ns ds W R1.out R2.out).mono ?_
  rintro _ w1 ⟨rfl, hb1⟩
  obtain ⟨y0, y1, y2, -, -, -⟩ := row3 (keep_row hb1 HR.out)
  have bb1 := hab.trans (hb1.mono hWs)
  obtain ⟨fits, hfits⟩ : ∃ f, f = (decide (ns.length ≤ 2147483647) && decide (ds.length ≤ 2147483647)) := ⟨_, rfl⟩
  rw [← hfits]
  clear hfits
  have HB1 := Lib.hid hb1
  clear hb1
  cases fits with
  | false =>
    go_wp2
    go_ret
    exact ⟨rfl, bb1⟩
  | true =>
    go_wp2_with fail
    refine (fraction_any b v1 v2 40 ns ds w1 (R1.out.below HB1.out) (R2.out.below HB1.out) (by decide)).mono ?_
    rintro _ w2 ⟨_, rfl, bb, a1, a2, ok, rfl, hA1, hA2, hb2, hok⟩
    have HOK := Lib.hid hok
    have HB2 := Lib.hid (bthen HB1.out hb2)
    clear hok hb2
    have hr2 := keep_row HB2.out HR.out
    have ha3 := (Below.refl w2.heap.size w2).alloc (Nat.le_refl _) (.cells #[.bool bb, a1, a2] 58)
    go_upto_region 4 with fail
    obtain ⟨X, hX⟩ : ∃ X, X = w2.alloc (.cells #[.bool bb, a1, a2] 58) := ⟨_, rfl⟩
    have hrX : X.heap[w2.heap.size]? = some (.cells #[.bool bb, a1, a2] 58 (0, 0)) := by rw [hX]; exact box_row (Below.refl _ _)
    rw [← hX] at ha3 ⊢
    clear hX
    obtain ⟨c0, c1, c2, -, -, -⟩ := row3 (keep_row ha3 hr2)
    obtain ⟨d0, d1, d2, -, -, -⟩ := row3 hrX
    have hXX := Below.refl X.heap.size X
    have hWX := bthen HB2.out ha3
    have hwX := hab.trans (hWX.mono hWs)
    cases ok with
    | false =>
      go_quiet (fail)
      go_wp2
      go_ret
      exact ⟨rfl, undrewN' hwX⟩
    | true =>
      obtain ⟨hbb, hn40, hd40, hdp, hfr, -, hN1, hN2⟩ := HOK.out rfl
      subst hbb
      have Q1 := Lib.hid (R1.out.below hWX)
      have Q2 := Lib.hid (R2.out.below hWX)
      have N1 := Lib.hid (hN1.below ha3)
      have N2 := Lib.hid (hN2.below ha3)
      have hLa := hN1.len
      have hnn : nl (wv ns) ≤ 1000000000 := Nat.le_trans (nl_wv R1.out.lt) (by omega)
      have hnd : nl (wv ds) ≤ 1000000000 := Nat.le_trans (nl_wv R2.out.lt) (by omega)
      have hwn : (wds (wv ns)).length ≤ 1000000000 := by rw [wds_length]; exact Nat.le_trans (nw_le (wv_lt R1.out.lt)) (by omega)
      have hwd : (wds (wv ds)).length ≤ 1000000000 := by rw [wds_length]; exact Nat.le_trans (nw_le (wv_lt R2.out.lt)) (by omega)
      have HLa := Lib.hid hLa
      have Hn := Lib.hid hn40
      have Hd := Lib.hid hd40
      have Hdp := Lib.hid hdp
      have Hnn := Lib.hid hnn
      have Hnd := Lib.hid hnd
      have Hwn := Lib.hid hwn
      have Hwd := Lib.hid hwd
      clear hN1 hN2 hfr hLa hn40 hd40 hdp hnn hnd hwn hwd
      obtain ⟨x, hx⟩ : ∃ x, x = (!bb && decide (0 < wv ns)) := ⟨_, rfl⟩
      have HX := Lib.hid hx
      clear hx
      first
        | (go_region_held3 (fun w' => Below X.heap.size X w' ∧ w'.cell? ⟨w.heap.size, 0, none⟩ = some (.bool bb) ∧ w'.cell? ⟨w.heap.size, 1, none⟩ = some v1 ∧ w'.cell? ⟨w.heap.size, 2, none⟩ = some v2 ∧ w'.cell? ⟨w2.heap.size, 0, none⟩ = some (.bool bb) ∧ w'.cell? ⟨w2.heap.size, 1, none⟩ = some a1 ∧ w'.cell? ⟨w2.heap.size, 2, none⟩ = some a2)
            ((refine ks6B c0 c1 c2 d0 d1 d2 ?_; first | assumption | exact Below.drew hXX))
            (first
              | (go_at_call 36; refine (impNeg bb v1 v2 ns ds _ (Q1.out.below (And.left (by assumption))) (Q2.out.below (And.left (by assumption))) (Nat.le_trans Hn.out (by decide)) (Nat.le_trans Hd.out (by decide)) Hdp.out).mono ?_; rintro _ w3 ⟨r1, r2, rfl, hr1, hr2, hb3⟩; rw [← HX.out]; have hSr1 := hr1.isS; have hSr2 := hr2.isS; have hb3 := bthenL hb3 (by assumption))
              | (go_at_call 37; refine (negated_any bb a1 a2 (wv ns) _ hA1 hA2 HLa.out).mono ?_; rintro _ w4 ⟨rfl, hb4⟩; rw [← HX.out]; have hr1' := hr1.below hb4; have hr2' := hr2.below hb4; have hb4 := bthen hb3 hb4)
              | (go_at_call 34; refine (isFraction_any _ _ _ _ _ _ _ _ _ _ _ hr1' hr2' (N1.out.below hb4) (N2.out.below hb4) Hwn.out Hwd.out Hnn.out Hnd.out).mono ?_; rintro _ w7 ⟨rfl, hb7⟩; rw [isFrac_same _ _ _ _ (by rw [HX.out]; cases bb <;> simp)]; have hb7 := bthen hb4 hb7)))
        | fail
      all_goals
        go_wp2
        go_ret
        exact ⟨rfl, bthen hwX hb7⟩
end Go.Proofs.Ytedmkbpfmddafaa
