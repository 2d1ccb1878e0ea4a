/-
The statement on one over a fraction. No condition.
-/
import Derived.Test.YtedmkbpfmddafaaInT
namespace Go.Proofs.Ytedmkbpfmddafaa
open Go.RowKit

theorem sg_zero (b : Bool) : sg b 0 = 0 := rfl
theorem sg_ne {b : Bool} {n : Nat} (h : 0 < n) : (sg b n == 0) = false := by
  rw [beq_eq_false_iff_ne]; unfold sg; rw [if_neg (by omega)]; cases b <;> simp
set_option maxRecDepth 100000 in
set_option maxHeartbeats 1600000 in
theorem lawRatInv (b : Bool) (v1 v2 : Value) (ns ds : List Nat) (w : World) (h1 : RW w v1 ns) (h2 : RW w v2 ds) :
    Calls Try.prog 10 #[.agg #[.bool b, v1, v2]] w fun e w' => e = .returned (.bool true) ∧ Below w.heap.size w w' := by
  have hS1 := h1.isS
  have hS2 := h2.isS
  have hab := (Below.refl w.heap.size w).alloc (Nat.le_refl _) (.cells #[.bool b, v1, v2] 55)
  obtain ⟨W, hW⟩ : ∃ W, W = w.alloc (.cells #[.bool b, v1, v2] 55) := ⟨_, rfl⟩
  have hrow : W.heap[w.heap.size]? = some (.cells #[.bool b, v1, v2] 55 (0, 0)) := by rw [hW]; exact box_row (Below.refl _ _)
  rw [← hW] at hab
  obtain ⟨x0, x1, x2, -, -, -⟩ := row3 hrow
  have hWlt : w.heap.size < W.heap.size := (heap_alloc_lt (o := .cells #[] 0) hrow).2
  have HR := Lib.hid hrow
  have R1 := Lib.hid (h1.below hab)
  have R2 := Lib.hid (h2.below hab)
  have hWs := hab.size
  clear hrow h1 h2
  go_enter Try.func10, Try.ntmps10
  go_upto_region 1 with fail
  rw [← hW]
  clear hW
  go_wp2_with fail
  refine (zzFits3_any b v1 v2 ns ds W R1.out R2.out).mono ?_
  rintro _ w1 ⟨rfl, hb1⟩
  obtain ⟨y0, y1, y2, -, -, -⟩ := row3 (keep_row hb1 HR.out)
  have bb1 := hab.trans (hb1.mono hWs)
  obtain ⟨fits, hfits⟩ : ∃ f, f = (decide (ns.length ≤ 2147483647) && decide (ds.length ≤ 2147483647)) := ⟨_, rfl⟩
  rw [← hfits]
  clear hfits
  have HB1 := Lib.hid hb1
  clear hb1
  cases fits with
  | false =>
    go_wp2
    go_ret
    exact ⟨rfl, bb1⟩
  | true =>
    go_wp2_with fail
    refine (fraction_any b v1 v2 40 ns ds w1 (R1.out.below HB1.out) (R2.out.below HB1.out) (by decide)).mono ?_
    rintro _ w2 ⟨_, rfl, bb, a1, a2, ok, rfl, hA1, hA2, hb2, hok⟩
    have HOK := Lib.hid hok
    have HB2 := Lib.hid (bthen HB1.out hb2)
    clear hok hb2
    have hr2 := keep_row HB2.out HR.out
    have ha3 := (Below.refl w2.heap.size w2).alloc (Nat.le_refl _) (.cells #[.bool bb, a1, a2] 58)
    go_upto_region 4 with fail
    obtain ⟨X, hX⟩ : ∃ X, X = w2.alloc (.cells #[.bool bb, a1, a2] 58) := ⟨_, rfl⟩
    have hrX : X.heap[w2.heap.size]? = some (.cells #[.bool bb, a1, a2] 58 (0, 0)) := by rw [hX]; exact box_row (Below.refl _ _)
    rw [← hX] at ha3 ⊢
    clear hX
    obtain ⟨c0, c1, c2, -, -, -⟩ := row3 (keep_row ha3 hr2)
    obtain ⟨d0, d1, d2, -, -, -⟩ := row3 hrX
    have HrX := Lib.hid hrX
    have hWX := bthen HB2.out ha3
    have hwX := hab.trans (hWX.mono hWs)
    cases ok with
    | false =>
      go_wp2
      go_ret
      exact ⟨rfl, hwX⟩
    | true =>
      obtain ⟨hbb, hn40, hd40, hdp, hfr, -, hN1, hN2⟩ := HOK.out rfl
      subst hbb
      have Q1 := Lib.hid (R1.out.below hWX)
      have Q2 := Lib.hid (R2.out.below hWX)
      have N1 := Lib.hid (hN1.below ha3)
      have N2 := Lib.hid (hN2.below ha3)
      have hLa := hN1.len
      have Hnn := Lib.hid (show nl (wv ns) ≤ 1000000000 from Nat.le_trans (nl_wv R1.out.lt) (by omega))
      have Hnd := Lib.hid (show nl (wv ds) ≤ 1000000000 from Nat.le_trans (nl_wv R2.out.lt) (by omega))
      have Hwn := Lib.hid (show (wds (wv ns)).length ≤ 1000000000 by rw [wds_length]; exact Nat.le_trans (nw_le (wv_lt R1.out.lt)) (by omega))
      have Hwd := Lib.hid (show (wds (wv ds)).length ≤ 1000000000 by rw [wds_length]; exact Nat.le_trans (nw_le (wv_lt R2.out.lt)) (by omega))
      have HLa := Lib.hid hLa
      have Hn := Lib.hid (show ns.length ≤ 100000 by omega)
      have Hd := Lib.hid (show ds.length ≤ 100000 by omega)
      have Hdp := Lib.hid hdp
      have hXX := Below.refl X.heap.size X
      clear hN1 hN2 hfr hLa hn40 hd40 hdp hrX
      by_cases h0 : wv ns = 0
      · have H0 := Lib.hid h0
        clear h0
        go_wp2_with fail
        refine (impInv_zero bb v1 v2 ns ds X Q1.out Q2.out Hn.out Hd.out H0.out).mono ?_
        rintro _ w3 ⟨rfl, hb3⟩
        have hr3 := keep_row hb3 HrX.out
        have ha4 := (Below.refl w3.heap.size w3).alloc (Nat.le_refl _) (.cells #[.bool false, .slice none 0 0, .slice none 0 0] 55)
        obtain ⟨m0, m1, m2, -, -, -⟩ := row3 (keep_row ha4 hr3)
        have hb4 := bthen hb3 ha4
        clear hr3
        go_wp2_with fail
        refine (signOf_any bb a1 a2 (wv ns) _ hA1 hA2 HLa.out).mono ?_
        rintro _ w4 ⟨rfl, hb5⟩
        rw [H0.out, sg_zero]
        have hbe := bthen hwX (bthen hb4 hb5)
        go_wp2
        go_ret
        exact ⟨rfl, hbe⟩
      · have H0 := Lib.hid (show 0 < wv ns by omega)
        clear h0
        obtain ⟨z, hz⟩ : ∃ z, z = sg bb (wv ns) := ⟨_, rfl⟩
        have t1 := sg_ne (b := bb) H0.out
        have hzb := sg_bd bb (wv ns)
        rw [← hz] at t1 hzb
        obtain ⟨hz1, hz2⟩ := hzb
        have HZ := Lib.hid hz
        obtain ⟨x, hx⟩ : ∃ x, x = (bb && decide (0 < wv ds)) := ⟨_, rfl⟩
        have HX := Lib.hid hx
        clear hz hx
        go_wp2_with fail
        refine (impInv_ok bb v1 v2 ns ds X Q1.out Q2.out Hn.out Hd.out H0.out Hdp.out).mono ?_
        rintro _ w3 ⟨r1, r2, rfl, hr1, hr2', hb3⟩
        rw [← HX.out]
        have hSr1 := hr1.isS
        have hSr2 := hr2'.isS
        have ha4 := (Below.refl w3.heap.size w3).alloc (Nat.le_refl _) (.cells #[.bool x, r1, r2] 55)
        have hrY := box_row (Below.refl _ (w3.alloc (.cells #[.bool x, r1, r2] 55)))
        have hb4 := bthen hb3 ha4
        have HrY := Lib.hid hrY
        have S1 := Lib.hid (hr1.below ha4)
        have S2 := Lib.hid (hr2'.below ha4)
        obtain ⟨m0, m1, m2, -, -, -⟩ := row3 (keep_row ha4 (keep_row hb3 HrX.out))
        clear hr1 hr2' hrY
        go_wp2_with fail
        refine (signOf_any bb a1 a2 (wv ns) _ hA1 hA2 HLa.out).mono ?_
        rintro _ w4 ⟨rfl, hb5⟩
        rw [← HZ.out]
        have hb45 := bthen hb4 hb5
        obtain ⟨n0, n1, n2, -, -, -⟩ := row3 (keep_row hb45 HrX.out)
        obtain ⟨p0, p1, p2, -, -, -⟩ := row3 (keep_row hb5 HrY.out)
        have hw4 := bthen hwX hb45
        have h44 := Below.refl w4.heap.size w4
        have S1' := Lib.hid (S1.out.below hb5)
        have S2' := Lib.hid (S2.out.below hb5)
        have N1' := Lib.hid (N1.out.below hb45)
        have N2' := Lib.hid (N2.out.below hb45)
        go_upto_region 9 with fail
        first
          | (go_region_held3 (fun w' => Below w4.heap.size w4 w' ∧ w'.cell? ⟨w3.heap.size, 0, none⟩ = some (.bool x) ∧ w'.cell? ⟨w3.heap.size, 1, none⟩ = some r1 ∧ w'.cell? ⟨w3.heap.size, 2, none⟩ = some r2 ∧ w'.cell? ⟨w2.heap.size, 0, none⟩ = some (.bool bb) ∧ w'.cell? ⟨w2.heap.size, 1, none⟩ = some a1 ∧ w'.cell? ⟨w2.heap.size, 2, none⟩ = some a2)
              ((refine ks6B p0 p1 p2 n0 n1 n2 ?_; first | assumption | exact Below.drew h44))
              (first
                | (go_at_call 39; refine (upside_any bb a1 a2 _ hA1 hA2).mono ?_; rintro _ w5 ⟨rfl, hb6⟩; have hb6 := bthenL hb6 (by assumption))
                | (go_at_call 34; refine (isFraction_any _ _ _ _ _ _ _ _ _ _ _ (S1'.out.below hb6) (S2'.out.below hb6) (N2'.out.below hb6) (N1'.out.below hb6) Hwd.out Hwn.out Hnd.out Hnn.out).mono ?_; rintro _ w7 ⟨rfl, hb7⟩; rw [isFrac_same x bb _ _ HX.out]; have hb7 := bthen hb6 hb7)))
          | fail
        all_goals
          go_wp2
          go_ret
          exact ⟨rfl, bthen hw4 hb7⟩
end Go.Proofs.Ytedmkbpfmddafaa
