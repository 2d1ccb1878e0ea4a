/-
The statement on a fraction's sign. No condition.
-/
import Derived.Test.YtedmkbpfmddafaaInL
namespace Go.Proofs.Ytedmkbpfmddafaa
open Go.RowKit

theorem ks6B {W X : World} {k g : Nat} {a b c d e f : Value} (c0 : W.cell? ⟨k, 0, none⟩ = some a) (c1 : W.cell? ⟨k, 1, none⟩ = some b) (c2 : W.cell? ⟨k, 2, none⟩ = some c)
    (d0 : W.cell? ⟨g, 0, none⟩ = some d) (d1 : W.cell? ⟨g, 1, none⟩ = some e) (d2 : W.cell? ⟨g, 2, none⟩ = some f) (h : Below W.heap.size W X) :
    Below W.heap.size W X ∧ X.cell? ⟨k, 0, none⟩ = some a ∧ X.cell? ⟨k, 1, none⟩ = some b ∧ X.cell? ⟨k, 2, none⟩ = some c ∧ X.cell? ⟨g, 0, none⟩ = some d ∧ X.cell? ⟨g, 1, none⟩ = some e ∧ X.cell? ⟨g, 2, none⟩ = some f :=
  ⟨h, ks6 c0 c1 c2 d0 d1 d2 h⟩
set_option maxRecDepth 100000 in
set_option maxHeartbeats 800000 in
theorem lawRatSign (b : Bool) (v1 v2 : Value) (ns ds : List Nat) (w : World) (h1 : RW w v1 ns) (h2 : RW w v2 ds) :
    Calls Try.prog 7 #[.agg #[.bool b, v1, v2]] w fun e w' => e = .returned (.bool true) ∧ Below w.heap.size w w' := by
  have hS1 := h1.isS
  have hS2 := h2.isS
  have hab := (Below.refl w.heap.size w).alloc (Nat.le_refl _) (.cells #[.bool b, v1, v2] 55)
  obtain ⟨W, hW⟩ : ∃ W, W = w.alloc (.cells #[.bool b, v1, v2] 55) := ⟨_, rfl⟩
  have hrow : W.heap[w.heap.size]? = some (.cells #[.bool b, v1, v2] 55 (0, 0)) := by rw [hW]; exact box_row (Below.refl _ _)
  rw [← hW] at hab
  obtain ⟨x0, x1, x2, -, -, -⟩ := row3 hrow
  have hWlt : w.heap.size < W.heap.size := (heap_alloc_lt (o := .cells #[] 0) hrow).2
  have HR := Lib.hid hrow
  have R1 := Lib.hid (h1.below hab)
  have R2 := Lib.hid (h2.below hab)
  have hWs := hab.size
  clear hrow h1 h2
  go_enter Try.func7, Try.ntmps7
  go_upto_region 1 with fail
  rw [← hW]
  clear hW
  go_wp2_with fail
  refine (zzFits3_any b v1 v2 ns ds W R1.out R2.out).mono ?_
  rintro _ w1 ⟨rfl, hb1⟩
  obtain ⟨y0, y1, y2, -, -, -⟩ := row3 (keep_row hb1 HR.out)
  have bb1 := hab.trans (hb1.mono hWs)
  obtain ⟨fits, hfits⟩ : ∃ f, f = (decide (ns.length ≤ 2147483647) && decide (ds.length ≤ 2147483647)) := ⟨_, rfl⟩
  rw [← hfits]
  clear hfits
  have HB1 := Lib.hid hb1
  clear hb1
  cases fits with
  | false =>
    go_wp2
    go_ret
    exact ⟨rfl, bb1⟩
  | true =>
    go_wp2_with fail
    refine (fraction_any b v1 v2 40 ns ds w1 (R1.out.below HB1.out) (R2.out.below HB1.out) (by decide)).mono ?_
    rintro _ w2 ⟨_, rfl, bb, a1, a2, ok, rfl, hA1, hA2, hb2, hok⟩
    have HOK := Lib.hid hok
    have HB2 := Lib.hid (bthen HB1.out hb2)
    clear hok hb2
    have hr2 := keep_row HB2.out HR.out
    have ha3 := (Below.refl w2.heap.size w2).alloc (Nat.le_refl _) (.cells #[.bool bb, a1, a2] 58)
    go_wp2_with fail
    obtain ⟨X, hX⟩ : ∃ X, X = w2.alloc (.cells #[.bool bb, a1, a2] 58) := ⟨_, rfl⟩
    have hrX : X.heap[w2.heap.size]? = some (.cells #[.bool bb, a1, a2] 58 (0, 0)) := by rw [hX]; exact box_row (Below.refl _ _)
    rw [← hX] at ha3 ⊢
    clear hX
    obtain ⟨c0, c1, c2, -, -, -⟩ := row3 (keep_row ha3 hr2)
    obtain ⟨d0, d1, d2, -, -, -⟩ := row3 hrX
    have hXX := Below.refl X.heap.size X
    have hWX := bthen HB2.out ha3
    have hwX := hab.trans (hWX.mono hWs)
    cases ok with
    | false =>
      go_quiet (fail)
      go_wp2
      go_ret
      exact ⟨rfl, undrewN' hwX⟩
    | true =>
      obtain ⟨hbb, hn40, hd40, hdp, hfr, -, hN1, hN2⟩ := HOK.out rfl
      subst hbb
      have Q1 := Lib.hid (R1.out.below hWX)
      have Q2 := Lib.hid (R2.out.below hWX)
      have N1 := Lib.hid (hN1.below ha3)
      have N2 := Lib.hid (hN2.below ha3)
      have hLa := hN1.len
      have h1b : nl 1 ≤ 1000000000 := Nat.le_trans (nl_le4 (by decide)) (by decide)
      have hnd : nl (wv ds) ≤ 1000000000 := Nat.le_trans (nl_wv R2.out.lt) (by omega)
      obtain ⟨z, hz⟩ : ∃ z, z = sg bb (wv ns) := ⟨_, rfl⟩
      have hzb := sg_bd bb (wv ns)
      rw [← hz] at hzb
      obtain ⟨hz1, hz2⟩ := hzb
      have HZ := Lib.hid hz
      obtain ⟨q, hq⟩ : ∃ q, q = cmpN (wv ds) 1 := ⟨_, rfl⟩
      have hqb := cmpN_bd (wv ds) 1
      rw [← hq] at hqb
      obtain ⟨hq1, hq2⟩ := hqb
      have HQ := Lib.hid hq
      have HLa := Lib.hid hLa
      have Hn := Lib.hid hn40
      have Hd := Lib.hid hd40
      have Hdp := Lib.hid hdp
      clear hz hq hN1 hN2 hfr hLa hn40 hd40 hdp
      first
        | (go_region_held3 (fun w' => Below X.heap.size X w' ∧ w'.cell? ⟨w.heap.size, 0, none⟩ = some (.bool bb) ∧ w'.cell? ⟨w.heap.size, 1, none⟩ = some v1 ∧ w'.cell? ⟨w.heap.size, 2, none⟩ = some v2 ∧ w'.cell? ⟨w2.heap.size, 0, none⟩ = some (.bool bb) ∧ w'.cell? ⟨w2.heap.size, 1, none⟩ = some a1 ∧ w'.cell? ⟨w2.heap.size, 2, none⟩ = some a2)
            ((refine ks6B c0 c1 c2 d0 d1 d2 ?_; first | assumption | exact Below.drew hXX))
            (first
              | (go_at_call 31; refine (impSign bb v1 v2 ns ds _ (Q1.out.below (And.left (by assumption))) (Q2.out.below (And.left (by assumption))) (Nat.le_trans Hn.out (by decide)) (Nat.le_trans Hd.out (by decide))).mono ?_; rintro _ w3 ⟨rfl, hb3⟩; rw [← HZ.out]; have hb3 := bthenL hb3 (by assumption))
              | (go_at_call 32; refine (signOf_any bb a1 a2 (wv ns) _ hA1 hA2 HLa.out).mono ?_; rintro _ w4 ⟨rfl, hb4⟩; rw [← HZ.out]; have hb4 := bthen hb3 hb4)
              | (go_at_call 33; refine (impIsInt bb v1 v2 ns ds _ (Q1.out.below hb4) (Q2.out.below hb4) (Nat.le_trans Hn.out (by decide)) (Nat.le_trans Hd.out (by decide)) Hdp.out).mono ?_; rintro _ w5 ⟨rfl, hb5⟩; rw [← HQ.out]; have hb5 := bthen hb4 hb5)
              | (go_at_call 17; refine (spSmall 1 _ (by decide)).mono ?_; rintro _ w6 ⟨ov, rfl, hov, hb6⟩; have hSo := hov.isS; have hb6 := bthen hb5 hb6)
              | (go_at_call 28; refine (spCmp _ _ _ _ _ (N2.out.below hb6) hov hnd h1b).mono ?_; rintro _ w7 ⟨rfl, hb7⟩; rw [← HQ.out]; have hb7 := bthen hb6 hb7)))
        | fail
      all_goals
        go_wp2
        go_ret
        exact ⟨rfl, bthen hwX hb7⟩
end Go.Proofs.Ytedmkbpfmddafaa
