/-
The thin package's fractions: fraction. No condition.
-/
import Derived.Test.YtedmkbpfmddafaaInH
namespace Go.Proofs.Ytedmkbpfmddafaa
open Go.RowKit

set_option maxRecDepth 100000 in
set_option maxHeartbeats 800000 in
theorem frac_any (b B : Nat) (neg : Bool) (n d : Nat) (w : World) (h : RatP w B b neg n d) (hd : 0 < d) (hl1 : nw n ≤ 100000000) (hl2 : nw d ≤ 100000000) :
    Calls Try.prog 60 #[.pointer (some ⟨b, 0, none⟩)] w fun e w' => ∃ r1 r2, e = .returned (.agg #[.bool (neg && decide (0 < n)), r1, r2]) ∧ RW w' r1 (wds n) ∧ RW w' r2 (wds d) ∧ Below w.heap.size w w' := by
  have hab := (Below.refl w.heap.size w).alloc (Nat.le_refl _) (.cells #[.bool false, .slice none 0 0, .slice none 0 0] 55)
  have hrow0 := box_row (Below.refl _ (w.alloc (.cells #[.bool false, .slice none 0 0, .slice none 0 0] 55)))
  obtain ⟨W, hW⟩ : ∃ W, W = w.alloc (.cells #[.bool false, .slice none 0 0, .slice none 0 0] 55) := ⟨_, rfl⟩
  rw [← hW] at hab hrow0
  obtain ⟨v1, v2, hB, hr, ho1, ho2⟩ := h
  have hr' := keep_row hab hr
  have k0 := (row_at (i := 0) hr' rfl).1
  have k1 := (row_at (i := 1) hr' rfl).1
  have R1 := Lib.hid ((ho1.rw' (wds_all n)).below hab)
  have R2 := Lib.hid ((ho2.rw' (wds_all d)).below hab)
  have hS1 := ho1.isS
  have hS2 := ho2.isS
  have hL2 : 0 < sLen v2 := by rw [ho2.len, cellsW_length, wds_length]; exact nw_pos hd
  have HR := Lib.hid hr'
  have H0 := Lib.hid hrow0
  have hWs := hab.size
  obtain ⟨x, hx⟩ : ∃ x, x = (neg && decide (0 < n)) := ⟨_, rfl⟩
  rw [← hx]
  have HX := Lib.hid hx
  clear hr hr' hrow0 ho1 ho2 hx
  go_enter Try.func60, Try.ntmps60
  go_upto_region 1 with fail
  rw [← hW]
  clear hW
  go_wp2_with fail
  refine (ratNum b W).mono ?_
  rintro _ _ ⟨rfl, rfl⟩
  go_wp2_with fail
  refine (told_any b 0 neg v1 n W k0 k1 R1.out hl1).mono ?_
  rintro _ w1 ⟨r1, rfl, hq1, hb1⟩
  rw [← HX.out]
  have hSr1 := hq1.isS
  have k3 := (row_at (i := 3) (keep_row hb1 HR.out) rfl).1
  have HB1 := Lib.hid hb1
  have HQ1 := Lib.hid hq1
  clear hb1 hq1 k0 k1
  go_wp2_with fail
  refine (ratDenom b v2 w1 k3 hS2 hL2).mono ?_
  rintro _ _ ⟨rfl, rfl⟩
  go_wp2_with fail
  refine (wordsOf_any b 2 v2 (wds d) w1 k3 (R2.out.below HB1.out) (by rw [wds_length]; exact hl2)).mono ?_
  rintro _ w2 ⟨r2, rfl, hq2, hb2⟩
  have hSr2 := hq2.isS
  have hb12 := bthen HB1.out hb2
  have hrow2 := keep_row hb12 H0.out
  have k0 := row_at (i := 0) hrow2 rfl
  have k1 := row_at (i := 1) hrow2 rfl
  have k2 := row_at (i := 2) hrow2 rfl
  obtain ⟨k00, k01⟩ := k0
  obtain ⟨k10, k11⟩ := k1
  obtain ⟨k20, k21⟩ := k2
  have p1 := rowset (i := 0) (.bool x) hrow2
  have p2 := rowset (i := 1) r1 p1
  have p3 := rowset (i := 2) r2 p2
  have e0 := (row_at (i := 0) p3 rfl).1
  have e1 := (row_at (i := 1) p3 rfl).1
  have e2 := (row_at (i := 2) p3 rfl).1
  have a1 := (((HQ1.out.below hb2).away hrow2 (by decide) 0 (.bool x)).away p1 (by decide) 1 r1).away p2 (by decide) 2 r2
  have a2 := ((hq2.away hrow2 (by decide) 0 (.bool x)).away p1 (by decide) 1 r1).away p2 (by decide) 2 r2
  have b1 := bset (i := 2) (u := r2) (bset (i := 1) (u := r1) (bset (i := 0) (u := .bool x) (hab.trans (hb12.mono hWs)) (Nat.le_refl _)) (Nat.le_refl _)) (Nat.le_refl _)
  have A1 := Lib.hid (a1.rw' (wds_all n))
  have A2 := Lib.hid (a2.rw' (wds_all d))
  have B1 := Lib.hid b1
  clear hq2 hb2 hb12 hrow2 p1 p2 p3 a1 a2 b1 k3
  go_wp2
  refine bodyPost_ret (v := .agg #[.bool x, r1, r2]) ?_ rfl ⟨r1, r2, rfl, A1.out, A2.out, B1.out⟩
  simp [results, Try.results60, go_sem, e0, e1, e2]
end Go.Proofs.Ytedmkbpfmddafaa
