/-
Texts of this proof, joined: LwH. No condition.
-/
import Derived.Test.YtjgkmnmemjebbaaDoorK22
/-
The statement on rounding twice. No condition.
-/
namespace Go.Proofs.YtjgkmnmemjebbaaDoor
open Go.RowKit

set_option maxRecDepth 100000 in
set_option maxHeartbeats 800000 in
theorem same_eq (v u : Value) (ws : List Nat) (w : World) (hv : RW w v ws) (hu : RW w u ws) (hl : ws.length ≤ 1000000000) :
    Calls Tryd.prog 33 #[v, u] w fun e w' => e = .returned (.bool true) ∧ Below w.heap.size w w' := by
  have hSv := hv.isS
  have hLv := hv.len
  have hSu := hu.isS
  have hLu := hu.len
  obtain ⟨l, hlv⟩ : ∃ l, l = ws.length := ⟨_, rfl⟩
  rw [← hlv] at hLv hLu hl
  have Hl := Lib.hid hlv
  have Hv := Lib.hid hv
  have Hu := Lib.hid hu
  clear hv hu hlv
  go_enter Tryd.func33, Tryd.ntmps33
  go_wp2
  go_loopw [13] (fun i wr => ∃ k : Nat, k ≤ l ∧ i = .int .i64 k ∧ Below w.heap.size w wr) (fun i _ => l - (intOf i).toNat)
  case atStart => exact ⟨0, Nat.zero_le _, rfl, Below.refl _ _⟩
  case round =>
    obtain ⟨k, hk, rfl, hbl⟩ := hrel
    by_cases hkr : k < l
    · have cv := (Hv.out.below hbl).cell k (by rw [← Hl.out]; exact hkr)
      have cr := (Hu.out.below hbl).cell k (by rw [← Hl.out]; exact hkr)
      obtain ⟨p, hp⟩ : ∃ p, p = ws.getD k 0 := ⟨_, rfl⟩
      rw [← hp] at cv cr
      clear hp
      go_wp2
      go_quiet (fail)
      go_wp2
      exact ⟨⟨k + 1, by omega, by go_num, undrewN' hbl⟩, by simp [intOf]; omega⟩
    · have hkl : k = l := by omega
      clear hkl
      go_wp2
      go_ret
      exact ⟨rfl, hbl⟩
theorem od_rQ {p m M : Nat} (n : Bool) (s : Nat) (hp0 : 0 < p) (hM : 0 < M) : bl (od (rQ p m n s M)) ≤ p ∨ s ≠ 0 := by
  by_cases hs : s = 0
  · subst hs
    left
    by_cases h : bl M ≤ p
    · rw [(rQ_fits (m := m) n h).2.1]
      have := bl_od hM; omega
    · have h3 := (rQ_bound (m := m) n 0 hp0 (show p < bl M by omega)).2.2
      have h0 := rQ_pos (m := m) n 0 hp0 hM
      by_cases he : rQ p m n 0 M = 2 ^ p
      · have := (od_of (n := rQ p m n 0 M) (o := 1) (t := p) (by rw [Nat.one_mul]; exact he) (by decide)).1
        rw [this]; have : bl 1 ≤ 1 := bl_le (by decide)
        omega
      · have h4 : bl (rQ p m n 0 M) ≤ p := bl_le (by omega)
        have := bl_od h0; omega
  · exact .inr hs
theorem twice_eq {w : World} {y : Value} {p j f : Nat} {n : Bool} {zs : List Nat} {Ez : Int} (h : RealV w y p j f n (rQ p j n 0 (wv zs)) (Ez + (rk p (wv zs) : Nat))) (h1 : f = 1 → bl (wv zs) ≤ p ∧ wv zs % 2 = 1 ∧ zs = wds (wv zs)) (h0 : f ≠ 1 → zs = [] ∧ Ez = 0) :
    stA f p j n (wv zs) = 0 ∧ ∃ vy, y = .agg #[.int .u64 p, .int .i64 j, .int .i64 f, .bool n, vy, .int .i64 Ez] ∧ RW w vy zs := by
  obtain ⟨v, E, ys, B, e1, e2, e3, e4, e5⟩ := h
  by_cases hf : f = 1
  · obtain ⟨k1, k2, k3⟩ := h1 hf
    obtain ⟨l1, l2, l3⟩ := rQ_fits (p := p) (m := j) n k1
    obtain ⟨g1, g2⟩ := e5 hf
    rw [l2] at g1 g2
    obtain ⟨o1, o2⟩ := od_of (n := wv zs) (o := wv zs) (t := 0) (by simp) k2
    rw [o1, ← k3] at g1
    rw [o2, l1] at g2
    refine ⟨by unfold stA; rw [if_pos hf]; exact l3, v, ?_, ?_⟩
    · rw [e1, show E = Ez by simpa using g2]
    · rw [← g1]; exact e2.rw' e3
  · obtain ⟨g1, g2⟩ := e4 hf
    obtain ⟨k1, k2⟩ := h0 hf
    refine ⟨by unfold stA; rw [if_neg hf], v, ?_, ?_⟩
    · rw [e1, g2, k2]
    · rw [k1, ← g1]; exact e2.rw' e3
set_option maxRecDepth 100000 in
set_option maxHeartbeats 3200000 in
theorem lawTwice (a0 : Int) (a1 : Int) (a2 : Int) (p1 : Nat) (m1 f1 : Int) (n1 : Bool) (v1 : Value) (e1 : Int) (xs1 : List Nat) (w : World) (hT : TabW w) (l0 : 0 ≤ a0) (h0 : a0 ≤ 65535) (l1 : 0 ≤ a1) (h1 : a1 ≤ 255) (l2 : 0 ≤ a2) (h2 : a2 ≤ 255) (hv1 : RW w v1 xs1) (_hg1 : p1 ≤ 18446744073709551615 ∧ (-9223372036854775808 ≤ m1 ∧ m1 ≤ 9223372036854775807) ∧ (-9223372036854775808 ≤ f1 ∧ f1 ≤ 9223372036854775807) ∧ (-9223372036854775808 ≤ e1 ∧ e1 ≤ 9223372036854775807)) :
    Calls Tryd.prog 10 #[.int .u16 a0, .int .u8 a1, .int .u8 a2, .agg #[.int .u64 p1, .int .i64 m1, .int .i64 f1, .bool n1, v1, .int .i64 e1]] w fun e' w' => e' = .returned (.bool true) ∧ Below w.heap.size w w' := by
  obtain ⟨b0, rfl⟩ := Int.eq_ofNat_of_zero_le l0
  have ib0 : b0 ≤ 65535 := by omega
  obtain ⟨b1, rfl⟩ := Int.eq_ofNat_of_zero_le l1
  have ib1 : b1 ≤ 255 := by omega
  obtain ⟨b2, rfl⟩ := Int.eq_ofNat_of_zero_le l2
  have ib2 : b2 ≤ 255 := by omega
  have hS1 := hv1.isS
  clear _hg1
  have hab1 := (Below.refl w.heap.size w).alloc (Nat.le_refl _) (.cells #[.int .u64 p1, .int .i64 m1, .int .i64 f1, .bool n1, v1, .int .i64 e1] 26)
  obtain ⟨X, hX⟩ : ∃ X, X = (w.alloc (.cells #[.int .u64 p1, .int .i64 m1, .int .i64 f1, .bool n1, v1, .int .i64 e1] 26)) := ⟨_, rfl⟩
  have hr1 : X.heap[w.heap.size]? = some (.cells #[.int .u64 p1, .int .i64 m1, .int .i64 f1, .bool n1, v1, .int .i64 e1] 26 (0, 0)) := by
    rw [hX]; exact row_chain11
  rw [← hX] at hab1
  obtain ⟨-, ⟨c10, c11, c12, c13, c14, c15⟩⟩ := ksR1 hr1 (Below.refl _ _)
  have HR1 := Lib.hid hr1
  have V1 := Lib.hid (hv1.below hab1)
  have hXs := hab1.size
  have HW := Lib.hid hab1
  have T0 := Lib.hid (hT.below hab1)
  clear hT
  clear hr1 hv1
  clear hab1
  go_enter Tryd.func10, Tryd.ntmps10
  go_upto_region 1 with fail
  rw [← hX]
  clear hX
  go_wp2_with fail
  refine (zzFits1_any p1 m1 f1 e1 n1 v1 xs1 X V1.out).mono ?_
  rintro _ w1 ⟨rfl, hb1⟩
  obtain ⟨fits, hfits⟩ : ∃ f, f = decide (xs1.length ≤ 2147483647) := ⟨_, rfl⟩
  rw [← hfits]
  clear c10 c11 c12 c13 c14 c15 hfits
  obtain ⟨-, ⟨c10, c11, c12, c13, c14, c15⟩⟩ := ksR1 HR1.out hb1
  have HB := Lib.hid hb1
  clear hb1
  cases fits with
  | false =>
    go_wp2
    go_ret
    exact ⟨rfl, HW.out.trans (HB.out.mono hXs)⟩
  | true =>
  go_wp2_with fail
  refine (number_any p1 m1 f1 e1 n1 v1 xs1 w1 (V1.out.below HB.out)).mono ?_
  rintro _ w2 ⟨ok, rfl, hok, hb1⟩
  have hb1 := bthen HB.out hb1
  have HO1 := Lib.hid hok
  clear c10 c11 c12 c13 c14 c15 HB hok
  obtain ⟨-, ⟨c10, c11, c12, c13, c14, c15⟩⟩ := ksR1 HR1.out hb1
  have HB := Lib.hid hb1
  clear hb1
  cases ok with
  | false =>
    go_wp2
    go_ret
    exact ⟨rfl, HW.out.trans (HB.out.mono hXs)⟩
  | true =>
  obtain ⟨hn, P1, M1, F1, hp, rfl, rfl, hR⟩ := HO1.out rfl
  have hpp : P1 = p1 := by omega
  subst hpp
  have R1 := Lib.hid hR
  have N1 : Hid (F1 ≠ 2) := Lib.hid (fun h => hn (by rw [h]; rfl))
  clear HO1 hp hR hn
  have hWW := HW.out.trans (HB.out.mono hXs)
  have hV1 := V1.out.below HB.out
  have hr1 := keep_row HB.out HR1.out
  have hT0 := T0.out.below HB.out
  clear T0
  have T0 := Lib.hid hT0
  clear hT0
  clear HW HB hXs V1 HR1
  have HW := Lib.hid hWW
  have V1 := Lib.hid hV1
  have HR1 := Lib.hid hr1
  have hWs := HW.out.size
  clear hWW hV1 hr1
  have q1 : (b0 : Int) % 300 = ((b0 % 300 : Nat) : Int) := by omega
  have q2 : (1 : Int) + ((b0 % 300 : Nat) : Int) = ((1 + b0 % 300 : Nat) : Int) := by omega
  have q3 : (b1 : Int) % 6 = ((b1 % 6 : Nat) : Int) := by omega
  have q4 : (b2 : Int) % 6 = ((b2 % 6 : Nat) : Int) := by omega
  have hZ0 : 0 < 1 + b0 % 300 := by omega
  have hZ1 : 1 + b0 % 300 ≤ 300 := by omega
  have hrb : b0 % 300 ≤ 299 := by omega
  have hkb : b1 % 6 ≤ 5 := by omega
  have hjb : b2 % 6 ≤ 5 := by omega
  obtain ⟨Z, hZ⟩ : ∃ Z, Z = 1 + b0 % 300 := ⟨_, rfl⟩
  rw [← hZ] at q2 hZ0 hZ1
  obtain ⟨r, hr⟩ : ∃ r, r = b0 % 300 := ⟨_, rfl⟩
  rw [← hr] at q1 q2 hrb
  obtain ⟨k, hk⟩ : ∃ k, k = b1 % 6 := ⟨_, rfl⟩
  rw [← hk] at q3 hkb
  obtain ⟨j, hj⟩ : ∃ j, j = b2 % 6 := ⟨_, rfl⟩
  rw [← hj] at q4 hjb
  clear hZ hr hk hj
  have hf01 : F1 = 0 ∨ F1 = 1 := by have := R1.out.form'; have := N1.out; omega
  have HF := Lib.hid hf01
  have hpo : pOf Z P1 = Z := by unfold pOf; rw [if_neg (by omega)]
  have HPO := Lib.hid hpo
  clear hf01 hpo
  go_wp2_with fail
  refine (impSet 300 1000 Z k P1 M1 F1 n1 v1 e1 xs1 w2 V1.out R1.out (by decide) (by decide) (by omega) hkb T0.out).mono ?_
  rintro _ wN ⟨z, rfl, hz, hb1⟩
  rw [HPO.out] at hz
  rw [HPO.out]
  obtain ⟨A, hA⟩ : ∃ A, A = stA F1 Z k n1 (wv xs1) := ⟨_, rfl⟩
  rw [← hA]
  clear hA
  obtain ⟨vz, Ez, zs, rfl, hRz, hOz, hoz, hnz⟩ := hz.ok (P := 300) (E := 10000) hZ0 hZ1 hkb (by have := HF.out; omega) (fun h => by
    have h1 := R1.out.one h
    have h2 := rk_le Z (wv xs1)
    have h3 := bl_rQ Z k n1 0 (wv xs1)
    have h4 := od_rQ (m := k) n1 0 hZ0 h1.1
    exact ⟨rQ_pos n1 0 hZ0 h1.1, by simpa using h4, by omega, by omega, by omega⟩)
  have hSz := hRz.isS
  obtain ⟨Y, hY⟩ : ∃ Y, Y = wN.alloc (.cells #[.int .u64 (Z : Int), .int .i64 (k : Int), .int .i64 (F1 : Int), .bool n1, vz, .int .i64 Ez] 26) := ⟨_, rfl⟩
  have hbY : Below wN.heap.size wN Y := by rw [hY]; exact fbone _
  have hrz : Y.heap[wN.heap.size]? = some (.cells #[.int .u64 (Z : Int), .int .i64 (k : Int), .int .i64 (F1 : Int), .bool n1, vz, .int .i64 Ez] 26 (0, 0)) := by rw [hY]; exact row_chain11
  have hbX := bthen hb1 hbY
  have HRz := Lib.hid hrz
  have VZ := Lib.hid (hRz.below hbY)
  have HOZ := Lib.hid hOz
  have HoZ := Lib.hid hoz
  have HnZ := Lib.hid hnz
  have HWY := Lib.hid (HW.out.trans (hbX.mono hWs))
  have TY := Lib.hid (T0.out.below hbX)
  have hYs := HWY.out.size
  have HT : Hid (F1 = 1 → bl (wv zs) ≤ Z ∧ wv zs % 2 = 1 ∧ zs = wds (wv zs)) := Lib.hid (fun h => by
    obtain ⟨k1, k2, -, -⟩ := hoz h
    have h1 := R1.out.one h
    have h0 := rQ_pos (m := k) n1 0 hZ0 h1.1
    exact ⟨(hOz.one h).2.1, by rw [k1]; exact (od_tz h0).2, by rw [k1]; exact k2⟩)
  have HLen : Hid (zs.length ≤ 1000000) := Lib.hid (by
    rcases HF.out with h | h
    · rw [(hnz (by omega)).1]; decide
    · exact (hOz.one h).2.2.2.1)
  obtain ⟨-, y0, y1, y2, y3, y4, y5⟩ := ks12 hrz (Below.refl _ _)
  clear hb1 hbY hrz hbX hz hRz hOz hoz hnz c10 c11 c12 c13 c14 c15 HW hWs T0 V1 HR1
  go_upto_region 7 with fail
  rw [← hY]
  clear hY
  go_wp2_with fail
  refine (impSet 300 10000 Z j Z k F1 n1 vz Ez zs Y VZ.out HOZ.out (by decide) (by decide) (by omega) hjb TY.out).mono ?_
  rintro _ wM ⟨y, rfl, hy, hb1⟩
  rw [show pOf Z Z = Z by unfold pOf; split <;> rfl] at hy
  rw [show pOf Z Z = Z by unfold pOf; split <;> rfl]
  obtain ⟨ha, vy, rfl, hRy⟩ := twice_eq hy HT.out HnZ.out
  rw [ha]
  have hSy := hRy.isS
  obtain ⟨U, hU⟩ : ∃ U, U = wM.alloc (.cells #[.int .u64 (Z : Int), .int .i64 (j : Int), .int .i64 (F1 : Int), .bool n1, vy, .int .i64 Ez] 26) := ⟨_, rfl⟩
  have hbU : Below wM.heap.size wM U := by rw [hU]; exact fbone _
  have hru : U.heap[wM.heap.size]? = some (.cells #[.int .u64 (Z : Int), .int .i64 (j : Int), .int .i64 (F1 : Int), .bool n1, vy, .int .i64 Ez] 26 (0, 0)) := by rw [hU]; exact row_chain11
  have hbX := bthen hb1 hbU
  have hrz := keep_row hbX HRz.out
  have VZU := Lib.hid (VZ.out.below hbX)
  have VYU := Lib.hid (hRy.below hbU)
  have HWU := Lib.hid (HWY.out.trans (hbX.mono hYs))
  clear y0 y1 y2 y3 y4 y5
  obtain ⟨-, x0, x1, x2, x3, x4, x5⟩ := ks12 hrz (Below.refl _ _)
  obtain ⟨-, y0, y1, y2, y3, y4, y5⟩ := ks12 hru (Below.refl _ _)
  clear hb1 hbU hru hbX hy ha hRy hrz
  go_upto_region 8 with fail
  rw [← hU]
  clear hU
  go_wp2_with fail
  refine (same_eq vy vz zs U VYU.out VZU.out (by have := HLen.out; omega)).mono ?_
  rintro _ w9 ⟨rfl, hb9⟩
  have H9 := Lib.hid (HWU.out.trans (hb9.mono HWU.out.size))
  clear hb9
  go_wp2
  go_ret
  exact ⟨rfl, H9.out⟩
end Go.Proofs.YtjgkmnmemjebbaaDoor
