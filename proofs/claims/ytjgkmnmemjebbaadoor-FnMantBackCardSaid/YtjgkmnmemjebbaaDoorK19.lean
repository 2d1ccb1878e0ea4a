/-
Texts of this proof, joined: StF DyA LwB LwC. No condition.
-/
import Derived.Test.YtjgkmnmemjebbaaDoorK14
import Derived.Test.YtjgkmnmemjebbaaDoorK17
import Derived.Test.YtjgkmnmemjebbaaDoorK18
/-
The thin package's SetPrec, SetMantExp, MantExp, IsInt. No condition.
-/
namespace Go.Proofs.YtjgkmnmemjebbaaDoor
open Go.RowKit

set_option maxRecDepth 100000 in
set_option maxHeartbeats 1600000 in
theorem impSetPrec (P E q p m f : Nat) (neg : Bool) (v : Value) (e : Int) (ws : List Nat) (w : World) (hv : RW w v ws) (ho : RealOk P E p m f ws e) (hP : P ≤ 1000000) (hE : E ≤ 100000000) (hq0 : 0 < q) (hq : q ≤ 1000000) (hT : TabW w) :
    Calls Tryd.prog 22 #[.agg #[.int .u64 p, .int .i64 m, .int .i64 f, .bool neg, v, .int .i64 e], .int .u64 q] w fun e' w' => ∃ z, e' = .returned (.tuple #[z, .int .i64 (stA f q m neg (wv ws))]) ∧ RealV w' z q m f neg (rQ q m neg 0 (wv ws)) (e + rk q (wv ws)) ∧ Below w.heap.size w w' := by
  have hS := hv.isS
  have hab := (Below.refl w.heap.size w).alloc (Nat.le_refl _) (.cells #[.int .u64 p, .int .i64 m, .int .i64 f, .bool neg, v, .int .i64 e] 26)
  have hac := hab.alloc hab.size (.cells #[.int .u64 0, .int .i64 0, .int .i64 0, .bool false, .slice none 0 0, .int .i64 0] 26)
  obtain ⟨X, hX⟩ : ∃ X, X = (w.alloc (.cells #[.int .u64 p, .int .i64 m, .int .i64 f, .bool neg, v, .int .i64 e] 26)).alloc (.cells #[.int .u64 0, .int .i64 0, .int .i64 0, .bool false, .slice none 0 0, .int .i64 0] 26) := ⟨_, rfl⟩
  have hr1 : X.heap[w.heap.size]? = some (.cells #[.int .u64 p, .int .i64 m, .int .i64 f, .bool neg, v, .int .i64 e] 26 (0, 0)) := by
    rw [hX]; exact row_chain21
  have hr2 : X.heap[w.heap.size + 1]? = some (.cells #[.int .u64 0, .int .i64 0, .int .i64 0, .bool false, .slice none 0 0, .int .i64 0] 26 (0, 0)) := by
    rw [hX]; exact row_chain22
  rw [← hX] at hac
  obtain ⟨-, x0, x1, x2, x3, x4, x5⟩ := ks12 hr1 (Below.refl _ _)
  have HV := Lib.hid (hv.below hac)
  have HO := Lib.hid ho
  have HT := Lib.hid (hT.below hac)
  have HR2 := Lib.hid hr2
  have hwX := Lib.hid hac
  have hXs := hac.size
  have hp0 : 0 < p := ho.1
  have hpP : p ≤ 1000000 := Nat.le_trans ho.2.1 hP
  have hm5 : m ≤ 5 := ho.2.2.1
  have hf2 : f ≤ 2 := by obtain ⟨_, _, _, h | h | ⟨h, _⟩⟩ := ho <;> omega
  have HXB : Hid (f = 1 → bl (wv ws) ≤ 1000000 ∧ -100000000 ≤ e ∧ e ≤ 100000000) := Lib.hid (fun h1 => by
    obtain ⟨_, _, _, h | h | h⟩ := ho
    · omega
    · omega
    · omega)
  obtain ⟨A, hA⟩ : ∃ A, A = stA f q m neg (wv ws) := ⟨_, rfl⟩
  have hAb : -1 ≤ A ∧ A ≤ 1 := by rw [hA]; exact stA_bd _ _ _ _ _
  have HA := Lib.hid hA
  rw [← hA]
  clear hv ho hab hac hr1 hr2 hT hA
  go_enter Tryd.func22, Tryd.ntmps22
  go_upto_region 1 with fail
  rw [← hX]
  clear hX
  go_wp2_with fail
  refine (float_val P E p m f neg v e ws X HV.out HO.out (by omega) (by omega)).mono ?_
  rintro _ w4 ⟨g2, rfl, ⟨hgg, hF2⟩, hb4⟩
  have G2 := Lib.hid hF2
  have T4 := Lib.hid (HT.out.below hb4)
  have B4 := Lib.hid hb4
  have hg2 : g2 < w4.heap.size := by obtain ⟨_, _, h, -⟩ := hF2; exact h.lt
  have hbs4 := hb4.size
  clear hF2 hb4 x0 x1 x2 x3 x4 x5 HV
  go_wp2_with fail
  refine (setPrec_val g2 X.heap.size p q m f 0 neg (wv ws) e w4 G2.out hgg hf2 hp0 (by omega) hq0 (by omega) hm5 (fun h => by have := HXB.out h; omega)).mono ?_
  rintro _ w5 ⟨rfl, hF5, hb5⟩
  rw [← HA.out] at hF5
  have B5 := Lib.hid (bthenX B4.out hb5)
  have T5 := Lib.hid (HT.out.below B5.out)
  have F5 := Lib.hid hF5
  clear hF5 hb5
  go_wp2_with fail
  refine (implBoth _ g2 q m f A _ _ _ _ F5.out hf2 (by omega) (by omega) (fun _ => hq0) (fun h => rQ_range (HXB.out h)) T5.out hAb).mono ?_
  rintro _ w6 ⟨z, rfl, hz, hb6⟩
  have hb6 := B5.out.trans (hb6.mono B5.out.size)
  have hq2 := keep_row hb6 HR2.out
  obtain ⟨vz, Ez, zs, Bz, rfl, hz2, hzd, hz3, hz4⟩ := hz
  have hSz := hz2.isS
  obtain ⟨⟨y0, y1, y2, y3, y4, y5⟩, s0, s1, s2, s3, s4, s5⟩ := row6 hq2
  have H2 := Lib.hid hz2
  have H34 := Lib.hid (And.intro hzd (And.intro hz3 hz4))
  have HQ2 := Lib.hid hq2
  clear hz2 hzd hz3 hz4 hq2
  go_wp2_with fail
  have HS := row6_set (x := .int .u64 (q : Int)) (y := .int .i64 (m : Int)) (z := .int .i64 (f : Int)) (x' := .bool neg) (y' := vz) (z' := .int .i64 Ez) HQ2.out
  have HB := bset6 (x := .int .u64 (q : Int)) (y := .int .i64 (m : Int)) (z := .int .i64 (f : Int)) (x' := .bool neg) (y' := vz) (z' := .int .i64 Ez) (hwX.out.trans (hb6.mono hXs)) (Nat.le_succ _)
  obtain ⟨⟨a0, a1, a2, a3, a4, a5⟩, -⟩ := row6 HS
  refine bodyPost_ret (v := .tuple #[.agg #[.int .u64 q, .int .i64 m, .int .i64 f, .bool neg, vz, .int .i64 Ez], .int .i64 A]) ?_ rfl ⟨_, rfl, ⟨_, _, _, Bz, rfl, ?_, H34.out.1, H34.out.2⟩, HB⟩
  · simp [results, Tryd.results22, go_sem, a0, a1, a2, a3, a4, a5]
  · exact H2.out.same fun hc => by
      have hne : sBlk vz ≠ w.heap.size + 1 := H2.out.ne_row HQ2.out (by decide) hc
      exact heap6_other hne
set_option maxRecDepth 100000 in
set_option maxHeartbeats 1600000 in
theorem impSetPrecZ (P E p m f : Nat) (neg : Bool) (v : Value) (e : Int) (ws : List Nat) (w : World) (hv : RW w v ws) (ho : RealOk P E p m f ws e) (hP : P ≤ 1000000) (hE : E ≤ 100000000) (hT : TabW w) :
    Calls Tryd.prog 22 #[.agg #[.int .u64 p, .int .i64 m, .int .i64 f, .bool neg, v, .int .i64 e], .int .u64 0] w fun e' w' => ∃ z, e' = .returned z ∧ (∃ y A, z = .tuple #[y, .int .i64 A] ∧ RealV w' y 0 m (zpF f) neg 0 0) ∧ Below w.heap.size w w' := by
  have hS := hv.isS
  have hab := (Below.refl w.heap.size w).alloc (Nat.le_refl _) (.cells #[.int .u64 p, .int .i64 m, .int .i64 f, .bool neg, v, .int .i64 e] 26)
  have hac := hab.alloc hab.size (.cells #[.int .u64 0, .int .i64 0, .int .i64 0, .bool false, .slice none 0 0, .int .i64 0] 26)
  obtain ⟨X, hX⟩ : ∃ X, X = (w.alloc (.cells #[.int .u64 p, .int .i64 m, .int .i64 f, .bool neg, v, .int .i64 e] 26)).alloc (.cells #[.int .u64 0, .int .i64 0, .int .i64 0, .bool false, .slice none 0 0, .int .i64 0] 26) := ⟨_, rfl⟩
  have hr1 : X.heap[w.heap.size]? = some (.cells #[.int .u64 p, .int .i64 m, .int .i64 f, .bool neg, v, .int .i64 e] 26 (0, 0)) := by
    rw [hX]; exact row_chain21
  have hr2 : X.heap[w.heap.size + 1]? = some (.cells #[.int .u64 0, .int .i64 0, .int .i64 0, .bool false, .slice none 0 0, .int .i64 0] 26 (0, 0)) := by
    rw [hX]; exact row_chain22
  rw [← hX] at hac
  obtain ⟨-, x0, x1, x2, x3, x4, x5⟩ := ks12 hr1 (Below.refl _ _)
  have HV := Lib.hid (hv.below hac)
  have HO := Lib.hid ho
  have HT := Lib.hid (hT.below hac)
  have HR2 := Lib.hid hr2
  have hwX := Lib.hid hac
  have hXs := hac.size
  have hp0 : 0 < p := ho.1
  have hpP : p ≤ 1000000 := Nat.le_trans ho.2.1 hP
  have hm5 : m ≤ 5 := ho.2.2.1
  have hf2 : f ≤ 2 := by obtain ⟨_, _, _, h | h | ⟨h, _⟩⟩ := ho <;> omega
  have HXB : Hid (f = 1 → bl (wv ws) ≤ 1000000 ∧ -100000000 ≤ e ∧ e ≤ 100000000) := Lib.hid (fun h1 => by
    obtain ⟨_, _, _, h | h | h⟩ := ho
    · omega
    · omega
    · omega)
  obtain ⟨F, hF⟩ : ∃ F, F = zpF f := ⟨_, rfl⟩
  have hz1 : F ≠ 1 := by rw [hF]; unfold zpF; split <;> omega
  have hz2' : F ≤ 2 := by rw [hF]; unfold zpF; split <;> omega
  have HFF := Lib.hid hF
  rw [← hF]
  clear hv ho hab hac hr1 hr2 hT hF
  go_enter Tryd.func22, Tryd.ntmps22
  go_upto_region 1 with fail
  rw [← hX]
  clear hX
  go_wp2_with fail
  refine (float_val P E p m f neg v e ws X HV.out HO.out (by omega) (by omega)).mono ?_
  rintro _ w4 ⟨g2, rfl, ⟨hgg, hF2⟩, hb4⟩
  have G2 := Lib.hid hF2
  have T4 := Lib.hid (HT.out.below hb4)
  have B4 := Lib.hid hb4
  have hg2 : g2 < w4.heap.size := by obtain ⟨_, _, h, -⟩ := hF2; exact h.lt
  have hbs4 := hb4.size
  clear hF2 hb4 x0 x1 x2 x3 x4 x5 HV
  obtain ⟨r2, x2, hR2⟩ := G2.out.form
  have G2' := Lib.hid hR2
  clear hR2
  go_wp2_with fail
  refine (setPrec_zero g2 X.heap.size p m f 0 x2 neg r2 w4 G2'.out hgg hf2).mono ?_
  rintro _ w5 ⟨rfl, ⟨A, hAb, hF5⟩, hb5⟩
  have B5 := Lib.hid (bthenX B4.out hb5)
  have T5 := Lib.hid (HT.out.below B5.out)
  rw [← HFF.out] at hF5
  have F5 : Hid (FVal w5 X.heap.size g2 0 m A F neg 0 0) := Lib.hid ⟨_, _, hF5, fun h => absurd h hz1⟩
  clear hF5 hb5
  go_wp2_with fail
  refine (implBoth _ g2 0 m F A _ _ _ _ F5.out hz2' (by omega) (by omega) (fun h => absurd h hz1) (fun h => absurd h hz1) T5.out hAb).mono ?_
  rintro _ w6 ⟨z, rfl, hz, hb6⟩
  have hb6 := B5.out.trans (hb6.mono B5.out.size)
  have hq2 := keep_row hb6 HR2.out
  obtain ⟨vz, Ez, zs, Bz, rfl, hz2, hzd, hz3, hz4⟩ := hz
  have hSz := hz2.isS
  obtain ⟨⟨y0, y1, y2, y3, y4, y5⟩, s0, s1, s2, s3, s4, s5⟩ := row6 hq2
  have H2 := Lib.hid hz2
  have H34 := Lib.hid (And.intro hzd (And.intro hz3 hz4))
  have HQ2 := Lib.hid hq2
  clear hz2 hzd hz3 hz4 hq2
  go_wp2_with fail
  have HS := row6_set (x := .int .u64 (0 : Int)) (y := .int .i64 (m : Int)) (z := .int .i64 (F : Int)) (x' := .bool neg) (y' := vz) (z' := .int .i64 Ez) HQ2.out
  have HB := bset6 (x := .int .u64 (0 : Int)) (y := .int .i64 (m : Int)) (z := .int .i64 (F : Int)) (x' := .bool neg) (y' := vz) (z' := .int .i64 Ez) (hwX.out.trans (hb6.mono hXs)) (Nat.le_succ _)
  obtain ⟨⟨a0, a1, a2, a3, a4, a5⟩, -⟩ := row6 HS
  refine bodyPost_ret (v := .tuple #[.agg #[.int .u64 0, .int .i64 m, .int .i64 F, .bool neg, vz, .int .i64 Ez], .int .i64 A]) ?_ rfl ⟨_, rfl, ⟨_, _, rfl, ⟨_, _, _, Bz, rfl, ?_, H34.out.1, H34.out.2⟩⟩, HB⟩
  · simp [results, Tryd.results22, go_sem, a0, a1, a2, a3, a4, a5]
  · exact H2.out.same fun hc => by
      have hne : sBlk vz ≠ w.heap.size + 1 := H2.out.ne_row HQ2.out (by decide) hc
      exact heap6_other hne
set_option maxRecDepth 100000 in
set_option maxHeartbeats 1600000 in
theorem impSetMantExp (P E p m f : Nat) (neg : Bool) (v : Value) (e k : Int) (ws : List Nat) (w : World) (hv : RW w v ws) (ho : RealOk P E p m f ws e) (hP : P ≤ 1000000) (hE : E ≤ 100000000) (hk1 : -100000000 ≤ k) (hk2 : k ≤ 100000000) (hT : TabW w) :
    Calls Tryd.prog 24 #[.agg #[.int .u64 p, .int .i64 m, .int .i64 f, .bool neg, v, .int .i64 e], .int .i64 k] w fun e' w' => ∃ z, e' = .returned (.tuple #[z, .int .i64 0]) ∧ RealV w' z p m f neg (wv ws) (e + k) ∧ Below w.heap.size w w' := by
  have hS := hv.isS
  have hab := (Below.refl w.heap.size w).alloc (Nat.le_refl _) (.cells #[.int .u64 p, .int .i64 m, .int .i64 f, .bool neg, v, .int .i64 e] 26)
  have hac := hab.alloc hab.size (.cells #[.int .u64 0, .int .i64 0, .int .i64 0, .bool false, .slice none 0 0, .int .i64 0] 26)
  obtain ⟨X, hX⟩ : ∃ X, X = (w.alloc (.cells #[.int .u64 p, .int .i64 m, .int .i64 f, .bool neg, v, .int .i64 e] 26)).alloc (.cells #[.int .u64 0, .int .i64 0, .int .i64 0, .bool false, .slice none 0 0, .int .i64 0] 26) := ⟨_, rfl⟩
  have hr1 : X.heap[w.heap.size]? = some (.cells #[.int .u64 p, .int .i64 m, .int .i64 f, .bool neg, v, .int .i64 e] 26 (0, 0)) := by
    rw [hX]; exact row_chain21
  have hr2 : X.heap[w.heap.size + 1]? = some (.cells #[.int .u64 0, .int .i64 0, .int .i64 0, .bool false, .slice none 0 0, .int .i64 0] 26 (0, 0)) := by
    rw [hX]; exact row_chain22
  rw [← hX] at hac
  obtain ⟨-, x0, x1, x2, x3, x4, x5⟩ := ks12 hr1 (Below.refl _ _)
  have HV := Lib.hid (hv.below hac)
  have HO := Lib.hid ho
  have HT := Lib.hid (hT.below hac)
  have HR2 := Lib.hid hr2
  have hwX := Lib.hid hac
  have hXs := hac.size
  have hp0 : 0 < p := ho.1
  have hpP : p ≤ 1000000 := Nat.le_trans ho.2.1 hP
  have hm5 : m ≤ 5 := ho.2.2.1
  have hf2 : f ≤ 2 := by obtain ⟨_, _, _, h | h | ⟨h, _⟩⟩ := ho <;> omega
  have HXB : Hid (f = 1 → bl (wv ws) ≤ 1000000 ∧ -100000000 ≤ e ∧ e ≤ 100000000) := Lib.hid (fun h1 => by
    obtain ⟨_, _, _, h | h | h⟩ := ho
    · omega
    · omega
    · omega)
  have hA : smA f 0 = 0 := by unfold smA; split <;> rfl
  have HA := Lib.hid hA
  have hb3 : Below X.heap.size X (X.alloc newF) := fbone _
  have N3 := Lib.hid (newF_row X)
  have V3 := Lib.hid (HV.out.below hb3)
  have T3 := Lib.hid (HT.out.below hb3)
  have B3 := Lib.hid hb3
  have hX3 : X.heap.size < (X.alloc newF).heap.size := N3.out.lt
  clear hb3
  have HRX := Lib.hid hr1
  clear hv ho hab hac hr1 hr2 hT hA
  obtain ⟨z0, z1, z2, z3, z4, z5⟩ : (X.alloc newF).cell? ⟨w.heap.size, 0, none⟩ = _ ∧ (X.alloc newF).cell? ⟨w.heap.size, 1, none⟩ = _ ∧ (X.alloc newF).cell? ⟨w.heap.size, 2, none⟩ = _ ∧ (X.alloc newF).cell? ⟨w.heap.size, 3, none⟩ = _ ∧ (X.alloc newF).cell? ⟨w.heap.size, 4, none⟩ = _ ∧ (X.alloc newF).cell? ⟨w.heap.size, 5, none⟩ = _ := (ks12 HRX.out B3.out).2
  unfold newF at z0 z1 z2 z3 z4 z5
  go_enter Tryd.func24, Tryd.ntmps24
  go_upto_region 1 with fail
  rw [← hX]
  clear hX
  obtain ⟨X3, hX3'⟩ : ∃ X3, X3 = X.alloc newF := ⟨_, rfl⟩
  rw [← hX3'] at N3 V3 T3 B3 hX3
  go_wp2_with fail
  change Calls _ _ _ (X.alloc newF) _
  rw [← hX3']
  refine (float_val P E p m f neg v e ws X3 V3.out HO.out (by omega) (by omega)).mono ?_
  rintro _ w4 ⟨g2, rfl, ⟨hgg, hF2⟩, hb4⟩
  have G2 := Lib.hid hF2
  have N4 := Lib.hid (N3.out.below hb4)
  have hne : X.heap.size ≠ g2 := by omega
  have B4 := Lib.hid (bthen B3.out hb4)
  have hbs4 := hb4.size
  clear hF2 hb4 hX3'
  go_wp2_with fail
  refine (setMantExp_val X.heap.size X.heap.size g2 _ 0 0 0 p m f 0 0 0 false neg (wv ws) e k w4 N4.out (Nat.le_refl _) G2.out hne hf2 (fun _ => hp0) (by omega) (fun h => by have := HXB.out h; omega) (by omega) (by omega)).mono ?_
  rintro _ w5 ⟨rfl, hF5, hb5⟩
  rw [HA.out] at hF5
  have B5 := Lib.hid (bthenX B4.out hb5)
  have T5 := Lib.hid (HT.out.below B5.out)
  have F5 := Lib.hid hF5
  clear hF5 hb5
  go_wp2_with fail
  refine (implBoth _ X.heap.size p m f 0 _ _ _ _ F5.out hf2 (by omega) (by omega) (fun _ => hp0) (fun h => by have := HXB.out h; omega) T5.out (by omega)).mono ?_
  rintro _ w6 ⟨z, rfl, hz, hb6⟩
  have hb6 := B5.out.trans (hb6.mono B5.out.size)
  have hq2 := keep_row hb6 HR2.out
  obtain ⟨vz, Ez, zs, Bz, rfl, hz2, hzd, hz3, hz4⟩ := hz
  have hSz := hz2.isS
  obtain ⟨⟨y0, y1, y2, y3, y4, y5⟩, s0, s1, s2, s3, s4, s5⟩ := row6 hq2
  have H2 := Lib.hid hz2
  have H34 := Lib.hid (And.intro hzd (And.intro hz3 hz4))
  have HQ2 := Lib.hid hq2
  clear hz2 hzd hz3 hz4 hq2
  go_wp2_with fail
  have HS := row6_set (x := .int .u64 (p : Int)) (y := .int .i64 (m : Int)) (z := .int .i64 (f : Int)) (x' := .bool neg) (y' := vz) (z' := .int .i64 Ez) HQ2.out
  have HB := bset6 (x := .int .u64 (p : Int)) (y := .int .i64 (m : Int)) (z := .int .i64 (f : Int)) (x' := .bool neg) (y' := vz) (z' := .int .i64 Ez) (hwX.out.trans (hb6.mono hXs)) (Nat.le_succ _)
  obtain ⟨⟨a0, a1, a2, a3, a4, a5⟩, -⟩ := row6 HS
  refine bodyPost_ret (v := .tuple #[.agg #[.int .u64 p, .int .i64 m, .int .i64 f, .bool neg, vz, .int .i64 Ez], .int .i64 0]) ?_ rfl ⟨_, rfl, ⟨_, _, _, Bz, rfl, ?_, H34.out.1, H34.out.2⟩, HB⟩
  · simp [results, Tryd.results24, go_sem, a0, a1, a2, a3, a4, a5]
  · exact H2.out.same fun hc => by
      have hne : sBlk vz ≠ w.heap.size + 1 := H2.out.ne_row HQ2.out (by decide) hc
      exact heap6_other hne
set_option maxRecDepth 100000 in
set_option maxHeartbeats 1600000 in
theorem impMantExp (P E p m f : Nat) (neg : Bool) (v : Value) (e : Int) (ws : List Nat) (w : World) (hv : RW w v ws) (ho : RealOk P E p m f ws e) (hP : P ≤ 1000000) (hE : E ≤ 100000000) (hT : TabW w) :
    Calls Tryd.prog 26 #[.agg #[.int .u64 p, .int .i64 m, .int .i64 f, .bool neg, v, .int .i64 e]] w fun e' w' => ∃ z, e' = .returned (.tuple #[z, .int .i64 (mxE f (wv ws) e)]) ∧ RealV w' z p m f neg (wv ws) (-(bl (wv ws) : Int)) ∧ Below w.heap.size w w' := by
  have hS := hv.isS
  have hab := (Below.refl w.heap.size w).alloc (Nat.le_refl _) (.cells #[.int .u64 p, .int .i64 m, .int .i64 f, .bool neg, v, .int .i64 e] 26)
  have hac := hab.alloc hab.size (.cells #[.int .u64 0, .int .i64 0, .int .i64 0, .bool false, .slice none 0 0, .int .i64 0] 26)
  obtain ⟨X, hX⟩ : ∃ X, X = (w.alloc (.cells #[.int .u64 p, .int .i64 m, .int .i64 f, .bool neg, v, .int .i64 e] 26)).alloc (.cells #[.int .u64 0, .int .i64 0, .int .i64 0, .bool false, .slice none 0 0, .int .i64 0] 26) := ⟨_, rfl⟩
  have hr1 : X.heap[w.heap.size]? = some (.cells #[.int .u64 p, .int .i64 m, .int .i64 f, .bool neg, v, .int .i64 e] 26 (0, 0)) := by
    rw [hX]; exact row_chain21
  have hr2 : X.heap[w.heap.size + 1]? = some (.cells #[.int .u64 0, .int .i64 0, .int .i64 0, .bool false, .slice none 0 0, .int .i64 0] 26 (0, 0)) := by
    rw [hX]; exact row_chain22
  rw [← hX] at hac
  obtain ⟨-, x0, x1, x2, x3, x4, x5⟩ := ks12 hr1 (Below.refl _ _)
  have HV := Lib.hid (hv.below hac)
  have HO := Lib.hid ho
  have HT := Lib.hid (hT.below hac)
  have HR2 := Lib.hid hr2
  have hwX := Lib.hid hac
  have hXs := hac.size
  have hp0 : 0 < p := ho.1
  have hpP : p ≤ 1000000 := Nat.le_trans ho.2.1 hP
  have hm5 : m ≤ 5 := ho.2.2.1
  have hf2 : f ≤ 2 := by obtain ⟨_, _, _, h | h | ⟨h, _⟩⟩ := ho <;> omega
  have HXB : Hid (f = 1 → bl (wv ws) ≤ 1000000 ∧ -100000000 ≤ e ∧ e ≤ 100000000) := Lib.hid (fun h1 => by
    obtain ⟨_, _, _, h | h | h⟩ := ho
    · omega
    · omega
    · omega)
  obtain ⟨A, hA⟩ : ∃ A, A = mxE f (wv ws) e := ⟨_, rfl⟩
  have hAb : -1000000000 ≤ A ∧ A ≤ 1000000000 := by
    rw [hA]; unfold mxE; split
    · have := HXB.out (by assumption); omega
    · omega
  have HA := Lib.hid hA
  rw [← hA]
  have hb3 : Below X.heap.size X (X.alloc newF) := fbone _
  have N3 := Lib.hid (newF_row X)
  have V3 := Lib.hid (HV.out.below hb3)
  have T3 := Lib.hid (HT.out.below hb3)
  have B3 := Lib.hid hb3
  have hX3 : X.heap.size < (X.alloc newF).heap.size := N3.out.lt
  clear hb3
  have HRX := Lib.hid hr1
  clear hv ho hab hac hr1 hr2 hT hA
  obtain ⟨z0, z1, z2, z3, z4, z5⟩ : (X.alloc newF).cell? ⟨w.heap.size, 0, none⟩ = _ ∧ (X.alloc newF).cell? ⟨w.heap.size, 1, none⟩ = _ ∧ (X.alloc newF).cell? ⟨w.heap.size, 2, none⟩ = _ ∧ (X.alloc newF).cell? ⟨w.heap.size, 3, none⟩ = _ ∧ (X.alloc newF).cell? ⟨w.heap.size, 4, none⟩ = _ ∧ (X.alloc newF).cell? ⟨w.heap.size, 5, none⟩ = _ := (ks12 HRX.out B3.out).2
  unfold newF at z0 z1 z2 z3 z4 z5
  go_enter Tryd.func26, Tryd.ntmps26
  go_upto_region 1 with fail
  rw [← hX]
  clear hX
  obtain ⟨X3, hX3'⟩ : ∃ X3, X3 = X.alloc newF := ⟨_, rfl⟩
  rw [← hX3'] at N3 V3 T3 B3 hX3
  go_wp2_with fail
  change Calls _ _ _ (X.alloc newF) _
  rw [← hX3']
  refine (float_val P E p m f neg v e ws X3 V3.out HO.out (by omega) (by omega)).mono ?_
  rintro _ w4 ⟨g2, rfl, ⟨hgg, hF2⟩, hb4⟩
  have G2 := Lib.hid hF2
  have N4 := Lib.hid (N3.out.below hb4)
  have hne : X.heap.size ≠ g2 := by omega
  have B4 := Lib.hid (bthen B3.out hb4)
  have hbs4 := hb4.size
  clear hF2 hb4 hX3'
  go_wp2_with fail
  refine (mantExp_val X.heap.size X.heap.size g2 _ 0 0 0 p m f 0 0 0 false neg (wv ws) e w4 N4.out (Nat.le_refl _) G2.out hne hf2 (fun h => by have := HXB.out h; omega)).mono ?_
  rintro _ w5 ⟨rfl, hF5, hb5⟩
  rw [← HA.out]
  have B5 := Lib.hid (bthenX B4.out hb5)
  have T5 := Lib.hid (HT.out.below B5.out)
  have F5 := Lib.hid hF5
  clear hF5 hb5
  go_wp2_with fail
  refine (implReal _ X.heap.size p m f 0 _ _ _ _ F5.out hf2 (by omega) (by omega) (fun _ => hp0) (fun h => by have := HXB.out h; omega) T5.out).mono ?_
  rintro _ w6 ⟨z, rfl, hz, hb6⟩
  have hb6 := B5.out.trans (hb6.mono B5.out.size)
  have hq2 := keep_row hb6 HR2.out
  obtain ⟨vz, Ez, zs, Bz, rfl, hz2, hzd, hz3, hz4⟩ := hz
  have hSz := hz2.isS
  obtain ⟨⟨y0, y1, y2, y3, y4, y5⟩, s0, s1, s2, s3, s4, s5⟩ := row6 hq2
  have H2 := Lib.hid hz2
  have H34 := Lib.hid (And.intro hzd (And.intro hz3 hz4))
  have HQ2 := Lib.hid hq2
  clear hz2 hzd hz3 hz4 hq2
  go_wp2_with fail
  have HS := row6_set (x := .int .u64 (p : Int)) (y := .int .i64 (m : Int)) (z := .int .i64 (f : Int)) (x' := .bool neg) (y' := vz) (z' := .int .i64 Ez) HQ2.out
  have HB := bset6 (x := .int .u64 (p : Int)) (y := .int .i64 (m : Int)) (z := .int .i64 (f : Int)) (x' := .bool neg) (y' := vz) (z' := .int .i64 Ez) (hwX.out.trans (hb6.mono hXs)) (Nat.le_succ _)
  obtain ⟨⟨a0, a1, a2, a3, a4, a5⟩, -⟩ := row6 HS
  refine bodyPost_ret (v := .tuple #[.agg #[.int .u64 p, .int .i64 m, .int .i64 f, .bool neg, vz, .int .i64 Ez], .int .i64 A]) ?_ rfl ⟨_, rfl, ⟨_, _, _, Bz, rfl, ?_, H34.out.1, H34.out.2⟩, HB⟩
  · simp [results, Tryd.results26, go_sem, a0, a1, a2, a3, a4, a5]
  · exact H2.out.same fun hc => by
      have hne : sBlk vz ≠ w.heap.size + 1 := H2.out.ne_row HQ2.out (by decide) hc
      exact heap6_other hne
set_option maxRecDepth 100000 in
set_option maxHeartbeats 1600000 in
theorem impIsInt (P E p m f : Nat) (neg : Bool) (v : Value) (e : Int) (ws : List Nat) (w : World) (hv : RW w v ws) (ho : RealOk P E p m f ws e) (hP : P ≤ 1000000) (hE : E ≤ 100000000) (hT : TabW w) :
    Calls Tryd.prog 36 #[.agg #[.int .u64 p, .int .i64 m, .int .i64 f, .bool neg, v, .int .i64 e]] w fun e' w' => e' = .returned (.bool (iiV f (wv ws) e)) ∧ Below w.heap.size w w' := by
  have hS := hv.isS
  have hab := (Below.refl w.heap.size w).alloc (Nat.le_refl _) (.cells #[.int .u64 p, .int .i64 m, .int .i64 f, .bool neg, v, .int .i64 e] 26)
  obtain ⟨X, hX⟩ : ∃ X, X = w.alloc (.cells #[.int .u64 p, .int .i64 m, .int .i64 f, .bool neg, v, .int .i64 e] 26) := ⟨_, rfl⟩
  have hr1 : X.heap[w.heap.size]? = some (.cells #[.int .u64 p, .int .i64 m, .int .i64 f, .bool neg, v, .int .i64 e] 26 (0, 0)) := by
    rw [hX]; exact row_chain11
  rw [← hX] at hab
  obtain ⟨-, x0, x1, x2, x3, x4, x5⟩ := ks12 hr1 (Below.refl _ _)
  have HV := Lib.hid (hv.below hab)
  have HO := Lib.hid ho
  have HT := Lib.hid (hT.below hab)
  have hwX := Lib.hid hab
  have hpP : p ≤ 1000000 := Nat.le_trans ho.2.1 hP
  have hf2 : f ≤ 2 := by obtain ⟨_, _, _, h | h | ⟨h, _⟩⟩ := ho <;> omega
  have HXB : Hid (f = 1 → bl (wv ws) ≤ 1000000 ∧ -100000000 ≤ e ∧ e ≤ 100000000) := Lib.hid (fun h1 => by
    obtain ⟨_, _, _, h | h | h⟩ := ho
    · omega
    · omega
    · omega)
  obtain ⟨A, hA⟩ : ∃ A, A = iiV f (wv ws) e := ⟨_, rfl⟩
  have HA := Lib.hid hA
  rw [← hA]
  clear hv ho hab hr1 hT hA
  go_enter Tryd.func36, Tryd.ntmps36
  go_upto_region 1 with fail
  rw [← hX]
  clear hX
  go_wp2_with fail
  refine (float_val P E p m f neg v e ws X HV.out HO.out (by omega) (by omega)).mono ?_
  rintro _ w4 ⟨g2, rfl, ⟨hgg, hF2⟩, hb4⟩
  have G2 := Lib.hid hF2
  have T4 := Lib.hid (HT.out.below hb4)
  have B4 := Lib.hid (hwX.out.trans (hb4.mono hwX.out.size))
  clear hF2 hb4 x0 x1 x2 x3 x4 x5 HV HT
  go_wp2_with fail
  refine (isInt_val g2 _ p m f 0 neg (wv ws) e w4 G2.out hf2 (by omega) (fun h => by have := HXB.out h; omega) T4.out).mono ?_
  rintro _ w5 ⟨rfl, hb5⟩
  rw [← HA.out]
  have B5 := Lib.hid (B4.out.trans (hb5.mono B4.out.size))
  clear hb5
  go_wp2
  go_ret
  exact ⟨rfl, B5.out⟩
end Go.Proofs.YtjgkmnmemjebbaaDoor

/-
The value of a Real in the reference. No condition.
-/
namespace Go.Proofs.YtjgkmnmemjebbaaDoor
open Go.RowKit

def dyN (f : Nat) (n : Bool) : Bool := if f = 1 then n else false
def dyM (f M : Nat) : Nat := if f = 1 then M else 0
def dyE (f : Nat) (e : Int) : Int := if f = 1 then e else 0
theorem ofReal_any (P E p m f : Nat) (e : Int) (neg : Bool) (v : Value) (ws : List Nat) (w : World) (hv : RW w v ws) (ho : RealOk P E p m f ws e) :
    Calls Tryd.prog 20 #[.agg #[.int .u64 p, .int .i64 m, .int .i64 f, .bool neg, v, .int .i64 e]] w fun e' w' => ∃ r, e' = .returned r ∧ DyV w' r (dyN f neg) (dyM f (wv ws)) (dyE f e) ∧ Below w.heap.size w w' := by
  by_cases hf : f = 1
  · subst hf
    obtain ⟨-, -, -, h | h | h⟩ := ho
    · exact absurd h (by decide)
    · exact absurd h (by decide)
    · exact ofReal_one p m e neg v ws w hv h.2.2.2.1
  · rw [dyN, dyM, dyE, if_neg hf, if_neg hf, if_neg hf]
    exact ofReal_other p m f e neg v w hv.isS hf
theorem dy_nl {P E p m f : Nat} {e : Int} {ws : List Nat} (ho : RealOk P E p m f ws e) (hP : P ≤ 64000) : bl (dyM f (wv ws)) ≤ P ∧ -(E : Int) ≤ dyE f e ∧ dyE f e ≤ E := by
  obtain ⟨h1, h2, -, h⟩ := ho
  by_cases hf : f = 1
  · subst hf
    rw [dyM, dyE, if_pos rfl, if_pos rfl]
    rcases h with h | h | h
    · exact absurd h (by decide)
    · exact absurd h (by decide)
    · exact ⟨Nat.le_trans h.2.2.1 h2, h.2.2.2.2.1, h.2.2.2.2.2⟩
  · rw [dyM, dyE, if_neg hf, if_neg hf, bl_zero]; omega
theorem bl_two (x n : Nat) : bl (x * 2 ^ n) ≤ bl x + n := bl_le (by
  rw [Nat.pow_add]; exact Nat.mul_lt_mul_of_pos_right (lt_bl x) (Nat.two_pow_pos n))
theorem nl_of_bl {n k : Nat} (h : bl n ≤ k) : nl n ≤ k := nl_bl (by omega)
theorem RealOk.pos {P E p m f : Nat} {ws : List Nat} {e : Int} (h : RealOk P E p m f ws e) (hf : f = 1) : 0 < wv ws := by
  subst hf
  obtain ⟨-, -, -, h | h | h⟩ := h
  · exact absurd h (by decide)
  · exact absurd h (by decide)
  · exact h.2.1
end Go.Proofs.YtjgkmnmemjebbaaDoor

/-
What is told of a Real against its reference. No condition.
-/
namespace Go.Proofs.YtjgkmnmemjebbaaDoor
open Go.RowKit

theorem rQ_zero (p m : Nat) (neg : Bool) : rk p 0 = 0 ∧ rQ p m neg 0 0 = 0 ∧ rA p m neg 0 0 = 0 := rQ_fits neg (by rw [bl_zero]; exact Nat.zero_le _)
theorem told_dy {w : World} {z : Value} {p m f M : Nat} {n : Bool} {e : Int} (hf : f = 0 ∨ f = 1) (hz : RealV w z p m f n (rQ p m n 0 M) (e + (rk p M : Nat))) (hM : f = 1 → 0 < M) (hp : 0 < p) :
    Told w z p m (dyN f n) (rQ p m (dyN f n) 0 (dyM f M)) (dyE f e + (rk p (dyM f M) : Nat)) := by
  rcases hf with rfl | rfl
  · obtain ⟨h1, h2, -⟩ := rQ_zero p m (dyN 0 n)
    rw [show dyM 0 M = 0 from rfl, h2]
    exact hz.told0
  · rw [show dyN 1 n = n from rfl, show dyM 1 M = M from rfl, show dyE 1 e = e from rfl]
    exact hz.told (rQ_pos n 0 hp (hM rfl)) (deq.refl _ _)
theorem stA_dy {p m f M : Nat} {n : Bool} (hf : f = 0 ∨ f = 1) : stA f p m n M = rA p m (dyN f n) 0 (dyM f M) := by
  rcases hf with rfl | rfl
  · exact (rQ_zero p m (dyN 0 n)).2.2.symm
  · rfl
theorem RealV.form {w : World} {z : Value} {p m f M : Nat} {neg : Bool} {X : Int} (h : RealV w z p m f neg M X) : ∃ (v : Value) (E : Int), z = .agg #[.int .u64 p, .int .i64 m, .int .i64 f, .bool neg, v, .int .i64 E] ∧ IsS v := by
  obtain ⟨v, E, zs, B, h1, h2, -⟩ := h
  exact ⟨v, E, h1, h2.isS⟩
theorem RealOk.form' {P E p m f : Nat} {ws : List Nat} {e : Int} (h : RealOk P E p m f ws e) : f ≤ 2 := by
  obtain ⟨-, -, -, h | h | h⟩ := h <;> omega
theorem pOf_self (k p : Nat) : pOf k (max p p) = pOf k p := by rw [Nat.max_self]
end Go.Proofs.YtjgkmnmemjebbaaDoor

/-
The statement on Set. No condition.
-/
namespace Go.Proofs.YtjgkmnmemjebbaaDoor
open Go.RowKit

set_option maxRecDepth 100000 in
set_option maxHeartbeats 3200000 in
theorem lawSet (a0 : Int) (a1 : Int) (p1 : Nat) (m1 f1 : Int) (n1 : Bool) (v1 : Value) (e1 : Int) (xs1 : List Nat) (w : World) (hT : TabW w) (l0 : 0 ≤ a0) (h0 : a0 ≤ 65535) (l1 : 0 ≤ a1) (h1 : a1 ≤ 255) (hv1 : RW w v1 xs1) (_hg1 : p1 ≤ 18446744073709551615 ∧ (-9223372036854775808 ≤ m1 ∧ m1 ≤ 9223372036854775807) ∧ (-9223372036854775808 ≤ f1 ∧ f1 ≤ 9223372036854775807) ∧ (-9223372036854775808 ≤ e1 ∧ e1 ≤ 9223372036854775807)) :
    Calls Tryd.prog 3 #[.int .u16 a0, .int .u8 a1, .agg #[.int .u64 p1, .int .i64 m1, .int .i64 f1, .bool n1, v1, .int .i64 e1]] w fun e' w' => e' = .returned (.bool true) ∧ Below w.heap.size w w' := by
  obtain ⟨b0, rfl⟩ := Int.eq_ofNat_of_zero_le l0
  have ib0 : b0 ≤ 65535 := by omega
  obtain ⟨b1, rfl⟩ := Int.eq_ofNat_of_zero_le l1
  have ib1 : b1 ≤ 255 := by omega
  have hS1 := hv1.isS
  clear _hg1
  have hab1 := (Below.refl w.heap.size w).alloc (Nat.le_refl _) (.cells #[.int .u64 p1, .int .i64 m1, .int .i64 f1, .bool n1, v1, .int .i64 e1] 26)
  obtain ⟨X, hX⟩ : ∃ X, X = (w.alloc (.cells #[.int .u64 p1, .int .i64 m1, .int .i64 f1, .bool n1, v1, .int .i64 e1] 26)) := ⟨_, rfl⟩
  have hr1 : X.heap[w.heap.size]? = some (.cells #[.int .u64 p1, .int .i64 m1, .int .i64 f1, .bool n1, v1, .int .i64 e1] 26 (0, 0)) := by
    rw [hX]; exact row_chain11
  rw [← hX] at hab1
  obtain ⟨-, ⟨c10, c11, c12, c13, c14, c15⟩⟩ := ksR1 hr1 (Below.refl _ _)
  have HR1 := Lib.hid hr1
  have V1 := Lib.hid (hv1.below hab1)
  have hXs := hab1.size
  have HW := Lib.hid hab1
  have T0 := Lib.hid (hT.below hab1)
  clear hT
  clear hr1 hv1
  clear hab1
  go_enter Tryd.func3, Tryd.ntmps3
  go_upto_region 1 with fail
  rw [← hX]
  clear hX
  go_wp2_with fail
  refine (zzFits1_any p1 m1 f1 e1 n1 v1 xs1 X V1.out).mono ?_
  rintro _ w1 ⟨rfl, hb1⟩
  obtain ⟨fits, hfits⟩ : ∃ f, f = decide (xs1.length ≤ 2147483647) := ⟨_, rfl⟩
  rw [← hfits]
  clear c10 c11 c12 c13 c14 c15 hfits
  obtain ⟨-, ⟨c10, c11, c12, c13, c14, c15⟩⟩ := ksR1 HR1.out hb1
  have HB := Lib.hid hb1
  clear hb1
  cases fits with
  | false =>
    go_wp2
    go_ret
    exact ⟨rfl, HW.out.trans (HB.out.mono hXs)⟩
  | true =>
  go_wp2_with fail
  refine (number_any p1 m1 f1 e1 n1 v1 xs1 w1 (V1.out.below HB.out)).mono ?_
  rintro _ w2 ⟨ok, rfl, hok, hb1⟩
  have hb1 := bthen HB.out hb1
  have HO1 := Lib.hid hok
  clear c10 c11 c12 c13 c14 c15 HB hok
  obtain ⟨-, ⟨c10, c11, c12, c13, c14, c15⟩⟩ := ksR1 HR1.out hb1
  have HB := Lib.hid hb1
  clear hb1
  cases ok with
  | false =>
    go_wp2
    go_ret
    exact ⟨rfl, HW.out.trans (HB.out.mono hXs)⟩
  | true =>
  obtain ⟨hn, P1, M1, F1, hp, rfl, rfl, hR⟩ := HO1.out rfl
  have hpp : P1 = p1 := by omega
  subst hpp
  have R1 := Lib.hid hR
  have N1 : Hid (F1 ≠ 2) := Lib.hid (fun h => hn (by rw [h]; rfl))
  clear HO1 hp hR hn
  have hWW := HW.out.trans (HB.out.mono hXs)
  have hV1 := V1.out.below HB.out
  have hr1 := keep_row HB.out HR1.out
  have hT0 := T0.out.below HB.out
  clear T0
  have T0 := Lib.hid hT0
  clear hT0
  clear HW HB hXs V1 HR1
  have HW := Lib.hid hWW
  have V1 := Lib.hid hV1
  have HR1 := Lib.hid hr1
  have hWs := HW.out.size
  clear hWW hV1 hr1
  go_wp2_with fail
  refine (target_any b0 b1 w2 ib0 ib1).mono ?_
  rintro _ _ ⟨rfl, rfl⟩
  have hqb : b0 % 301 ≤ 300 := by omega
  have hkb : b1 % 6 ≤ 5 := by omega
  obtain ⟨q, hq⟩ : ∃ q, q = b0 % 301 := ⟨_, rfl⟩
  obtain ⟨k, hk⟩ : ∃ k, k = b1 % 6 := ⟨_, rfl⟩
  rw [← hq] at hqb ⊢
  rw [← hk] at hkb ⊢
  clear hq hk ib0 ib1
  go_wp2_with fail
  refine (impSet 300 1000 q k P1 M1 F1 n1 v1 e1 xs1 w2 V1.out R1.out (by decide) (by decide) (by omega) hkb T0.out).mono ?_
  rintro _ wN ⟨z, rfl, hz, hb1⟩
  have hf01 : F1 = 0 ∨ F1 = 1 := by have := R1.out.form'; have := N1.out; omega
  have hpo : 0 < pOf q P1 := by have := R1.out.1; unfold pOf; split <;> omega
  have hpo2 : pOf q P1 ≤ 300 := by have := R1.out.2.1; unfold pOf; split <;> omega
  obtain ⟨A, hA⟩ : ∃ A, A = stA F1 (pOf q P1) k n1 (wv xs1) := ⟨_, rfl⟩
  rw [← hA]
  rw [stA_dy hf01] at hA
  have hpm := pOf_self q P1
  obtain ⟨Z, hZ⟩ : ∃ Z, Z = pOf q P1 := ⟨_, rfl⟩
  rw [← hZ] at hz hA hpo hpo2 hpm
  have HA := Lib.hid hA
  have HPM := Lib.hid hpm
  have HF := Lib.hid hf01
  clear hA hZ hpm hf01
  obtain ⟨vz, Ez, rfl, hSz⟩ := hz.form
  obtain ⟨Y, hY⟩ : ∃ Y, Y = wN.alloc (.cells #[.int .u64 (Z : Int), .int .i64 (k : Int), .int .i64 (F1 : Int), .bool n1, vz, .int .i64 Ez] 26) := ⟨_, rfl⟩
  have hbY : Below wN.heap.size wN Y := by rw [hY]; exact fbone _
  have hrz : Y.heap[wN.heap.size]? = some (.cells #[.int .u64 (Z : Int), .int .i64 (k : Int), .int .i64 (F1 : Int), .bool n1, vz, .int .i64 Ez] 26 (0, 0)) := by rw [hY]; exact row_chain11
  have hbX := bthen hb1 hbY
  have hr1 := keep_row hbX HR1.out
  have HRx1 := Lib.hid hr1
  have VY1 := Lib.hid (V1.out.below hbX)
  have HRz := Lib.hid hrz
  have HZ := Lib.hid (hz.below hbY)
  have HWY := Lib.hid (HW.out.trans (hbX.mono hWs))
  have TY := Lib.hid (T0.out.below hbX)
  have hYs := HWY.out.size
  have hcc := Below.refl Y.heap.size Y
  clear hb1 hbY hrz hbX hz c10 c11 c12 c13 c14 c15 HW hWs T0 hr1 V1 HR1
  have HTD := Lib.hid (told_dy HF.out HZ.out R1.out.pos hpo)
  go_upto_region 7 with fail
  rw [← hY]
  clear hY
  first
    | (go_region_held3 (fun w' => Below Y.heap.size Y w' ∧ (w'.cell? ⟨w.heap.size, 0, none⟩ = some (.int .u64 (P1 : Int)) ∧ w'.cell? ⟨w.heap.size, 1, none⟩ = some (.int .i64 (M1 : Int)) ∧ w'.cell? ⟨w.heap.size, 2, none⟩ = some (.int .i64 (F1 : Int)) ∧ w'.cell? ⟨w.heap.size, 3, none⟩ = some (.bool n1) ∧ w'.cell? ⟨w.heap.size, 4, none⟩ = some (v1) ∧ w'.cell? ⟨w.heap.size, 5, none⟩ = some (.int .i64 e1)) ∧ w'.cell? ⟨wN.heap.size, 0, none⟩ = some (.int .u64 (Z : Int)) ∧ w'.cell? ⟨wN.heap.size, 1, none⟩ = some (.int .i64 (k : Int)) ∧ w'.cell? ⟨wN.heap.size, 2, none⟩ = some (.int .i64 (F1 : Int)) ∧ w'.cell? ⟨wN.heap.size, 3, none⟩ = some (.bool n1) ∧ w'.cell? ⟨wN.heap.size, 4, none⟩ = some (vz) ∧ w'.cell? ⟨wN.heap.size, 5, none⟩ = some (.int .i64 Ez))
        ((refine ksR2 HRx1.out HRz.out ?_; with_reducible first | assumption | exact Below.drew hcc))
        (first
          | (go_at_call 20; refine (ofReal_any 300 1000 P1 M1 F1 e1 n1 v1 xs1 _ (VY1.out.below (And.left (by assumption))) R1.out).mono ?_; rintro _ w8 ⟨_, rfl, ⟨b, rfl, hd1⟩, hb8⟩; have hT1 := hd1.isS; have hb8 := bthenL hb8 (by assumption); have D1 := Lib.hid hd1; clear hd1)
          | (go_at_call 21; refine (chosen_any q P1 P1 M1 M1 F1 F1 n1 n1 v1 v1 e1 e1 _ hS1 hS1).mono ?_; rintro _ w9 ⟨rfl, hb9⟩; rw [HPM.out]; have D2 := Lib.hid (D1.out.below hb9); have hb9 := bthen hb8 hb9)
          | (go_at_call 19; refine (rounds_any _ A (dyN F1 n1) b (dyM F1 (wv xs1)) (dyE F1 e1) Z k _ (HTD.out.below hb9) HA.out D2.out (by have := (dy_nl R1.out (by decide)).1; omega) (by omega) hkb (by have := (dy_nl R1.out (by decide)).2.1; omega) (by have := (dy_nl R1.out (by decide)).2.2; omega)).mono ?_; rintro _ w10 ⟨rfl, hb10⟩; have hb10 := bthen hb9 hb10)))
    | fail
  all_goals
    go_wp2
    go_ret
    exact ⟨rfl, HWY.out.trans (hb10.mono hYs)⟩
end Go.Proofs.YtjgkmnmemjebbaaDoor
