/-
Texts of this proof, joined: MuI IzK. No condition.
-/
import Derived.Test.YtdepidpgbgfjlaaGreatDoorK21
import Derived.Test.YtdepidpgbgfjlaaGreatDoorK22
import Derived.Test.YtdepidpgbgfjlaaGreatDoorK24
/-
The thin package's Mul. No condition.
-/
namespace Go.Proofs.YtdepidpgbgfjlaaGreatDoor
open Go.RowKit

theorem prV_bl (n : Bool) (M N : Nat) : bl (sI n (M * N)).natAbs ≤ bl M + bl N := by
  rw [natAbs_sI]
  refine bl_le ?_
  rw [Nat.pow_add]
  exact Nat.mul_lt_mul'' (lt_bl M) (lt_bl N)
set_option maxRecDepth 100000 in
set_option maxHeartbeats 6400000 in
theorem impMulX (P E F q k p1 m1 f1 p2 m2 f2 : Nat) (n1 n2 : Bool) (v1 v2 : Value) (e1 e2 : Int) (xs ys : List Nat) (w : World) (hv1 : RW w v1 xs) (hv2 : RW w v2 ys) (ho1 : RealOk P E p1 m1 f1 xs e1) (ho2 : RealOk P F p2 m2 f2 ys e2) (hf1 : f1 ≤ 1) (hf2 : f2 ≤ 1) (hP : P ≤ 2400) (hE : E ≤ 1040000000) (hF : F ≤ 500000000) (hq : q ≤ 1000000) (hk : k ≤ 5) (hT : TabW w) (hK : KarW w) :
    Calls Tryz.prog 54 #[.int .u64 q, .int .i64 k, .agg #[.int .u64 p1, .int .i64 m1, .int .i64 f1, .bool n1, v1, .int .i64 e1], .agg #[.int .u64 p2, .int .i64 m2, .int .i64 f2, .bool n2, v2, .int .i64 e2]] w fun e' w' => ∃ z A, e' = .returned (.tuple #[z, .int .i64 A]) ∧ AddZ w' z A (pOf q (max p1 p2)) k (n1 != n2) (sI (n1 != n2) (dyM f1 (wv xs) * dyM f2 (wv ys))) (dyE f1 e1 + dyE f2 e2) ∧ Below w.heap.size w w' := by
  have hS1 := hv1.isS
  have hS2 := hv2.isS
  have hab := (Below.refl w.heap.size w).alloc (Nat.le_refl _) (.cells #[.int .u64 p1, .int .i64 m1, .int .i64 f1, .bool n1, v1, .int .i64 e1] 39)
  have hac := hab.alloc hab.size (.cells #[.int .u64 p2, .int .i64 m2, .int .i64 f2, .bool n2, v2, .int .i64 e2] 39)
  have had := hac.alloc hac.size (.cells #[.int .u64 0, .int .i64 0, .int .i64 0, .bool false, .slice none 0 0, .int .i64 0] 39)
  obtain ⟨X, hX⟩ : ∃ X, X = ((w.alloc (.cells #[.int .u64 p1, .int .i64 m1, .int .i64 f1, .bool n1, v1, .int .i64 e1] 39)).alloc (.cells #[.int .u64 p2, .int .i64 m2, .int .i64 f2, .bool n2, v2, .int .i64 e2] 39)).alloc (.cells #[.int .u64 0, .int .i64 0, .int .i64 0, .bool false, .slice none 0 0, .int .i64 0] 39) := ⟨_, rfl⟩
  have hr1 : X.heap[w.heap.size]? = some (.cells #[.int .u64 p1, .int .i64 m1, .int .i64 f1, .bool n1, v1, .int .i64 e1] 39 (0, 0)) := by
    rw [hX]; exact row_chain31
  have hr2 : X.heap[w.heap.size + 1]? = some (.cells #[.int .u64 p2, .int .i64 m2, .int .i64 f2, .bool n2, v2, .int .i64 e2] 39 (0, 0)) := by
    rw [hX]; exact row_chain32
  have hr3 : X.heap[w.heap.size + 2]? = some (.cells #[.int .u64 0, .int .i64 0, .int .i64 0, .bool false, .slice none 0 0, .int .i64 0] 39 (0, 0)) := by
    rw [hX]; exact row_chain33
  rw [← hX] at had
  have V1 := Lib.hid (hv1.below had)
  have V2 := Lib.hid (hv2.below had)
  have HO1 := Lib.hid ho1
  have HO2 := Lib.hid ho2
  have HT := Lib.hid (hT.below had)
  have HK := Lib.hid (hK.below had)
  have HR1 := Lib.hid hr1
  have HR2 := Lib.hid hr2
  have HR3 := Lib.hid hr3
  have hwX := Lib.hid had
  have hcc := Below.refl X.heap.size X
  have hXs := had.size
  have hN1 := Lib.hid (show w.heap.size + 2 ≠ w.heap.size by omega)
  have hN2 := Lib.hid (show w.heap.size + 2 ≠ w.heap.size + 1 by omega)
  have hX2 : w.heap.size + 3 ≤ X.heap.size := by rw [hX]; simp
  have hp1 : 0 < p1 := ho1.1
  have hp2 : 0 < p2 := ho2.1
  have hpP1 : p1 ≤ 9000 := Nat.le_trans (Nat.le_trans ho1.2.1 hP) (by decide)
  have hpP2 : p2 ≤ 9000 := Nat.le_trans (Nat.le_trans ho2.2.1 hP) (by decide)
  have K1 : Hid (f1 = 1 → 0 < wv xs ∧ bl (wv xs) ≤ p1 ∧ bl (wv xs) ≤ 2400 ∧ -1050000000 ≤ e1 ∧ e1 ≤ 1050000000) := Lib.hid (fun h1 => by
    obtain ⟨_, _, _, h | h | h⟩ := ho1
    · omega
    · omega
    · omega)
  have K2 : Hid (f2 = 1 → 0 < wv ys ∧ bl (wv ys) ≤ p2 ∧ bl (wv ys) ≤ 2400 ∧ -600000000 ≤ e2 ∧ e2 ≤ 600000000) := Lib.hid (fun h1 => by
    obtain ⟨_, _, _, h | h | h⟩ := ho2
    · omega
    · omega
    · omega)
  obtain ⟨V, hV⟩ : ∃ V, V = sI (n1 != n2) (dyM f1 (wv xs) * dyM f2 (wv ys)) := ⟨_, rfl⟩
  obtain ⟨XX, hXX⟩ : ∃ XX, XX = dyE f1 e1 + dyE f2 e2 := ⟨_, rfl⟩
  obtain ⟨zn, hzn⟩ : ∃ zn, zn = (n1 != n2) := ⟨_, rfl⟩
  have hbd1 := dy_bd ho1
  have hbd2 := dy_bd ho2
  have hblV := prV_bl (n1 != n2) (dyM f1 (wv xs)) (dyM f2 (wv ys))
  rw [← hV] at hblV
  have HXB : Hid (bl V.natAbs ≤ 1000000 ∧ -2120000000 ≤ XX ∧ XX ≤ 2120000000) := Lib.hid (by omega)
  have hpo : pOf q (max p1 p2) ≤ 1000000 ∧ 0 < pOf q (max p1 p2) := by unfold pOf; split <;> omega
  obtain ⟨Z, hZ⟩ : ∃ Z, Z = pOf q (max p1 p2) := ⟨_, rfl⟩
  rw [← hZ] at hpo
  have HPO := Lib.hid hpo
  obtain ⟨A, hA⟩ : ∃ A, A = rA Z k (vN V) 0 V.natAbs := ⟨_, rfl⟩
  have hAb : -1 ≤ A ∧ A ≤ 1 := by rw [hA]; exact rA_bd _ _ _ _ _
  obtain ⟨f, hf⟩ : ∃ f, f = fO V.natAbs := ⟨_, rfl⟩
  have hf2' : f ≤ 2 := by rw [hf]; unfold fO; split <;> omega
  obtain ⟨sg, hsg⟩ : ∃ sg, sg = (if V = 0 then zn else vN V) := ⟨_, rfl⟩
  obtain ⟨R, hR⟩ : ∃ R, R = rQ Z k (vN V) 0 V.natAbs := ⟨_, rfl⟩
  obtain ⟨RX, hRX⟩ : ∃ RX, RX = XX + rk Z V.natAbs := ⟨_, rfl⟩
  have HRB : Hid (-2140000000 ≤ RX ∧ RX + bl R ≤ 2140000000) := Lib.hid (by rw [hRX, hR]; exact rQ_range HXB.out)
  have HIN := Lib.hid (fun (w' : World) (b : Nat) (h : AddR w' X.heap.size b Z k zn V XX) => (by unfold AddR at h; rw [← hA, ← hf, ← hsg, ← hR, ← hRX] at h; exact h : FVal w' X.heap.size b Z k A f sg R RX))
  have HOUT := Lib.hid (fun (w' : World) (z : Value) (h : RealV w' z Z k f sg R RX) => (by unfold AddZ; rw [← hA, ← hf, ← hsg, ← hR, ← hRX]; exact ⟨rfl, h⟩ : AddZ w' z A Z k zn V XX))
  have HADD := Lib.hid (fun (W : World) (b g1 g2 B1 B2 : Nat) (h : FltR W b q k 0 0 false (.slice none 0 0) 0) (hB : X.heap.size ≤ b) (h1 : FloatAt W B1 g1 p1 m1 f1 n1 (wv xs) e1) (h2 : FloatAt W B2 g2 p2 m2 f2 n2 (wv ys) e2) (hb1 : b ≠ g1) (hb2 : b ≠ g2) (hb3 : g1 ≠ g2) (hKW : KarW W) =>
    mulF_any b X.heap.size B1 B2 g1 g2 q k p1 m1 p2 m2 0 f1 f2 (wv xs) (wv ys) 0 0 e1 e2 false n1 n2 W h hB hf1 hf2 h1 h2 K1.out K2.out hb1 hb2 hb3 (by omega) hp1 (by omega) hp2 (by omega) hk hKW)
  rw [← hV, ← hzn, ← hXX, ← hZ] at HADD
  rw [← hV, ← hzn, ← hXX, ← hZ]
  clear hv1 hv2 ho1 ho2 hab hac had hr1 hr2 hr3 hT hK hpo hbd1 hbd2 hblV hV hXX hzn hZ hA hf hsg hR hRX
  go_enter Tryz.func54, Tryz.ntmps54
  go_upto_region 1 with fail
  rw [← hX]
  clear hX
  first
    | (go_region_held3 (fun w' => (w'.cell? ⟨w.heap.size, 0, none⟩ = some (.int .u64 (p1 : Int)) ∧ w'.cell? ⟨w.heap.size, 1, none⟩ = some (.int .i64 (m1 : Int)) ∧ w'.cell? ⟨w.heap.size, 2, none⟩ = some (.int .i64 (f1 : Int)) ∧ w'.cell? ⟨w.heap.size, 3, none⟩ = some (.bool n1) ∧ w'.cell? ⟨w.heap.size, 4, none⟩ = some v1 ∧ w'.cell? ⟨w.heap.size, 5, none⟩ = some (.int .i64 e1)) ∧ (w'.cell? ⟨w.heap.size + 1, 0, none⟩ = some (.int .u64 (p2 : Int)) ∧ w'.cell? ⟨w.heap.size + 1, 1, none⟩ = some (.int .i64 (m2 : Int)) ∧ w'.cell? ⟨w.heap.size + 1, 2, none⟩ = some (.int .i64 (f2 : Int)) ∧ w'.cell? ⟨w.heap.size + 1, 3, none⟩ = some (.bool n2) ∧ w'.cell? ⟨w.heap.size + 1, 4, none⟩ = some v2 ∧ w'.cell? ⟨w.heap.size + 1, 5, none⟩ = some (.int .i64 e2)))
        ((first | (refine ksT2 HR1.out HR2.out ?_; with_reducible first | assumption | exact Below.drew hcc) | with_reducible exact ⟨ks6R hN1.out (ks6R hN1.out (ks6R hN1.out (ks6R hN1.out (ks6R hN1.out (ks6R hN1.out (ks12 HR1.out hb7).2))))), ks6R hN2.out (ks6R hN2.out (ks6R hN2.out (ks6R hN2.out (ks6R hN2.out (ks6R hN2.out (ks12 HR2.out hb7).2)))))⟩))
        (first
          | (go_at_call 80; (with_reducible refine (float_any P F p2 m2 f2 n2 v2 e2 ys _ (V2.out.below hb4) HO2.out (by omega) (by omega)).mono ?_); rintro _ w5 ⟨g2, rfl, hF2, hb5⟩; have G0' := Lib.hid (G0.out.below hb5); have G1' := Lib.hid (G1.out.below hb5); have G2 := Lib.hid hF2; have hne2 := Lib.hid (show g0 ≠ g2 by have := G0.out.lt; have := hF2.1; omega); have hne3 := Lib.hid (show g1 ≠ g2 by obtain ⟨_, _, hr⟩ := G1.out.row; have := hr.lt; have := hF2.1; omega); clear hF2; have hb5 := bthen hb4 hb5)
          | (go_at_call 80; (with_reducible refine (float_any P E p1 m1 f1 n1 v1 e1 xs _ (V1.out.below hb3) HO1.out (by omega) (by omega)).mono ?_); rintro _ w4 ⟨g1, rfl, hF1, hb4⟩; have G0 := Lib.hid (GF.out.below hb4); have G1 := Lib.hid hF1; have hne1 := Lib.hid (show g0 ≠ g1 by have := GF.out.lt; have := hF1.1; omega); clear hF1; have hb4 := bthen hb3 hb4)
          | (go_at_call 64; refine (fresh_all q k _ (by omega) (by omega)).mono ?_; rintro _ w3 ⟨g0, rfl, ⟨hg0, hF0⟩, hb3⟩; have hg0X : X.heap.size ≤ g0 := (by rw [hg0]; exact Nat.le_refl _); clear hg0; have GF := Lib.hid hF0; clear hF0; have hb3 : Below X.heap.size X w3 := bthen (Below.drew hcc) hb3)
          | (go_at_call 99; (with_reducible refine (HADD.out _ g0 g1 g2 _ _ G0'.out hg0X G1'.out G2.out hne1.out hne2.out hne3.out (HK.out.below hb5)).mono ?_); rintro _ w6 ⟨rfl, hA6, hb6⟩; have F6 := Lib.hid (HIN.out _ _ hA6); clear hA6; have hb6 := bthenX hb5 hb6)
          | (go_at_call 63; (with_reducible refine (implBoth _ g0 Z k f A _ _ _ _ F6.out hf2' (by have := HPO.out; omega) (by omega) (fun _ => HPO.out.2) (fun _ => HRB.out) (HT.out.below hb6) hAb).mono ?_); rintro _ w7 ⟨z, rfl, hz, hb7⟩; have hb7 := bthen hb6 hb7; have hq2 := keep_row hb7 HR3.out; obtain ⟨vz, Ez, zs, Bz, rfl, hz2, hzd, hz3, hz4⟩ := hz; have hSz := hz2.isS; obtain ⟨⟨y0, y1, y2, y3, y4, y5⟩, s0, s1, s2, s3, s4, s5⟩ := row6 hq2; have H2 := Lib.hid hz2; have H34 := Lib.hid (And.intro hzd (And.intro hz3 hz4)); have HQ2 := Lib.hid hq2; clear hz2 hzd hz3 hz4 hq2)))
    | fail
  all_goals go_wp2_with fail
  all_goals
    have HS := row6_set (x := .int .u64 (Z : Int)) (y := .int .i64 (k : Int)) (z := .int .i64 (f : Int)) (x' := .bool sg) (y' := vz) (z' := .int .i64 Ez) HQ2.out
    have HB := bset6 (x := .int .u64 (Z : Int)) (y := .int .i64 (k : Int)) (z := .int .i64 (f : Int)) (x' := .bool sg) (y' := vz) (z' := .int .i64 Ez) (hwX.out.trans (hb7.mono hXs)) (Nat.le_trans (Nat.le_succ _) (Nat.le_succ _))
    obtain ⟨⟨a0, a1, a2, a3, a4, a5⟩, -⟩ := row6 HS
    refine bodyPost_ret (v := .tuple #[.agg #[.int .u64 Z, .int .i64 k, .int .i64 f, .bool sg, vz, .int .i64 Ez], .int .i64 A]) ?_ rfl ⟨_, _, rfl, HOUT.out _ _ ⟨_, _, _, Bz, rfl, ?_, H34.out.1, H34.out.2⟩, HB⟩
    · simp [results, Tryz.results54, go_sem, a0, a1, a2, a3, a4, a5]
    · exact H2.out.same fun hc => by
        have hne : sBlk vz ≠ w.heap.size + 2 := H2.out.ne_row HQ2.out (by decide) hc
        exact heap6_other hne
end Go.Proofs.YtdepidpgbgfjlaaGreatDoor
/-
laws.did at a product, by values. No condition.
-/
namespace Go.Proofs.YtdepidpgbgfjlaaGreatDoor
open Go.RowKit

theorem pOf_pos {Z x : Nat} (h : 0 < Z) : pOf Z x = Z := by unfold pOf; rw [if_neg (by omega)]
end Go.Proofs.YtdepidpgbgfjlaaGreatDoor
