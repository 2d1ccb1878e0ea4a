/-
Texts of this proof, joined: MuI MuJ MuL. No condition.
-/
import Derived.Test.YtgclooabjilniaaGreatDoorK22
import Derived.Test.YtgclooabjilniaaGreatDoorK23
/-
The thin package's Mul. No condition.
-/
namespace Go.Proofs.YtgclooabjilniaaGreatDoor
open Go.RowKit

theorem prV_bl (n : Bool) (M N : Nat) : bl (sI n (M * N)).natAbs ≤ bl M + bl N := by
  rw [natAbs_sI]
  refine bl_le ?_
  rw [Nat.pow_add]
  exact Nat.mul_lt_mul'' (lt_bl M) (lt_bl N)
set_option maxRecDepth 100000 in
set_option maxHeartbeats 6400000 in
theorem impMul (P E q k p1 m1 f1 p2 m2 f2 : Nat) (n1 n2 : Bool) (v1 v2 : Value) (e1 e2 : Int) (xs ys : List Nat) (w : World) (hv1 : RW w v1 xs) (hv2 : RW w v2 ys) (ho1 : RealOk P E p1 m1 f1 xs e1) (ho2 : RealOk P E p2 m2 f2 ys e2) (hf1 : f1 ≤ 1) (hf2 : f2 ≤ 1) (hP : P ≤ 2400) (hE : E ≤ 400000) (hq : q ≤ 1000000) (hk : k ≤ 5) (hT : TabW w) (hK : KarW w) :
    Calls Tryz.prog 21 #[.int .u64 q, .int .i64 k, .agg #[.int .u64 p1, .int .i64 m1, .int .i64 f1, .bool n1, v1, .int .i64 e1], .agg #[.int .u64 p2, .int .i64 m2, .int .i64 f2, .bool n2, v2, .int .i64 e2]] w fun e' w' => ∃ z A, e' = .returned (.tuple #[z, .int .i64 A]) ∧ AddZ w' z A (pOf q (max p1 p2)) k (n1 != n2) (sI (n1 != n2) (dyM f1 (wv xs) * dyM f2 (wv ys))) (dyE f1 e1 + dyE f2 e2) ∧ Below w.heap.size w w' := by
  have hS1 := hv1.isS
  have hS2 := hv2.isS
  have hab := (Below.refl w.heap.size w).alloc (Nat.le_refl _) (.cells #[.int .u64 p1, .int .i64 m1, .int .i64 f1, .bool n1, v1, .int .i64 e1] 39)
  have hac := hab.alloc hab.size (.cells #[.int .u64 p2, .int .i64 m2, .int .i64 f2, .bool n2, v2, .int .i64 e2] 39)
  have had := hac.alloc hac.size (.cells #[.int .u64 0, .int .i64 0, .int .i64 0, .bool false, .slice none 0 0, .int .i64 0] 39)
  obtain ⟨X, hX⟩ : ∃ X, X = ((w.alloc (.cells #[.int .u64 p1, .int .i64 m1, .int .i64 f1, .bool n1, v1, .int .i64 e1] 39)).alloc (.cells #[.int .u64 p2, .int .i64 m2, .int .i64 f2, .bool n2, v2, .int .i64 e2] 39)).alloc (.cells #[.int .u64 0, .int .i64 0, .int .i64 0, .bool false, .slice none 0 0, .int .i64 0] 39) := ⟨_, rfl⟩
  have hr1 : X.heap[w.heap.size]? = some (.cells #[.int .u64 p1, .int .i64 m1, .int .i64 f1, .bool n1, v1, .int .i64 e1] 39 (0, 0)) := by
    rw [hX]; exact row_chain31
  have hr2 : X.heap[w.heap.size + 1]? = some (.cells #[.int .u64 p2, .int .i64 m2, .int .i64 f2, .bool n2, v2, .int .i64 e2] 39 (0, 0)) := by
    rw [hX]; exact row_chain32
  have hr3 : X.heap[w.heap.size + 2]? = some (.cells #[.int .u64 0, .int .i64 0, .int .i64 0, .bool false, .slice none 0 0, .int .i64 0] 39 (0, 0)) := by
    rw [hX]; exact row_chain33
  rw [← hX] at had
  have V1 := Lib.hid (hv1.below had)
  have V2 := Lib.hid (hv2.below had)
  have HO1 := Lib.hid ho1
  have HO2 := Lib.hid ho2
  have HT := Lib.hid (hT.below had)
  have HK := Lib.hid (hK.below had)
  have HR1 := Lib.hid hr1
  have HR2 := Lib.hid hr2
  have HR3 := Lib.hid hr3
  have hwX := Lib.hid had
  have hcc := Below.refl X.heap.size X
  have hXs := had.size
  have hN1 := Lib.hid (show w.heap.size + 2 ≠ w.heap.size by omega)
  have hN2 := Lib.hid (show w.heap.size + 2 ≠ w.heap.size + 1 by omega)
  have hX2 : w.heap.size + 3 ≤ X.heap.size := by rw [hX]; simp
  have hp1 : 0 < p1 := ho1.1
  have hp2 : 0 < p2 := ho2.1
  have hpP1 : p1 ≤ 9000 := Nat.le_trans (Nat.le_trans ho1.2.1 hP) (by decide)
  have hpP2 : p2 ≤ 9000 := Nat.le_trans (Nat.le_trans ho2.2.1 hP) (by decide)
  have K1 : Hid (f1 = 1 → 0 < wv xs ∧ bl (wv xs) ≤ p1 ∧ bl (wv xs) ≤ 2400 ∧ -5000000 ≤ e1 ∧ e1 ≤ 5000000) := Lib.hid (fun h1 => by
    obtain ⟨_, _, _, h | h | h⟩ := ho1
    · omega
    · omega
    · omega)
  have K2 : Hid (f2 = 1 → 0 < wv ys ∧ bl (wv ys) ≤ p2 ∧ bl (wv ys) ≤ 2400 ∧ -5000000 ≤ e2 ∧ e2 ≤ 5000000) := Lib.hid (fun h1 => by
    obtain ⟨_, _, _, h | h | h⟩ := ho2
    · omega
    · omega
    · omega)
  obtain ⟨V, hV⟩ : ∃ V, V = sI (n1 != n2) (dyM f1 (wv xs) * dyM f2 (wv ys)) := ⟨_, rfl⟩
  obtain ⟨XX, hXX⟩ : ∃ XX, XX = dyE f1 e1 + dyE f2 e2 := ⟨_, rfl⟩
  obtain ⟨zn, hzn⟩ : ∃ zn, zn = (n1 != n2) := ⟨_, rfl⟩
  have hbd1 := dy_bd ho1
  have hbd2 := dy_bd ho2
  have hblV := prV_bl (n1 != n2) (dyM f1 (wv xs)) (dyM f2 (wv ys))
  rw [← hV] at hblV
  have HXB : Hid (bl V.natAbs ≤ 1000000 ∧ -100000000 ≤ XX ∧ XX ≤ 100000000) := Lib.hid (by omega)
  have hpo : pOf q (max p1 p2) ≤ 1000000 ∧ 0 < pOf q (max p1 p2) := by unfold pOf; split <;> omega
  obtain ⟨Z, hZ⟩ : ∃ Z, Z = pOf q (max p1 p2) := ⟨_, rfl⟩
  rw [← hZ] at hpo
  have HPO := Lib.hid hpo
  obtain ⟨A, hA⟩ : ∃ A, A = rA Z k (vN V) 0 V.natAbs := ⟨_, rfl⟩
  have hAb : -1 ≤ A ∧ A ≤ 1 := by rw [hA]; exact rA_bd _ _ _ _ _
  obtain ⟨f, hf⟩ : ∃ f, f = fO V.natAbs := ⟨_, rfl⟩
  have hf2' : f ≤ 2 := by rw [hf]; unfold fO; split <;> omega
  obtain ⟨sg, hsg⟩ : ∃ sg, sg = (if V = 0 then zn else vN V) := ⟨_, rfl⟩
  obtain ⟨R, hR⟩ : ∃ R, R = rQ Z k (vN V) 0 V.natAbs := ⟨_, rfl⟩
  obtain ⟨RX, hRX⟩ : ∃ RX, RX = XX + rk Z V.natAbs := ⟨_, rfl⟩
  have HRB : Hid (-900000000 ≤ RX ∧ RX + bl R ≤ 900000000) := Lib.hid (by rw [hRX, hR]; exact rQ_range HXB.out)
  have HIN := Lib.hid (fun (w' : World) (b : Nat) (h : AddR w' X.heap.size b Z k zn V XX) => (by unfold AddR at h; rw [← hA, ← hf, ← hsg, ← hR, ← hRX] at h; exact h : FVal w' X.heap.size b Z k A f sg R RX))
  have HOUT := Lib.hid (fun (w' : World) (z : Value) (h : RealV w' z Z k f sg R RX) => (by unfold AddZ; rw [← hA, ← hf, ← hsg, ← hR, ← hRX]; exact ⟨rfl, h⟩ : AddZ w' z A Z k zn V XX))
  have HADD := Lib.hid (fun (W : World) (b g1 g2 B1 B2 : Nat) (h : FltR W b q k 0 0 false (.slice none 0 0) 0) (hB : X.heap.size ≤ b) (h1 : FloatAt W B1 g1 p1 m1 f1 n1 (wv xs) e1) (h2 : FloatAt W B2 g2 p2 m2 f2 n2 (wv ys) e2) (hb1 : b ≠ g1) (hb2 : b ≠ g2) (hb3 : g1 ≠ g2) (hKW : KarW W) =>
    mulF_any b X.heap.size B1 B2 g1 g2 q k p1 m1 p2 m2 0 f1 f2 (wv xs) (wv ys) 0 0 e1 e2 false n1 n2 W h hB hf1 hf2 h1 h2 K1.out K2.out hb1 hb2 hb3 (by omega) hp1 (by omega) hp2 (by omega) hk hKW)
  rw [← hV, ← hzn, ← hXX, ← hZ] at HADD
  rw [← hV, ← hzn, ← hXX, ← hZ]
  clear hv1 hv2 ho1 ho2 hab hac had hr1 hr2 hr3 hT hK hpo hbd1 hbd2 hblV hV hXX hzn hZ hA hf hsg hR hRX
  go_enter Tryz.func21, Tryz.ntmps21
  go_upto_region 1 with fail
  rw [← hX]
  clear hX
  first
    | (go_region_held3 (fun w' => (w'.cell? ⟨w.heap.size, 0, none⟩ = some (.int .u64 (p1 : Int)) ∧ w'.cell? ⟨w.heap.size, 1, none⟩ = some (.int .i64 (m1 : Int)) ∧ w'.cell? ⟨w.heap.size, 2, none⟩ = some (.int .i64 (f1 : Int)) ∧ w'.cell? ⟨w.heap.size, 3, none⟩ = some (.bool n1) ∧ w'.cell? ⟨w.heap.size, 4, none⟩ = some v1 ∧ w'.cell? ⟨w.heap.size, 5, none⟩ = some (.int .i64 e1)) ∧ (w'.cell? ⟨w.heap.size + 1, 0, none⟩ = some (.int .u64 (p2 : Int)) ∧ w'.cell? ⟨w.heap.size + 1, 1, none⟩ = some (.int .i64 (m2 : Int)) ∧ w'.cell? ⟨w.heap.size + 1, 2, none⟩ = some (.int .i64 (f2 : Int)) ∧ w'.cell? ⟨w.heap.size + 1, 3, none⟩ = some (.bool n2) ∧ w'.cell? ⟨w.heap.size + 1, 4, none⟩ = some v2 ∧ w'.cell? ⟨w.heap.size + 1, 5, none⟩ = some (.int .i64 e2)))
        ((first | (refine ksT2 HR1.out HR2.out ?_; with_reducible first | assumption | exact Below.drew hcc) | with_reducible exact ⟨ks6R hN1.out (ks6R hN1.out (ks6R hN1.out (ks6R hN1.out (ks6R hN1.out (ks6R hN1.out (ks12 HR1.out hb7).2))))), ks6R hN2.out (ks6R hN2.out (ks6R hN2.out (ks6R hN2.out (ks6R hN2.out (ks6R hN2.out (ks12 HR2.out hb7).2)))))⟩))
        (first
          | (go_at_call 48; (with_reducible refine (float_any P E p2 m2 f2 n2 v2 e2 ys _ (V2.out.below hb4) HO2.out (by omega) (by omega)).mono ?_); rintro _ w5 ⟨g2, rfl, hF2, hb5⟩; have G0' := Lib.hid (G0.out.below hb5); have G1' := Lib.hid (G1.out.below hb5); have G2 := Lib.hid hF2; have hne2 := Lib.hid (show g0 ≠ g2 by have := G0.out.lt; have := hF2.1; omega); have hne3 := Lib.hid (show g1 ≠ g2 by obtain ⟨_, _, hr⟩ := G1.out.row; have := hr.lt; have := hF2.1; omega); clear hF2; have hb5 := bthen hb4 hb5)
          | (go_at_call 48; (with_reducible refine (float_any P E p1 m1 f1 n1 v1 e1 xs _ (V1.out.below hb3) HO1.out (by omega) (by omega)).mono ?_); rintro _ w4 ⟨g1, rfl, hF1, hb4⟩; have G0 := Lib.hid (GF.out.below hb4); have G1 := Lib.hid hF1; have hne1 := Lib.hid (show g0 ≠ g1 by have := GF.out.lt; have := hF1.1; omega); clear hF1; have hb4 := bthen hb3 hb4)
          | (go_at_call 37; refine (fresh_all q k _ (by omega) (by omega)).mono ?_; rintro _ w3 ⟨g0, rfl, ⟨hg0, hF0⟩, hb3⟩; have hg0X : X.heap.size ≤ g0 := (by rw [hg0]; exact Nat.le_refl _); clear hg0; have GF := Lib.hid hF0; clear hF0; have hb3 : Below X.heap.size X w3 := bthen (Below.drew hcc) hb3)
          | (go_at_call 38; (with_reducible refine (HADD.out _ g0 g1 g2 _ _ G0'.out hg0X G1'.out G2.out hne1.out hne2.out hne3.out (HK.out.below hb5)).mono ?_); rintro _ w6 ⟨rfl, hA6, hb6⟩; have F6 := Lib.hid (HIN.out _ _ hA6); clear hA6; have hb6 := bthenX hb5 hb6)
          | (go_at_call 47; (with_reducible refine (implBoth _ g0 Z k f A _ _ _ _ F6.out hf2' (by have := HPO.out; omega) (by omega) (fun _ => HPO.out.2) (fun _ => HRB.out) (HT.out.below hb6) hAb).mono ?_); rintro _ w7 ⟨z, rfl, hz, hb7⟩; have hb7 := bthen hb6 hb7; have hq2 := keep_row hb7 HR3.out; obtain ⟨vz, Ez, zs, Bz, rfl, hz2, hzd, hz3, hz4⟩ := hz; have hSz := hz2.isS; obtain ⟨⟨y0, y1, y2, y3, y4, y5⟩, s0, s1, s2, s3, s4, s5⟩ := row6 hq2; have H2 := Lib.hid hz2; have H34 := Lib.hid (And.intro hzd (And.intro hz3 hz4)); have HQ2 := Lib.hid hq2; clear hz2 hzd hz3 hz4 hq2)))
    | fail
  all_goals go_wp2_with fail
  all_goals
    have HS := row6_set (x := .int .u64 (Z : Int)) (y := .int .i64 (k : Int)) (z := .int .i64 (f : Int)) (x' := .bool sg) (y' := vz) (z' := .int .i64 Ez) HQ2.out
    have HB := bset6 (x := .int .u64 (Z : Int)) (y := .int .i64 (k : Int)) (z := .int .i64 (f : Int)) (x' := .bool sg) (y' := vz) (z' := .int .i64 Ez) (hwX.out.trans (hb7.mono hXs)) (Nat.le_trans (Nat.le_succ _) (Nat.le_succ _))
    obtain ⟨⟨a0, a1, a2, a3, a4, a5⟩, -⟩ := row6 HS
    refine bodyPost_ret (v := .tuple #[.agg #[.int .u64 Z, .int .i64 k, .int .i64 f, .bool sg, vz, .int .i64 Ez], .int .i64 A]) ?_ rfl ⟨_, _, rfl, HOUT.out _ _ ⟨_, _, _, Bz, rfl, ?_, H34.out.1, H34.out.2⟩, HB⟩
    · simp [results, Tryz.results21, go_sem, a0, a1, a2, a3, a4, a5]
    · exact H2.out.same fun hc => by
        have hne : sBlk vz ≠ w.heap.size + 2 := H2.out.ne_row HQ2.out (by decide) hc
        exact heap6_other hne
end Go.Proofs.YtgclooabjilniaaGreatDoor

/-
The reference's product of two dyadic values. No condition.
-/
namespace Go.Proofs.YtgclooabjilniaaGreatDoor
open Go.RowKit

theorem ksP2 {B : Nat} {w W X : World} {k l : Nat} {a b c a' b' c' : Value} {T T' : TypeId} (h1 : W.heap[k]? = some (.cells #[a, b, c] T (0, 0))) (h2 : W.heap[l]? = some (.cells #[a', b', c'] T' (0, 0))) (hB : Below B w W) (hs : B ≤ W.heap.size) (h : Below W.heap.size W X) :
    Below B w X ∧ X.cell? ⟨k, 0, none⟩ = some a ∧ X.cell? ⟨k, 1, none⟩ = some b ∧ X.cell? ⟨k, 2, none⟩ = some c ∧ X.cell? ⟨l, 0, none⟩ = some a' ∧ X.cell? ⟨l, 1, none⟩ = some b' ∧ X.cell? ⟨l, 2, none⟩ = some c' := by
  obtain ⟨x0, x1, x2, -, -, -⟩ := row3 (keep_row h h1)
  obtain ⟨y0, y1, y2, -, -, -⟩ := row3 (keep_row h h2)
  exact ⟨hB.trans (h.mono hs), x0, x1, x2, y0, y1, y2⟩
theorem ksP2S {B g i : Nat} {w X : World} {k l : Nat} {a b c a' b' c' u : Value} (hg : B ≤ g) (hk : g ≠ k) (hl : g ≠ l) (h : Below B w X ∧ X.cell? ⟨k, 0, none⟩ = some a ∧ X.cell? ⟨k, 1, none⟩ = some b ∧ X.cell? ⟨k, 2, none⟩ = some c ∧ X.cell? ⟨l, 0, none⟩ = some a' ∧ X.cell? ⟨l, 1, none⟩ = some b' ∧ X.cell? ⟨l, 2, none⟩ = some c') :
    Below B w (X.setCell ⟨g, i, none⟩ u) ∧ (X.setCell ⟨g, i, none⟩ u).cell? ⟨k, 0, none⟩ = some a ∧ (X.setCell ⟨g, i, none⟩ u).cell? ⟨k, 1, none⟩ = some b ∧ (X.setCell ⟨g, i, none⟩ u).cell? ⟨k, 2, none⟩ = some c ∧ (X.setCell ⟨g, i, none⟩ u).cell? ⟨l, 0, none⟩ = some a' ∧ (X.setCell ⟨g, i, none⟩ u).cell? ⟨l, 1, none⟩ = some b' ∧ (X.setCell ⟨g, i, none⟩ u).cell? ⟨l, 2, none⟩ = some c' := by
  have hk' : ∀ j, (X.setCell ⟨g, i, none⟩ u).cell? ⟨k, j, none⟩ = X.cell? ⟨k, j, none⟩ := fun j => cell_other (by simpa using hk)
  have hl' : ∀ j, (X.setCell ⟨g, i, none⟩ u).cell? ⟨l, j, none⟩ = X.cell? ⟨l, j, none⟩ := fun j => cell_other (by simpa using hl)
  simp only [hk', hl']
  exact ⟨bset h.1 hg, h.2⟩
set_option maxRecDepth 100000 in
set_option maxHeartbeats 3200000 in
theorem dProd (n1 n2 : Bool) (a b : Value) (e1 e2 : Int) (x y : Nat) (w : World) (ha : NatV w a x) (hb : NatV w b y) (hx : nl x ≤ 1000000000) (hy : nl y ≤ 1000000000) (g1 : -2000000000 ≤ e1) (g2 : e1 ≤ 2000000000) (g3 : -2000000000 ≤ e2) (g4 : e2 ≤ 2000000000) :
    Calls Tryz.prog 15 #[.agg #[.bool n1, a, .int .i64 e1], .agg #[.bool n2, b, .int .i64 e2]] w fun e' w' => ∃ ng c M, e' = .returned (.agg #[.bool ng, c, .int .i64 (e1 + e2)]) ∧ NatV w' c M ∧ sI ng M = sI (n1 != n2) (x * y) ∧ Below w.heap.size w w' := by
  have hSa := ha.isS
  have hSb := hb.isS
  have hab := (((Below.refl w.heap.size w).alloc (Nat.le_refl _) (.cells #[.bool n1, a, .int .i64 e1] 28)).alloc (Nat.le_trans (Nat.le_refl _) (fbone (W := w) (.cells #[.bool n1, a, .int .i64 e1] 28)).size) (.cells #[.bool n2, b, .int .i64 e2] 28))
  have hac := hab.alloc hab.size (.cells #[.bool false, .slice none 0 0, .int .i64 0] 28)
  obtain ⟨X, hX⟩ : ∃ X, X = ((w.alloc (.cells #[.bool n1, a, .int .i64 e1] 28)).alloc (.cells #[.bool n2, b, .int .i64 e2] 28)).alloc (.cells #[.bool false, .slice none 0 0, .int .i64 0] 28) := ⟨_, rfl⟩
  have hr1 : X.heap[w.heap.size]? = some (.cells #[.bool n1, a, .int .i64 e1] 28 (0, 0)) := by
    rw [hX]; exact keep_row (fbone _) (keep_row (fbone _) (box_row (Below.refl _ _)))
  have hr2 : X.heap[w.heap.size + 1]? = some (.cells #[.bool n2, b, .int .i64 e2] 28 (0, 0)) := by
    rw [hX]
    have := keep_row (fbone (W := (w.alloc (.cells #[.bool n1, a, .int .i64 e1] 28)).alloc (.cells #[.bool n2, b, .int .i64 e2] 28)) (.cells #[.bool false, .slice none 0 0, .int .i64 0] 28)) (box_row (Below.refl _ ((w.alloc (.cells #[.bool n1, a, .int .i64 e1] 28)).alloc (.cells #[.bool n2, b, .int .i64 e2] 28))))
    simpa using this
  have hr3 : X.heap[w.heap.size + 1 + 1]? = some (.cells #[.bool false, .slice none 0 0, .int .i64 0] 28 (0, 0)) := by
    rw [hX]
    have := box_row (Below.refl _ (((w.alloc (.cells #[.bool n1, a, .int .i64 e1] 28)).alloc (.cells #[.bool n2, b, .int .i64 e2] 28)).alloc (.cells #[.bool false, .slice none 0 0, .int .i64 0] 28)))
    simpa using this
  rw [← hX] at hac
  obtain ⟨x0, x1, x2, -, -, -⟩ := row3 hr1
  obtain ⟨y0, y1, y2, -, -, -⟩ := row3 hr2
  obtain ⟨E, hE⟩ : ∃ E : Int, E = e1 + e2 := ⟨_, rfl⟩
  have hE' : e1 + e2 = E := hE.symm
  have hwE : IntKind.i64.wrap E = E := by rw [IntKind.wrap_i64]; omega
  rw [hE']
  have HR1 := Lib.hid hr1
  have HR2 := Lib.hid hr2
  have HR3 := Lib.hid hr3
  have HW := Lib.hid hac
  have NA := Lib.hid (ha.below hac)
  have NB := Lib.hid (hb.below hac)
  have hXs := hac.size
  have hcc := Below.refl X.heap.size X
  obtain ⟨sg, hsg⟩ : ∃ sg, sg = (n1 != n2) := ⟨_, rfl⟩
  rw [← hsg]
  have Hsg := Lib.hid hsg
  clear hr1 hr2 hr3 hac hab ha hb hE hsg
  go_enter Tryz.func15, Tryz.ntmps15
  go_upto_region 1 with fail
  rw [← hX]
  clear hX
  first
    | (go_region_held3 (fun w' => Below w.heap.size w w' ∧ w'.cell? ⟨w.heap.size, 0, none⟩ = some (.bool n1) ∧ w'.cell? ⟨w.heap.size, 1, none⟩ = some a ∧ w'.cell? ⟨w.heap.size, 2, none⟩ = some (.int .i64 e1) ∧ w'.cell? ⟨w.heap.size + 1, 0, none⟩ = some (.bool n2) ∧ w'.cell? ⟨w.heap.size + 1, 1, none⟩ = some b ∧ w'.cell? ⟨w.heap.size + 1, 2, none⟩ = some (.int .i64 e2))
        ((first | (refine ksP2 HR1.out HR2.out HW.out hXs ?_; with_reducible first | assumption | exact Below.drew hcc) | (refine ksP2S (by omega) (by omega) (by omega) (ksP2S (by omega) (by omega) (by omega) (ksP2S (by omega) (by omega) (by omega) (ksP2 HR1.out HR2.out HW.out hXs ?_))); with_reducible assumption)))
        (first
          | (go_at_call 44; (with_reducible refine (spMul a b x y _ (NA.out.below (Below.drew hcc)) (NB.out.below (Below.drew hcc)) hx hy).mono ?_); rintro _ w3 ⟨c, rfl, hc, hb3⟩; have hSc := hc.isS; have HC := Lib.hid hc; have HRw := Lib.hid (keep_row (bthen (Below.drew hcc) hb3) HR3.out); obtain ⟨z0, z1, z2, z3, z4, z5⟩ := row3 HRw.out; have hb3 : Below X.heap.size X w3 := bthen (Below.drew hcc) hb3; clear hc)))
    | fail
  all_goals
    go_wp2
    obtain ⟨hx0, hx1, hx2, -, -, -⟩ := row3 (row3_set (x := .bool (!(n1 == n2))) (y := c) (z := .int .i64 E) HRw.out)
    refine bodyPost_ret (v := .agg #[.bool (!(n1 == n2)), c, .int .i64 E]) ?_ rfl ⟨_, c, _, rfl, natv_dyad (x := .bool (!(n1 == n2))) (y := c) (z := .int .i64 E) IsS.nil HC.out HRw.out, by rw [Hsg.out]; rfl, bset (bset (bset (HW.out.trans (hb3.mono hXs)) (by omega)) (by omega)) (by omega)⟩
    simp [results, Tryz.results15, go_sem, hx0, hx1, hx2]
end Go.Proofs.YtgclooabjilniaaGreatDoor

/-
The statement on Mul. No condition.
-/
namespace Go.Proofs.YtgclooabjilniaaGreatDoor
open Go.RowKit

theorem prV_dy (f1 f2 : Nat) (n1 n2 : Bool) (M N : Nat) : sI (dyN f1 n1 != dyN f2 n2) (dyM f1 M * dyM f2 N) = sI (n1 != n2) (dyM f1 M * dyM f2 N) := by
  by_cases h1 : f1 = 1
  · by_cases h2 : f2 = 1
    · rw [show dyN f1 n1 = n1 from if_pos h1, show dyN f2 n2 = n2 from if_pos h2]
    · rw [show dyM f2 N = 0 from if_neg h2, Nat.mul_zero, sI_zero, sI_zero]
  · rw [show dyM f1 M = 0 from if_neg h1, Nat.zero_mul, sI_zero, sI_zero]
set_option maxRecDepth 100000 in
set_option maxHeartbeats 3200000 in
theorem lawMul (a0 : Int) (a1 : Int) (p1 : Nat) (m1 f1 : Int) (n1 : Bool) (v1 : Value) (e1 : Int) (xs1 : List Nat) (p2 : Nat) (m2 f2 : Int) (n2 : Bool) (v2 : Value) (e2 : Int) (xs2 : List Nat) (w : World) (hT : TabW w) (hK : KarW w) (l0 : 0 ≤ a0) (h0 : a0 ≤ 65535) (l1 : 0 ≤ a1) (h1 : a1 ≤ 255) (hv1 : RW w v1 xs1) (_hg1 : p1 ≤ 18446744073709551615 ∧ (-9223372036854775808 ≤ m1 ∧ m1 ≤ 9223372036854775807) ∧ (-9223372036854775808 ≤ f1 ∧ f1 ≤ 9223372036854775807) ∧ (-9223372036854775808 ≤ e1 ∧ e1 ≤ 9223372036854775807)) (hv2 : RW w v2 xs2) (_hg2 : p2 ≤ 18446744073709551615 ∧ (-9223372036854775808 ≤ m2 ∧ m2 ≤ 9223372036854775807) ∧ (-9223372036854775808 ≤ f2 ∧ f2 ≤ 9223372036854775807) ∧ (-9223372036854775808 ≤ e2 ∧ e2 ≤ 9223372036854775807)) :
    Calls Tryz.prog 4 #[.int .u16 a0, .int .u8 a1, .agg #[.int .u64 p1, .int .i64 m1, .int .i64 f1, .bool n1, v1, .int .i64 e1], .agg #[.int .u64 p2, .int .i64 m2, .int .i64 f2, .bool n2, v2, .int .i64 e2]] w fun e' w' => e' = .returned (.bool true) ∧ Below w.heap.size w w' := by
  obtain ⟨b0, rfl⟩ := Int.eq_ofNat_of_zero_le l0
  have ib0 : b0 ≤ 65535 := by omega
  obtain ⟨b1, rfl⟩ := Int.eq_ofNat_of_zero_le l1
  have ib1 : b1 ≤ 255 := by omega
  have hS1 := hv1.isS
  clear _hg1
  have hS2 := hv2.isS
  clear _hg2
  have hab1 := (Below.refl w.heap.size w).alloc (Nat.le_refl _) (.cells #[.int .u64 p1, .int .i64 m1, .int .i64 f1, .bool n1, v1, .int .i64 e1] 39)
  have hab2 := hab1.alloc hab1.size (.cells #[.int .u64 p2, .int .i64 m2, .int .i64 f2, .bool n2, v2, .int .i64 e2] 39)
  obtain ⟨X, hX⟩ : ∃ X, X = ((w.alloc (.cells #[.int .u64 p1, .int .i64 m1, .int .i64 f1, .bool n1, v1, .int .i64 e1] 39)).alloc (.cells #[.int .u64 p2, .int .i64 m2, .int .i64 f2, .bool n2, v2, .int .i64 e2] 39)) := ⟨_, rfl⟩
  have hr1 : X.heap[w.heap.size]? = some (.cells #[.int .u64 p1, .int .i64 m1, .int .i64 f1, .bool n1, v1, .int .i64 e1] 39 (0, 0)) := by
    rw [hX]; exact row_chain21
  have hr2 : X.heap[w.heap.size + 1]? = some (.cells #[.int .u64 p2, .int .i64 m2, .int .i64 f2, .bool n2, v2, .int .i64 e2] 39 (0, 0)) := by
    rw [hX]; exact row_chain22
  rw [← hX] at hab2
  obtain ⟨-, ⟨⟨c10, c11, c12, c13, c14, c15⟩, ⟨c20, c21, c22, c23, c24, c25⟩⟩⟩ := ksR2 hr1 hr2 (Below.refl _ _)
  have HR1 := Lib.hid hr1
  have V1 := Lib.hid (hv1.below hab2)
  have HR2 := Lib.hid hr2
  have V2 := Lib.hid (hv2.below hab2)
  have hXs := hab2.size
  have HW := Lib.hid hab2
  have T0 := Lib.hid (hT.below hab2)
  have K0 := Lib.hid (hK.below hab2)
  clear hT hK
  clear hr1 hv1 hr2 hv2
  clear hab2 hab1
  go_enter Tryz.func4, Tryz.ntmps4
  go_upto_region 1 with fail
  rw [← hX]
  clear hX
  go_wp2_with fail
  refine (zzFits1_any p1 m1 f1 e1 n1 v1 xs1 X V1.out).mono ?_
  rintro _ w1 ⟨rfl, hb1⟩
  obtain ⟨fits, hfits⟩ : ∃ f, f = decide (xs1.length ≤ 2147483647) := ⟨_, rfl⟩
  rw [← hfits]
  clear c10 c11 c12 c13 c14 c15 c20 c21 c22 c23 c24 c25 hfits
  obtain ⟨-, ⟨⟨c10, c11, c12, c13, c14, c15⟩, ⟨c20, c21, c22, c23, c24, c25⟩⟩⟩ := ksR2 HR1.out HR2.out hb1
  have HB := Lib.hid hb1
  clear hb1
  cases fits with
  | false =>
    go_wp2
    go_ret
    exact ⟨rfl, HW.out.trans (HB.out.mono hXs)⟩
  | true =>
  go_wp2_with fail
  refine (zzFits1_any p2 m2 f2 e2 n2 v2 xs2 w1 (V2.out.below HB.out)).mono ?_
  rintro _ w2 ⟨rfl, hb1⟩
  have hb1 := bthen HB.out hb1
  obtain ⟨fits, hfits⟩ : ∃ f, f = decide (xs2.length ≤ 2147483647) := ⟨_, rfl⟩
  rw [← hfits]
  clear c10 c11 c12 c13 c14 c15 c20 c21 c22 c23 c24 c25 HB hfits
  obtain ⟨-, ⟨⟨c10, c11, c12, c13, c14, c15⟩, ⟨c20, c21, c22, c23, c24, c25⟩⟩⟩ := ksR2 HR1.out HR2.out hb1
  have HB := Lib.hid hb1
  clear hb1
  cases fits with
  | false =>
    go_wp2
    go_ret
    exact ⟨rfl, HW.out.trans (HB.out.mono hXs)⟩
  | true =>
  go_wp2_with fail
  refine (number_any p1 m1 f1 e1 n1 v1 xs1 w2 (V1.out.below HB.out)).mono ?_
  rintro _ w3 ⟨ok, rfl, hok, hb1⟩
  have hb1 := bthen HB.out hb1
  have HO1 := Lib.hid hok
  clear c10 c11 c12 c13 c14 c15 c20 c21 c22 c23 c24 c25 HB hok
  obtain ⟨-, ⟨⟨c10, c11, c12, c13, c14, c15⟩, ⟨c20, c21, c22, c23, c24, c25⟩⟩⟩ := ksR2 HR1.out HR2.out hb1
  have HB := Lib.hid hb1
  clear hb1
  cases ok with
  | false =>
    go_wp2
    go_ret
    exact ⟨rfl, HW.out.trans (HB.out.mono hXs)⟩
  | true =>
  obtain ⟨hn, P1, M1, F1, hp, rfl, rfl, hR⟩ := HO1.out rfl
  have hpp : P1 = p1 := by omega
  subst hpp
  have R1 := Lib.hid hR
  have N1 : Hid (F1 ≠ 2) := Lib.hid (fun h => hn (by rw [h]; rfl))
  clear HO1 hp hR hn
  go_wp2_with fail
  refine (number_any p2 m2 f2 e2 n2 v2 xs2 w3 (V2.out.below HB.out)).mono ?_
  rintro _ w4 ⟨ok, rfl, hok, hb1⟩
  have hb1 := bthen HB.out hb1
  have HO2 := Lib.hid hok
  clear c10 c11 c12 c13 c14 c15 c20 c21 c22 c23 c24 c25 HB hok
  obtain ⟨-, ⟨⟨c10, c11, c12, c13, c14, c15⟩, ⟨c20, c21, c22, c23, c24, c25⟩⟩⟩ := ksR2 HR1.out HR2.out hb1
  have HB := Lib.hid hb1
  clear hb1
  cases ok with
  | false =>
    go_wp2
    go_ret
    exact ⟨rfl, HW.out.trans (HB.out.mono hXs)⟩
  | true =>
  obtain ⟨hn, P2, M2, F2, hp, rfl, rfl, hR⟩ := HO2.out rfl
  have hpp : P2 = p2 := by omega
  subst hpp
  have R2 := Lib.hid hR
  have N2 : Hid (F2 ≠ 2) := Lib.hid (fun h => hn (by rw [h]; rfl))
  clear HO2 hp hR hn
  have hWW := HW.out.trans (HB.out.mono hXs)
  have hV1 := V1.out.below HB.out
  have hr1 := keep_row HB.out HR1.out
  have hV2 := V2.out.below HB.out
  have hr2 := keep_row HB.out HR2.out
  have hT0 := T0.out.below HB.out
  have hK0 := K0.out.below HB.out
  clear T0 K0
  have T0 := Lib.hid hT0
  have K0 := Lib.hid hK0
  clear hT0 hK0
  clear HW HB hXs V1 HR1 V2 HR2
  have HW := Lib.hid hWW
  have V1 := Lib.hid hV1
  have HR1 := Lib.hid hr1
  have V2 := Lib.hid hV2
  have HR2 := Lib.hid hr2
  have hWs := HW.out.size
  clear hWW hV1 hr1 hV2 hr2
  go_wp2_with fail
  refine (target_any b0 b1 w4 ib0 ib1).mono ?_
  rintro _ _ ⟨rfl, rfl⟩
  have hqb : b0 % 301 ≤ 300 := by omega
  have hkb : b1 % 6 ≤ 5 := by omega
  obtain ⟨q, hq⟩ : ∃ q, q = b0 % 301 := ⟨_, rfl⟩
  obtain ⟨k, hk⟩ : ∃ k, k = b1 % 6 := ⟨_, rfl⟩
  rw [← hq] at hqb ⊢
  rw [← hk] at hkb ⊢
  clear hq hk ib0 ib1
  go_wp2_with fail
  have hf1 : F1 ≤ 1 := by have := R1.out.form'; have := N1.out; omega
  have hf2 : F2 ≤ 1 := by have := R2.out.form'; have := N2.out; omega
  refine (impMul 300 1000 q k P1 M1 F1 P2 M2 F2 n1 n2 v1 v2 e1 e2 xs1 xs2 w4 V1.out V2.out R1.out R2.out hf1 hf2 (by decide) (by decide) (by omega) hkb T0.out K0.out).mono ?_
  rintro _ wN ⟨z, A, rfl, hz, hb1⟩
  have hpo : 0 < pOf q (max P1 P2) := by have := R1.out.1; unfold pOf; split <;> omega
  have hpo2 : pOf q (max P1 P2) ≤ 300 := by have := R1.out.2.1; have := R2.out.2.1; unfold pOf; split <;> omega
  obtain ⟨V, hV⟩ : ∃ V, V = sI (n1 != n2) (dyM F1 (wv xs1) * dyM F2 (wv xs2)) := ⟨_, rfl⟩
  obtain ⟨XX, hXX⟩ : ∃ XX, XX = dyE F1 e1 + dyE F2 e2 := ⟨_, rfl⟩
  have hbd1 := dy_bd R1.out
  have hbd2 := dy_bd R2.out
  have hblV := prV_bl (n1 != n2) (dyM F1 (wv xs1)) (dyM F2 (wv xs2))
  rw [← hV] at hblV
  have HXB : Hid (bl V.natAbs ≤ 1000000 ∧ -2000 ≤ XX ∧ XX ≤ 2000) := Lib.hid (by omega)
  have HBD : Hid (bl (dyM F1 (wv xs1)) ≤ 1000000 ∧ bl (dyM F2 (wv xs2)) ≤ 1000000 ∧ (-1000000 ≤ dyE F1 e1 ∧ dyE F1 e1 ≤ 1000000) ∧ (-1000000 ≤ dyE F2 e2 ∧ dyE F2 e2 ≤ 1000000)) := Lib.hid (by omega)
  have HV := Lib.hid hV
  have HXX := Lib.hid hXX
  rw [← hV, ← hXX] at hz
  obtain ⟨Z, hZ⟩ : ∃ Z, Z = pOf q (max P1 P2) := ⟨_, rfl⟩
  rw [← hZ] at hz hpo hpo2
  have HPM := Lib.hid hZ
  clear hZ hV hXX hbd1 hbd2 hblV hf1 hf2
  obtain ⟨fz, sg, vz, Ez, rfl, hSz⟩ := hz.form
  obtain ⟨Y, hY⟩ : ∃ Y, Y = wN.alloc (.cells #[.int .u64 (Z : Int), .int .i64 (k : Int), .int .i64 (fz : Int), .bool sg, vz, .int .i64 Ez] 39) := ⟨_, rfl⟩
  have hbY : Below wN.heap.size wN Y := by rw [hY]; exact fbone _
  have hrz : Y.heap[wN.heap.size]? = some (.cells #[.int .u64 (Z : Int), .int .i64 (k : Int), .int .i64 (fz : Int), .bool sg, vz, .int .i64 Ez] 39 (0, 0)) := by rw [hY]; exact row_chain11
  have hbX := bthen hb1 hbY
  have hr1 := keep_row hbX HR1.out
  have HRx1 := Lib.hid hr1
  have VY1 := Lib.hid (V1.out.below hbX)
  have hr2 := keep_row hbX HR2.out
  have HRx2 := Lib.hid hr2
  have VY2 := Lib.hid (V2.out.below hbX)
  have HRz := Lib.hid hrz
  have HZ := Lib.hid (hz.below hbY)
  have HWY := Lib.hid (HW.out.trans (hbX.mono hWs))
  have TY := Lib.hid (T0.out.below hbX)
  have hYs := HWY.out.size
  have hcc := Below.refl Y.heap.size Y
  clear hb1 hbY hrz hbX hz c10 c11 c12 c13 c14 c15 c20 c21 c22 c23 c24 c25 HW hWs T0 hr1 V1 HR1 hr2 V2 HR2
  go_upto_region 7 with fail
  rw [← hY]
  clear hY
  first
    | (go_region_held3 (fun w' => Below Y.heap.size Y w' ∧ (w'.cell? ⟨w.heap.size, 0, none⟩ = some (.int .u64 (P1 : Int)) ∧ w'.cell? ⟨w.heap.size, 1, none⟩ = some (.int .i64 (M1 : Int)) ∧ w'.cell? ⟨w.heap.size, 2, none⟩ = some (.int .i64 (F1 : Int)) ∧ w'.cell? ⟨w.heap.size, 3, none⟩ = some (.bool n1) ∧ w'.cell? ⟨w.heap.size, 4, none⟩ = some (v1) ∧ w'.cell? ⟨w.heap.size, 5, none⟩ = some (.int .i64 e1)) ∧ (w'.cell? ⟨w.heap.size + 1, 0, none⟩ = some (.int .u64 (P2 : Int)) ∧ w'.cell? ⟨w.heap.size + 1, 1, none⟩ = some (.int .i64 (M2 : Int)) ∧ w'.cell? ⟨w.heap.size + 1, 2, none⟩ = some (.int .i64 (F2 : Int)) ∧ w'.cell? ⟨w.heap.size + 1, 3, none⟩ = some (.bool n2) ∧ w'.cell? ⟨w.heap.size + 1, 4, none⟩ = some (v2) ∧ w'.cell? ⟨w.heap.size + 1, 5, none⟩ = some (.int .i64 e2)) ∧ w'.cell? ⟨wN.heap.size, 0, none⟩ = some (.int .u64 (Z : Int)) ∧ w'.cell? ⟨wN.heap.size, 1, none⟩ = some (.int .i64 (k : Int)) ∧ w'.cell? ⟨wN.heap.size, 2, none⟩ = some (.int .i64 (fz : Int)) ∧ w'.cell? ⟨wN.heap.size, 3, none⟩ = some (.bool sg) ∧ w'.cell? ⟨wN.heap.size, 4, none⟩ = some (vz) ∧ w'.cell? ⟨wN.heap.size, 5, none⟩ = some (.int .i64 Ez))
        ((refine ksR3 HRx1.out HRx2.out HRz.out ?_; with_reducible first | assumption | exact Below.drew hcc))
        (first
          | (go_at_call 23; (with_reducible refine (ofReal_any 300 1000 P2 M2 F2 e2 n2 v2 xs2 _ (VY2.out.below hb8) R2.out).mono ?_); rintro _ w9 ⟨_, rfl, ⟨b, rfl, hd2⟩, hb9⟩; have hT2 := hd2.isS; have D1x := Lib.hid (D1.out.below hb9); have hb9 := bthen hb8 hb9; have D2 := Lib.hid hd2; clear hd2)
          | (go_at_call 23; refine (ofReal_any 300 1000 P1 M1 F1 e1 n1 v1 xs1 _ (VY1.out.below (And.left (by assumption))) R1.out).mono ?_; rintro _ w8 ⟨_, rfl, ⟨a, rfl, hd1⟩, hb8⟩; have hT1 := hd1.isS; have hb8 := bthenL hb8 (by assumption); have D1 := Lib.hid hd1; clear hd1)
          | (go_at_call 15; (with_reducible refine (dProd _ _ a b _ _ _ _ _ D1x.out D2.out (nl_of_bl (by have := HBD.out.1; omega)) (nl_of_bl (by have := HBD.out.2.1; omega)) (by have := HBD.out.2.2.1.1; omega) (by have := HBD.out.2.2.1.2; omega) (by have := HBD.out.2.2.2.1; omega) (by have := HBD.out.2.2.2.2; omega)).mono ?_); rintro _ w10 ⟨ng, c, Mr, rfl, hc, hs, hb10⟩; rw [prV_dy, ← HV.out] at hs; rw [← HXX.out]; have hTc := hc.isS; have D3 := Lib.hid hc; have HSV := Lib.hid hs; clear hc hs; have hb10 := bthen hb9 hb10)
          | (go_at_call 24; (with_reducible refine (chosen_any q P1 P2 M1 M2 F1 F2 n1 n2 v1 v2 e1 e2 _ hS1 hS2).mono ?_); rintro _ w11 ⟨rfl, hb11⟩; rw [← HPM.out]; have D4 := Lib.hid (D3.out.below hb11); have hb11 := bthen hb10 hb11)
          | (go_at_call 22; (with_reducible refine (rounds_any _ A ng c Mr XX Z k _ (HZ.out.below hb11 |>.told HSV.out hpo).1 (HZ.out.told HSV.out hpo).2 D4.out (by rw [sum_bl HSV.out]; have := HXB.out; omega) (by omega) hkb (by have := HXB.out; omega) (by have := HXB.out; omega)).mono ?_); rintro _ w12 ⟨rfl, hb12⟩; have hb12 := bthen hb11 hb12)))
    | fail
  all_goals
    go_wp2
    go_ret
    exact ⟨rfl, HWY.out.trans (hb12.mono hYs)⟩
end Go.Proofs.YtgclooabjilniaaGreatDoor
