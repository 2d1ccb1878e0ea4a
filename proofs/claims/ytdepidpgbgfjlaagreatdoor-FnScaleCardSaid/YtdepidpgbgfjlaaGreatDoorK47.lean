/-
Texts of this proof, joined: QuI ScA ScB RoB. No condition.
-/
import Derived.Test.YtdepidpgbgfjlaaGreatDoorK02
import Derived.Test.YtdepidpgbgfjlaaGreatDoorK21
import Derived.Test.YtdepidpgbgfjlaaGreatDoorK25
import Derived.Test.YtdepidpgbgfjlaaGreatDoorK30
import Derived.Test.YtdepidpgbgfjlaaGreatDoorK32
import Derived.Test.YtdepidpgbgfjlaaGreatDoorK46
import Derived.Deep.DeepCutAuto
/-
The thin package's Quo. No condition but the threshold of recursive division.
-/
namespace Go.Proofs.YtdepidpgbgfjlaaGreatDoor
open Go.RowKit

set_option maxRecDepth 100000 in
set_option maxHeartbeats 6400000 in
theorem impQuoX (P E F q k p1 m1 f1 p2 m2 f2 : Nat) (n1 n2 : Bool) (v1 v2 : Value) (e1 e2 : Int) (xs ys : List Nat) (w : World) (hv1 : RW w v1 xs) (hv2 : RW w v2 ys) (ho1 : RealOk P E p1 m1 f1 xs e1) (ho2 : RealOk P F p2 m2 f2 ys e2) (hf1 : f1 ≤ 1) (hf2 : f2 = 1) (hP : P ≤ 2400) (hE : E ≤ 1040000000) (hF : F ≤ 500000000) (hq : q ≤ 60000) (hk : k ≤ 5) (hT : TabW w) (hK : DivW w) :
    Calls Tryz.prog 70 #[.int .u64 q, .int .i64 k, .agg #[.int .u64 p1, .int .i64 m1, .int .i64 f1, .bool n1, v1, .int .i64 e1], .agg #[.int .u64 p2, .int .i64 m2, .int .i64 f2, .bool n2, v2, .int .i64 e2]] w fun e' w' => ∃ z A, e' = .returned (.tuple #[z, .int .i64 A]) ∧ AddZ w' z A (pOf q (max p1 p2)) k (n1 != n2) (sI (n1 != n2) (quN (pOf q (max p1 p2)) (dyM f1 (wv xs)) (wv ys))) (dyE f1 e1 - e2 - (quK (pOf q (max p1 p2)) (dyM f1 (wv xs)) (wv ys) : Nat) - 1) ∧ Below w.heap.size w w' := by
  have hS1 := hv1.isS
  have hS2 := hv2.isS
  have hab := (Below.refl w.heap.size w).alloc (Nat.le_refl _) (.cells #[.int .u64 p1, .int .i64 m1, .int .i64 f1, .bool n1, v1, .int .i64 e1] 39)
  have hac := hab.alloc hab.size (.cells #[.int .u64 p2, .int .i64 m2, .int .i64 f2, .bool n2, v2, .int .i64 e2] 39)
  have had := hac.alloc hac.size (.cells #[.int .u64 0, .int .i64 0, .int .i64 0, .bool false, .slice none 0 0, .int .i64 0] 39)
  obtain ⟨X, hX⟩ : ∃ X, X = ((w.alloc (.cells #[.int .u64 p1, .int .i64 m1, .int .i64 f1, .bool n1, v1, .int .i64 e1] 39)).alloc (.cells #[.int .u64 p2, .int .i64 m2, .int .i64 f2, .bool n2, v2, .int .i64 e2] 39)).alloc (.cells #[.int .u64 0, .int .i64 0, .int .i64 0, .bool false, .slice none 0 0, .int .i64 0] 39) := ⟨_, rfl⟩
  have hr1 : X.heap[w.heap.size]? = some (.cells #[.int .u64 p1, .int .i64 m1, .int .i64 f1, .bool n1, v1, .int .i64 e1] 39 (0, 0)) := by
    rw [hX]; exact row_chain31
  have hr2 : X.heap[w.heap.size + 1]? = some (.cells #[.int .u64 p2, .int .i64 m2, .int .i64 f2, .bool n2, v2, .int .i64 e2] 39 (0, 0)) := by
    rw [hX]; exact row_chain32
  have hr3 : X.heap[w.heap.size + 2]? = some (.cells #[.int .u64 0, .int .i64 0, .int .i64 0, .bool false, .slice none 0 0, .int .i64 0] 39 (0, 0)) := by
    rw [hX]; exact row_chain33
  rw [← hX] at had
  have V1 := Lib.hid (hv1.below had)
  have V2 := Lib.hid (hv2.below had)
  have HO1 := Lib.hid ho1
  have HO2 := Lib.hid ho2
  have HT := Lib.hid (hT.below had)
  have HK := Lib.hid (hK.below had)
  have HR1 := Lib.hid hr1
  have HR2 := Lib.hid hr2
  have HR3 := Lib.hid hr3
  have hwX := Lib.hid had
  have hcc := Below.refl X.heap.size X
  have hXs := had.size
  have dg : 3 < X.heap.size := World.block_lt_of_cell? X _ HK.out
  have hN1 := Lib.hid (show w.heap.size + 2 ≠ w.heap.size by omega)
  have hN2 := Lib.hid (show w.heap.size + 2 ≠ w.heap.size + 1 by omega)
  have hX2 : w.heap.size + 3 ≤ X.heap.size := by rw [hX]; simp
  have hp1 : 0 < p1 := ho1.1
  have hp2 : 0 < p2 := ho2.1
  have hpP1 : p1 ≤ 2400 := Nat.le_trans ho1.2.1 hP
  have hpP2 : p2 ≤ 2400 := Nat.le_trans ho2.2.1 hP
  have K1 : Hid (f1 = 1 → 0 < wv xs ∧ bl (wv xs) ≤ p1 ∧ bl (wv xs) ≤ 2400 ∧ -1050000000 ≤ e1 ∧ e1 ≤ 1050000000) := Lib.hid (fun h1 => by
    obtain ⟨_, _, _, h | h | h⟩ := ho1
    · omega
    · omega
    · omega)
  have K2 : Hid (f2 = 1 → 0 < wv ys ∧ bl (wv ys) ≤ p2 ∧ bl (wv ys) ≤ 2400 ∧ -600000000 ≤ e2 ∧ e2 ≤ 600000000) := Lib.hid (fun h1 => by
    obtain ⟨_, _, _, h | h | h⟩ := ho2
    · omega
    · omega
    · omega)
  obtain ⟨V, hV⟩ : ∃ V, V = sI (n1 != n2) (quN (pOf q (max p1 p2)) (dyM f1 (wv xs)) (wv ys)) := ⟨_, rfl⟩
  obtain ⟨XX, hXX⟩ : ∃ XX, XX = dyE f1 e1 - e2 - (quK (pOf q (max p1 p2)) (dyM f1 (wv xs)) (wv ys) : Nat) - 1 := ⟨_, rfl⟩
  obtain ⟨zn, hzn⟩ : ∃ zn, zn = (n1 != n2) := ⟨_, rfl⟩
  have hbd1 := dy_bd ho1
  have hbd2 := dy_bd ho2
  have hblV : bl (sI (n1 != n2) (quN (pOf q (max p1 p2)) (dyM f1 (wv xs)) (wv ys))).natAbs ≤ 200000 := by
    rw [natAbs_sI]
    refine Nat.le_trans (quN_bl _ _ _) ?_
    have h2 := K2.out hf2
    have h3 : pOf q (max p1 p2) ≤ 60000 := by unfold pOf; split <;> omega
    unfold quK; omega
  have hquK : quK (pOf q (max p1 p2)) (dyM f1 (wv xs)) (wv ys) ≤ 200000 := by
    have h2 := K2.out hf2
    have h3 : pOf q (max p1 p2) ≤ 60000 := by unfold pOf; split <;> omega
    unfold quK; omega
  rw [← hV] at hblV
  have HXB : Hid (bl V.natAbs ≤ 1000000 ∧ -2120000000 ≤ XX ∧ XX ≤ 2120000000) := Lib.hid (by have := K2.out hf2; omega)
  have hpo : pOf q (max p1 p2) ≤ 1000000 ∧ 0 < pOf q (max p1 p2) := by unfold pOf; split <;> omega
  obtain ⟨Z, hZ⟩ : ∃ Z, Z = pOf q (max p1 p2) := ⟨_, rfl⟩
  rw [← hZ] at hpo
  have HPO := Lib.hid hpo
  obtain ⟨A, hA⟩ : ∃ A, A = rA Z k (vN V) 0 V.natAbs := ⟨_, rfl⟩
  have hAb : -1 ≤ A ∧ A ≤ 1 := by rw [hA]; exact rA_bd _ _ _ _ _
  obtain ⟨f, hf⟩ : ∃ f, f = fO V.natAbs := ⟨_, rfl⟩
  have hf2' : f ≤ 2 := by rw [hf]; unfold fO; split <;> omega
  obtain ⟨sg, hsg⟩ : ∃ sg, sg = (if V = 0 then zn else vN V) := ⟨_, rfl⟩
  obtain ⟨R, hR⟩ : ∃ R, R = rQ Z k (vN V) 0 V.natAbs := ⟨_, rfl⟩
  obtain ⟨RX, hRX⟩ : ∃ RX, RX = XX + rk Z V.natAbs := ⟨_, rfl⟩
  have HRB : Hid (-2140000000 ≤ RX ∧ RX + bl R ≤ 2140000000) := Lib.hid (by rw [hRX, hR]; exact rQ_range HXB.out)
  have HIN := Lib.hid (fun (w' : World) (b : Nat) (h : AddR w' X.heap.size b Z k zn V XX) => (by unfold AddR at h; rw [← hA, ← hf, ← hsg, ← hR, ← hRX] at h; exact h : FVal w' X.heap.size b Z k A f sg R RX))
  have HOUT := Lib.hid (fun (w' : World) (z : Value) (h : RealV w' z Z k f sg R RX) => (by unfold AddZ; rw [← hA, ← hf, ← hsg, ← hR, ← hRX]; exact ⟨rfl, h⟩ : AddZ w' z A Z k zn V XX))
  have HADD := Lib.hid (fun (W : World) (b g1 g2 B1 B2 : Nat) (h : FltR W b q k 0 0 false (.slice none 0 0) 0) (hB : X.heap.size ≤ b) (h1 : FloatAt W B1 g1 p1 m1 f1 n1 (wv xs) e1) (h2 : FloatAt W B2 g2 p2 m2 f2 n2 (wv ys) e2) (hb1 : b ≠ g1) (hb2 : b ≠ g2) (hKW : DivW W) =>
    quoF_any b X.heap.size B1 B2 g1 g2 q k p1 m1 p2 m2 0 f1 f2 (wv xs) (wv ys) 0 0 e1 e2 false n1 n2 W h hB hf1 hf2 h1 h2 K1.out K2.out hb1 hb2 (by omega) hp1 (by omega) hp2 (by omega) hk hKW dg)
  rw [← hV, ← hzn, ← hXX, ← hZ] at HADD
  rw [← hV, ← hzn, ← hXX, ← hZ]
  clear hv1 hv2 ho1 ho2 hab hac had hr1 hr2 hr3 hT hK hpo hbd1 hbd2 hblV hquK dg hf2 hV hXX hzn hZ hA hf hsg hR hRX
  go_enter Tryz.func70, Tryz.ntmps70
  go_upto_region 1 with fail
  rw [← hX]
  clear hX
  first
    | (go_region_held3 (fun w' => (w'.cell? ⟨w.heap.size, 0, none⟩ = some (.int .u64 (p1 : Int)) ∧ w'.cell? ⟨w.heap.size, 1, none⟩ = some (.int .i64 (m1 : Int)) ∧ w'.cell? ⟨w.heap.size, 2, none⟩ = some (.int .i64 (f1 : Int)) ∧ w'.cell? ⟨w.heap.size, 3, none⟩ = some (.bool n1) ∧ w'.cell? ⟨w.heap.size, 4, none⟩ = some v1 ∧ w'.cell? ⟨w.heap.size, 5, none⟩ = some (.int .i64 e1)) ∧ (w'.cell? ⟨w.heap.size + 1, 0, none⟩ = some (.int .u64 (p2 : Int)) ∧ w'.cell? ⟨w.heap.size + 1, 1, none⟩ = some (.int .i64 (m2 : Int)) ∧ w'.cell? ⟨w.heap.size + 1, 2, none⟩ = some (.int .i64 (f2 : Int)) ∧ w'.cell? ⟨w.heap.size + 1, 3, none⟩ = some (.bool n2) ∧ w'.cell? ⟨w.heap.size + 1, 4, none⟩ = some v2 ∧ w'.cell? ⟨w.heap.size + 1, 5, none⟩ = some (.int .i64 e2)))
        ((first | (refine ksT2 HR1.out HR2.out ?_; with_reducible first | assumption | exact Below.drew hcc) | with_reducible exact ⟨ks6R hN1.out (ks6R hN1.out (ks6R hN1.out (ks6R hN1.out (ks6R hN1.out (ks6R hN1.out (ks12 HR1.out hb7).2))))), ks6R hN2.out (ks6R hN2.out (ks6R hN2.out (ks6R hN2.out (ks6R hN2.out (ks6R hN2.out (ks12 HR2.out hb7).2)))))⟩))
        (first
          | (go_at_call 80; (with_reducible refine (float_any P F p2 m2 f2 n2 v2 e2 ys _ (V2.out.below hb4) HO2.out (by omega) (by omega)).mono ?_); rintro _ w5 ⟨g2, rfl, hF2, hb5⟩; have G0' := Lib.hid (G0.out.below hb5); have G1' := Lib.hid (G1.out.below hb5); have G2 := Lib.hid hF2; have hne2 := Lib.hid (show g0 ≠ g2 by have := G0.out.lt; have := hF2.1; omega); have hne3 := Lib.hid (show g1 ≠ g2 by obtain ⟨_, _, hr⟩ := G1.out.row; have := hr.lt; have := hF2.1; omega); clear hF2; have hb5 := bthen hb4 hb5)
          | (go_at_call 80; (with_reducible refine (float_any P E p1 m1 f1 n1 v1 e1 xs _ (V1.out.below hb3) HO1.out (by omega) (by omega)).mono ?_); rintro _ w4 ⟨g1, rfl, hF1, hb4⟩; have G0 := Lib.hid (GF.out.below hb4); have G1 := Lib.hid hF1; have hne1 := Lib.hid (show g0 ≠ g1 by have := GF.out.lt; have := hF1.1; omega); clear hF1; have hb4 := bthen hb3 hb4)
          | (go_at_call 64; refine (fresh_all q k _ (by omega) (by omega)).mono ?_; rintro _ w3 ⟨g0, rfl, ⟨hg0, hF0⟩, hb3⟩; have hg0X : X.heap.size ≤ g0 := (by rw [hg0]; exact Nat.le_refl _); clear hg0; have GF := Lib.hid hF0; clear hF0; have hb3 : Below X.heap.size X w3 := bthen (Below.drew hcc) hb3)
          | (go_at_call 109; (with_reducible refine (HADD.out _ g0 g1 g2 _ _ G0'.out hg0X G1'.out G2.out hne1.out hne2.out (HK.out.below hb5)).mono ?_); rintro _ w6 ⟨rfl, hA6, hb6⟩; have F6 := Lib.hid (HIN.out _ _ hA6); clear hA6; have hb6 := bthenX hb5 hb6)
          | (go_at_call 63; (with_reducible refine (implBoth _ g0 Z k f A _ _ _ _ F6.out hf2' (by have := HPO.out; omega) (by omega) (fun _ => HPO.out.2) (fun _ => HRB.out) (HT.out.below hb6) hAb).mono ?_); rintro _ w7 ⟨z, rfl, hz, hb7⟩; have hb7 := bthen hb6 hb7; have hq2 := keep_row hb7 HR3.out; obtain ⟨vz, Ez, zs, Bz, rfl, hz2, hzd, hz3, hz4⟩ := hz; have hSz := hz2.isS; obtain ⟨⟨y0, y1, y2, y3, y4, y5⟩, s0, s1, s2, s3, s4, s5⟩ := row6 hq2; have H2 := Lib.hid hz2; have H34 := Lib.hid (And.intro hzd (And.intro hz3 hz4)); have HQ2 := Lib.hid hq2; clear hz2 hzd hz3 hz4 hq2)))
    | fail
  all_goals go_wp2_with fail
  all_goals
    have HS := row6_set (x := .int .u64 (Z : Int)) (y := .int .i64 (k : Int)) (z := .int .i64 (f : Int)) (x' := .bool sg) (y' := vz) (z' := .int .i64 Ez) HQ2.out
    have HB := bset6 (x := .int .u64 (Z : Int)) (y := .int .i64 (k : Int)) (z := .int .i64 (f : Int)) (x' := .bool sg) (y' := vz) (z' := .int .i64 Ez) (hwX.out.trans (hb7.mono hXs)) (Nat.le_trans (Nat.le_succ _) (Nat.le_succ _))
    obtain ⟨⟨a0, a1, a2, a3, a4, a5⟩, -⟩ := row6 HS
    refine bodyPost_ret (v := .tuple #[.agg #[.int .u64 Z, .int .i64 k, .int .i64 f, .bool sg, vz, .int .i64 Ez], .int .i64 A]) ?_ rfl ⟨_, _, rfl, HOUT.out _ _ ⟨_, _, _, Bz, rfl, ?_, H34.out.1, H34.out.2⟩, HB⟩
    · simp [results, Tryz.results70, go_sem, a0, a1, a2, a3, a4, a5]
    · exact H2.out.same fun hc => by
        have hne : sBlk vz ≠ w.heap.size + 2 := H2.out.ne_row HQ2.out (by decide) hc
        exact heap6_other hne
end Go.Proofs.YtdepidpgbgfjlaaGreatDoor
/-
laws.did at two values that are not 0, whatever their exponents; what a power of 2 does to the four operations. No condition but the threshold of recursive division.
-/
namespace Go.Proofs.YtdepidpgbgfjlaaGreatDoor
open Go.RowKit

theorem RealOk.shift {P E G p m f : Nat} {ws : List Nat} {e x : Int} (h : RealOk P E p m f ws e) (h1 : -(G : Int) ≤ x) (h2 : x ≤ G) : RealOk P G p m f ws x := by
  obtain ⟨g1, g2, g3, h | h | ⟨a, b, c, d, -, -⟩⟩ := h
  · exact ⟨g1, g2, g3, .inl h⟩
  · exact ⟨g1, g2, g3, .inr (.inl h)⟩
  · exact ⟨g1, g2, g3, .inr (.inr ⟨a, b, c, d, h1, h2⟩)⟩
/-- What is rounded, its exponent, the sign of 0. -/
def opV (o q : Nat) (n1 n2 : Bool) (M N : Nat) (E F : Int) : Int :=
  if o = 0 then smV n1 M E n2 N F else if o = 1 then smV n1 M E (!n2) N F else if o = 2 then sI (n1 != n2) (M * N) else sI (n1 != n2) (quN q M N)
def opX (o q M N : Nat) (E F : Int) : Int := if o < 2 then min E F else if o = 2 then E + F else E - F - (quK q M N : Nat) - 1
def opZ (o k : Nat) (n1 n2 : Bool) : Bool := if o < 2 then decide (k = 4) else (n1 != n2)
theorem lo_shift (M : Nat) (E e y : Int) : lo M (E + y) (e + y) = lo M E e := by
  unfold lo; rw [show E + y - (e + y) = E - e by omega]
theorem smV_shift (n1 n2 : Bool) (M N : Nat) (E F y : Int) : smV n1 M (E + y) n2 N (F + y) = smV n1 M E n2 N F := by
  unfold smV
  rw [show min (E + y) (F + y) = min E F + y by omega, lo_shift, lo_shift]
theorem opV_shift (o q : Nat) (n1 n2 : Bool) (M N : Nat) (E F y : Int) : opV o q n1 n2 M N (E + y) (if o < 2 then F + y else F) = opV o q n1 n2 M N E F := by
  unfold opV
  by_cases h0 : o = 0
  · rw [if_pos h0, if_pos h0, if_pos (by omega)]; exact smV_shift ..
  · rw [if_neg h0, if_neg h0]
    by_cases h1 : o = 1
    · rw [if_pos h1, if_pos h1, if_pos (by omega)]; exact smV_shift ..
    · rw [if_neg h1, if_neg h1]
theorem opX_shift (o q M N : Nat) (E F y : Int) : opX o q M N (E + y) (if o < 2 then F + y else F) = opX o q M N E F + y := by
  unfold opX
  by_cases h0 : o < 2
  · rw [if_pos h0, if_pos h0, if_pos h0]; omega
  · rw [if_neg h0, if_neg h0, if_neg h0]
    split <;> omega
theorem okM {P E p m : Nat} {ws : List Nat} {e : Int} (h : RealOk P E p m 1 ws e) : 0 < wv ws ∧ bl (wv ws) ≤ p ∧ p ≤ P := by
  have h2 := h.2.1
  obtain ⟨-, -, -, h | h | ⟨-, a, b, -⟩⟩ := h
  · omega
  · omega
  · exact ⟨a, b, h2⟩
theorem opV_bl (o q : Nat) (n1 n2 : Bool) (M N : Nat) (E F : Int) (hM : bl M ≤ 300) (hN : bl N ≤ 300) (hq : q ≤ 300) (hd : o < 2 → -2000 ≤ E - F ∧ E - F ≤ 2000) : bl (opV o q n1 n2 M N E F).natAbs ≤ 100000 := by
  unfold opV
  split
  · have := smV_bl n1 M E n2 N F; have := hd (by omega); omega
  · split
    · have := smV_bl n1 M E (!n2) N F; have := hd (by omega); omega
    · split
      · have := prV_bl (n1 != n2) M N; omega
      · rw [natAbs_sI]
        have := quN_bl q M N
        unfold quK at this
        omega
set_option maxHeartbeats 1600000 in
theorem did_fin (o q k p1 m1 f1 p2 m2 f2 G H : Nat) (n1 n2 : Bool) (v1 v2 : Value) (e1 e2 V XX : Int) (xs ys : List Nat) (w : World) (hv1 : RW w v1 xs) (hv2 : RW w v2 ys) (ho1 : RealOk 300 G p1 m1 f1 xs e1) (ho2 : RealOk 300 H p2 m2 f2 ys e2) (hf1 : f1 = 1) (hf2 : f2 = 1) (hG : G ≤ 1040000000) (hH : H ≤ 1040000000) (ho : o ≤ 3)
    (hd : o < 2 → -2000 ≤ e1 - e2 ∧ e1 - e2 ≤ 2000) (hH2 : 2 ≤ o → H ≤ 500000000) (hq0 : 0 < q) (hq : q ≤ 300) (hk : k ≤ 5) (hT : TabW w) (hK : KarW w) (hD : DivW w) (hV : V = opV o q n1 n2 (wv xs) (wv ys) e1 e2) (hX : XX = opX o q (wv xs) (wv ys) e1 e2) :
    Calls Tryz.prog 24 #[.int .i64 (o : Int), .int .u64 q, .int .i64 k, .agg #[.int .u64 p1, .int .i64 m1, .int .i64 f1, .bool n1, v1, .int .i64 e1], .agg #[.int .u64 p2, .int .i64 m2, .int .i64 f2, .bool n2, v2, .int .i64 e2]] w fun e' w' => ∃ z, e' = .returned (.tuple #[z, .int .i64 (rA q k (vN V) 0 V.natAbs)]) ∧ RealV w' z q k (fO V.natAbs) (if V = 0 then opZ o k n1 n2 else vN V) (rQ q k (vN V) 0 V.natAbs) (XX + rk q V.natAbs) ∧ Below w.heap.size w w' := by
  subst hf1
  subst hf2
  obtain ⟨a1, a2, a3⟩ := okM ho1
  obtain ⟨b1, b2, b3⟩ := okM ho2
  obtain ⟨x1, x2, x3⟩ := ho1.one rfl
  have hb1 : -(G : Int) ≤ e1 ∧ e1 ≤ G := by obtain ⟨-, -, -, h | h | ⟨-, -, -, -, g1, g2⟩⟩ := ho1 <;> omega
  have hb2 : -(H : Int) ≤ e2 ∧ e2 ≤ H := by obtain ⟨-, -, -, h | h | ⟨-, -, -, -, g1, g2⟩⟩ := ho2 <;> omega
  have hbl := opV_bl o q n1 n2 (wv xs) (wv ys) e1 e2 (by omega) (by omega) hq hd
  rw [← hV] at hbl
  have c1 : RealOk 300 1040000000 p1 m1 1 xs e1 := ho1.shift (by omega) (by omega)
  have c2 : RealOk 300 1040000000 p2 m2 1 ys e2 := ho2.shift (by omega) (by omega)
  have hpo := pOf_pos (x := max p1 p2) hq0
  rcases (by omega : o = 0 ∨ o = 1 ∨ o = 2 ∨ o = 3) with rfl | rfl | rfl | rfl
  · have hd := hd (by decide)
    refine did0 q k p1 m1 1 p2 m2 1 _ _ n1 n2 _ v1 v2 e1 e2 _ _ w hv1.isS hv2.isS (fun W hb => ?_)
    have h := impAddG 300 1040000000 q k p1 m1 1 p2 m2 1 n1 n2 (decide (k = 4)) v1 v2 e1 e2 V XX xs ys W (hv1.below hb) (hv2.below hb) c1 c2 (by decide) (by decide) (by decide) (by decide) (by omega) hk (hT.below hb) (by omega) (by rw [hX]; show _ ≤ min e1 e2 ∧ min e1 e2 ≤ _; omega)
      (fun W' b B B1 B2 g1 g2 h hB h1 h2 hb1 hb2 => by
        rw [hV, hX]
        exact addF_ff b B B1 B2 g1 g2 q k p1 m1 p2 m2 0 (wv xs) (wv ys) 0 0 e1 e2 false n1 n2 W' h hB h1 h2 a1 b1 a2 b2 (by omega) (by omega) (by omega) ⟨by omega, by omega⟩ hb1 hb2 (by omega) (by omega) (by omega) hk)
    rw [hpo] at h
    refine h.mono ?_
    rintro _ w' ⟨z, A, rfl, ⟨rfl, hz⟩, hb2⟩
    exact ⟨z, rfl, hz, hb2⟩
  · have hd := hd (by decide)
    refine did1 q k p1 m1 1 p2 m2 1 _ _ n1 n2 _ v1 v2 e1 e2 _ _ w hv1.isS hv2.isS (fun W hb => ?_)
    have h := impSubG 300 1040000000 q k p1 m1 1 p2 m2 1 n1 n2 (decide (k = 4)) v1 v2 e1 e2 V XX xs ys W (hv1.below hb) (hv2.below hb) c1 c2 (by decide) (by decide) (by decide) (by decide) (by omega) hk (hT.below hb) (by omega) (by rw [hX]; show _ ≤ min e1 e2 ∧ min e1 e2 ≤ _; omega)
      (fun W' b B B1 B2 g1 g2 h hB h1 h2 hb1 hb2 => by
        rw [hV, hX]
        exact subF_ff b B B1 B2 g1 g2 q k p1 m1 p2 m2 0 (wv xs) (wv ys) 0 0 e1 e2 false n1 n2 W' h hB h1 h2 a1 b1 a2 b2 (by omega) (by omega) (by omega) ⟨by omega, by omega⟩ hb1 hb2 (by omega) (by omega) (by omega) hk)
    rw [hpo] at h
    refine h.mono ?_
    rintro _ w' ⟨z, A, rfl, ⟨rfl, hz⟩, hb2⟩
    exact ⟨z, rfl, hz, hb2⟩
  · refine did2 q k p1 m1 1 p2 m2 1 _ _ n1 n2 _ v1 v2 e1 e2 _ _ w hv1.isS hv2.isS (fun W hb => ?_)
    have h := impMulX 300 G H q k p1 m1 1 p2 m2 1 n1 n2 v1 v2 e1 e2 xs ys W (hv1.below hb) (hv2.below hb) ho1 ho2 (by decide) (by decide) (by decide) hG (hH2 (by decide)) (by omega) hk (hT.below hb) (hK.below hb)
    rw [hpo] at h
    change Calls _ _ _ _ (fun e' w' => ∃ z A, e' = .returned (.tuple #[z, .int .i64 A]) ∧ AddZ w' z A q k (n1 != n2) (opV 2 q n1 n2 (wv xs) (wv ys) e1 e2) (opX 2 q (wv xs) (wv ys) e1 e2) ∧ Below W.heap.size W w') at h
    rw [← hV, ← hX] at h
    refine h.mono ?_
    rintro _ w' ⟨z, A, rfl, ⟨rfl, hz⟩, hb2⟩
    exact ⟨z, rfl, hz, hb2⟩
  · refine did3 q k p1 m1 1 p2 m2 1 _ _ n1 n2 _ v1 v2 e1 e2 _ _ w hv1.isS hv2.isS (fun W hb => ?_)
    have h := impQuoX 300 G H q k p1 m1 1 p2 m2 1 n1 n2 v1 v2 e1 e2 xs ys W (hv1.below hb) (hv2.below hb) ho1 ho2 (by decide) rfl (by decide) hG (hH2 (by decide)) (by omega) hk (hT.below hb) (hD.below hb)
    rw [hpo] at h
    change Calls _ _ _ _ (fun e' w' => ∃ z A, e' = .returned (.tuple #[z, .int .i64 A]) ∧ AddZ w' z A q k (n1 != n2) (opV 3 q n1 n2 (wv xs) (wv ys) e1 e2) (opX 3 q (wv xs) (wv ys) e1 e2) ∧ Below W.heap.size W w') at h
    rw [← hV, ← hX] at h
    refine h.mono ?_
    rintro _ w' ⟨z, A, rfl, ⟨rfl, hz⟩, hb2⟩
    exact ⟨z, rfl, hz, hb2⟩
/-- A told Real's words and exponent. -/
theorem RealV.rw {w : World} {a b c d v x : Value} {p m f M : Nat} {neg : Bool} {X : Int} (h : RealV w (.agg #[a, b, c, d, v, x]) p m f neg M X) : RW w v (zWd f M) := by
  obtain ⟨u, h1, h2⟩ := h.canon
  have e : v = u := by
    injection h1 with h1
    have := congrArg (fun l : Array Value => l[4]?) h1
    simpa using this
  rw [e]; exact h2
theorem RealV.away {w : World} {z : Value} {p m f M : Nat} {neg : Bool} {X : Int} {b : Nat} {cs : Array Value} {T : TypeId} (h : RealV w z p m f neg M X) (hr : w.heap[b]? = some (.cells cs T (0, 0))) (hT : T ≠ 35) (i : Nat) (u : Value) : RealV (w.setCell ⟨b, i, none⟩ u) z p m f neg M X := by
  obtain ⟨v, E, zs, B, h1, h2, h3, h4, h5⟩ := h
  exact ⟨v, E, zs, B, h1, h2.away hr hT i u, h3, h4, h5⟩
theorem zEx_shift (f M : Nat) (X y : Int) : zEx f M (X + y) = zEx f M X + (if f = 1 then y else 0) := by
  unfold zEx; split <;> omega
end Go.Proofs.YtdepidpgbgfjlaaGreatDoor
/-
The statement that a power of 2 goes through the four operations. No condition.
-/
namespace Go.Proofs.YtdepidpgbgfjlaaGreatDoor
open Go.RowKit

set_option maxRecDepth 100000 in
set_option maxHeartbeats 6400000 in
theorem lawScale (a0 : Int) (a1 : Int) (a2 : Int) (a3 : Int) (p1 : Nat) (m1 f1 : Int) (n1 : Bool) (v1 : Value) (e1 : Int) (xs1 : List Nat) (p2 : Nat) (m2 f2 : Int) (n2 : Bool) (v2 : Value) (e2 : Int) (xs2 : List Nat) (w : World) (hT : TabW w) (hK : KarW w) (hD : DivW w) (l0 : 0 ≤ a0) (h0 : a0 ≤ 255) (l1 : 0 ≤ a1) (h1 : a1 ≤ 65535) (l2 : 0 ≤ a2) (h2 : a2 ≤ 255) (l3 : -2147483648 ≤ a3) (h3 : a3 ≤ 2147483647) (hv1 : RW w v1 xs1) (_hg1 : p1 ≤ 18446744073709551615 ∧ (-9223372036854775808 ≤ m1 ∧ m1 ≤ 9223372036854775807) ∧ (-9223372036854775808 ≤ f1 ∧ f1 ≤ 9223372036854775807) ∧ (-9223372036854775808 ≤ e1 ∧ e1 ≤ 9223372036854775807)) (hv2 : RW w v2 xs2) (_hg2 : p2 ≤ 18446744073709551615 ∧ (-9223372036854775808 ≤ m2 ∧ m2 ≤ 9223372036854775807) ∧ (-9223372036854775808 ≤ f2 ∧ f2 ≤ 9223372036854775807) ∧ (-9223372036854775808 ≤ e2 ∧ e2 ≤ 9223372036854775807)) :
    Calls Tryz.prog 4 #[.int .u8 a0, .int .u16 a1, .int .u8 a2, .int .i32 a3, .agg #[.int .u64 p1, .int .i64 m1, .int .i64 f1, .bool n1, v1, .int .i64 e1], .agg #[.int .u64 p2, .int .i64 m2, .int .i64 f2, .bool n2, v2, .int .i64 e2]] w fun e' w' => e' = .returned (.bool true) ∧ Below w.heap.size w w' := by
  obtain ⟨b0, rfl⟩ := Int.eq_ofNat_of_zero_le l0
  have ib0 : b0 ≤ 255 := by omega
  obtain ⟨b1, rfl⟩ := Int.eq_ofNat_of_zero_le l1
  have ib1 : b1 ≤ 65535 := by omega
  obtain ⟨b2, rfl⟩ := Int.eq_ofNat_of_zero_le l2
  have ib2 : b2 ≤ 255 := by omega
  have hS1 := hv1.isS
  clear _hg1
  have hS2 := hv2.isS
  clear _hg2
  have hab1 := (Below.refl w.heap.size w).alloc (Nat.le_refl _) (.cells #[.int .u64 p1, .int .i64 m1, .int .i64 f1, .bool n1, v1, .int .i64 e1] 39)
  have hab2 := hab1.alloc hab1.size (.cells #[.int .u64 p2, .int .i64 m2, .int .i64 f2, .bool n2, v2, .int .i64 e2] 39)
  obtain ⟨X, hX⟩ : ∃ X, X = ((w.alloc (.cells #[.int .u64 p1, .int .i64 m1, .int .i64 f1, .bool n1, v1, .int .i64 e1] 39)).alloc (.cells #[.int .u64 p2, .int .i64 m2, .int .i64 f2, .bool n2, v2, .int .i64 e2] 39)) := ⟨_, rfl⟩
  have hr1 : X.heap[w.heap.size]? = some (.cells #[.int .u64 p1, .int .i64 m1, .int .i64 f1, .bool n1, v1, .int .i64 e1] 39 (0, 0)) := by
    rw [hX]; exact row_chain21
  have hr2 : X.heap[w.heap.size + 1]? = some (.cells #[.int .u64 p2, .int .i64 m2, .int .i64 f2, .bool n2, v2, .int .i64 e2] 39 (0, 0)) := by
    rw [hX]; exact row_chain22
  rw [← hX] at hab2
  obtain ⟨-, ⟨⟨c10, c11, c12, c13, c14, c15⟩, ⟨c20, c21, c22, c23, c24, c25⟩⟩⟩ := ksR2 hr1 hr2 (Below.refl _ _)
  have HR1 := Lib.hid hr1
  have V1 := Lib.hid (hv1.below hab2)
  have HR2 := Lib.hid hr2
  have V2 := Lib.hid (hv2.below hab2)
  have hXs := hab2.size
  have HW := Lib.hid hab2
  have UT := Lib.hid hT
  have UK := Lib.hid hK
  have UD := Lib.hid hD
  have U1 := Lib.hid hv1
  have U2 := Lib.hid hv2
  clear hT hK hD
  clear hr1 hv1 hr2 hv2
  clear hab2 hab1
  go_enter Tryz.func4, Tryz.ntmps4
  go_upto_region 1 with fail
  rw [← hX]
  clear hX
  go_wp2_with fail
  refine (zzFits1_any p1 m1 f1 e1 n1 v1 xs1 X V1.out).mono ?_
  rintro _ w1 ⟨rfl, hb1⟩
  obtain ⟨fits, hfits⟩ : ∃ f, f = decide (xs1.length ≤ 2147483647) := ⟨_, rfl⟩
  rw [← hfits]
  clear c10 c11 c12 c13 c14 c15 c20 c21 c22 c23 c24 c25 hfits
  obtain ⟨-, ⟨⟨c10, c11, c12, c13, c14, c15⟩, ⟨c20, c21, c22, c23, c24, c25⟩⟩⟩ := ksR2 HR1.out HR2.out hb1
  have HB := Lib.hid hb1
  clear hb1
  cases fits with
  | false =>
    go_wp2
    go_ret
    exact ⟨rfl, HW.out.trans (HB.out.mono hXs)⟩
  | true =>
  go_wp2_with fail
  refine (zzFits1_any p2 m2 f2 e2 n2 v2 xs2 w1 (V2.out.below HB.out)).mono ?_
  rintro _ w2 ⟨rfl, hb1⟩
  have hb1 := bthen HB.out hb1
  obtain ⟨fits, hfits⟩ : ∃ f, f = decide (xs2.length ≤ 2147483647) := ⟨_, rfl⟩
  rw [← hfits]
  clear c10 c11 c12 c13 c14 c15 c20 c21 c22 c23 c24 c25 HB hfits
  obtain ⟨-, ⟨⟨c10, c11, c12, c13, c14, c15⟩, ⟨c20, c21, c22, c23, c24, c25⟩⟩⟩ := ksR2 HR1.out HR2.out hb1
  have HB := Lib.hid hb1
  clear hb1
  cases fits with
  | false =>
    go_wp2
    go_ret
    exact ⟨rfl, HW.out.trans (HB.out.mono hXs)⟩
  | true =>
  go_wp2_with fail
  refine (number_any p1 m1 f1 e1 n1 v1 xs1 w2 (V1.out.below HB.out)).mono ?_
  rintro _ w3 ⟨ok, rfl, hok, hb1⟩
  have hb1 := bthen HB.out hb1
  have HO1 := Lib.hid hok
  clear c10 c11 c12 c13 c14 c15 c20 c21 c22 c23 c24 c25 HB hok
  obtain ⟨-, ⟨⟨c10, c11, c12, c13, c14, c15⟩, ⟨c20, c21, c22, c23, c24, c25⟩⟩⟩ := ksR2 HR1.out HR2.out hb1
  have HB := Lib.hid hb1
  clear hb1
  cases ok with
  | false =>
    go_wp2
    go_ret
    exact ⟨rfl, HW.out.trans (HB.out.mono hXs)⟩
  | true =>
  obtain ⟨hn, P1, M1, F1, hp, rfl, rfl, hR⟩ := HO1.out rfl
  have hpp : P1 = p1 := by omega
  subst hpp
  have R1 := Lib.hid hR
  have N1 : Hid (F1 ≠ 2) := Lib.hid (fun h => hn (by rw [h]; rfl))
  clear HO1 hp hR hn
  go_wp2_with fail
  refine (number_any p2 m2 f2 e2 n2 v2 xs2 w3 (V2.out.below HB.out)).mono ?_
  rintro _ w4 ⟨ok, rfl, hok, hb1⟩
  have hb1 := bthen HB.out hb1
  have HO2 := Lib.hid hok
  clear c10 c11 c12 c13 c14 c15 c20 c21 c22 c23 c24 c25 HB hok
  obtain ⟨-, ⟨⟨c10, c11, c12, c13, c14, c15⟩, ⟨c20, c21, c22, c23, c24, c25⟩⟩⟩ := ksR2 HR1.out HR2.out hb1
  have HB := Lib.hid hb1
  clear hb1
  cases ok with
  | false =>
    go_wp2
    go_ret
    exact ⟨rfl, HW.out.trans (HB.out.mono hXs)⟩
  | true =>
  obtain ⟨hn, P2, M2, F2, hp, rfl, rfl, hR⟩ := HO2.out rfl
  have hpp : P2 = p2 := by omega
  subst hpp
  have R2 := Lib.hid hR
  have N2 : Hid (F2 ≠ 2) := Lib.hid (fun h => hn (by rw [h]; rfl))
  clear HO2 hp hR hn
  have hWW := HW.out.trans (HB.out.mono hXs)
  have hV1 := V1.out.below HB.out
  have hr1 := keep_row HB.out HR1.out
  have hV2 := V2.out.below HB.out
  have hr2 := keep_row HB.out HR2.out
  clear HW HB hXs V1 HR1 V2 HR2
  have HW := Lib.hid hWW
  have V1 := Lib.hid hV1
  have HR1 := Lib.hid hr1
  have V2 := Lib.hid hV2
  have HR2 := Lib.hid hr2
  have hWs := HW.out.size
  clear hWW hV1 hr1 hV2 hr2
  by_cases hF1 : F1 = 0
  case pos =>
    have t : ((F1 : Int) == 0) = true := by rw [hF1]; rfl
    clear hF1
    go_wp2
    go_ret
    exact ⟨rfl, HW.out⟩
  by_cases hF2 : F2 = 0
  case pos =>
    have t1 : ((F1 : Int) == 0) = false := by rw [beq_eq_false_iff_ne]; omega
    have t : ((F2 : Int) == 0) = true := by rw [hF2]; rfl
    clear hF1 hF2
    go_wp2
    go_ret
    exact ⟨rfl, HW.out⟩
  have t1 : ((F1 : Int) == 0) = false := by rw [beq_eq_false_iff_ne]; omega
  have t2 : ((F2 : Int) == 0) = false := by rw [beq_eq_false_iff_ne]; omega
  have HF1 : Hid (F1 = 1) := Lib.hid (by have := R1.out.form'; have := N1.out; omega)
  have HF2 : Hid (F2 = 1) := Lib.hid (by have := R2.out.form'; have := N2.out; omega)
  obtain ⟨-, -, -, -, g11, g12⟩ := R1.out.one HF1.out
  obtain ⟨-, -, -, -, g21, g22⟩ := R2.out.one HF2.out
  clear hF1 hF2 N1 N2
  have q0 : (b0 : Int) % 4 = ((b0 % 4 : Nat) : Int) := by omega
  have q1 : (b1 : Int) % 300 = ((b1 % 300 : Nat) : Int) := by omega
  have q2 : (1 : Int) + ((b1 % 300 : Nat) : Int) = ((1 + b1 % 300 : Nat) : Int) := by omega
  have q3 : (b2 : Int) % 6 = ((b2 % 6 : Nat) : Int) := by omega
  have ho : b0 % 4 ≤ 3 := by omega
  have hZ0 : 0 < 1 + b1 % 300 := by omega
  have hZ1 : 1 + b1 % 300 ≤ 300 := by omega
  have hrb : b1 % 300 ≤ 299 := by omega
  have hkb : b2 % 6 ≤ 5 := by omega
  obtain ⟨o, hoo⟩ : ∃ o, o = b0 % 4 := ⟨_, rfl⟩
  rw [← hoo] at q0 ho
  obtain ⟨Z, hZ⟩ : ∃ Z, Z = 1 + b1 % 300 := ⟨_, rfl⟩
  rw [← hZ] at q2 hZ0 hZ1
  obtain ⟨r, hr⟩ : ∃ r, r = b1 % 300 := ⟨_, rfl⟩
  rw [← hr] at q1 q2 hrb
  obtain ⟨k, hk⟩ : ∃ k, k = b2 % 6 := ⟨_, rfl⟩
  rw [← hk] at q3 hkb
  obtain ⟨y, hy⟩ : ∃ y : Int, y = a3.tmod 1000000000 := ⟨_, rfl⟩
  have hyb : -999999999 ≤ y ∧ y ≤ 999999999 := by
    have h1 := Int.natAbs_tmod a3 1000000000
    rw [← hy] at h1
    have h2 : a3.natAbs % 1000000000 < 1000000000 := Nat.mod_lt _ (by decide)
    have h3 : (1000000000 : Int).natAbs = 1000000000 := rfl
    rw [h3] at h1
    omega
  obtain ⟨hy1, hy2⟩ := hyb
  have hy' : a3.tmod 1000000000 = y := hy.symm
  have HZ0 := Lib.hid hZ0
  clear hoo hZ hr hk hy
  obtain ⟨V, hV⟩ : ∃ V, V = opV o Z n1 n2 (wv xs1) (wv xs2) e1 e2 := ⟨_, rfl⟩
  obtain ⟨XX, hXX⟩ : ∃ XX, XX = opX o Z (wv xs1) (wv xs2) e1 e2 := ⟨_, rfl⟩
  obtain ⟨E1, hE1⟩ : ∃ E, E = e1 + y := ⟨_, rfl⟩
  obtain ⟨E2, hE2⟩ : ∃ E, E = if o < 2 then e2 + y else e2 := ⟨_, rfl⟩
  have hE2b : -1000001000 ≤ E2 ∧ E2 ≤ 1000001000 := by rw [hE2]; split <;> omega
  have hd1 : o < 2 → -2000 ≤ e1 - e2 ∧ e1 - e2 ≤ 2000 := fun _ => by omega
  have hd2 : o < 2 → -2000 ≤ E1 - E2 ∧ E1 - E2 ≤ 2000 := fun h => by rw [hE1, hE2, if_pos h]; omega
  have hbV : bl V.natAbs ≤ 100000 := by
    obtain ⟨-, -, i3⟩ := R1.out.one HF1.out
    obtain ⟨-, -, j3⟩ := R2.out.one HF2.out
    rw [hV]; exact opV_bl o Z n1 n2 _ _ e1 e2 i3.1 j3.1 hZ1 hd1
  have HC1 := Lib.hid (did_fin o Z k P1 M1 F1 P2 M2 F2 1000 1000 n1 n2 v1 v2 e1 e2 V XX xs1 xs2 w4 (U1.out.below HW.out) (U2.out.below HW.out) R1.out R2.out HF1.out HF2.out (by decide) (by decide) ho hd1 (fun _ => by decide) HZ0.out hZ1 hkb (UT.out.below HW.out) (UK.out.below HW.out) (UD.out.below HW.out) hV hXX)
  have HC2 : Hid (∀ U, Below w.heap.size w U → Calls Tryz.prog 24 #[.int .i64 (o : Int), .int .u64 Z, .int .i64 k, .agg #[.int .u64 P1, .int .i64 M1, .int .i64 F1, .bool n1, v1, .int .i64 E1], .agg #[.int .u64 P2, .int .i64 M2, .int .i64 F2, .bool n2, v2, .int .i64 E2]] U fun e' w' => ∃ z, e' = .returned (.tuple #[z, .int .i64 (rA Z k (vN V) 0 V.natAbs)]) ∧ RealV w' z Z k (fO V.natAbs) (if V = 0 then opZ o k n1 n2 else vN V) (rQ Z k (vN V) 0 V.natAbs) (XX + y + rk Z V.natAbs) ∧ Below U.heap.size U w') := Lib.hid (fun U hU =>
    did_fin o Z k P1 M1 F1 P2 M2 F2 1000001000 (if o < 2 then 1000001000 else 1000) n1 n2 v1 v2 E1 E2 V (XX + y) xs1 xs2 U (U1.out.below hU) (U2.out.below hU) (R1.out.shift (by omega) (by omega)) (R2.out.shift (by split <;> rename_i h <;> rw [hE2] <;> first | (rw [if_pos h]; omega) | (rw [if_neg h]; omega)) (by split <;> rename_i h <;> rw [hE2] <;> first | (rw [if_pos h]; omega) | (rw [if_neg h]; omega))) HF1.out HF2.out (by decide) (by split <;> decide) ho hd2 (fun h => by rw [if_neg (by omega)]; decide) HZ0.out hZ1 hkb (UT.out.below hU) (UK.out.below hU) (UD.out.below hU)
      (by rw [hV, hE1, hE2, opV_shift]) (by rw [hXX, hE1, hE2, opX_shift]))
  obtain ⟨A, hA⟩ : ∃ A, A = rA Z k (vN V) 0 V.natAbs := ⟨_, rfl⟩
  obtain ⟨f, hf⟩ : ∃ f, f = fO V.natAbs := ⟨_, rfl⟩
  obtain ⟨sg, hsg⟩ : ∃ sg, sg = (if V = 0 then opZ o k n1 n2 else vN V) := ⟨_, rfl⟩
  have hAb : -1 ≤ A ∧ A ≤ 1 := by rw [hA]; exact rA_bd _ _ _ _ _
  have hfb : f ≤ 1 := by rw [hf]; unfold fO; split <;> omega
  have hzl : (zWd f (rQ Z k (vN V) 0 V.natAbs)).length ≤ 1000000000 := by
    have h2 := bl_rQ Z k (vN V) 0 V.natAbs
    exact Nat.le_trans (zWd_len (k := 1000001) (by omega)) (by decide)
  have hrkV := rk_le Z V.natAbs
  have hbM := bl_rQ Z k (vN V) 0 V.natAbs
  have hXb : -2000000 ≤ XX ∧ XX ≤ 2000000 := by
    rw [hXX]
    obtain ⟨-, -, i3⟩ := R1.out.one HF1.out
    obtain ⟨-, -, j3⟩ := R2.out.one HF2.out
    unfold opX quK
    split
    · omega
    · split <;> omega
  rw [← hA, ← hf, ← hsg] at HC1 HC2
  obtain ⟨M, hM⟩ : ∃ M, M = rQ Z k (vN V) 0 V.natAbs := ⟨_, rfl⟩
  obtain ⟨XR, hXR⟩ : ∃ XR, XR = XX + rk Z V.natAbs := ⟨_, rfl⟩
  rw [show XX + y + ((rk Z V.natAbs : Nat) : Int) = XR + y by rw [hXR]; omega] at HC2
  rw [← hXR] at HC1
  rw [← hM] at HC1 HC2 hzl hbM
  have htz : f = 1 → (tz M : Int) ≤ 1000000 := fun _ => by
    rcases Nat.eq_zero_or_pos M with h0 | h0
    · rw [h0]; decide
    · have := tz_le h0; omega
  obtain ⟨Ez, hEz⟩ : ∃ Ez, Ez = zEx f M XR := ⟨_, rfl⟩
  obtain ⟨Ey, hEy⟩ : ∃ Ey, Ey = zEx f M (XR + y) := ⟨_, rfl⟩
  have hEb : -4000000 ≤ Ez ∧ Ez ≤ 4000000 := by
    rw [hEz]; unfold zEx; split
    · rename_i h; have := htz h; omega
    · omega
  have hEy1 : f = 1 → Ez + y = Ey := fun h => by rw [hEy, zEx_shift, if_pos h, ← hEz]
  have hEy0 : f ≠ 1 → Ez = Ey := fun h => by rw [hEy, zEx_shift, if_neg h, ← hEz]; omega
  have HEY1 := Lib.hid hEy1
  have HEY0 := Lib.hid hEy0
  have HEZ := Lib.hid hEz
  have HEYE := Lib.hid hEy
  have HE2 := Lib.hid hE2
  have hE1' : e1 + y = E1 := hE1.symm
  have HZL := Lib.hid hzl
  obtain ⟨hE1b, hE1c⟩ : -1000001000 ≤ E1 ∧ E1 ≤ 1000001000 := by omega
  obtain ⟨hEb1, hEb2⟩ := hEb
  clear hV hXX hE1 hE2 hE2b hd1 hd2 hbV hA hf hsg hrkV hbM hXb hM hXR htz hEz hEy hEy1 hEy0 hzl
  go_wp2_with fail
  refine HC1.out.mono ?_
  rintro _ wN ⟨z, rfl, hz, hb1⟩
  have hzc := hz.canon
  obtain ⟨vz, rfl, hRz⟩ := hzc
  rw [← HEZ.out] at hz ⊢
  have hSz := hRz.isS
  clear hRz
  obtain ⟨Y, hY⟩ : ∃ Y, Y = wN.alloc (.cells #[.int .u64 (Z : Int), .int .i64 (k : Int), .int .i64 (f : Int), .bool sg, vz, .int .i64 Ez] 39) := ⟨_, rfl⟩
  have hbY : Below wN.heap.size wN Y := by rw [hY]; exact fbone _
  have hrz : Y.heap[wN.heap.size]? = some (.cells #[.int .u64 (Z : Int), .int .i64 (k : Int), .int .i64 (f : Int), .bool sg, vz, .int .i64 Ez] 39 (0, 0)) := by rw [hY]; exact row_chain11
  have hbX := bthen hb1 hbY
  have hr1 := keep_row hbX HR1.out
  have hr2 := keep_row hbX HR2.out
  have hzY := hz.below hbY
  have hwN : w.heap.size + 1 < wN.heap.size := by
    have h1 := hb1.size
    have h2 := get_lt HR2.out
    omega
  have HWY := HW.out.trans (hbX.mono hWs)
  clear c10 c11 c12 c13 c14 c15 c20 c21 c22 c23 c24 c25 HW hWs V1 V2 HR1 HR2 HC1 hb1 hbY hbX hz
  obtain ⟨⟨c10, c11, c12, c13, c14, c15⟩, -, -, -, -, -, y15⟩ := row6 hr1
  go_upto_region 7 with fail
  rw [← hY]
  clear hY
  obtain ⟨U, hU⟩ : ∃ U, U = Y.setCell ⟨w.heap.size, 5, none⟩ (.int .i64 E1) := ⟨_, rfl⟩
  have hw1 : w.heap.size ≠ wN.heap.size := by omega
  have hw2 : w.heap.size + 1 ≠ wN.heap.size := by omega
  have s1 : U.heap[w.heap.size]? = some (.cells #[.int .u64 (P1 : Int), .int .i64 (M1 : Int), .int .i64 (F1 : Int), .bool n1, v1, .int .i64 E1] 39 (0, 0)) := by rw [hU]; exact rowset (i := 5) (.int .i64 E1) hr1
  have s2 : U.heap[w.heap.size + 1]? = some (.cells #[.int .u64 (P2 : Int), .int .i64 (M2 : Int), .int .i64 (F2 : Int), .bool n2, v2, .int .i64 e2] 39 (0, 0)) := by rw [hU]; exact (heap_setCell_other _ _ _ _ (by simp)).trans hr2
  have sz : U.heap[wN.heap.size]? = some (.cells #[.int .u64 (Z : Int), .int .i64 (k : Int), .int .i64 (f : Int), .bool sg, vz, .int .i64 Ez] 39 (0, 0)) := by rw [hU]; exact (heap_setCell_other _ _ _ _ (by simpa using hw1.symm)).trans hrz
  have hzU : RealV U (.agg #[.int .u64 (Z : Int), .int .i64 (k : Int), .int .i64 (f : Int), .bool sg, vz, .int .i64 Ez]) Z k f sg M XR := by rw [hU]; exact hzY.away hr1 (by decide) 5 _
  have hWU : Below w.heap.size w U := by rw [hU]; exact bset HWY (Nat.le_refl _)
  go_upto_region 8 with fail
  rw [← hU]
  clear hU c10 c11 c12 c13 c14 c15 y15 hr1 hr2 hrz hzY HWY
  obtain ⟨⟨c20, c21, c22, c23, c24, c25⟩, -, -, -, -, -, y25⟩ := row6 s2
  go_upto_if 75 with fail
  go_cut [] (fun wx => wx.heap[w.heap.size]? = some (.cells #[.int .u64 (P1 : Int), .int .i64 (M1 : Int), .int .i64 (F1 : Int), .bool n1, v1, .int .i64 E1] 39 (0, 0)) ∧ wx.heap[w.heap.size + 1]? = some (.cells #[.int .u64 (P2 : Int), .int .i64 (M2 : Int), .int .i64 (F2 : Int), .bool n2, v2, .int .i64 E2] 39 (0, 0)) ∧ wx.heap[wN.heap.size]? = some (.cells #[.int .u64 (Z : Int), .int .i64 (k : Int), .int .i64 (f : Int), .bool sg, vz, .int .i64 Ez] 39 (0, 0)) ∧ RealV wx (.agg #[.int .u64 (Z : Int), .int .i64 (k : Int), .int .i64 (f : Int), .bool sg, vz, .int .i64 Ez]) Z k f sg M XR ∧ Below w.heap.size w wx)
  case first =>
    by_cases h2 : o < 2
    · have u1 : decide (o < 2) = true := decide_eq_true h2
      have u2 : decide ((o : Int) < 2) = true := decide_eq_true (by omega)
      have u3 : (o : Int) < 2 := by omega
      have hE : e2 + y = E2 := by rw [HE2.out, if_pos h2]
      have Q : Hid ((U.setCell ⟨w.heap.size + 1, 5, none⟩ (.int .i64 E2)).heap[w.heap.size]? = some (.cells #[.int .u64 (P1 : Int), .int .i64 (M1 : Int), .int .i64 (F1 : Int), .bool n1, v1, .int .i64 E1] 39 (0, 0)) ∧ (U.setCell ⟨w.heap.size + 1, 5, none⟩ (.int .i64 E2)).heap[w.heap.size + 1]? = some (.cells #[.int .u64 (P2 : Int), .int .i64 (M2 : Int), .int .i64 (F2 : Int), .bool n2, v2, .int .i64 E2] 39 (0, 0)) ∧ (U.setCell ⟨w.heap.size + 1, 5, none⟩ (.int .i64 E2)).heap[wN.heap.size]? = some (.cells #[.int .u64 (Z : Int), .int .i64 (k : Int), .int .i64 (f : Int), .bool sg, vz, .int .i64 Ez] 39 (0, 0)) ∧ RealV (U.setCell ⟨w.heap.size + 1, 5, none⟩ (.int .i64 E2)) (.agg #[.int .u64 (Z : Int), .int .i64 (k : Int), .int .i64 (f : Int), .bool sg, vz, .int .i64 Ez]) Z k f sg M XR ∧ Below w.heap.size w (U.setCell ⟨w.heap.size + 1, 5, none⟩ (.int .i64 E2))) := Lib.hid
        ⟨(heap_setCell_other _ _ _ _ (by simp)).trans s1, rowset (i := 5) (.int .i64 E2) s2, (heap_setCell_other _ _ _ _ (by simpa using hw2.symm)).trans sz, hzU.away s2 (by decide) 5 _, bset hWU (Nat.le_succ _)⟩
      clear s1 s2 sz hzU hWU h2
      go_wp2_with fail
      all_goals first
        | (exfalso; omega)
        | (go_meet; exact Q.out)
    · have u1 : decide (o < 2) = false := decide_eq_false h2
      have u2 : decide ((o : Int) < 2) = false := decide_eq_false (by omega)
      have u3 : (2 : Int) ≤ (o : Int) := by omega
      have hE : e2 = E2 := by rw [HE2.out, if_neg h2]
      have Q : Hid (U.heap[w.heap.size]? = some (.cells #[.int .u64 (P1 : Int), .int .i64 (M1 : Int), .int .i64 (F1 : Int), .bool n1, v1, .int .i64 E1] 39 (0, 0)) ∧ U.heap[w.heap.size + 1]? = some (.cells #[.int .u64 (P2 : Int), .int .i64 (M2 : Int), .int .i64 (F2 : Int), .bool n2, v2, .int .i64 E2] 39 (0, 0)) ∧ U.heap[wN.heap.size]? = some (.cells #[.int .u64 (Z : Int), .int .i64 (k : Int), .int .i64 (f : Int), .bool sg, vz, .int .i64 Ez] 39 (0, 0)) ∧ RealV U (.agg #[.int .u64 (Z : Int), .int .i64 (k : Int), .int .i64 (f : Int), .bool sg, vz, .int .i64 Ez]) Z k f sg M XR ∧ Below w.heap.size w U) := Lib.hid ⟨s1, by rw [← hE]; exact s2, sz, hzU, hWU⟩
      clear s1 s2 sz hzU hWU h2 hE
      go_wp2_with fail
      all_goals first
        | (exfalso; omega)
        | (go_meet; exact Q.out)
  case rest =>
    obtain ⟨s1', s2', sz', hzc, hWc⟩ := hcut
    clear s1 s2 sz hzU hWU c20 c21 c22 c23 c24 c25 y25
    obtain ⟨⟨c10, c11, c12, c13, c14, c15⟩, -⟩ := row6 s1'
    obtain ⟨⟨c20, c21, c22, c23, c24, c25⟩, -⟩ := row6 s2'
    have HCC := Lib.hid (HC2.out wc hWc)
    have HZC := Lib.hid hzc
    have HWC := Lib.hid hWc
    have HSZ := Lib.hid sz'
    clear s1' s2' sz' hzc hWc HC2
    go_wp2_with fail
    refine HCC.out.mono ?_
    rintro _ wM ⟨z, rfl, hz2, hb2⟩
    have hzc2 := hz2.canon
    obtain ⟨vy, rfl, hRy⟩ := hzc2
    rw [← HEYE.out] at hz2 ⊢
    have hSy := hRy.isS
    clear hRy
    obtain ⟨T, hT⟩ : ∃ T, T = wM.alloc (.cells #[.int .u64 (Z : Int), .int .i64 (k : Int), .int .i64 (f : Int), .bool sg, vy, .int .i64 Ey] 39) := ⟨_, rfl⟩
    have hbT : Below wM.heap.size wM T := by rw [hT]; exact fbone _
    have hru : T.heap[wM.heap.size]? = some (.cells #[.int .u64 (Z : Int), .int .i64 (k : Int), .int .i64 (f : Int), .bool sg, vy, .int .i64 Ey] 39 (0, 0)) := by rw [hT]; exact row_chain11
    have hbX := bthen hb2 hbT
    have hrz := keep_row hbX HSZ.out
    have hzT := HZC.out.below hbX
    have hyT := hz2.below hbT
    have hWT := HWC.out.trans (hbX.mono HWC.out.size)
    have hnm : wN.heap.size ≠ wM.heap.size := by
      have h1 := hb2.size
      have h2 := get_lt HSZ.out
      omega
    have hwT : w.heap.size ≤ wN.heap.size := by omega
    clear hb2 hbT hbX hz2 HZC HWC HSZ HCC c10 c11 c12 c13 c14 c15 c20 c21 c22 c23 c24 c25
    go_upto_region 11 with fail
    rw [← hT]
    clear hT
    obtain ⟨⟨c10, c11, c12, c13, c14, c15⟩, -, -, -, -, -, y15⟩ := row6 hrz
    obtain ⟨⟨c20, c21, c22, c23, c24, c25⟩, -⟩ := row6 hru
    by_cases h1 : f = 1
    · have u1 : ((f : Int) == 1) = true := by rw [h1]; rfl
      have hE := HEY1.out h1
      obtain ⟨U2, hU2⟩ : ∃ U2, U2 = T.setCell ⟨wN.heap.size, 5, none⟩ (.int .i64 Ey) := ⟨_, rfl⟩
      have r1 : U2.heap[wN.heap.size]? = some (.cells #[.int .u64 (Z : Int), .int .i64 (k : Int), .int .i64 (f : Int), .bool sg, vz, .int .i64 Ey] 39 (0, 0)) := by rw [hU2]; exact rowset (i := 5) (.int .i64 Ey) hrz
      have r2 : U2.heap[wM.heap.size]? = some (.cells #[.int .u64 (Z : Int), .int .i64 (k : Int), .int .i64 (f : Int), .bool sg, vy, .int .i64 Ey] 39 (0, 0)) := by rw [hU2]; exact (heap_setCell_other _ _ _ _ (by simpa using hnm.symm)).trans hru
      have hTW := Lib.hid (twin_any Z k f sg vz vy Ey (zWd f M) U2 (by rw [hU2]; exact (hzT.away hrz (by decide) 5 _).rw) (by rw [hU2]; exact (hyT.away hrz (by decide) 5 _).rw) HZL.out)
      have HWU : Hid (Below w.heap.size w U2) := Lib.hid (by rw [hU2]; exact bset hWT hwT)
      clear h1 hrz hru hzT hyT hWT
      go_upto_region 13 with fail
      rw [← hU2]
      clear hU2 c10 c11 c12 c13 c14 c15 c20 c21 c22 c23 c24 c25 y15
      obtain ⟨⟨c10, c11, c12, c13, c14, c15⟩, -⟩ := row6 r1
      obtain ⟨⟨c20, c21, c22, c23, c24, c25⟩, -⟩ := row6 r2
      clear r1 r2
      go_wp2_with fail
      refine hTW.out.mono ?_
      rintro _ w9 ⟨rfl, hb9⟩
      have HB9 := Lib.hid (HWU.out.trans (hb9.mono HWU.out.size))
      clear hb9
      go_wp2
      go_ret
      exact ⟨rfl, HB9.out⟩
    · have u1 : ((f : Int) == 1) = false := by rw [beq_eq_false_iff_ne]; omega
      have hE := HEY0.out h1
      have hTW := Lib.hid (twin_any Z k f sg vz vy Ey (zWd f M) T hzT.rw hyT.rw HZL.out)
      rw [hE] at c15
      have HWU := Lib.hid hWT
      clear h1 hrz hru hzT hyT hWT hE
      go_upto_region 13 with fail
      go_wp2_with fail
      refine hTW.out.mono ?_
      rintro _ w9 ⟨rfl, hb9⟩
      have HB9 := Lib.hid (HWU.out.trans (hb9.mono HWU.out.size))
      clear hb9
      go_wp2
      go_ret
      exact ⟨rfl, HB9.out⟩
end Go.Proofs.YtdepidpgbgfjlaaGreatDoor
/-
A statement's argument that is a Real: what it reads as. No condition.
-/
namespace Go.Proofs.YtdepidpgbgfjlaaGreatDoor
open Go.ChangeShapes Go.WideShapes Go.ChangeAt Go.RowKit

section
variable {H : Type} {enc : TypeId × Value → H} {P : Program} {w : World} {base : Nat} {spare : Nat → Bool} {held : Bool}
theorem trod_struct6 {t : TypeId} {f0 f1 f2 f3 f4 f5 : Field} {fuel : Nat} {cs : List Value} {x : DataW H × List MemPlace} (ht : P.underlying t = some (.struct #[f0, f1, f2, f3, f4, f5])) (h : DataW.trod enc P w base spare held fuel t cs = some x) :
    ∃ y0 y1 y2 y3 y4 y5 n, cs.length = P.cellsOf t ∧ DataW.trod enc P w base spare held n f0.type ((cs.drop f0.offset).take (P.cellsOf f0.type)) = some y0 ∧
      DataW.trod enc P w base spare held n f1.type ((cs.drop f1.offset).take (P.cellsOf f1.type)) = some y1 ∧ DataW.trod enc P w base spare held n f2.type ((cs.drop f2.offset).take (P.cellsOf f2.type)) = some y2 ∧
      DataW.trod enc P w base spare held n f3.type ((cs.drop f3.offset).take (P.cellsOf f3.type)) = some y3 ∧ DataW.trod enc P w base spare held n f4.type ((cs.drop f4.offset).take (P.cellsOf f4.type)) = some y4 ∧
      DataW.trod enc P w base spare held n f5.type ((cs.drop f5.offset).take (P.cellsOf f5.type)) = some y5 := by
  obtain ⟨xs, n, _, rfl, hl, hlen, hf⟩ := DataW.trod_struct ht h
  match xs, hlen with
  | [y0, y1, y2, y3, y4, y5], _ => exact ⟨y0, y1, y2, y3, y4, y5, n, hl, by simpa using hf 0 f0 rfl, by simpa using hf 1 f1 rfl, by simpa using hf 2 f2 rfl, by simpa using hf 3 f3 rfl, by simpa using hf 4 f4 rfl, by simpa using hf 5 f5 rfl⟩
end
section
variable {H : Type} {enc : TypeId × Value → H} {W : World} {base : Nat} {held : Bool}
theorem open_i64 {c : Value} {fuel : Nat} {x : DataW H × List MemPlace} (h : DataW.trod enc Tryz.prog W base (fun _ => true) held fuel 3 [c] = some x) : ∃ n : Int, c = .int .i64 n ∧ -9223372036854775808 ≤ n ∧ n ≤ 9223372036854775807 := by
  obtain ⟨n, hc, _, hw⟩ := DataW.trod_int Tryz.underlying3 h
  exact ⟨n, by simpa using hc, by simpa [Lit.wf, IntKind.min, IntKind.max, IntKind.signed, IntKind.bits] using hw⟩
theorem open_u64 {c : Value} {fuel : Nat} {x : DataW H × List MemPlace} (h : DataW.trod enc Tryz.prog W base (fun _ => true) held fuel 35 [c] = some x) : ∃ n : Nat, c = .int .u64 n ∧ n ≤ 18446744073709551615 := by
  obtain ⟨n, hc, _, hw⟩ := DataW.trod_int Tryz.underlying35 h
  have hb : 0 ≤ n ∧ n ≤ 18446744073709551615 := by simpa [Lit.wf, IntKind.min, IntKind.max, IntKind.signed, IntKind.bits] using hw
  obtain ⟨k, rfl⟩ := Int.eq_ofNat_of_zero_le hb.1
  exact ⟨k, by simpa using hc, by omega⟩
set_option maxRecDepth 100000 in
theorem open_real {v : Value} {r : Reach} {b0 : Nat} {d : DataW H} {p : List MemPlace} (hval : Value.okWide Tryz.prog W r b0 39 v) (h : DataW.Trod enc Tryz.prog W base (fun _ => true) held 39 v d p) :
    ∃ (q : Nat) (m f : Int) (n : Bool) (x : Value) (e : Int) (ws : List Nat), v = .agg #[.int .u64 q, .int .i64 m, .int .i64 f, .bool n, x, .int .i64 e] ∧ RW W x ws ∧
      (q ≤ 18446744073709551615 ∧ (-9223372036854775808 ≤ m ∧ m ≤ 9223372036854775807) ∧ (-9223372036854775808 ≤ f ∧ f ≤ 9223372036854775807) ∧ (-9223372036854775808 ≤ e ∧ e ≤ 9223372036854775807)) := by
  obtain ⟨cs, rfl, hsz⟩ := okWide_struct Tryz.underlying39 hval
  have hc : Tryz.prog.cellsOf 39 = 6 := by kernel_rfl
  rw [hc] at hsz
  obtain ⟨fuel, hf⟩ := h
  obtain ⟨y0, y1, y2, y3, y4, y5, n, hl, h0, h1, h2, h3, h4, h5⟩ := trod_struct6 Tryz.underlying39 hf
  match cs, hsz with
  | ⟨[c0, c1, c2, c3, c4, c5]⟩, _ =>
    have hcu : Tryz.prog.cellsOf 35 = 1 := by kernel_rfl
    have hci : Tryz.prog.cellsOf 3 = 1 := by kernel_rfl
    have hcb : Tryz.prog.cellsOf 4 = 1 := by kernel_rfl
    have hcs : Tryz.prog.cellsOf 23 = 1 := by kernel_rfl
    obtain ⟨q, rfl, hq⟩ := open_u64 (c := c0) (by simpa [hcu, Value.cells] using h0)
    obtain ⟨m, rfl, hm⟩ := open_i64 (c := c1) (by simpa [hci, Value.cells] using h1)
    obtain ⟨f, rfl, hf'⟩ := open_i64 (c := c2) (by simpa [hci, Value.cells] using h2)
    obtain ⟨b, hb, _⟩ := DataW.trod_bool Tryz.underlying4 h3
    have e3 : c3 = .bool b := by simpa [hcb, Value.cells] using hb
    subst e3
    obtain ⟨ws, hw⟩ := open_words (v := c4) (by simpa [hcs, Value.cells] using h4)
    obtain ⟨e, rfl, he⟩ := open_i64 (c := c5) (by simpa [hci, Value.cells] using h5)
    exact ⟨q, m, f, b, c4, e, ws, rfl, hw, hq, hm, hf', he⟩
end
end Go.Proofs.YtdepidpgbgfjlaaGreatDoor
