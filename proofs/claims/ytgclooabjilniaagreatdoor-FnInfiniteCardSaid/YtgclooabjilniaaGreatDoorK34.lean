/-
Texts of this proof, joined: IzB IzE IzF. No condition.
-/
import Derived.Test.YtgclooabjilniaaGreatDoorK23
import Derived.Test.YtgclooabjilniaaGreatDoorK27
import Derived.Test.YtgclooabjilniaaGreatDoorK33
/-
The thin package's operations with infinite operands, and its quotients with zeros. No condition.
-/
namespace Go.Proofs.YtgclooabjilniaaGreatDoor
open Go.RowKit

/-- What the forms alone tell of an operation (0 to 3): the answer's form and its sign. -/
def SpOk (op f1 f2 : Nat) (n1 n2 : Bool) (f : Nat) (sg : Bool) : Prop :=
  match op with
  | 0 => f = 2 ∧ ((f1 = 2 ∧ f2 ≤ 1 ∧ sg = n1) ∨ (f1 ≤ 1 ∧ f2 = 2 ∧ sg = n2) ∨ (f1 = 2 ∧ f2 = 2 ∧ n1 = n2 ∧ sg = n1))
  | 1 => f = 2 ∧ ((f1 = 2 ∧ f2 ≤ 1 ∧ sg = n1) ∨ (f1 ≤ 1 ∧ f2 = 2 ∧ sg = !n2) ∨ (f1 = 2 ∧ f2 = 2 ∧ n1 = (!n2) ∧ sg = n1))
  | 2 => f = 2 ∧ sg = (n1 != n2) ∧ ((f1 = 2 ∧ (f2 = 1 ∨ f2 = 2)) ∨ (f1 = 1 ∧ f2 = 2))
  | _ => sg = (n1 != n2) ∧ ((f = 0 ∧ ((f1 = 0 ∧ (f2 = 1 ∨ f2 = 2)) ∨ (f1 = 1 ∧ f2 = 2))) ∨ (f = 2 ∧ ((f1 = 1 ∧ f2 = 0) ∨ (f1 = 2 ∧ (f2 = 0 ∨ f2 = 1)))))
theorem SpR.fval {w : World} {b q m f : Nat} {sg : Bool} (h : SpR w b q m f sg) (hf : f ≠ 1) (B M : Nat) (X : Int) : FVal w B b q m 0 f sg M X := by
  obtain ⟨v, e, h⟩ := h
  exact ⟨v, e, h, fun hc => absurd hc hf⟩
theorem spF_Add (b B B1 B2 g1 g2 q m p1 m1 p2 m2 f0 f1 f2 f M N : Nat) (a0 e0 E F : Int) (nz n1 n2 sg : Bool) (w : World) (h : FltR w b q m a0 f0 nz (.slice none 0 0) e0) (hB : B ≤ b) (h1 : FloatAt w B1 g1 p1 m1 f1 n1 M E) (h2 : FloatAt w B2 g2 p2 m2 f2 n2 N F)
    (hb1 : b ≠ g1) (hb2 : b ≠ g2) (hq0 : 0 < q) (hq : q ≤ 64000000) (hp11 : 0 < p1) (hp1' : p1 ≤ 64000000) (hp22 : 0 < p2) (hp2' : p2 ≤ 64000000) (hm : m ≤ 5) (hs : SpOk 0 f1 f2 n1 n2 f sg) :
    Calls Tryz.prog 57 #[.pointer (some ⟨b, 0, none⟩), .pointer (some ⟨g1, 0, none⟩), .pointer (some ⟨g2, 0, none⟩)] w fun e' w' => e' = .returned (.pointer (some ⟨b, 0, none⟩)) ∧ SpR w' b q m f sg ∧ Below B w w' := by
  obtain ⟨rfl, hs⟩ := hs
  rcases hs with ⟨rfl, k, rfl⟩ | ⟨k, rfl, rfl⟩ | ⟨rfl, rfl, k, rfl⟩
  · rcases (by omega : f2 = 0 ∨ f2 = 1) with rfl | rfl
    · exact addF_i20 b B B1 B2 g1 g2 q m p1 m1 p2 m2 f0 M N a0 e0 E F nz _ _ w h hB h1 h2 hb1 hb2 hq0 hq hp11 hp1' hp22 hp2' hm
    · exact addF_i21 b B B1 B2 g1 g2 q m p1 m1 p2 m2 f0 M N a0 e0 E F nz _ _ w h hB h1 h2 hb1 hb2 hq0 hq hp11 hp1' hp22 hp2' hm
  · rcases (by omega : f1 = 0 ∨ f1 = 1) with rfl | rfl
    · exact addF_i02 b B B1 B2 g1 g2 q m p1 m1 p2 m2 f0 M N a0 e0 E F nz _ _ w h hB h1 h2 hb1 hb2 hq0 hq hp11 hp1' hp22 hp2' hm
    · exact addF_i12 b B B1 B2 g1 g2 q m p1 m1 p2 m2 f0 M N a0 e0 E F nz _ _ w h hB h1 h2 hb1 hb2 hq0 hq hp11 hp1' hp22 hp2' hm
  · exact addF_i22 b B B1 B2 g1 g2 q m p1 m1 p2 m2 f0 M N a0 e0 E F nz _ _ w h hB h1 h2 hb1 hb2 hq0 hq hp11 hp1' hp22 hp2' hm k
set_option maxRecDepth 100000 in
set_option maxHeartbeats 6400000 in
theorem impSpAdd (P E q k p1 m1 f1 p2 m2 f2 f : Nat) (n1 n2 sg : Bool) (v1 v2 : Value) (e1 e2 : Int) (xs ys : List Nat) (w : World) (hv1 : RW w v1 xs) (hv2 : RW w v2 ys) (ho1 : RealOk P E p1 m1 f1 xs e1) (ho2 : RealOk P E p2 m2 f2 ys e2) (hP : P ≤ 9000) (hE : E ≤ 400000) (hq0 : 0 < q) (hq : q ≤ 1000000) (hk : k ≤ 5) (hs : SpOk 0 f1 f2 n1 n2 f sg) (hT : TabW w) :
    Calls Tryz.prog 30 #[.int .u64 q, .int .i64 k, .agg #[.int .u64 p1, .int .i64 m1, .int .i64 f1, .bool n1, v1, .int .i64 e1], .agg #[.int .u64 p2, .int .i64 m2, .int .i64 f2, .bool n2, v2, .int .i64 e2]] w fun e' w' => ∃ z, e' = .returned (.tuple #[z, .int .i64 0]) ∧ RealV w' z q k f sg 1 0 ∧ Below w.heap.size w w' := by
  have hS1 := hv1.isS
  have hS2 := hv2.isS
  have hab := (Below.refl w.heap.size w).alloc (Nat.le_refl _) (.cells #[.int .u64 p1, .int .i64 m1, .int .i64 f1, .bool n1, v1, .int .i64 e1] 39)
  have hac := hab.alloc hab.size (.cells #[.int .u64 p2, .int .i64 m2, .int .i64 f2, .bool n2, v2, .int .i64 e2] 39)
  have had := hac.alloc hac.size (.cells #[.int .u64 0, .int .i64 0, .int .i64 0, .bool false, .slice none 0 0, .int .i64 0] 39)
  obtain ⟨X, hX⟩ : ∃ X, X = ((w.alloc (.cells #[.int .u64 p1, .int .i64 m1, .int .i64 f1, .bool n1, v1, .int .i64 e1] 39)).alloc (.cells #[.int .u64 p2, .int .i64 m2, .int .i64 f2, .bool n2, v2, .int .i64 e2] 39)).alloc (.cells #[.int .u64 0, .int .i64 0, .int .i64 0, .bool false, .slice none 0 0, .int .i64 0] 39) := ⟨_, rfl⟩
  have hr1 : X.heap[w.heap.size]? = some (.cells #[.int .u64 p1, .int .i64 m1, .int .i64 f1, .bool n1, v1, .int .i64 e1] 39 (0, 0)) := by
    rw [hX]; exact row_chain31
  have hr2 : X.heap[w.heap.size + 1]? = some (.cells #[.int .u64 p2, .int .i64 m2, .int .i64 f2, .bool n2, v2, .int .i64 e2] 39 (0, 0)) := by
    rw [hX]; exact row_chain32
  have hr3 : X.heap[w.heap.size + 2]? = some (.cells #[.int .u64 0, .int .i64 0, .int .i64 0, .bool false, .slice none 0 0, .int .i64 0] 39 (0, 0)) := by
    rw [hX]; exact row_chain33
  rw [← hX] at had
  have V1 := Lib.hid (hv1.below had)
  have V2 := Lib.hid (hv2.below had)
  have HO1 := Lib.hid ho1
  have HO2 := Lib.hid ho2
  have HT := Lib.hid (hT.below had)
  have HR1 := Lib.hid hr1
  have HR2 := Lib.hid hr2
  have HR3 := Lib.hid hr3
  have hwX := Lib.hid had
  have hcc := Below.refl X.heap.size X
  have hXs := had.size
  have hN1 := Lib.hid (show w.heap.size + 2 ≠ w.heap.size by omega)
  have hN2 := Lib.hid (show w.heap.size + 2 ≠ w.heap.size + 1 by omega)
  have hX2 : w.heap.size + 3 ≤ X.heap.size := by rw [hX]; simp
  have hp1 : 0 < p1 := ho1.1
  have hp2 : 0 < p2 := ho2.1
  have hpP1 : p1 ≤ 9000 := Nat.le_trans ho1.2.1 hP
  have hpP2 : p2 ≤ 9000 := Nat.le_trans ho2.2.1 hP
  have hf02 : f = 0 ∨ f = 2 := by unfold SpOk at hs; simp only at hs; omega
  have hf1 : f ≠ 1 := by omega
  have hf2' : f ≤ 2 := by omega
  have HF1 := Lib.hid hf1
  have HADD := Lib.hid (fun (W : World) (b g1 g2 B1 B2 : Nat) (h : FltR W b q k 0 0 false (.slice none 0 0) 0) (hB : X.heap.size ≤ b) (h1 : FloatAt W B1 g1 p1 m1 f1 n1 (wv xs) e1) (h2 : FloatAt W B2 g2 p2 m2 f2 n2 (wv ys) e2) (hb1 : b ≠ g1) (hb2 : b ≠ g2) =>
    spF_Add b X.heap.size B1 B2 g1 g2 q k p1 m1 p2 m2 0 f1 f2 f (wv xs) (wv ys) 0 0 e1 e2 false n1 n2 sg W h hB h1 h2 hb1 hb2 hq0 (by omega) hp1 (by omega) hp2 (by omega) hk hs)
  clear hv1 hv2 ho1 ho2 hab hac had hr1 hr2 hr3 hT hs hf02 hf1
  go_enter Tryz.func30, Tryz.ntmps30
  go_upto_region 1 with fail
  rw [← hX]
  clear hX
  first
    | (go_region_held3 (fun w' => (w'.cell? ⟨w.heap.size, 0, none⟩ = some (.int .u64 (p1 : Int)) ∧ w'.cell? ⟨w.heap.size, 1, none⟩ = some (.int .i64 (m1 : Int)) ∧ w'.cell? ⟨w.heap.size, 2, none⟩ = some (.int .i64 (f1 : Int)) ∧ w'.cell? ⟨w.heap.size, 3, none⟩ = some (.bool n1) ∧ w'.cell? ⟨w.heap.size, 4, none⟩ = some v1 ∧ w'.cell? ⟨w.heap.size, 5, none⟩ = some (.int .i64 e1)) ∧ (w'.cell? ⟨w.heap.size + 1, 0, none⟩ = some (.int .u64 (p2 : Int)) ∧ w'.cell? ⟨w.heap.size + 1, 1, none⟩ = some (.int .i64 (m2 : Int)) ∧ w'.cell? ⟨w.heap.size + 1, 2, none⟩ = some (.int .i64 (f2 : Int)) ∧ w'.cell? ⟨w.heap.size + 1, 3, none⟩ = some (.bool n2) ∧ w'.cell? ⟨w.heap.size + 1, 4, none⟩ = some v2 ∧ w'.cell? ⟨w.heap.size + 1, 5, none⟩ = some (.int .i64 e2)))
        ((first | (refine ksT2 HR1.out HR2.out ?_; with_reducible first | assumption | exact Below.drew hcc) | with_reducible exact ⟨ks6R hN1.out (ks6R hN1.out (ks6R hN1.out (ks6R hN1.out (ks6R hN1.out (ks6R hN1.out (ks12 HR1.out hb7).2))))), ks6R hN2.out (ks6R hN2.out (ks6R hN2.out (ks6R hN2.out (ks6R hN2.out (ks6R hN2.out (ks12 HR2.out hb7).2)))))⟩))
        (first
          | (go_at_call 48; (with_reducible refine (float_any P E p2 m2 f2 n2 v2 e2 ys _ (V2.out.below hb4) HO2.out (by omega) (by omega)).mono ?_); rintro _ w5 ⟨g2, rfl, hF2, hb5⟩; have G0' := Lib.hid (G0.out.below hb5); have G1' := Lib.hid (G1.out.below hb5); have G2 := Lib.hid hF2; have hne2 := Lib.hid (show g0 ≠ g2 by have := G0.out.lt; have := hF2.1; omega); clear hF2; have hb5 := bthen hb4 hb5)
          | (go_at_call 48; (with_reducible refine (float_any P E p1 m1 f1 n1 v1 e1 xs _ (V1.out.below hb3) HO1.out (by omega) (by omega)).mono ?_); rintro _ w4 ⟨g1, rfl, hF1, hb4⟩; have G0 := Lib.hid (GF.out.below hb4); have G1 := Lib.hid hF1; have hne1 := Lib.hid (show g0 ≠ g1 by have := GF.out.lt; have := hF1.1; omega); clear hF1; have hb4 := bthen hb3 hb4)
          | (go_at_call 37; refine (fresh_all q k _ (by omega) (by omega)).mono ?_; rintro _ w3 ⟨g0, rfl, ⟨hg0, hF0⟩, hb3⟩; have hg0X : X.heap.size ≤ g0 := (by rw [hg0]; exact Nat.le_refl _); clear hg0; have GF := Lib.hid hF0; clear hF0; have hb3 : Below X.heap.size X w3 := bthen (Below.drew hcc) hb3)
          | (go_at_call 57; (with_reducible refine (HADD.out _ g0 g1 g2 _ _ G0'.out hg0X G1'.out G2.out hne1.out hne2.out).mono ?_); rintro _ w6 ⟨rfl, hA6, hb6⟩; have F6 := Lib.hid (hA6.fval HF1.out X.heap.size 1 0); clear hA6; have hb6 := bthenX hb5 hb6)
          | (go_at_call 47; (with_reducible refine (implBoth _ g0 q k f 0 _ _ _ _ F6.out hf2' (by omega) (by omega) (fun hc => absurd hc HF1.out) (fun hc => absurd hc HF1.out) (HT.out.below hb6) (by decide)).mono ?_); rintro _ w7 ⟨z, rfl, hz, hb7⟩; have hb7 := bthen hb6 hb7; have hq2 := keep_row hb7 HR3.out; obtain ⟨vz, Ez, zs, Bz, rfl, hz2, hzd, hz3, hz4⟩ := hz; have hSz := hz2.isS; obtain ⟨⟨y0, y1, y2, y3, y4, y5⟩, s0, s1, s2, s3, s4, s5⟩ := row6 hq2; have H2 := Lib.hid hz2; have H34 := Lib.hid (And.intro hzd (And.intro hz3 hz4)); have HQ2 := Lib.hid hq2; clear hz2 hzd hz3 hz4 hq2)))
    | fail
  all_goals go_wp2_with fail
  all_goals
    have HS := row6_set (x := .int .u64 (q : Int)) (y := .int .i64 (k : Int)) (z := .int .i64 (f : Int)) (x' := .bool sg) (y' := vz) (z' := .int .i64 Ez) HQ2.out
    have HB := bset6 (x := .int .u64 (q : Int)) (y := .int .i64 (k : Int)) (z := .int .i64 (f : Int)) (x' := .bool sg) (y' := vz) (z' := .int .i64 Ez) (hwX.out.trans (hb7.mono hXs)) (Nat.le_trans (Nat.le_succ _) (Nat.le_succ _))
    obtain ⟨⟨a0, a1, a2, a3, a4, a5⟩, -⟩ := row6 HS
    refine bodyPost_ret (v := .tuple #[.agg #[.int .u64 q, .int .i64 k, .int .i64 f, .bool sg, vz, .int .i64 Ez], .int .i64 0]) ?_ rfl ⟨_, rfl, ⟨_, _, _, Bz, rfl, ?_, H34.out.1, H34.out.2⟩, HB⟩
    · simp [results, Tryz.results30, go_sem, a0, a1, a2, a3, a4, a5]
    · exact H2.out.same fun hc => by
        have hne : sBlk vz ≠ w.heap.size + 2 := H2.out.ne_row HQ2.out (by decide) hc
        exact heap6_other hne
theorem spF_Sub (b B B1 B2 g1 g2 q m p1 m1 p2 m2 f0 f1 f2 f M N : Nat) (a0 e0 E F : Int) (nz n1 n2 sg : Bool) (w : World) (h : FltR w b q m a0 f0 nz (.slice none 0 0) e0) (hB : B ≤ b) (h1 : FloatAt w B1 g1 p1 m1 f1 n1 M E) (h2 : FloatAt w B2 g2 p2 m2 f2 n2 N F)
    (hb1 : b ≠ g1) (hb2 : b ≠ g2) (hq0 : 0 < q) (hq : q ≤ 64000000) (hp11 : 0 < p1) (hp1' : p1 ≤ 64000000) (hp22 : 0 < p2) (hp2' : p2 ≤ 64000000) (hm : m ≤ 5) (hs : SpOk 1 f1 f2 n1 n2 f sg) :
    Calls Tryz.prog 54 #[.pointer (some ⟨b, 0, none⟩), .pointer (some ⟨g1, 0, none⟩), .pointer (some ⟨g2, 0, none⟩)] w fun e' w' => e' = .returned (.pointer (some ⟨b, 0, none⟩)) ∧ SpR w' b q m f sg ∧ Below B w w' := by
  obtain ⟨rfl, hs⟩ := hs
  rcases hs with ⟨rfl, k, rfl⟩ | ⟨k, rfl, rfl⟩ | ⟨rfl, rfl, k, rfl⟩
  · rcases (by omega : f2 = 0 ∨ f2 = 1) with rfl | rfl
    · exact subF_i20 b B B1 B2 g1 g2 q m p1 m1 p2 m2 f0 M N a0 e0 E F nz _ _ w h hB h1 h2 hb1 hb2 hq0 hq hp11 hp1' hp22 hp2' hm
    · exact subF_i21 b B B1 B2 g1 g2 q m p1 m1 p2 m2 f0 M N a0 e0 E F nz _ _ w h hB h1 h2 hb1 hb2 hq0 hq hp11 hp1' hp22 hp2' hm
  · rcases (by omega : f1 = 0 ∨ f1 = 1) with rfl | rfl
    · exact subF_i02 b B B1 B2 g1 g2 q m p1 m1 p2 m2 f0 M N a0 e0 E F nz _ _ w h hB h1 h2 hb1 hb2 hq0 hq hp11 hp1' hp22 hp2' hm
    · exact subF_i12 b B B1 B2 g1 g2 q m p1 m1 p2 m2 f0 M N a0 e0 E F nz _ _ w h hB h1 h2 hb1 hb2 hq0 hq hp11 hp1' hp22 hp2' hm
  · exact subF_i22 b B B1 B2 g1 g2 q m p1 m1 p2 m2 f0 M N a0 e0 E F nz _ _ w h hB h1 h2 hb1 hb2 hq0 hq hp11 hp1' hp22 hp2' hm k
set_option maxRecDepth 100000 in
set_option maxHeartbeats 6400000 in
theorem impSpSub (P E q k p1 m1 f1 p2 m2 f2 f : Nat) (n1 n2 sg : Bool) (v1 v2 : Value) (e1 e2 : Int) (xs ys : List Nat) (w : World) (hv1 : RW w v1 xs) (hv2 : RW w v2 ys) (ho1 : RealOk P E p1 m1 f1 xs e1) (ho2 : RealOk P E p2 m2 f2 ys e2) (hP : P ≤ 9000) (hE : E ≤ 400000) (hq0 : 0 < q) (hq : q ≤ 1000000) (hk : k ≤ 5) (hs : SpOk 1 f1 f2 n1 n2 f sg) (hT : TabW w) :
    Calls Tryz.prog 27 #[.int .u64 q, .int .i64 k, .agg #[.int .u64 p1, .int .i64 m1, .int .i64 f1, .bool n1, v1, .int .i64 e1], .agg #[.int .u64 p2, .int .i64 m2, .int .i64 f2, .bool n2, v2, .int .i64 e2]] w fun e' w' => ∃ z, e' = .returned (.tuple #[z, .int .i64 0]) ∧ RealV w' z q k f sg 1 0 ∧ Below w.heap.size w w' := by
  have hS1 := hv1.isS
  have hS2 := hv2.isS
  have hab := (Below.refl w.heap.size w).alloc (Nat.le_refl _) (.cells #[.int .u64 p1, .int .i64 m1, .int .i64 f1, .bool n1, v1, .int .i64 e1] 39)
  have hac := hab.alloc hab.size (.cells #[.int .u64 p2, .int .i64 m2, .int .i64 f2, .bool n2, v2, .int .i64 e2] 39)
  have had := hac.alloc hac.size (.cells #[.int .u64 0, .int .i64 0, .int .i64 0, .bool false, .slice none 0 0, .int .i64 0] 39)
  obtain ⟨X, hX⟩ : ∃ X, X = ((w.alloc (.cells #[.int .u64 p1, .int .i64 m1, .int .i64 f1, .bool n1, v1, .int .i64 e1] 39)).alloc (.cells #[.int .u64 p2, .int .i64 m2, .int .i64 f2, .bool n2, v2, .int .i64 e2] 39)).alloc (.cells #[.int .u64 0, .int .i64 0, .int .i64 0, .bool false, .slice none 0 0, .int .i64 0] 39) := ⟨_, rfl⟩
  have hr1 : X.heap[w.heap.size]? = some (.cells #[.int .u64 p1, .int .i64 m1, .int .i64 f1, .bool n1, v1, .int .i64 e1] 39 (0, 0)) := by
    rw [hX]; exact row_chain31
  have hr2 : X.heap[w.heap.size + 1]? = some (.cells #[.int .u64 p2, .int .i64 m2, .int .i64 f2, .bool n2, v2, .int .i64 e2] 39 (0, 0)) := by
    rw [hX]; exact row_chain32
  have hr3 : X.heap[w.heap.size + 2]? = some (.cells #[.int .u64 0, .int .i64 0, .int .i64 0, .bool false, .slice none 0 0, .int .i64 0] 39 (0, 0)) := by
    rw [hX]; exact row_chain33
  rw [← hX] at had
  have V1 := Lib.hid (hv1.below had)
  have V2 := Lib.hid (hv2.below had)
  have HO1 := Lib.hid ho1
  have HO2 := Lib.hid ho2
  have HT := Lib.hid (hT.below had)
  have HR1 := Lib.hid hr1
  have HR2 := Lib.hid hr2
  have HR3 := Lib.hid hr3
  have hwX := Lib.hid had
  have hcc := Below.refl X.heap.size X
  have hXs := had.size
  have hN1 := Lib.hid (show w.heap.size + 2 ≠ w.heap.size by omega)
  have hN2 := Lib.hid (show w.heap.size + 2 ≠ w.heap.size + 1 by omega)
  have hX2 : w.heap.size + 3 ≤ X.heap.size := by rw [hX]; simp
  have hp1 : 0 < p1 := ho1.1
  have hp2 : 0 < p2 := ho2.1
  have hpP1 : p1 ≤ 9000 := Nat.le_trans ho1.2.1 hP
  have hpP2 : p2 ≤ 9000 := Nat.le_trans ho2.2.1 hP
  have hf02 : f = 0 ∨ f = 2 := by unfold SpOk at hs; simp only at hs; omega
  have hf1 : f ≠ 1 := by omega
  have hf2' : f ≤ 2 := by omega
  have HF1 := Lib.hid hf1
  have HADD := Lib.hid (fun (W : World) (b g1 g2 B1 B2 : Nat) (h : FltR W b q k 0 0 false (.slice none 0 0) 0) (hB : X.heap.size ≤ b) (h1 : FloatAt W B1 g1 p1 m1 f1 n1 (wv xs) e1) (h2 : FloatAt W B2 g2 p2 m2 f2 n2 (wv ys) e2) (hb1 : b ≠ g1) (hb2 : b ≠ g2) =>
    spF_Sub b X.heap.size B1 B2 g1 g2 q k p1 m1 p2 m2 0 f1 f2 f (wv xs) (wv ys) 0 0 e1 e2 false n1 n2 sg W h hB h1 h2 hb1 hb2 hq0 (by omega) hp1 (by omega) hp2 (by omega) hk hs)
  clear hv1 hv2 ho1 ho2 hab hac had hr1 hr2 hr3 hT hs hf02 hf1
  go_enter Tryz.func27, Tryz.ntmps27
  go_upto_region 1 with fail
  rw [← hX]
  clear hX
  first
    | (go_region_held3 (fun w' => (w'.cell? ⟨w.heap.size, 0, none⟩ = some (.int .u64 (p1 : Int)) ∧ w'.cell? ⟨w.heap.size, 1, none⟩ = some (.int .i64 (m1 : Int)) ∧ w'.cell? ⟨w.heap.size, 2, none⟩ = some (.int .i64 (f1 : Int)) ∧ w'.cell? ⟨w.heap.size, 3, none⟩ = some (.bool n1) ∧ w'.cell? ⟨w.heap.size, 4, none⟩ = some v1 ∧ w'.cell? ⟨w.heap.size, 5, none⟩ = some (.int .i64 e1)) ∧ (w'.cell? ⟨w.heap.size + 1, 0, none⟩ = some (.int .u64 (p2 : Int)) ∧ w'.cell? ⟨w.heap.size + 1, 1, none⟩ = some (.int .i64 (m2 : Int)) ∧ w'.cell? ⟨w.heap.size + 1, 2, none⟩ = some (.int .i64 (f2 : Int)) ∧ w'.cell? ⟨w.heap.size + 1, 3, none⟩ = some (.bool n2) ∧ w'.cell? ⟨w.heap.size + 1, 4, none⟩ = some v2 ∧ w'.cell? ⟨w.heap.size + 1, 5, none⟩ = some (.int .i64 e2)))
        ((first | (refine ksT2 HR1.out HR2.out ?_; with_reducible first | assumption | exact Below.drew hcc) | with_reducible exact ⟨ks6R hN1.out (ks6R hN1.out (ks6R hN1.out (ks6R hN1.out (ks6R hN1.out (ks6R hN1.out (ks12 HR1.out hb7).2))))), ks6R hN2.out (ks6R hN2.out (ks6R hN2.out (ks6R hN2.out (ks6R hN2.out (ks6R hN2.out (ks12 HR2.out hb7).2)))))⟩))
        (first
          | (go_at_call 48; (with_reducible refine (float_any P E p2 m2 f2 n2 v2 e2 ys _ (V2.out.below hb4) HO2.out (by omega) (by omega)).mono ?_); rintro _ w5 ⟨g2, rfl, hF2, hb5⟩; have G0' := Lib.hid (G0.out.below hb5); have G1' := Lib.hid (G1.out.below hb5); have G2 := Lib.hid hF2; have hne2 := Lib.hid (show g0 ≠ g2 by have := G0.out.lt; have := hF2.1; omega); clear hF2; have hb5 := bthen hb4 hb5)
          | (go_at_call 48; (with_reducible refine (float_any P E p1 m1 f1 n1 v1 e1 xs _ (V1.out.below hb3) HO1.out (by omega) (by omega)).mono ?_); rintro _ w4 ⟨g1, rfl, hF1, hb4⟩; have G0 := Lib.hid (GF.out.below hb4); have G1 := Lib.hid hF1; have hne1 := Lib.hid (show g0 ≠ g1 by have := GF.out.lt; have := hF1.1; omega); clear hF1; have hb4 := bthen hb3 hb4)
          | (go_at_call 37; refine (fresh_all q k _ (by omega) (by omega)).mono ?_; rintro _ w3 ⟨g0, rfl, ⟨hg0, hF0⟩, hb3⟩; have hg0X : X.heap.size ≤ g0 := (by rw [hg0]; exact Nat.le_refl _); clear hg0; have GF := Lib.hid hF0; clear hF0; have hb3 : Below X.heap.size X w3 := bthen (Below.drew hcc) hb3)
          | (go_at_call 54; (with_reducible refine (HADD.out _ g0 g1 g2 _ _ G0'.out hg0X G1'.out G2.out hne1.out hne2.out).mono ?_); rintro _ w6 ⟨rfl, hA6, hb6⟩; have F6 := Lib.hid (hA6.fval HF1.out X.heap.size 1 0); clear hA6; have hb6 := bthenX hb5 hb6)
          | (go_at_call 47; (with_reducible refine (implBoth _ g0 q k f 0 _ _ _ _ F6.out hf2' (by omega) (by omega) (fun hc => absurd hc HF1.out) (fun hc => absurd hc HF1.out) (HT.out.below hb6) (by decide)).mono ?_); rintro _ w7 ⟨z, rfl, hz, hb7⟩; have hb7 := bthen hb6 hb7; have hq2 := keep_row hb7 HR3.out; obtain ⟨vz, Ez, zs, Bz, rfl, hz2, hzd, hz3, hz4⟩ := hz; have hSz := hz2.isS; obtain ⟨⟨y0, y1, y2, y3, y4, y5⟩, s0, s1, s2, s3, s4, s5⟩ := row6 hq2; have H2 := Lib.hid hz2; have H34 := Lib.hid (And.intro hzd (And.intro hz3 hz4)); have HQ2 := Lib.hid hq2; clear hz2 hzd hz3 hz4 hq2)))
    | fail
  all_goals go_wp2_with fail
  all_goals
    have HS := row6_set (x := .int .u64 (q : Int)) (y := .int .i64 (k : Int)) (z := .int .i64 (f : Int)) (x' := .bool sg) (y' := vz) (z' := .int .i64 Ez) HQ2.out
    have HB := bset6 (x := .int .u64 (q : Int)) (y := .int .i64 (k : Int)) (z := .int .i64 (f : Int)) (x' := .bool sg) (y' := vz) (z' := .int .i64 Ez) (hwX.out.trans (hb7.mono hXs)) (Nat.le_trans (Nat.le_succ _) (Nat.le_succ _))
    obtain ⟨⟨a0, a1, a2, a3, a4, a5⟩, -⟩ := row6 HS
    refine bodyPost_ret (v := .tuple #[.agg #[.int .u64 q, .int .i64 k, .int .i64 f, .bool sg, vz, .int .i64 Ez], .int .i64 0]) ?_ rfl ⟨_, rfl, ⟨_, _, _, Bz, rfl, ?_, H34.out.1, H34.out.2⟩, HB⟩
    · simp [results, Tryz.results27, go_sem, a0, a1, a2, a3, a4, a5]
    · exact H2.out.same fun hc => by
        have hne : sBlk vz ≠ w.heap.size + 2 := H2.out.ne_row HQ2.out (by decide) hc
        exact heap6_other hne
theorem spF_Mul (b B B1 B2 g1 g2 q m p1 m1 p2 m2 f0 f1 f2 f M N : Nat) (a0 e0 E F : Int) (nz n1 n2 sg : Bool) (w : World) (h : FltR w b q m a0 f0 nz (.slice none 0 0) e0) (hB : B ≤ b) (h1 : FloatAt w B1 g1 p1 m1 f1 n1 M E) (h2 : FloatAt w B2 g2 p2 m2 f2 n2 N F)
    (hb1 : b ≠ g1) (hb2 : b ≠ g2) (hq0 : 0 < q) (hq : q ≤ 64000000) (hp11 : 0 < p1) (hp1' : p1 ≤ 64000000) (hp22 : 0 < p2) (hp2' : p2 ≤ 64000000) (hm : m ≤ 5) (hs : SpOk 2 f1 f2 n1 n2 f sg) :
    Calls Tryz.prog 38 #[.pointer (some ⟨b, 0, none⟩), .pointer (some ⟨g1, 0, none⟩), .pointer (some ⟨g2, 0, none⟩)] w fun e' w' => e' = .returned (.pointer (some ⟨b, 0, none⟩)) ∧ SpR w' b q m f sg ∧ Below B w w' := by
  obtain ⟨rfl, rfl, hs⟩ := hs
  rcases hs with ⟨rfl, rfl | rfl⟩ | ⟨rfl, rfl⟩
  · exact mulF_i21 b B B1 B2 g1 g2 q m p1 m1 p2 m2 f0 M N a0 e0 E F nz _ _ w h hB h1 h2 hb1 hb2 hq0 hq hp11 hp1' hp22 hp2' hm
  · exact mulF_i22 b B B1 B2 g1 g2 q m p1 m1 p2 m2 f0 M N a0 e0 E F nz _ _ w h hB h1 h2 hb1 hb2 hq0 hq hp11 hp1' hp22 hp2' hm
  · exact mulF_i12 b B B1 B2 g1 g2 q m p1 m1 p2 m2 f0 M N a0 e0 E F nz _ _ w h hB h1 h2 hb1 hb2 hq0 hq hp11 hp1' hp22 hp2' hm
set_option maxRecDepth 100000 in
set_option maxHeartbeats 6400000 in
theorem impSpMul (P E q k p1 m1 f1 p2 m2 f2 f : Nat) (n1 n2 sg : Bool) (v1 v2 : Value) (e1 e2 : Int) (xs ys : List Nat) (w : World) (hv1 : RW w v1 xs) (hv2 : RW w v2 ys) (ho1 : RealOk P E p1 m1 f1 xs e1) (ho2 : RealOk P E p2 m2 f2 ys e2) (hP : P ≤ 9000) (hE : E ≤ 400000) (hq0 : 0 < q) (hq : q ≤ 1000000) (hk : k ≤ 5) (hs : SpOk 2 f1 f2 n1 n2 f sg) (hT : TabW w) :
    Calls Tryz.prog 21 #[.int .u64 q, .int .i64 k, .agg #[.int .u64 p1, .int .i64 m1, .int .i64 f1, .bool n1, v1, .int .i64 e1], .agg #[.int .u64 p2, .int .i64 m2, .int .i64 f2, .bool n2, v2, .int .i64 e2]] w fun e' w' => ∃ z, e' = .returned (.tuple #[z, .int .i64 0]) ∧ RealV w' z q k f sg 1 0 ∧ Below w.heap.size w w' := by
  have hS1 := hv1.isS
  have hS2 := hv2.isS
  have hab := (Below.refl w.heap.size w).alloc (Nat.le_refl _) (.cells #[.int .u64 p1, .int .i64 m1, .int .i64 f1, .bool n1, v1, .int .i64 e1] 39)
  have hac := hab.alloc hab.size (.cells #[.int .u64 p2, .int .i64 m2, .int .i64 f2, .bool n2, v2, .int .i64 e2] 39)
  have had := hac.alloc hac.size (.cells #[.int .u64 0, .int .i64 0, .int .i64 0, .bool false, .slice none 0 0, .int .i64 0] 39)
  obtain ⟨X, hX⟩ : ∃ X, X = ((w.alloc (.cells #[.int .u64 p1, .int .i64 m1, .int .i64 f1, .bool n1, v1, .int .i64 e1] 39)).alloc (.cells #[.int .u64 p2, .int .i64 m2, .int .i64 f2, .bool n2, v2, .int .i64 e2] 39)).alloc (.cells #[.int .u64 0, .int .i64 0, .int .i64 0, .bool false, .slice none 0 0, .int .i64 0] 39) := ⟨_, rfl⟩
  have hr1 : X.heap[w.heap.size]? = some (.cells #[.int .u64 p1, .int .i64 m1, .int .i64 f1, .bool n1, v1, .int .i64 e1] 39 (0, 0)) := by
    rw [hX]; exact row_chain31
  have hr2 : X.heap[w.heap.size + 1]? = some (.cells #[.int .u64 p2, .int .i64 m2, .int .i64 f2, .bool n2, v2, .int .i64 e2] 39 (0, 0)) := by
    rw [hX]; exact row_chain32
  have hr3 : X.heap[w.heap.size + 2]? = some (.cells #[.int .u64 0, .int .i64 0, .int .i64 0, .bool false, .slice none 0 0, .int .i64 0] 39 (0, 0)) := by
    rw [hX]; exact row_chain33
  rw [← hX] at had
  have V1 := Lib.hid (hv1.below had)
  have V2 := Lib.hid (hv2.below had)
  have HO1 := Lib.hid ho1
  have HO2 := Lib.hid ho2
  have HT := Lib.hid (hT.below had)
  have HR1 := Lib.hid hr1
  have HR2 := Lib.hid hr2
  have HR3 := Lib.hid hr3
  have hwX := Lib.hid had
  have hcc := Below.refl X.heap.size X
  have hXs := had.size
  have hN1 := Lib.hid (show w.heap.size + 2 ≠ w.heap.size by omega)
  have hN2 := Lib.hid (show w.heap.size + 2 ≠ w.heap.size + 1 by omega)
  have hX2 : w.heap.size + 3 ≤ X.heap.size := by rw [hX]; simp
  have hp1 : 0 < p1 := ho1.1
  have hp2 : 0 < p2 := ho2.1
  have hpP1 : p1 ≤ 9000 := Nat.le_trans ho1.2.1 hP
  have hpP2 : p2 ≤ 9000 := Nat.le_trans ho2.2.1 hP
  have hf02 : f = 0 ∨ f = 2 := by unfold SpOk at hs; simp only at hs; omega
  have hf1 : f ≠ 1 := by omega
  have hf2' : f ≤ 2 := by omega
  have HF1 := Lib.hid hf1
  have HADD := Lib.hid (fun (W : World) (b g1 g2 B1 B2 : Nat) (h : FltR W b q k 0 0 false (.slice none 0 0) 0) (hB : X.heap.size ≤ b) (h1 : FloatAt W B1 g1 p1 m1 f1 n1 (wv xs) e1) (h2 : FloatAt W B2 g2 p2 m2 f2 n2 (wv ys) e2) (hb1 : b ≠ g1) (hb2 : b ≠ g2) =>
    spF_Mul b X.heap.size B1 B2 g1 g2 q k p1 m1 p2 m2 0 f1 f2 f (wv xs) (wv ys) 0 0 e1 e2 false n1 n2 sg W h hB h1 h2 hb1 hb2 hq0 (by omega) hp1 (by omega) hp2 (by omega) hk hs)
  clear hv1 hv2 ho1 ho2 hab hac had hr1 hr2 hr3 hT hs hf02 hf1
  go_enter Tryz.func21, Tryz.ntmps21
  go_upto_region 1 with fail
  rw [← hX]
  clear hX
  first
    | (go_region_held3 (fun w' => (w'.cell? ⟨w.heap.size, 0, none⟩ = some (.int .u64 (p1 : Int)) ∧ w'.cell? ⟨w.heap.size, 1, none⟩ = some (.int .i64 (m1 : Int)) ∧ w'.cell? ⟨w.heap.size, 2, none⟩ = some (.int .i64 (f1 : Int)) ∧ w'.cell? ⟨w.heap.size, 3, none⟩ = some (.bool n1) ∧ w'.cell? ⟨w.heap.size, 4, none⟩ = some v1 ∧ w'.cell? ⟨w.heap.size, 5, none⟩ = some (.int .i64 e1)) ∧ (w'.cell? ⟨w.heap.size + 1, 0, none⟩ = some (.int .u64 (p2 : Int)) ∧ w'.cell? ⟨w.heap.size + 1, 1, none⟩ = some (.int .i64 (m2 : Int)) ∧ w'.cell? ⟨w.heap.size + 1, 2, none⟩ = some (.int .i64 (f2 : Int)) ∧ w'.cell? ⟨w.heap.size + 1, 3, none⟩ = some (.bool n2) ∧ w'.cell? ⟨w.heap.size + 1, 4, none⟩ = some v2 ∧ w'.cell? ⟨w.heap.size + 1, 5, none⟩ = some (.int .i64 e2)))
        ((first | (refine ksT2 HR1.out HR2.out ?_; with_reducible first | assumption | exact Below.drew hcc) | with_reducible exact ⟨ks6R hN1.out (ks6R hN1.out (ks6R hN1.out (ks6R hN1.out (ks6R hN1.out (ks6R hN1.out (ks12 HR1.out hb7).2))))), ks6R hN2.out (ks6R hN2.out (ks6R hN2.out (ks6R hN2.out (ks6R hN2.out (ks6R hN2.out (ks12 HR2.out hb7).2)))))⟩))
        (first
          | (go_at_call 48; (with_reducible refine (float_any P E p2 m2 f2 n2 v2 e2 ys _ (V2.out.below hb4) HO2.out (by omega) (by omega)).mono ?_); rintro _ w5 ⟨g2, rfl, hF2, hb5⟩; have G0' := Lib.hid (G0.out.below hb5); have G1' := Lib.hid (G1.out.below hb5); have G2 := Lib.hid hF2; have hne2 := Lib.hid (show g0 ≠ g2 by have := G0.out.lt; have := hF2.1; omega); clear hF2; have hb5 := bthen hb4 hb5)
          | (go_at_call 48; (with_reducible refine (float_any P E p1 m1 f1 n1 v1 e1 xs _ (V1.out.below hb3) HO1.out (by omega) (by omega)).mono ?_); rintro _ w4 ⟨g1, rfl, hF1, hb4⟩; have G0 := Lib.hid (GF.out.below hb4); have G1 := Lib.hid hF1; have hne1 := Lib.hid (show g0 ≠ g1 by have := GF.out.lt; have := hF1.1; omega); clear hF1; have hb4 := bthen hb3 hb4)
          | (go_at_call 37; refine (fresh_all q k _ (by omega) (by omega)).mono ?_; rintro _ w3 ⟨g0, rfl, ⟨hg0, hF0⟩, hb3⟩; have hg0X : X.heap.size ≤ g0 := (by rw [hg0]; exact Nat.le_refl _); clear hg0; have GF := Lib.hid hF0; clear hF0; have hb3 : Below X.heap.size X w3 := bthen (Below.drew hcc) hb3)
          | (go_at_call 38; (with_reducible refine (HADD.out _ g0 g1 g2 _ _ G0'.out hg0X G1'.out G2.out hne1.out hne2.out).mono ?_); rintro _ w6 ⟨rfl, hA6, hb6⟩; have F6 := Lib.hid (hA6.fval HF1.out X.heap.size 1 0); clear hA6; have hb6 := bthenX hb5 hb6)
          | (go_at_call 47; (with_reducible refine (implBoth _ g0 q k f 0 _ _ _ _ F6.out hf2' (by omega) (by omega) (fun hc => absurd hc HF1.out) (fun hc => absurd hc HF1.out) (HT.out.below hb6) (by decide)).mono ?_); rintro _ w7 ⟨z, rfl, hz, hb7⟩; have hb7 := bthen hb6 hb7; have hq2 := keep_row hb7 HR3.out; obtain ⟨vz, Ez, zs, Bz, rfl, hz2, hzd, hz3, hz4⟩ := hz; have hSz := hz2.isS; obtain ⟨⟨y0, y1, y2, y3, y4, y5⟩, s0, s1, s2, s3, s4, s5⟩ := row6 hq2; have H2 := Lib.hid hz2; have H34 := Lib.hid (And.intro hzd (And.intro hz3 hz4)); have HQ2 := Lib.hid hq2; clear hz2 hzd hz3 hz4 hq2)))
    | fail
  all_goals go_wp2_with fail
  all_goals
    have HS := row6_set (x := .int .u64 (q : Int)) (y := .int .i64 (k : Int)) (z := .int .i64 (f : Int)) (x' := .bool sg) (y' := vz) (z' := .int .i64 Ez) HQ2.out
    have HB := bset6 (x := .int .u64 (q : Int)) (y := .int .i64 (k : Int)) (z := .int .i64 (f : Int)) (x' := .bool sg) (y' := vz) (z' := .int .i64 Ez) (hwX.out.trans (hb7.mono hXs)) (Nat.le_trans (Nat.le_succ _) (Nat.le_succ _))
    obtain ⟨⟨a0, a1, a2, a3, a4, a5⟩, -⟩ := row6 HS
    refine bodyPost_ret (v := .tuple #[.agg #[.int .u64 q, .int .i64 k, .int .i64 f, .bool sg, vz, .int .i64 Ez], .int .i64 0]) ?_ rfl ⟨_, rfl, ⟨_, _, _, Bz, rfl, ?_, H34.out.1, H34.out.2⟩, HB⟩
    · simp [results, Tryz.results21, go_sem, a0, a1, a2, a3, a4, a5]
    · exact H2.out.same fun hc => by
        have hne : sBlk vz ≠ w.heap.size + 2 := H2.out.ne_row HQ2.out (by decide) hc
        exact heap6_other hne
theorem spF_Quo (b B B1 B2 g1 g2 q m p1 m1 p2 m2 f0 f1 f2 f M N : Nat) (a0 e0 E F : Int) (nz n1 n2 sg : Bool) (w : World) (h : FltR w b q m a0 f0 nz (.slice none 0 0) e0) (hB : B ≤ b) (h1 : FloatAt w B1 g1 p1 m1 f1 n1 M E) (h2 : FloatAt w B2 g2 p2 m2 f2 n2 N F)
    (hb1 : b ≠ g1) (hb2 : b ≠ g2) (hq0 : 0 < q) (hq : q ≤ 64000000) (hp11 : 0 < p1) (hp1' : p1 ≤ 64000000) (hp22 : 0 < p2) (hp2' : p2 ≤ 64000000) (hm : m ≤ 5) (hs : SpOk 3 f1 f2 n1 n2 f sg) :
    Calls Tryz.prog 58 #[.pointer (some ⟨b, 0, none⟩), .pointer (some ⟨g1, 0, none⟩), .pointer (some ⟨g2, 0, none⟩)] w fun e' w' => e' = .returned (.pointer (some ⟨b, 0, none⟩)) ∧ SpR w' b q m f sg ∧ Below B w w' := by
  obtain ⟨rfl, hs⟩ := hs
  rcases hs with ⟨rfl, ⟨rfl, rfl | rfl⟩ | ⟨rfl, rfl⟩⟩ | ⟨rfl, ⟨rfl, rfl⟩ | ⟨rfl, rfl | rfl⟩⟩
  · exact quoF_i01 b B B1 B2 g1 g2 q m p1 m1 p2 m2 f0 M N a0 e0 E F nz _ _ w h hB h1 h2 hb1 hb2 hq0 hq hp11 hp1' hp22 hp2' hm
  · exact quoF_i02 b B B1 B2 g1 g2 q m p1 m1 p2 m2 f0 M N a0 e0 E F nz _ _ w h hB h1 h2 hb1 hb2 hq0 hq hp11 hp1' hp22 hp2' hm
  · exact quoF_i12 b B B1 B2 g1 g2 q m p1 m1 p2 m2 f0 M N a0 e0 E F nz _ _ w h hB h1 h2 hb1 hb2 hq0 hq hp11 hp1' hp22 hp2' hm
  · exact quoF_i10 b B B1 B2 g1 g2 q m p1 m1 p2 m2 f0 M N a0 e0 E F nz _ _ w h hB h1 h2 hb1 hb2 hq0 hq hp11 hp1' hp22 hp2' hm
  · exact quoF_i20 b B B1 B2 g1 g2 q m p1 m1 p2 m2 f0 M N a0 e0 E F nz _ _ w h hB h1 h2 hb1 hb2 hq0 hq hp11 hp1' hp22 hp2' hm
  · exact quoF_i21 b B B1 B2 g1 g2 q m p1 m1 p2 m2 f0 M N a0 e0 E F nz _ _ w h hB h1 h2 hb1 hb2 hq0 hq hp11 hp1' hp22 hp2' hm
set_option maxRecDepth 100000 in
set_option maxHeartbeats 6400000 in
theorem impSpQuo (P E q k p1 m1 f1 p2 m2 f2 f : Nat) (n1 n2 sg : Bool) (v1 v2 : Value) (e1 e2 : Int) (xs ys : List Nat) (w : World) (hv1 : RW w v1 xs) (hv2 : RW w v2 ys) (ho1 : RealOk P E p1 m1 f1 xs e1) (ho2 : RealOk P E p2 m2 f2 ys e2) (hP : P ≤ 9000) (hE : E ≤ 400000) (hq0 : 0 < q) (hq : q ≤ 1000000) (hk : k ≤ 5) (hs : SpOk 3 f1 f2 n1 n2 f sg) (hT : TabW w) :
    Calls Tryz.prog 31 #[.int .u64 q, .int .i64 k, .agg #[.int .u64 p1, .int .i64 m1, .int .i64 f1, .bool n1, v1, .int .i64 e1], .agg #[.int .u64 p2, .int .i64 m2, .int .i64 f2, .bool n2, v2, .int .i64 e2]] w fun e' w' => ∃ z, e' = .returned (.tuple #[z, .int .i64 0]) ∧ RealV w' z q k f sg 1 0 ∧ Below w.heap.size w w' := by
  have hS1 := hv1.isS
  have hS2 := hv2.isS
  have hab := (Below.refl w.heap.size w).alloc (Nat.le_refl _) (.cells #[.int .u64 p1, .int .i64 m1, .int .i64 f1, .bool n1, v1, .int .i64 e1] 39)
  have hac := hab.alloc hab.size (.cells #[.int .u64 p2, .int .i64 m2, .int .i64 f2, .bool n2, v2, .int .i64 e2] 39)
  have had := hac.alloc hac.size (.cells #[.int .u64 0, .int .i64 0, .int .i64 0, .bool false, .slice none 0 0, .int .i64 0] 39)
  obtain ⟨X, hX⟩ : ∃ X, X = ((w.alloc (.cells #[.int .u64 p1, .int .i64 m1, .int .i64 f1, .bool n1, v1, .int .i64 e1] 39)).alloc (.cells #[.int .u64 p2, .int .i64 m2, .int .i64 f2, .bool n2, v2, .int .i64 e2] 39)).alloc (.cells #[.int .u64 0, .int .i64 0, .int .i64 0, .bool false, .slice none 0 0, .int .i64 0] 39) := ⟨_, rfl⟩
  have hr1 : X.heap[w.heap.size]? = some (.cells #[.int .u64 p1, .int .i64 m1, .int .i64 f1, .bool n1, v1, .int .i64 e1] 39 (0, 0)) := by
    rw [hX]; exact row_chain31
  have hr2 : X.heap[w.heap.size + 1]? = some (.cells #[.int .u64 p2, .int .i64 m2, .int .i64 f2, .bool n2, v2, .int .i64 e2] 39 (0, 0)) := by
    rw [hX]; exact row_chain32
  have hr3 : X.heap[w.heap.size + 2]? = some (.cells #[.int .u64 0, .int .i64 0, .int .i64 0, .bool false, .slice none 0 0, .int .i64 0] 39 (0, 0)) := by
    rw [hX]; exact row_chain33
  rw [← hX] at had
  have V1 := Lib.hid (hv1.below had)
  have V2 := Lib.hid (hv2.below had)
  have HO1 := Lib.hid ho1
  have HO2 := Lib.hid ho2
  have HT := Lib.hid (hT.below had)
  have HR1 := Lib.hid hr1
  have HR2 := Lib.hid hr2
  have HR3 := Lib.hid hr3
  have hwX := Lib.hid had
  have hcc := Below.refl X.heap.size X
  have hXs := had.size
  have hN1 := Lib.hid (show w.heap.size + 2 ≠ w.heap.size by omega)
  have hN2 := Lib.hid (show w.heap.size + 2 ≠ w.heap.size + 1 by omega)
  have hX2 : w.heap.size + 3 ≤ X.heap.size := by rw [hX]; simp
  have hp1 : 0 < p1 := ho1.1
  have hp2 : 0 < p2 := ho2.1
  have hpP1 : p1 ≤ 9000 := Nat.le_trans ho1.2.1 hP
  have hpP2 : p2 ≤ 9000 := Nat.le_trans ho2.2.1 hP
  have hf02 : f = 0 ∨ f = 2 := by unfold SpOk at hs; simp only at hs; omega
  have hf1 : f ≠ 1 := by omega
  have hf2' : f ≤ 2 := by omega
  have HF1 := Lib.hid hf1
  have HADD := Lib.hid (fun (W : World) (b g1 g2 B1 B2 : Nat) (h : FltR W b q k 0 0 false (.slice none 0 0) 0) (hB : X.heap.size ≤ b) (h1 : FloatAt W B1 g1 p1 m1 f1 n1 (wv xs) e1) (h2 : FloatAt W B2 g2 p2 m2 f2 n2 (wv ys) e2) (hb1 : b ≠ g1) (hb2 : b ≠ g2) =>
    spF_Quo b X.heap.size B1 B2 g1 g2 q k p1 m1 p2 m2 0 f1 f2 f (wv xs) (wv ys) 0 0 e1 e2 false n1 n2 sg W h hB h1 h2 hb1 hb2 hq0 (by omega) hp1 (by omega) hp2 (by omega) hk hs)
  clear hv1 hv2 ho1 ho2 hab hac had hr1 hr2 hr3 hT hs hf02 hf1
  go_enter Tryz.func31, Tryz.ntmps31
  go_upto_region 1 with fail
  rw [← hX]
  clear hX
  first
    | (go_region_held3 (fun w' => (w'.cell? ⟨w.heap.size, 0, none⟩ = some (.int .u64 (p1 : Int)) ∧ w'.cell? ⟨w.heap.size, 1, none⟩ = some (.int .i64 (m1 : Int)) ∧ w'.cell? ⟨w.heap.size, 2, none⟩ = some (.int .i64 (f1 : Int)) ∧ w'.cell? ⟨w.heap.size, 3, none⟩ = some (.bool n1) ∧ w'.cell? ⟨w.heap.size, 4, none⟩ = some v1 ∧ w'.cell? ⟨w.heap.size, 5, none⟩ = some (.int .i64 e1)) ∧ (w'.cell? ⟨w.heap.size + 1, 0, none⟩ = some (.int .u64 (p2 : Int)) ∧ w'.cell? ⟨w.heap.size + 1, 1, none⟩ = some (.int .i64 (m2 : Int)) ∧ w'.cell? ⟨w.heap.size + 1, 2, none⟩ = some (.int .i64 (f2 : Int)) ∧ w'.cell? ⟨w.heap.size + 1, 3, none⟩ = some (.bool n2) ∧ w'.cell? ⟨w.heap.size + 1, 4, none⟩ = some v2 ∧ w'.cell? ⟨w.heap.size + 1, 5, none⟩ = some (.int .i64 e2)))
        ((first | (refine ksT2 HR1.out HR2.out ?_; with_reducible first | assumption | exact Below.drew hcc) | with_reducible exact ⟨ks6R hN1.out (ks6R hN1.out (ks6R hN1.out (ks6R hN1.out (ks6R hN1.out (ks6R hN1.out (ks12 HR1.out hb7).2))))), ks6R hN2.out (ks6R hN2.out (ks6R hN2.out (ks6R hN2.out (ks6R hN2.out (ks6R hN2.out (ks12 HR2.out hb7).2)))))⟩))
        (first
          | (go_at_call 48; (with_reducible refine (float_any P E p2 m2 f2 n2 v2 e2 ys _ (V2.out.below hb4) HO2.out (by omega) (by omega)).mono ?_); rintro _ w5 ⟨g2, rfl, hF2, hb5⟩; have G0' := Lib.hid (G0.out.below hb5); have G1' := Lib.hid (G1.out.below hb5); have G2 := Lib.hid hF2; have hne2 := Lib.hid (show g0 ≠ g2 by have := G0.out.lt; have := hF2.1; omega); clear hF2; have hb5 := bthen hb4 hb5)
          | (go_at_call 48; (with_reducible refine (float_any P E p1 m1 f1 n1 v1 e1 xs _ (V1.out.below hb3) HO1.out (by omega) (by omega)).mono ?_); rintro _ w4 ⟨g1, rfl, hF1, hb4⟩; have G0 := Lib.hid (GF.out.below hb4); have G1 := Lib.hid hF1; have hne1 := Lib.hid (show g0 ≠ g1 by have := GF.out.lt; have := hF1.1; omega); clear hF1; have hb4 := bthen hb3 hb4)
          | (go_at_call 37; refine (fresh_all q k _ (by omega) (by omega)).mono ?_; rintro _ w3 ⟨g0, rfl, ⟨hg0, hF0⟩, hb3⟩; have hg0X : X.heap.size ≤ g0 := (by rw [hg0]; exact Nat.le_refl _); clear hg0; have GF := Lib.hid hF0; clear hF0; have hb3 : Below X.heap.size X w3 := bthen (Below.drew hcc) hb3)
          | (go_at_call 58; (with_reducible refine (HADD.out _ g0 g1 g2 _ _ G0'.out hg0X G1'.out G2.out hne1.out hne2.out).mono ?_); rintro _ w6 ⟨rfl, hA6, hb6⟩; have F6 := Lib.hid (hA6.fval HF1.out X.heap.size 1 0); clear hA6; have hb6 := bthenX hb5 hb6)
          | (go_at_call 47; (with_reducible refine (implBoth _ g0 q k f 0 _ _ _ _ F6.out hf2' (by omega) (by omega) (fun hc => absurd hc HF1.out) (fun hc => absurd hc HF1.out) (HT.out.below hb6) (by decide)).mono ?_); rintro _ w7 ⟨z, rfl, hz, hb7⟩; have hb7 := bthen hb6 hb7; have hq2 := keep_row hb7 HR3.out; obtain ⟨vz, Ez, zs, Bz, rfl, hz2, hzd, hz3, hz4⟩ := hz; have hSz := hz2.isS; obtain ⟨⟨y0, y1, y2, y3, y4, y5⟩, s0, s1, s2, s3, s4, s5⟩ := row6 hq2; have H2 := Lib.hid hz2; have H34 := Lib.hid (And.intro hzd (And.intro hz3 hz4)); have HQ2 := Lib.hid hq2; clear hz2 hzd hz3 hz4 hq2)))
    | fail
  all_goals go_wp2_with fail
  all_goals
    have HS := row6_set (x := .int .u64 (q : Int)) (y := .int .i64 (k : Int)) (z := .int .i64 (f : Int)) (x' := .bool sg) (y' := vz) (z' := .int .i64 Ez) HQ2.out
    have HB := bset6 (x := .int .u64 (q : Int)) (y := .int .i64 (k : Int)) (z := .int .i64 (f : Int)) (x' := .bool sg) (y' := vz) (z' := .int .i64 Ez) (hwX.out.trans (hb7.mono hXs)) (Nat.le_trans (Nat.le_succ _) (Nat.le_succ _))
    obtain ⟨⟨a0, a1, a2, a3, a4, a5⟩, -⟩ := row6 HS
    refine bodyPost_ret (v := .tuple #[.agg #[.int .u64 q, .int .i64 k, .int .i64 f, .bool sg, vz, .int .i64 Ez], .int .i64 0]) ?_ rfl ⟨_, rfl, ⟨_, _, _, Bz, rfl, ?_, H34.out.1, H34.out.2⟩, HB⟩
    · simp [results, Tryz.results31, go_sem, a0, a1, a2, a3, a4, a5]
    · exact H2.out.same fun hc => by
        have hne : sBlk vz ≠ w.heap.size + 2 := H2.out.ne_row HQ2.out (by decide) hc
        exact heap6_other hne
end Go.Proofs.YtgclooabjilniaaGreatDoor

/-
The statement on infinite operands. No condition.
-/
namespace Go.Proofs.YtgclooabjilniaaGreatDoor
open Go.RowKit

theorem didSpAdd (q k p1 m1 f1 p2 m2 f2 f : Nat) (n1 n2 sg : Bool) (v1 v2 : Value) (e1 e2 : Int) (xs ys : List Nat) (w : World) (hv1 : RW w v1 xs) (hv2 : RW w v2 ys) (ho1 : RealOk 300 1000 p1 m1 f1 xs e1) (ho2 : RealOk 300 1000 p2 m2 f2 ys e2) (hq0 : 0 < q) (hq : q ≤ 300) (hk : k ≤ 5) (hs : SpOk 0 f1 f2 n1 n2 f sg) (hT : TabW w) :
    Calls Tryz.prog 33 #[.int .i64 0, .int .u64 q, .int .i64 k, .agg #[.int .u64 p1, .int .i64 m1, .int .i64 f1, .bool n1, v1, .int .i64 e1], .agg #[.int .u64 p2, .int .i64 m2, .int .i64 f2, .bool n2, v2, .int .i64 e2]] w fun e' w' => ∃ z, e' = .returned (.tuple #[z, .int .i64 0]) ∧ RealV w' z q k f sg 1 0 ∧ Below w.heap.size w w' :=
  did0 q k p1 m1 f1 p2 m2 f2 f 1 n1 n2 sg v1 v2 e1 e2 0 0 w hv1.isS hv2.isS (fun W hb =>
    impSpAdd 300 1000 q k p1 m1 f1 p2 m2 f2 f n1 n2 sg v1 v2 e1 e2 xs ys W (hv1.below hb) (hv2.below hb) ho1 ho2 (by decide) (by decide) hq0 (by omega) hk hs (hT.below hb))
set_option maxRecDepth 100000 in
set_option maxHeartbeats 6400000 in
theorem lawInfinite0 (a0 : Int) (a1 : Int) (a2 : Int) (p1 : Nat) (m1 f1 : Int) (n1 : Bool) (v1 : Value) (e1 : Int) (xs1 : List Nat) (p2 : Nat) (m2 f2 : Int) (n2 : Bool) (v2 : Value) (e2 : Int) (xs2 : List Nat) (w : World) (hop : a0 % 4 = 0) (hT : TabW w) (l0 : 0 ≤ a0) (h0 : a0 ≤ 255) (l1 : 0 ≤ a1) (h1 : a1 ≤ 65535) (l2 : 0 ≤ a2) (h2 : a2 ≤ 255) (hv1 : RW w v1 xs1) (_hg1 : p1 ≤ 18446744073709551615 ∧ (-9223372036854775808 ≤ m1 ∧ m1 ≤ 9223372036854775807) ∧ (-9223372036854775808 ≤ f1 ∧ f1 ≤ 9223372036854775807) ∧ (-9223372036854775808 ≤ e1 ∧ e1 ≤ 9223372036854775807)) (hv2 : RW w v2 xs2) (_hg2 : p2 ≤ 18446744073709551615 ∧ (-9223372036854775808 ≤ m2 ∧ m2 ≤ 9223372036854775807) ∧ (-9223372036854775808 ≤ f2 ∧ f2 ≤ 9223372036854775807) ∧ (-9223372036854775808 ≤ e2 ∧ e2 ≤ 9223372036854775807)) :
    Calls Tryz.prog 9 #[.int .u8 a0, .int .u16 a1, .int .u8 a2, .agg #[.int .u64 p1, .int .i64 m1, .int .i64 f1, .bool n1, v1, .int .i64 e1], .agg #[.int .u64 p2, .int .i64 m2, .int .i64 f2, .bool n2, v2, .int .i64 e2]] w fun e' w' => e' = .returned (.bool true) ∧ Below w.heap.size w w' := by
  obtain ⟨b0, rfl⟩ := Int.eq_ofNat_of_zero_le l0
  have ib0 : b0 ≤ 255 := by omega
  obtain ⟨b1, rfl⟩ := Int.eq_ofNat_of_zero_le l1
  have ib1 : b1 ≤ 65535 := by omega
  obtain ⟨b2, rfl⟩ := Int.eq_ofNat_of_zero_le l2
  have ib2 : b2 ≤ 255 := by omega
  have hS1 := hv1.isS
  clear _hg1
  have hS2 := hv2.isS
  clear _hg2
  have hab1 := (Below.refl w.heap.size w).alloc (Nat.le_refl _) (.cells #[.int .u64 p1, .int .i64 m1, .int .i64 f1, .bool n1, v1, .int .i64 e1] 39)
  have hab2 := hab1.alloc hab1.size (.cells #[.int .u64 p2, .int .i64 m2, .int .i64 f2, .bool n2, v2, .int .i64 e2] 39)
  obtain ⟨X, hX⟩ : ∃ X, X = ((w.alloc (.cells #[.int .u64 p1, .int .i64 m1, .int .i64 f1, .bool n1, v1, .int .i64 e1] 39)).alloc (.cells #[.int .u64 p2, .int .i64 m2, .int .i64 f2, .bool n2, v2, .int .i64 e2] 39)) := ⟨_, rfl⟩
  have hr1 : X.heap[w.heap.size]? = some (.cells #[.int .u64 p1, .int .i64 m1, .int .i64 f1, .bool n1, v1, .int .i64 e1] 39 (0, 0)) := by
    rw [hX]; exact row_chain21
  have hr2 : X.heap[w.heap.size + 1]? = some (.cells #[.int .u64 p2, .int .i64 m2, .int .i64 f2, .bool n2, v2, .int .i64 e2] 39 (0, 0)) := by
    rw [hX]; exact row_chain22
  rw [← hX] at hab2
  obtain ⟨-, ⟨⟨c10, c11, c12, c13, c14, c15⟩, ⟨c20, c21, c22, c23, c24, c25⟩⟩⟩ := ksR2 hr1 hr2 (Below.refl _ _)
  have HR1 := Lib.hid hr1
  have V1 := Lib.hid (hv1.below hab2)
  have HR2 := Lib.hid hr2
  have V2 := Lib.hid (hv2.below hab2)
  have hXs := hab2.size
  have HW := Lib.hid hab2
  have T0 := Lib.hid (hT.below hab2)
  clear hT
  clear hr1 hv1 hr2 hv2
  clear hab2 hab1
  go_enter Tryz.func9, Tryz.ntmps9
  go_upto_region 1 with fail
  rw [← hX]
  clear hX
  go_wp2_with fail
  refine (zzFits1_any p1 m1 f1 e1 n1 v1 xs1 X V1.out).mono ?_
  rintro _ w1 ⟨rfl, hb1⟩
  obtain ⟨fits, hfits⟩ : ∃ f, f = decide (xs1.length ≤ 2147483647) := ⟨_, rfl⟩
  rw [← hfits]
  clear c10 c11 c12 c13 c14 c15 c20 c21 c22 c23 c24 c25 hfits
  obtain ⟨-, ⟨⟨c10, c11, c12, c13, c14, c15⟩, ⟨c20, c21, c22, c23, c24, c25⟩⟩⟩ := ksR2 HR1.out HR2.out hb1
  have HB := Lib.hid hb1
  clear hb1
  cases fits with
  | false =>
    go_wp2
    go_ret
    exact ⟨rfl, HW.out.trans (HB.out.mono hXs)⟩
  | true =>
  go_wp2_with fail
  refine (zzFits1_any p2 m2 f2 e2 n2 v2 xs2 w1 (V2.out.below HB.out)).mono ?_
  rintro _ w2 ⟨rfl, hb1⟩
  have hb1 := bthen HB.out hb1
  obtain ⟨fits, hfits⟩ : ∃ f, f = decide (xs2.length ≤ 2147483647) := ⟨_, rfl⟩
  rw [← hfits]
  clear c10 c11 c12 c13 c14 c15 c20 c21 c22 c23 c24 c25 HB hfits
  obtain ⟨-, ⟨⟨c10, c11, c12, c13, c14, c15⟩, ⟨c20, c21, c22, c23, c24, c25⟩⟩⟩ := ksR2 HR1.out HR2.out hb1
  have HB := Lib.hid hb1
  clear hb1
  cases fits with
  | false =>
    go_wp2
    go_ret
    exact ⟨rfl, HW.out.trans (HB.out.mono hXs)⟩
  | true =>
  go_wp2_with fail
  refine (real_any 300 1000 p1 m1 f1 e1 n1 v1 xs1 w2 (V1.out.below HB.out) (by decide) (by decide)).mono ?_
  rintro _ w3 ⟨ok, rfl, hok, hb1⟩
  have hb1 := bthen HB.out hb1
  have HO1 := Lib.hid hok
  clear c10 c11 c12 c13 c14 c15 c20 c21 c22 c23 c24 c25 HB hok
  obtain ⟨-, ⟨⟨c10, c11, c12, c13, c14, c15⟩, ⟨c20, c21, c22, c23, c24, c25⟩⟩⟩ := ksR2 HR1.out HR2.out hb1
  have HB := Lib.hid hb1
  clear hb1
  cases ok with
  | false =>
    go_wp2
    go_ret
    exact ⟨rfl, HW.out.trans (HB.out.mono hXs)⟩
  | true =>
  obtain ⟨P1, M1, F1, hp, rfl, rfl, hR⟩ := HO1.out rfl
  have hpp : P1 = p1 := by omega
  subst hpp
  have R1 := Lib.hid hR
  clear HO1 hp hR
  go_wp2_with fail
  refine (real_any 300 1000 p2 m2 f2 e2 n2 v2 xs2 w3 (V2.out.below HB.out) (by decide) (by decide)).mono ?_
  rintro _ w4 ⟨ok, rfl, hok, hb1⟩
  have hb1 := bthen HB.out hb1
  have HO2 := Lib.hid hok
  clear c10 c11 c12 c13 c14 c15 c20 c21 c22 c23 c24 c25 HB hok
  obtain ⟨-, ⟨⟨c10, c11, c12, c13, c14, c15⟩, ⟨c20, c21, c22, c23, c24, c25⟩⟩⟩ := ksR2 HR1.out HR2.out hb1
  have HB := Lib.hid hb1
  clear hb1
  cases ok with
  | false =>
    go_wp2
    go_ret
    exact ⟨rfl, HW.out.trans (HB.out.mono hXs)⟩
  | true =>
  obtain ⟨P2, M2, F2, hp, rfl, rfl, hR⟩ := HO2.out rfl
  have hpp : P2 = p2 := by omega
  subst hpp
  have R2 := Lib.hid hR
  clear HO2 hp hR
  have hWW := HW.out.trans (HB.out.mono hXs)
  have hV1 := V1.out.below HB.out
  have hr1 := keep_row HB.out HR1.out
  have hV2 := V2.out.below HB.out
  have hr2 := keep_row HB.out HR2.out
  have hT0 := T0.out.below HB.out
  clear T0
  have T0 := Lib.hid hT0
  clear hT0
  clear HW HB hXs V1 HR1 V2 HR2
  have HW := Lib.hid hWW
  have V1 := Lib.hid hV1
  have HR1 := Lib.hid hr1
  have V2 := Lib.hid hV2
  have HR2 := Lib.hid hr2
  have hWs := HW.out.size
  clear hWW hV1 hr1 hV2 hr2
  have q0 : (b0 : Int) % 4 = 0 := hop
  have q1 : (b1 : Int) % 300 = ((b1 % 300 : Nat) : Int) := by omega
  have q2 : (1 : Int) + ((b1 % 300 : Nat) : Int) = ((1 + b1 % 300 : Nat) : Int) := by omega
  have q3 : (b2 : Int) % 6 = ((b2 % 6 : Nat) : Int) := by omega
  have hZ0 : 0 < 1 + b1 % 300 := by omega
  have hZ1 : 1 + b1 % 300 ≤ 300 := by omega
  have hrb : b1 % 300 ≤ 299 := by omega
  have hkb : b2 % 6 ≤ 5 := by omega
  obtain ⟨Z, hZ⟩ : ∃ Z, Z = 1 + b1 % 300 := ⟨_, rfl⟩
  rw [← hZ] at q2 hZ0 hZ1
  obtain ⟨r, hr⟩ : ∃ r, r = b1 % 300 := ⟨_, rfl⟩
  rw [← hr] at q1 q2 hrb
  obtain ⟨k, hk⟩ : ∃ k, k = b2 % 6 := ⟨_, rfl⟩
  rw [← hk] at q3 hkb
  have HZ0 := Lib.hid hZ0
  clear hZ hr hk hop
  have hg1 := R1.out.form'
  have hg2 := R2.out.form'
  by_cases h1 : F1 = 2
  · have te1 : ((F1 : Int) == 2) = true := by rw [h1]; rfl
    have tn1 : ((F1 : Int) != 2) = false := by rw [h1]; rfl
    have tz1 : ((F1 : Int) == 0) = false := by rw [h1]; rfl
    have HE1 := Lib.hid h1
    clear h1
    by_cases h2 : F2 = 2
    · have te2 : ((F2 : Int) == 2) = true := by rw [h2]; rfl
      have tn2 : ((F2 : Int) != 2) = false := by rw [h2]; rfl
      have tz2 : ((F2 : Int) == 0) = false := by rw [h2]; rfl
      have HE2 := Lib.hid h2
      clear h2
      by_cases hn : n1 = n2
      · subst hn
        clear hg1 hg2
        have HC := Lib.hid (didSpAdd Z k P1 M1 F1 P2 M2 F2 2 n1 n1 n1 v1 v2 e1 e2 xs1 xs2 w4 V1.out V2.out R1.out R2.out HZ0.out hZ1 hkb ⟨rfl, .inr (.inr ⟨HE1.out, HE2.out, rfl, rfl⟩)⟩ T0.out)
        go_wp2_with fail
        refine HC.out.mono ?_
        rintro _ wN ⟨z, rfl, hz, hb1⟩
        obtain ⟨vz, rfl, hRz⟩ := hz.canon
        obtain ⟨Ez, hEz⟩ : ∃ Ez, Ez = zEx 2 1 0 := ⟨_, rfl⟩
        rw [← hEz]
        have hSz := hRz.isS
        clear hEz
        obtain ⟨Y, hY⟩ : ∃ Y, Y = wN.alloc (.cells #[.int .u64 (Z : Int), .int .i64 (k : Int), .int .i64 2, .bool n1, vz, .int .i64 Ez] 39) := ⟨_, rfl⟩
        have hbY : Below wN.heap.size wN Y := by rw [hY]; exact fbone _
        have hrz : Y.heap[wN.heap.size]? = some (.cells #[.int .u64 (Z : Int), .int .i64 (k : Int), .int .i64 2, .bool n1, vz, .int .i64 Ez] 39 (0, 0)) := by rw [hY]; exact row_chain11
        have hbX := bthen hb1 hbY
        have hr1 := keep_row hbX HR1.out
        have hr2 := keep_row hbX HR2.out
        have HWY := Lib.hid (HW.out.trans (hbX.mono hWs))
        clear c10 c11 c12 c13 c14 c15 c20 c21 c22 c23 c24 c25
        obtain ⟨-, ⟨x10, x11, x12, x13, x14, x15⟩, ⟨x20, x21, x22, x23, x24, x25⟩, ⟨x30, x31, x32, x33, x34, x35⟩⟩ := ksR3 hr1 hr2 hrz (Below.refl _ _)
        clear hb1 hbY hrz hbX hz hRz hr1 hr2 HC
        go_upto_region 19 with fail
        rw [← hY]
        clear hY
        go_wp2
        go_ret
        exact ⟨rfl, HWY.out⟩
      · have tb : (!n1 == n2) = true := by cases n1 <;> cases n2 <;> simp_all
        clear hn
        clear hg1 hg2
        go_wp2
        go_ret
        exact ⟨rfl, HW.out⟩
    · have te2 : ((F2 : Int) == 2) = false := by rw [beq_eq_false_iff_ne]; omega
      have tn2 : ((F2 : Int) != 2) = true := by rw [bne_iff_ne]; omega
      have HE2 : Hid (F2 ≤ 1) := Lib.hid (by omega)
      clear h2
      clear hg1 hg2
      have HC := Lib.hid (didSpAdd Z k P1 M1 F1 P2 M2 F2 2 n1 n2 n1 v1 v2 e1 e2 xs1 xs2 w4 V1.out V2.out R1.out R2.out HZ0.out hZ1 hkb ⟨rfl, .inl ⟨HE1.out, HE2.out, rfl⟩⟩ T0.out)
      go_wp2_with fail
      refine HC.out.mono ?_
      rintro _ wN ⟨z, rfl, hz, hb1⟩
      obtain ⟨vz, rfl, hRz⟩ := hz.canon
      obtain ⟨Ez, hEz⟩ : ∃ Ez, Ez = zEx 2 1 0 := ⟨_, rfl⟩
      rw [← hEz]
      have hSz := hRz.isS
      clear hEz
      obtain ⟨Y, hY⟩ : ∃ Y, Y = wN.alloc (.cells #[.int .u64 (Z : Int), .int .i64 (k : Int), .int .i64 2, .bool n1, vz, .int .i64 Ez] 39) := ⟨_, rfl⟩
      have hbY : Below wN.heap.size wN Y := by rw [hY]; exact fbone _
      have hrz : Y.heap[wN.heap.size]? = some (.cells #[.int .u64 (Z : Int), .int .i64 (k : Int), .int .i64 2, .bool n1, vz, .int .i64 Ez] 39 (0, 0)) := by rw [hY]; exact row_chain11
      have hbX := bthen hb1 hbY
      have hr1 := keep_row hbX HR1.out
      have hr2 := keep_row hbX HR2.out
      have HWY := Lib.hid (HW.out.trans (hbX.mono hWs))
      clear c10 c11 c12 c13 c14 c15 c20 c21 c22 c23 c24 c25
      obtain ⟨-, ⟨x10, x11, x12, x13, x14, x15⟩, ⟨x20, x21, x22, x23, x24, x25⟩, ⟨x30, x31, x32, x33, x34, x35⟩⟩ := ksR3 hr1 hr2 hrz (Below.refl _ _)
      clear hb1 hbY hrz hbX hz hRz hr1 hr2 HC
      go_upto_region 19 with fail
      rw [← hY]
      clear hY
      go_wp2
      go_ret
      exact ⟨rfl, HWY.out⟩
  · have te1 : ((F1 : Int) == 2) = false := by rw [beq_eq_false_iff_ne]; omega
    have tn1 : ((F1 : Int) != 2) = true := by rw [bne_iff_ne]; omega
    have HE1 : Hid (F1 ≤ 1) := Lib.hid (by omega)
    clear h1
    by_cases h2 : F2 = 2
    · have te2 : ((F2 : Int) == 2) = true := by rw [h2]; rfl
      have tn2 : ((F2 : Int) != 2) = false := by rw [h2]; rfl
      have tz2 : ((F2 : Int) == 0) = false := by rw [h2]; rfl
      have HE2 := Lib.hid h2
      clear h2
      clear hg1 hg2
      have HC := Lib.hid (didSpAdd Z k P1 M1 F1 P2 M2 F2 2 n1 n2 n2 v1 v2 e1 e2 xs1 xs2 w4 V1.out V2.out R1.out R2.out HZ0.out hZ1 hkb ⟨rfl, .inr (.inl ⟨HE1.out, HE2.out, rfl⟩)⟩ T0.out)
      go_wp2_with fail
      refine HC.out.mono ?_
      rintro _ wN ⟨z, rfl, hz, hb1⟩
      obtain ⟨vz, rfl, hRz⟩ := hz.canon
      obtain ⟨Ez, hEz⟩ : ∃ Ez, Ez = zEx 2 1 0 := ⟨_, rfl⟩
      rw [← hEz]
      have hSz := hRz.isS
      clear hEz
      obtain ⟨Y, hY⟩ : ∃ Y, Y = wN.alloc (.cells #[.int .u64 (Z : Int), .int .i64 (k : Int), .int .i64 2, .bool n2, vz, .int .i64 Ez] 39) := ⟨_, rfl⟩
      have hbY : Below wN.heap.size wN Y := by rw [hY]; exact fbone _
      have hrz : Y.heap[wN.heap.size]? = some (.cells #[.int .u64 (Z : Int), .int .i64 (k : Int), .int .i64 2, .bool n2, vz, .int .i64 Ez] 39 (0, 0)) := by rw [hY]; exact row_chain11
      have hbX := bthen hb1 hbY
      have hr1 := keep_row hbX HR1.out
      have hr2 := keep_row hbX HR2.out
      have HWY := Lib.hid (HW.out.trans (hbX.mono hWs))
      clear c10 c11 c12 c13 c14 c15 c20 c21 c22 c23 c24 c25
      obtain ⟨-, ⟨x10, x11, x12, x13, x14, x15⟩, ⟨x20, x21, x22, x23, x24, x25⟩, ⟨x30, x31, x32, x33, x34, x35⟩⟩ := ksR3 hr1 hr2 hrz (Below.refl _ _)
      clear hb1 hbY hrz hbX hz hRz hr1 hr2 HC
      go_upto_region 19 with fail
      rw [← hY]
      clear hY
      go_wp2
      go_ret
      exact ⟨rfl, HWY.out⟩
    · have te2 : ((F2 : Int) == 2) = false := by rw [beq_eq_false_iff_ne]; omega
      have tn2 : ((F2 : Int) != 2) = true := by rw [bne_iff_ne]; omega
      have HE2 : Hid (F2 ≤ 1) := Lib.hid (by omega)
      clear h2
      clear hg1 hg2
      go_wp2
      go_ret
      exact ⟨rfl, HW.out⟩
end Go.Proofs.YtgclooabjilniaaGreatDoor

/-
The statement on infinite operands. No condition.
-/
namespace Go.Proofs.YtgclooabjilniaaGreatDoor
open Go.RowKit

theorem didSpSub (q k p1 m1 f1 p2 m2 f2 f : Nat) (n1 n2 sg : Bool) (v1 v2 : Value) (e1 e2 : Int) (xs ys : List Nat) (w : World) (hv1 : RW w v1 xs) (hv2 : RW w v2 ys) (ho1 : RealOk 300 1000 p1 m1 f1 xs e1) (ho2 : RealOk 300 1000 p2 m2 f2 ys e2) (hq0 : 0 < q) (hq : q ≤ 300) (hk : k ≤ 5) (hs : SpOk 1 f1 f2 n1 n2 f sg) (hT : TabW w) :
    Calls Tryz.prog 33 #[.int .i64 1, .int .u64 q, .int .i64 k, .agg #[.int .u64 p1, .int .i64 m1, .int .i64 f1, .bool n1, v1, .int .i64 e1], .agg #[.int .u64 p2, .int .i64 m2, .int .i64 f2, .bool n2, v2, .int .i64 e2]] w fun e' w' => ∃ z, e' = .returned (.tuple #[z, .int .i64 0]) ∧ RealV w' z q k f sg 1 0 ∧ Below w.heap.size w w' :=
  did1 q k p1 m1 f1 p2 m2 f2 f 1 n1 n2 sg v1 v2 e1 e2 0 0 w hv1.isS hv2.isS (fun W hb =>
    impSpSub 300 1000 q k p1 m1 f1 p2 m2 f2 f n1 n2 sg v1 v2 e1 e2 xs ys W (hv1.below hb) (hv2.below hb) ho1 ho2 (by decide) (by decide) hq0 (by omega) hk hs (hT.below hb))
set_option maxRecDepth 100000 in
set_option maxHeartbeats 6400000 in
theorem lawInfinite1 (a0 : Int) (a1 : Int) (a2 : Int) (p1 : Nat) (m1 f1 : Int) (n1 : Bool) (v1 : Value) (e1 : Int) (xs1 : List Nat) (p2 : Nat) (m2 f2 : Int) (n2 : Bool) (v2 : Value) (e2 : Int) (xs2 : List Nat) (w : World) (hop : a0 % 4 = 1) (hT : TabW w) (l0 : 0 ≤ a0) (h0 : a0 ≤ 255) (l1 : 0 ≤ a1) (h1 : a1 ≤ 65535) (l2 : 0 ≤ a2) (h2 : a2 ≤ 255) (hv1 : RW w v1 xs1) (_hg1 : p1 ≤ 18446744073709551615 ∧ (-9223372036854775808 ≤ m1 ∧ m1 ≤ 9223372036854775807) ∧ (-9223372036854775808 ≤ f1 ∧ f1 ≤ 9223372036854775807) ∧ (-9223372036854775808 ≤ e1 ∧ e1 ≤ 9223372036854775807)) (hv2 : RW w v2 xs2) (_hg2 : p2 ≤ 18446744073709551615 ∧ (-9223372036854775808 ≤ m2 ∧ m2 ≤ 9223372036854775807) ∧ (-9223372036854775808 ≤ f2 ∧ f2 ≤ 9223372036854775807) ∧ (-9223372036854775808 ≤ e2 ∧ e2 ≤ 9223372036854775807)) :
    Calls Tryz.prog 9 #[.int .u8 a0, .int .u16 a1, .int .u8 a2, .agg #[.int .u64 p1, .int .i64 m1, .int .i64 f1, .bool n1, v1, .int .i64 e1], .agg #[.int .u64 p2, .int .i64 m2, .int .i64 f2, .bool n2, v2, .int .i64 e2]] w fun e' w' => e' = .returned (.bool true) ∧ Below w.heap.size w w' := by
  obtain ⟨b0, rfl⟩ := Int.eq_ofNat_of_zero_le l0
  have ib0 : b0 ≤ 255 := by omega
  obtain ⟨b1, rfl⟩ := Int.eq_ofNat_of_zero_le l1
  have ib1 : b1 ≤ 65535 := by omega
  obtain ⟨b2, rfl⟩ := Int.eq_ofNat_of_zero_le l2
  have ib2 : b2 ≤ 255 := by omega
  have hS1 := hv1.isS
  clear _hg1
  have hS2 := hv2.isS
  clear _hg2
  have hab1 := (Below.refl w.heap.size w).alloc (Nat.le_refl _) (.cells #[.int .u64 p1, .int .i64 m1, .int .i64 f1, .bool n1, v1, .int .i64 e1] 39)
  have hab2 := hab1.alloc hab1.size (.cells #[.int .u64 p2, .int .i64 m2, .int .i64 f2, .bool n2, v2, .int .i64 e2] 39)
  obtain ⟨X, hX⟩ : ∃ X, X = ((w.alloc (.cells #[.int .u64 p1, .int .i64 m1, .int .i64 f1, .bool n1, v1, .int .i64 e1] 39)).alloc (.cells #[.int .u64 p2, .int .i64 m2, .int .i64 f2, .bool n2, v2, .int .i64 e2] 39)) := ⟨_, rfl⟩
  have hr1 : X.heap[w.heap.size]? = some (.cells #[.int .u64 p1, .int .i64 m1, .int .i64 f1, .bool n1, v1, .int .i64 e1] 39 (0, 0)) := by
    rw [hX]; exact row_chain21
  have hr2 : X.heap[w.heap.size + 1]? = some (.cells #[.int .u64 p2, .int .i64 m2, .int .i64 f2, .bool n2, v2, .int .i64 e2] 39 (0, 0)) := by
    rw [hX]; exact row_chain22
  rw [← hX] at hab2
  obtain ⟨-, ⟨⟨c10, c11, c12, c13, c14, c15⟩, ⟨c20, c21, c22, c23, c24, c25⟩⟩⟩ := ksR2 hr1 hr2 (Below.refl _ _)
  have HR1 := Lib.hid hr1
  have V1 := Lib.hid (hv1.below hab2)
  have HR2 := Lib.hid hr2
  have V2 := Lib.hid (hv2.below hab2)
  have hXs := hab2.size
  have HW := Lib.hid hab2
  have T0 := Lib.hid (hT.below hab2)
  clear hT
  clear hr1 hv1 hr2 hv2
  clear hab2 hab1
  go_enter Tryz.func9, Tryz.ntmps9
  go_upto_region 1 with fail
  rw [← hX]
  clear hX
  go_wp2_with fail
  refine (zzFits1_any p1 m1 f1 e1 n1 v1 xs1 X V1.out).mono ?_
  rintro _ w1 ⟨rfl, hb1⟩
  obtain ⟨fits, hfits⟩ : ∃ f, f = decide (xs1.length ≤ 2147483647) := ⟨_, rfl⟩
  rw [← hfits]
  clear c10 c11 c12 c13 c14 c15 c20 c21 c22 c23 c24 c25 hfits
  obtain ⟨-, ⟨⟨c10, c11, c12, c13, c14, c15⟩, ⟨c20, c21, c22, c23, c24, c25⟩⟩⟩ := ksR2 HR1.out HR2.out hb1
  have HB := Lib.hid hb1
  clear hb1
  cases fits with
  | false =>
    go_wp2
    go_ret
    exact ⟨rfl, HW.out.trans (HB.out.mono hXs)⟩
  | true =>
  go_wp2_with fail
  refine (zzFits1_any p2 m2 f2 e2 n2 v2 xs2 w1 (V2.out.below HB.out)).mono ?_
  rintro _ w2 ⟨rfl, hb1⟩
  have hb1 := bthen HB.out hb1
  obtain ⟨fits, hfits⟩ : ∃ f, f = decide (xs2.length ≤ 2147483647) := ⟨_, rfl⟩
  rw [← hfits]
  clear c10 c11 c12 c13 c14 c15 c20 c21 c22 c23 c24 c25 HB hfits
  obtain ⟨-, ⟨⟨c10, c11, c12, c13, c14, c15⟩, ⟨c20, c21, c22, c23, c24, c25⟩⟩⟩ := ksR2 HR1.out HR2.out hb1
  have HB := Lib.hid hb1
  clear hb1
  cases fits with
  | false =>
    go_wp2
    go_ret
    exact ⟨rfl, HW.out.trans (HB.out.mono hXs)⟩
  | true =>
  go_wp2_with fail
  refine (real_any 300 1000 p1 m1 f1 e1 n1 v1 xs1 w2 (V1.out.below HB.out) (by decide) (by decide)).mono ?_
  rintro _ w3 ⟨ok, rfl, hok, hb1⟩
  have hb1 := bthen HB.out hb1
  have HO1 := Lib.hid hok
  clear c10 c11 c12 c13 c14 c15 c20 c21 c22 c23 c24 c25 HB hok
  obtain ⟨-, ⟨⟨c10, c11, c12, c13, c14, c15⟩, ⟨c20, c21, c22, c23, c24, c25⟩⟩⟩ := ksR2 HR1.out HR2.out hb1
  have HB := Lib.hid hb1
  clear hb1
  cases ok with
  | false =>
    go_wp2
    go_ret
    exact ⟨rfl, HW.out.trans (HB.out.mono hXs)⟩
  | true =>
  obtain ⟨P1, M1, F1, hp, rfl, rfl, hR⟩ := HO1.out rfl
  have hpp : P1 = p1 := by omega
  subst hpp
  have R1 := Lib.hid hR
  clear HO1 hp hR
  go_wp2_with fail
  refine (real_any 300 1000 p2 m2 f2 e2 n2 v2 xs2 w3 (V2.out.below HB.out) (by decide) (by decide)).mono ?_
  rintro _ w4 ⟨ok, rfl, hok, hb1⟩
  have hb1 := bthen HB.out hb1
  have HO2 := Lib.hid hok
  clear c10 c11 c12 c13 c14 c15 c20 c21 c22 c23 c24 c25 HB hok
  obtain ⟨-, ⟨⟨c10, c11, c12, c13, c14, c15⟩, ⟨c20, c21, c22, c23, c24, c25⟩⟩⟩ := ksR2 HR1.out HR2.out hb1
  have HB := Lib.hid hb1
  clear hb1
  cases ok with
  | false =>
    go_wp2
    go_ret
    exact ⟨rfl, HW.out.trans (HB.out.mono hXs)⟩
  | true =>
  obtain ⟨P2, M2, F2, hp, rfl, rfl, hR⟩ := HO2.out rfl
  have hpp : P2 = p2 := by omega
  subst hpp
  have R2 := Lib.hid hR
  clear HO2 hp hR
  have hWW := HW.out.trans (HB.out.mono hXs)
  have hV1 := V1.out.below HB.out
  have hr1 := keep_row HB.out HR1.out
  have hV2 := V2.out.below HB.out
  have hr2 := keep_row HB.out HR2.out
  have hT0 := T0.out.below HB.out
  clear T0
  have T0 := Lib.hid hT0
  clear hT0
  clear HW HB hXs V1 HR1 V2 HR2
  have HW := Lib.hid hWW
  have V1 := Lib.hid hV1
  have HR1 := Lib.hid hr1
  have V2 := Lib.hid hV2
  have HR2 := Lib.hid hr2
  have hWs := HW.out.size
  clear hWW hV1 hr1 hV2 hr2
  have q0 : (b0 : Int) % 4 = 1 := hop
  have q1 : (b1 : Int) % 300 = ((b1 % 300 : Nat) : Int) := by omega
  have q2 : (1 : Int) + ((b1 % 300 : Nat) : Int) = ((1 + b1 % 300 : Nat) : Int) := by omega
  have q3 : (b2 : Int) % 6 = ((b2 % 6 : Nat) : Int) := by omega
  have hZ0 : 0 < 1 + b1 % 300 := by omega
  have hZ1 : 1 + b1 % 300 ≤ 300 := by omega
  have hrb : b1 % 300 ≤ 299 := by omega
  have hkb : b2 % 6 ≤ 5 := by omega
  obtain ⟨Z, hZ⟩ : ∃ Z, Z = 1 + b1 % 300 := ⟨_, rfl⟩
  rw [← hZ] at q2 hZ0 hZ1
  obtain ⟨r, hr⟩ : ∃ r, r = b1 % 300 := ⟨_, rfl⟩
  rw [← hr] at q1 q2 hrb
  obtain ⟨k, hk⟩ : ∃ k, k = b2 % 6 := ⟨_, rfl⟩
  rw [← hk] at q3 hkb
  have HZ0 := Lib.hid hZ0
  clear hZ hr hk hop
  have hg1 := R1.out.form'
  have hg2 := R2.out.form'
  by_cases h1 : F1 = 2
  · have te1 : ((F1 : Int) == 2) = true := by rw [h1]; rfl
    have tn1 : ((F1 : Int) != 2) = false := by rw [h1]; rfl
    have tz1 : ((F1 : Int) == 0) = false := by rw [h1]; rfl
    have HE1 := Lib.hid h1
    clear h1
    by_cases h2 : F2 = 2
    · have te2 : ((F2 : Int) == 2) = true := by rw [h2]; rfl
      have tn2 : ((F2 : Int) != 2) = false := by rw [h2]; rfl
      have tz2 : ((F2 : Int) == 0) = false := by rw [h2]; rfl
      have HE2 := Lib.hid h2
      clear h2
      by_cases hn : n1 = !n2
      · subst hn
        clear hg1 hg2
        have HC := Lib.hid (didSpSub Z k P1 M1 F1 P2 M2 F2 2 (!n2) n2 (!n2) v1 v2 e1 e2 xs1 xs2 w4 V1.out V2.out R1.out R2.out HZ0.out hZ1 hkb ⟨rfl, .inr (.inr ⟨HE1.out, HE2.out, rfl, rfl⟩)⟩ T0.out)
        go_wp2_with fail
        refine HC.out.mono ?_
        rintro _ wN ⟨z, rfl, hz, hb1⟩
        obtain ⟨vz, rfl, hRz⟩ := hz.canon
        obtain ⟨Ez, hEz⟩ : ∃ Ez, Ez = zEx 2 1 0 := ⟨_, rfl⟩
        rw [← hEz]
        have hSz := hRz.isS
        clear hEz
        obtain ⟨Y, hY⟩ : ∃ Y, Y = wN.alloc (.cells #[.int .u64 (Z : Int), .int .i64 (k : Int), .int .i64 2, .bool (!n2), vz, .int .i64 Ez] 39) := ⟨_, rfl⟩
        have hbY : Below wN.heap.size wN Y := by rw [hY]; exact fbone _
        have hrz : Y.heap[wN.heap.size]? = some (.cells #[.int .u64 (Z : Int), .int .i64 (k : Int), .int .i64 2, .bool (!n2), vz, .int .i64 Ez] 39 (0, 0)) := by rw [hY]; exact row_chain11
        have hbX := bthen hb1 hbY
        have hr1 := keep_row hbX HR1.out
        have hr2 := keep_row hbX HR2.out
        have HWY := Lib.hid (HW.out.trans (hbX.mono hWs))
        clear c10 c11 c12 c13 c14 c15 c20 c21 c22 c23 c24 c25
        obtain ⟨-, ⟨x10, x11, x12, x13, x14, x15⟩, ⟨x20, x21, x22, x23, x24, x25⟩, ⟨x30, x31, x32, x33, x34, x35⟩⟩ := ksR3 hr1 hr2 hrz (Below.refl _ _)
        clear hb1 hbY hrz hbX hz hRz hr1 hr2 HC
        go_upto_region 19 with fail
        rw [← hY]
        clear hY
        go_wp2
        go_ret
        exact ⟨rfl, HWY.out⟩
      · have tb : (!n1 == (!n2)) = true := by cases n1 <;> cases n2 <;> simp_all
        clear hn
        clear hg1 hg2
        go_wp2
        go_ret
        exact ⟨rfl, HW.out⟩
    · have te2 : ((F2 : Int) == 2) = false := by rw [beq_eq_false_iff_ne]; omega
      have tn2 : ((F2 : Int) != 2) = true := by rw [bne_iff_ne]; omega
      have HE2 : Hid (F2 ≤ 1) := Lib.hid (by omega)
      clear h2
      clear hg1 hg2
      have HC := Lib.hid (didSpSub Z k P1 M1 F1 P2 M2 F2 2 n1 n2 n1 v1 v2 e1 e2 xs1 xs2 w4 V1.out V2.out R1.out R2.out HZ0.out hZ1 hkb ⟨rfl, .inl ⟨HE1.out, HE2.out, rfl⟩⟩ T0.out)
      go_wp2_with fail
      refine HC.out.mono ?_
      rintro _ wN ⟨z, rfl, hz, hb1⟩
      obtain ⟨vz, rfl, hRz⟩ := hz.canon
      obtain ⟨Ez, hEz⟩ : ∃ Ez, Ez = zEx 2 1 0 := ⟨_, rfl⟩
      rw [← hEz]
      have hSz := hRz.isS
      clear hEz
      obtain ⟨Y, hY⟩ : ∃ Y, Y = wN.alloc (.cells #[.int .u64 (Z : Int), .int .i64 (k : Int), .int .i64 2, .bool n1, vz, .int .i64 Ez] 39) := ⟨_, rfl⟩
      have hbY : Below wN.heap.size wN Y := by rw [hY]; exact fbone _
      have hrz : Y.heap[wN.heap.size]? = some (.cells #[.int .u64 (Z : Int), .int .i64 (k : Int), .int .i64 2, .bool n1, vz, .int .i64 Ez] 39 (0, 0)) := by rw [hY]; exact row_chain11
      have hbX := bthen hb1 hbY
      have hr1 := keep_row hbX HR1.out
      have hr2 := keep_row hbX HR2.out
      have HWY := Lib.hid (HW.out.trans (hbX.mono hWs))
      clear c10 c11 c12 c13 c14 c15 c20 c21 c22 c23 c24 c25
      obtain ⟨-, ⟨x10, x11, x12, x13, x14, x15⟩, ⟨x20, x21, x22, x23, x24, x25⟩, ⟨x30, x31, x32, x33, x34, x35⟩⟩ := ksR3 hr1 hr2 hrz (Below.refl _ _)
      clear hb1 hbY hrz hbX hz hRz hr1 hr2 HC
      go_upto_region 19 with fail
      rw [← hY]
      clear hY
      go_wp2
      go_ret
      exact ⟨rfl, HWY.out⟩
  · have te1 : ((F1 : Int) == 2) = false := by rw [beq_eq_false_iff_ne]; omega
    have tn1 : ((F1 : Int) != 2) = true := by rw [bne_iff_ne]; omega
    have HE1 : Hid (F1 ≤ 1) := Lib.hid (by omega)
    clear h1
    by_cases h2 : F2 = 2
    · have te2 : ((F2 : Int) == 2) = true := by rw [h2]; rfl
      have tn2 : ((F2 : Int) != 2) = false := by rw [h2]; rfl
      have tz2 : ((F2 : Int) == 0) = false := by rw [h2]; rfl
      have HE2 := Lib.hid h2
      clear h2
      clear hg1 hg2
      have HC := Lib.hid (didSpSub Z k P1 M1 F1 P2 M2 F2 2 n1 n2 (!n2) v1 v2 e1 e2 xs1 xs2 w4 V1.out V2.out R1.out R2.out HZ0.out hZ1 hkb ⟨rfl, .inr (.inl ⟨HE1.out, HE2.out, rfl⟩)⟩ T0.out)
      go_wp2_with fail
      refine HC.out.mono ?_
      rintro _ wN ⟨z, rfl, hz, hb1⟩
      obtain ⟨vz, rfl, hRz⟩ := hz.canon
      obtain ⟨Ez, hEz⟩ : ∃ Ez, Ez = zEx 2 1 0 := ⟨_, rfl⟩
      rw [← hEz]
      have hSz := hRz.isS
      clear hEz
      obtain ⟨Y, hY⟩ : ∃ Y, Y = wN.alloc (.cells #[.int .u64 (Z : Int), .int .i64 (k : Int), .int .i64 2, .bool (!n2), vz, .int .i64 Ez] 39) := ⟨_, rfl⟩
      have hbY : Below wN.heap.size wN Y := by rw [hY]; exact fbone _
      have hrz : Y.heap[wN.heap.size]? = some (.cells #[.int .u64 (Z : Int), .int .i64 (k : Int), .int .i64 2, .bool (!n2), vz, .int .i64 Ez] 39 (0, 0)) := by rw [hY]; exact row_chain11
      have hbX := bthen hb1 hbY
      have hr1 := keep_row hbX HR1.out
      have hr2 := keep_row hbX HR2.out
      have HWY := Lib.hid (HW.out.trans (hbX.mono hWs))
      clear c10 c11 c12 c13 c14 c15 c20 c21 c22 c23 c24 c25
      obtain ⟨-, ⟨x10, x11, x12, x13, x14, x15⟩, ⟨x20, x21, x22, x23, x24, x25⟩, ⟨x30, x31, x32, x33, x34, x35⟩⟩ := ksR3 hr1 hr2 hrz (Below.refl _ _)
      clear hb1 hbY hrz hbX hz hRz hr1 hr2 HC
      go_upto_region 19 with fail
      rw [← hY]
      clear hY
      go_wp2
      go_ret
      exact ⟨rfl, HWY.out⟩
    · have te2 : ((F2 : Int) == 2) = false := by rw [beq_eq_false_iff_ne]; omega
      have tn2 : ((F2 : Int) != 2) = true := by rw [bne_iff_ne]; omega
      have HE2 : Hid (F2 ≤ 1) := Lib.hid (by omega)
      clear h2
      clear hg1 hg2
      go_wp2
      go_ret
      exact ⟨rfl, HW.out⟩
end Go.Proofs.YtgclooabjilniaaGreatDoor
