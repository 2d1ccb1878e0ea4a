/-
Texts of this proof, joined: IzK IzL. No condition.
-/
import Derived.Test.YtgclooabjilniaaGreatDoorK24
import Derived.Test.YtgclooabjilniaaGreatDoorK27
import Derived.Test.YtgclooabjilniaaGreatDoorK34
/-
laws.did at a product, by values. No condition.
-/
namespace Go.Proofs.YtgclooabjilniaaGreatDoor
open Go.RowKit

theorem pOf_pos {Z x : Nat} (h : 0 < Z) : pOf Z x = Z := by unfold pOf; rw [if_neg (by omega)]
theorem didMul_any (q k p1 m1 f1 p2 m2 f2 : Nat) (n1 n2 : Bool) (v1 v2 : Value) (e1 e2 V XX : Int) (xs ys : List Nat) (w : World) (hv1 : RW w v1 xs) (hv2 : RW w v2 ys) (ho1 : RealOk 300 1000 p1 m1 f1 xs e1) (ho2 : RealOk 300 1000 p2 m2 f2 ys e2) (hf1 : f1 ≤ 1) (hf2 : f2 ≤ 1) (hq0 : 0 < q) (hq : q ≤ 300) (hk : k ≤ 5) (hT : TabW w) (hK : KarW w) (hV : V = sI (n1 != n2) (dyM f1 (wv xs) * dyM f2 (wv ys))) (hX : XX = dyE f1 e1 + dyE f2 e2) :
    Calls Tryz.prog 33 #[.int .i64 2, .int .u64 q, .int .i64 k, .agg #[.int .u64 p1, .int .i64 m1, .int .i64 f1, .bool n1, v1, .int .i64 e1], .agg #[.int .u64 p2, .int .i64 m2, .int .i64 f2, .bool n2, v2, .int .i64 e2]] w fun e' w' => ∃ z, e' = .returned (.tuple #[z, .int .i64 (rA q k (vN V) 0 V.natAbs)]) ∧ RealV w' z q k (fO V.natAbs) (if V = 0 then (n1 != n2) else vN V) (rQ q k (vN V) 0 V.natAbs) (XX + rk q V.natAbs) ∧ Below w.heap.size w w' := by
  refine did2 q k p1 m1 f1 p2 m2 f2 _ _ n1 n2 _ v1 v2 e1 e2 _ _ w hv1.isS hv2.isS (fun W hb => ?_)
  have h := impMul 300 1000 q k p1 m1 f1 p2 m2 f2 n1 n2 v1 v2 e1 e2 xs ys W (hv1.below hb) (hv2.below hb) ho1 ho2 hf1 hf2 (by decide) (by decide) (by omega) hk (hT.below hb) (hK.below hb)
  rw [pOf_pos hq0, ← hV, ← hX] at h
  refine h.mono ?_
  rintro _ w' ⟨z, A, rfl, ⟨rfl, hz⟩, hb2⟩
  exact ⟨z, rfl, hz, hb2⟩
end Go.Proofs.YtgclooabjilniaaGreatDoor

/-
laws.did where the forms alone tell the answer. No condition.
-/
namespace Go.Proofs.YtgclooabjilniaaGreatDoor
open Go.RowKit

theorem didSpAdd (q k p1 m1 f1 p2 m2 f2 f : Nat) (n1 n2 sg : Bool) (v1 v2 : Value) (e1 e2 : Int) (xs ys : List Nat) (w : World) (hv1 : RW w v1 xs) (hv2 : RW w v2 ys) (ho1 : RealOk 300 1000 p1 m1 f1 xs e1) (ho2 : RealOk 300 1000 p2 m2 f2 ys e2) (hq0 : 0 < q) (hq : q ≤ 300) (hk : k ≤ 5) (hs : SpOk 0 f1 f2 n1 n2 f sg) (hT : TabW w) :
    Calls Tryz.prog 33 #[.int .i64 0, .int .u64 q, .int .i64 k, .agg #[.int .u64 p1, .int .i64 m1, .int .i64 f1, .bool n1, v1, .int .i64 e1], .agg #[.int .u64 p2, .int .i64 m2, .int .i64 f2, .bool n2, v2, .int .i64 e2]] w fun e' w' => ∃ z, e' = .returned (.tuple #[z, .int .i64 0]) ∧ RealV w' z q k f sg 1 0 ∧ Below w.heap.size w w' :=
  did0 q k p1 m1 f1 p2 m2 f2 f 1 n1 n2 sg v1 v2 e1 e2 0 0 w hv1.isS hv2.isS (fun W hb =>
    impSpAdd 300 1000 q k p1 m1 f1 p2 m2 f2 f n1 n2 sg v1 v2 e1 e2 xs ys W (hv1.below hb) (hv2.below hb) ho1 ho2 (by decide) (by decide) hq0 (by omega) hk hs (hT.below hb))
theorem didSpSub (q k p1 m1 f1 p2 m2 f2 f : Nat) (n1 n2 sg : Bool) (v1 v2 : Value) (e1 e2 : Int) (xs ys : List Nat) (w : World) (hv1 : RW w v1 xs) (hv2 : RW w v2 ys) (ho1 : RealOk 300 1000 p1 m1 f1 xs e1) (ho2 : RealOk 300 1000 p2 m2 f2 ys e2) (hq0 : 0 < q) (hq : q ≤ 300) (hk : k ≤ 5) (hs : SpOk 1 f1 f2 n1 n2 f sg) (hT : TabW w) :
    Calls Tryz.prog 33 #[.int .i64 1, .int .u64 q, .int .i64 k, .agg #[.int .u64 p1, .int .i64 m1, .int .i64 f1, .bool n1, v1, .int .i64 e1], .agg #[.int .u64 p2, .int .i64 m2, .int .i64 f2, .bool n2, v2, .int .i64 e2]] w fun e' w' => ∃ z, e' = .returned (.tuple #[z, .int .i64 0]) ∧ RealV w' z q k f sg 1 0 ∧ Below w.heap.size w w' :=
  did1 q k p1 m1 f1 p2 m2 f2 f 1 n1 n2 sg v1 v2 e1 e2 0 0 w hv1.isS hv2.isS (fun W hb =>
    impSpSub 300 1000 q k p1 m1 f1 p2 m2 f2 f n1 n2 sg v1 v2 e1 e2 xs ys W (hv1.below hb) (hv2.below hb) ho1 ho2 (by decide) (by decide) hq0 (by omega) hk hs (hT.below hb))
theorem didSpMul (q k p1 m1 f1 p2 m2 f2 f : Nat) (n1 n2 sg : Bool) (v1 v2 : Value) (e1 e2 : Int) (xs ys : List Nat) (w : World) (hv1 : RW w v1 xs) (hv2 : RW w v2 ys) (ho1 : RealOk 300 1000 p1 m1 f1 xs e1) (ho2 : RealOk 300 1000 p2 m2 f2 ys e2) (hq0 : 0 < q) (hq : q ≤ 300) (hk : k ≤ 5) (hs : SpOk 2 f1 f2 n1 n2 f sg) (hT : TabW w) :
    Calls Tryz.prog 33 #[.int .i64 2, .int .u64 q, .int .i64 k, .agg #[.int .u64 p1, .int .i64 m1, .int .i64 f1, .bool n1, v1, .int .i64 e1], .agg #[.int .u64 p2, .int .i64 m2, .int .i64 f2, .bool n2, v2, .int .i64 e2]] w fun e' w' => ∃ z, e' = .returned (.tuple #[z, .int .i64 0]) ∧ RealV w' z q k f sg 1 0 ∧ Below w.heap.size w w' :=
  did2 q k p1 m1 f1 p2 m2 f2 f 1 n1 n2 sg v1 v2 e1 e2 0 0 w hv1.isS hv2.isS (fun W hb =>
    impSpMul 300 1000 q k p1 m1 f1 p2 m2 f2 f n1 n2 sg v1 v2 e1 e2 xs ys W (hv1.below hb) (hv2.below hb) ho1 ho2 (by decide) (by decide) hq0 (by omega) hk hs (hT.below hb))
theorem didSpQuo (q k p1 m1 f1 p2 m2 f2 f : Nat) (n1 n2 sg : Bool) (v1 v2 : Value) (e1 e2 : Int) (xs ys : List Nat) (w : World) (hv1 : RW w v1 xs) (hv2 : RW w v2 ys) (ho1 : RealOk 300 1000 p1 m1 f1 xs e1) (ho2 : RealOk 300 1000 p2 m2 f2 ys e2) (hq0 : 0 < q) (hq : q ≤ 300) (hk : k ≤ 5) (hs : SpOk 3 f1 f2 n1 n2 f sg) (hT : TabW w) :
    Calls Tryz.prog 33 #[.int .i64 3, .int .u64 q, .int .i64 k, .agg #[.int .u64 p1, .int .i64 m1, .int .i64 f1, .bool n1, v1, .int .i64 e1], .agg #[.int .u64 p2, .int .i64 m2, .int .i64 f2, .bool n2, v2, .int .i64 e2]] w fun e' w' => ∃ z, e' = .returned (.tuple #[z, .int .i64 0]) ∧ RealV w' z q k f sg 1 0 ∧ Below w.heap.size w w' :=
  did3 q k p1 m1 f1 p2 m2 f2 f 1 n1 n2 sg v1 v2 e1 e2 0 0 w hv1.isS hv2.isS (fun W hb =>
    impSpQuo 300 1000 q k p1 m1 f1 p2 m2 f2 f n1 n2 sg v1 v2 e1 e2 xs ys W (hv1.below hb) (hv2.below hb) ho1 ho2 (by decide) (by decide) hq0 (by omega) hk hs (hT.below hb))
end Go.Proofs.YtgclooabjilniaaGreatDoor
