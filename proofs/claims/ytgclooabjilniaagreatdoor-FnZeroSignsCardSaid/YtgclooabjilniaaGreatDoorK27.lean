/-
Texts of this proof, joined: IzC. No condition.
-/
import Derived.Test.YtgclooabjilniaaGreatDoorK23
import Derived.Test.YtgclooabjilniaaGreatDoorK25
/-
laws.same, laws.twin at equal values; laws.did by the thin package's contracts. No condition.
-/
namespace Go.Proofs.YtgclooabjilniaaGreatDoor
open Go.RowKit

def zWd (f M : Nat) : List Nat := if f = 1 then wds (od M) else []
def zEx (f M : Nat) (X : Int) : Int := if f = 1 then X + (tz M : Nat) else 0
theorem zWd_len {f M k : Nat} (h : bl M ≤ k) : (zWd f M).length ≤ k + 3 := by
  unfold zWd
  split
  · rw [wds_length]
    rcases Nat.eq_zero_or_pos M with h0 | h0
    · subst h0
      have : nw (od 0) = 0 := by decide
      omega
    · have h1 := bl_od h0
      have := nl_of_bl (n := od M) (k := k) (by omega)
      unfold nw; omega
  · simp
theorem RealV.canon {w : World} {z : Value} {p m f M : Nat} {neg : Bool} {X : Int} (h : RealV w z p m f neg M X) :
    ∃ v : Value, z = .agg #[.int .u64 p, .int .i64 m, .int .i64 f, .bool neg, v, .int .i64 (zEx f M X)] ∧ RW w v (zWd f M) := by
  obtain ⟨v, E, zs, B, rfl, h2, h3, h4, h5⟩ := h
  by_cases hf : f = 1
  · obtain ⟨rfl, rfl⟩ := h5 hf
    rw [zWd, zEx, if_pos hf, if_pos hf]
    exact ⟨v, rfl, h2.rw' h3⟩
  · obtain ⟨rfl, rfl⟩ := h4 hf
    rw [zWd, zEx, if_neg hf, if_neg hf]
    exact ⟨v, rfl, h2.rw' h3⟩
set_option maxRecDepth 100000 in
set_option maxHeartbeats 1600000 in
theorem same_any (v1 v2 : Value) (zs : List Nat) (w : World) (h1 : RW w v1 zs) (h2 : RW w v2 zs) (hl : zs.length ≤ 1000000000) :
    Calls Tryz.prog 60 #[v1, v2] w fun e w' => e = .returned (.bool true) ∧ Below w.heap.size w w' := by
  have hS1 := h1.isS
  have hS2 := h2.isS
  have hL1 := h1.len
  have hL2 := h2.len
  obtain ⟨L, hL⟩ : ∃ L, L = zs.length := ⟨_, rfl⟩
  rw [← hL] at hL1 hL2 hl
  have HL := Lib.hid hL
  have H1 := Lib.hid h1
  have H2 := Lib.hid h2
  clear h1 h2 hL
  go_enter Tryz.func60, Tryz.ntmps60
  go_wp2
  go_loopw [5, 13] (fun _ i wr => ∃ k : Nat, k ≤ L ∧ i = .int .i64 k ∧ Below w.heap.size w wr) (fun _ i _ => L - (intOf i).toNat)
  case atStart => exact ⟨0, Nat.zero_le _, rfl, Below.refl _ _⟩
  case round =>
    obtain ⟨k, hk, rfl, hbl⟩ := hrel
    by_cases hkL : k < L
    · have c1 := (H1.out.below hbl).cell k (by rw [← HL.out]; exact hkL)
      have c2 := (H2.out.below hbl).cell k (by rw [← HL.out]; exact hkL)
      obtain ⟨p, hp⟩ : ∃ p, p = zs.getD k 0 := ⟨_, rfl⟩
      rw [← hp] at c1 c2
      clear hp
      have t2 : ((p : Int) == p) = true := beq_self_eq_true _
      go_wp2
      go_quiet (fail)
      go_wp2
      exact ⟨⟨k + 1, by omega, by go_num, undrewN' hbl⟩, by simp [intOf]; omega⟩
    · have hk1 : k = L := by omega
      have HB := Lib.hid hbl
      clear hbl
      go_wp2
      go_ret
      exact ⟨rfl, HB.out⟩
set_option maxRecDepth 100000 in
set_option maxHeartbeats 1600000 in
theorem twin_any (q k f : Nat) (sg : Bool) (v1 v2 : Value) (E : Int) (zs : List Nat) (w : World) (h1 : RW w v1 zs) (h2 : RW w v2 zs) (hl : zs.length ≤ 1000000000) :
    Calls Tryz.prog 34 #[.agg #[.int .u64 q, .int .i64 k, .int .i64 f, .bool sg, v1, .int .i64 E], .agg #[.int .u64 q, .int .i64 k, .int .i64 f, .bool sg, v2, .int .i64 E]] w fun e w' => e = .returned (.bool true) ∧ Below w.heap.size w w' := by
  have hS1 := h1.isS
  have hS2 := h2.isS
  have hab := (Below.refl w.heap.size w).alloc (Nat.le_refl _) (.cells #[.int .u64 q, .int .i64 k, .int .i64 f, .bool sg, v1, .int .i64 E] 39)
  have hac := hab.alloc hab.size (.cells #[.int .u64 q, .int .i64 k, .int .i64 f, .bool sg, v2, .int .i64 E] 39)
  obtain ⟨X, hX⟩ : ∃ X, X = ((w.alloc (.cells #[.int .u64 q, .int .i64 k, .int .i64 f, .bool sg, v1, .int .i64 E] 39)).alloc (.cells #[.int .u64 q, .int .i64 k, .int .i64 f, .bool sg, v2, .int .i64 E] 39)) := ⟨_, rfl⟩
  have hr1 : X.heap[w.heap.size]? = some (.cells #[.int .u64 q, .int .i64 k, .int .i64 f, .bool sg, v1, .int .i64 E] 39 (0, 0)) := by
    rw [hX]; exact row_chain21
  have hr2 : X.heap[w.heap.size + 1]? = some (.cells #[.int .u64 q, .int .i64 k, .int .i64 f, .bool sg, v2, .int .i64 E] 39 (0, 0)) := by
    rw [hX]; exact row_chain22
  rw [← hX] at hac
  obtain ⟨⟨x0, x1, x2, x3, x4, x5⟩, -⟩ := row6 hr1
  obtain ⟨⟨y0, y1, y2, y3, y4, y5⟩, -⟩ := row6 hr2
  have HS := Lib.hid (same_any v1 v2 zs X (h1.below hac) (h2.below hac) hl)
  have HW := Lib.hid hac
  have hXs := hac.size
  clear h1 h2 hab hac hr1 hr2
  go_enter Tryz.func34, Tryz.ntmps34
  go_upto_region 1 with fail
  rw [← hX]
  clear hX
  go_wp2_with fail
  refine HS.out.mono ?_
  rintro _ w1 ⟨rfl, hb1⟩
  have HB := Lib.hid (HW.out.trans (hb1.mono hXs))
  clear hb1
  go_wp2
  go_ret
  exact ⟨rfl, HB.out⟩
set_option maxRecDepth 100000 in
set_option maxHeartbeats 1600000 in
theorem did0 (q k p1 m1 f1 p2 m2 f2 f M : Nat) (n1 n2 sg : Bool) (v1 v2 : Value) (e1 e2 X A : Int) (w : World) (_hS1 : IsS v1) (_hS2 : IsS v2)
    (HC : ∀ W, Below w.heap.size w W → Calls Tryz.prog 30 #[.int .u64 q, .int .i64 k, .agg #[.int .u64 p1, .int .i64 m1, .int .i64 f1, .bool n1, v1, .int .i64 e1], .agg #[.int .u64 p2, .int .i64 m2, .int .i64 f2, .bool n2, v2, .int .i64 e2]] W fun e' w' => ∃ z, e' = .returned (.tuple #[z, .int .i64 A]) ∧ RealV w' z q k f sg M X ∧ Below W.heap.size W w') :
    Calls Tryz.prog 33 #[.int .i64 0, .int .u64 q, .int .i64 k, .agg #[.int .u64 p1, .int .i64 m1, .int .i64 f1, .bool n1, v1, .int .i64 e1], .agg #[.int .u64 p2, .int .i64 m2, .int .i64 f2, .bool n2, v2, .int .i64 e2]] w fun e' w' => ∃ z, e' = .returned (.tuple #[z, .int .i64 A]) ∧ RealV w' z q k f sg M X ∧ Below w.heap.size w w' := by
  have hab := (Below.refl w.heap.size w).alloc (Nat.le_refl _) (.cells #[.int .u64 p1, .int .i64 m1, .int .i64 f1, .bool n1, v1, .int .i64 e1] 39)
  have hac := hab.alloc hab.size (.cells #[.int .u64 p2, .int .i64 m2, .int .i64 f2, .bool n2, v2, .int .i64 e2] 39)
  have had := hac.alloc hac.size (.cells #[.int .u64 0, .int .i64 0, .int .i64 0, .bool false, .slice none 0 0, .int .i64 0] 39)
  obtain ⟨Y, hY⟩ : ∃ Y, Y = ((w.alloc (.cells #[.int .u64 p1, .int .i64 m1, .int .i64 f1, .bool n1, v1, .int .i64 e1] 39)).alloc (.cells #[.int .u64 p2, .int .i64 m2, .int .i64 f2, .bool n2, v2, .int .i64 e2] 39)).alloc (.cells #[.int .u64 0, .int .i64 0, .int .i64 0, .bool false, .slice none 0 0, .int .i64 0] 39) := ⟨_, rfl⟩
  have hr1 : Y.heap[w.heap.size]? = some (.cells #[.int .u64 p1, .int .i64 m1, .int .i64 f1, .bool n1, v1, .int .i64 e1] 39 (0, 0)) := by
    rw [hY]; exact row_chain31
  have hr2 : Y.heap[w.heap.size + 1]? = some (.cells #[.int .u64 p2, .int .i64 m2, .int .i64 f2, .bool n2, v2, .int .i64 e2] 39 (0, 0)) := by
    rw [hY]; exact row_chain32
  have hr3 : Y.heap[w.heap.size + 2]? = some (.cells #[.int .u64 0, .int .i64 0, .int .i64 0, .bool false, .slice none 0 0, .int .i64 0] 39 (0, 0)) := by
    rw [hY]; exact row_chain33
  rw [← hY] at had
  obtain ⟨⟨x0, x1, x2, x3, x4, x5⟩, -⟩ := row6 hr1
  obtain ⟨⟨y0, y1, y2, y3, y4, y5⟩, -⟩ := row6 hr2
  have HCY := Lib.hid (HC Y had)
  have HR3 := Lib.hid hr3
  have hwX := Lib.hid had
  have hXs := had.size
  clear HC hab hac had hr1 hr2 hr3
  go_enter Tryz.func33, Tryz.ntmps33
  go_upto_region 1 with fail
  rw [← hY]
  clear hY
  go_wp2_with fail
  refine HCY.out.mono ?_
  rintro _ w7 ⟨z, rfl, hz, hb7⟩
  have hq2 := keep_row hb7 HR3.out
  obtain ⟨vz, Ez, zs, Bz, rfl, hz2, hzd, hz3, hz4⟩ := hz
  have hSz := hz2.isS
  obtain ⟨⟨d0, d1, d2, d3, d4, d5⟩, s0, s1, s2, s3, s4, s5⟩ := row6 hq2
  have H2 := Lib.hid hz2
  have H34 := Lib.hid (And.intro hzd (And.intro hz3 hz4))
  have HQ2 := Lib.hid hq2
  have HB := Lib.hid (bset6 (x := .int .u64 (q : Int)) (y := .int .i64 (k : Int)) (z := .int .i64 (f : Int)) (x' := .bool sg) (y' := vz) (z' := .int .i64 Ez) (hwX.out.trans (hb7.mono hXs)) (Nat.le_trans (Nat.le_succ _) (Nat.le_succ _)))
  clear hz2 hzd hz3 hz4 hq2 hb7 x0 x1 x2 x3 x4 x5 y0 y1 y2 y3 y4 y5
  go_wp2
  have HS := row6_set (x := .int .u64 (q : Int)) (y := .int .i64 (k : Int)) (z := .int .i64 (f : Int)) (x' := .bool sg) (y' := vz) (z' := .int .i64 Ez) HQ2.out
  obtain ⟨⟨a0, a1, a2, a3, a4, a5⟩, -⟩ := row6 HS
  refine bodyPost_ret (v := .tuple #[.agg #[.int .u64 q, .int .i64 k, .int .i64 f, .bool sg, vz, .int .i64 Ez], .int .i64 A]) ?_ rfl ⟨_, rfl, ⟨_, _, _, Bz, rfl, ?_, H34.out.1, H34.out.2⟩, HB.out⟩
  · simp [results, Tryz.results33, go_sem, a0, a1, a2, a3, a4, a5]
  · exact H2.out.same fun hc => by
      have hne : sBlk vz ≠ w.heap.size + 2 := H2.out.ne_row HQ2.out (by decide) hc
      exact heap6_other hne
set_option maxRecDepth 100000 in
set_option maxHeartbeats 1600000 in
theorem did1 (q k p1 m1 f1 p2 m2 f2 f M : Nat) (n1 n2 sg : Bool) (v1 v2 : Value) (e1 e2 X A : Int) (w : World) (_hS1 : IsS v1) (_hS2 : IsS v2)
    (HC : ∀ W, Below w.heap.size w W → Calls Tryz.prog 27 #[.int .u64 q, .int .i64 k, .agg #[.int .u64 p1, .int .i64 m1, .int .i64 f1, .bool n1, v1, .int .i64 e1], .agg #[.int .u64 p2, .int .i64 m2, .int .i64 f2, .bool n2, v2, .int .i64 e2]] W fun e' w' => ∃ z, e' = .returned (.tuple #[z, .int .i64 A]) ∧ RealV w' z q k f sg M X ∧ Below W.heap.size W w') :
    Calls Tryz.prog 33 #[.int .i64 1, .int .u64 q, .int .i64 k, .agg #[.int .u64 p1, .int .i64 m1, .int .i64 f1, .bool n1, v1, .int .i64 e1], .agg #[.int .u64 p2, .int .i64 m2, .int .i64 f2, .bool n2, v2, .int .i64 e2]] w fun e' w' => ∃ z, e' = .returned (.tuple #[z, .int .i64 A]) ∧ RealV w' z q k f sg M X ∧ Below w.heap.size w w' := by
  have hab := (Below.refl w.heap.size w).alloc (Nat.le_refl _) (.cells #[.int .u64 p1, .int .i64 m1, .int .i64 f1, .bool n1, v1, .int .i64 e1] 39)
  have hac := hab.alloc hab.size (.cells #[.int .u64 p2, .int .i64 m2, .int .i64 f2, .bool n2, v2, .int .i64 e2] 39)
  have had := hac.alloc hac.size (.cells #[.int .u64 0, .int .i64 0, .int .i64 0, .bool false, .slice none 0 0, .int .i64 0] 39)
  obtain ⟨Y, hY⟩ : ∃ Y, Y = ((w.alloc (.cells #[.int .u64 p1, .int .i64 m1, .int .i64 f1, .bool n1, v1, .int .i64 e1] 39)).alloc (.cells #[.int .u64 p2, .int .i64 m2, .int .i64 f2, .bool n2, v2, .int .i64 e2] 39)).alloc (.cells #[.int .u64 0, .int .i64 0, .int .i64 0, .bool false, .slice none 0 0, .int .i64 0] 39) := ⟨_, rfl⟩
  have hr1 : Y.heap[w.heap.size]? = some (.cells #[.int .u64 p1, .int .i64 m1, .int .i64 f1, .bool n1, v1, .int .i64 e1] 39 (0, 0)) := by
    rw [hY]; exact row_chain31
  have hr2 : Y.heap[w.heap.size + 1]? = some (.cells #[.int .u64 p2, .int .i64 m2, .int .i64 f2, .bool n2, v2, .int .i64 e2] 39 (0, 0)) := by
    rw [hY]; exact row_chain32
  have hr3 : Y.heap[w.heap.size + 2]? = some (.cells #[.int .u64 0, .int .i64 0, .int .i64 0, .bool false, .slice none 0 0, .int .i64 0] 39 (0, 0)) := by
    rw [hY]; exact row_chain33
  rw [← hY] at had
  obtain ⟨⟨x0, x1, x2, x3, x4, x5⟩, -⟩ := row6 hr1
  obtain ⟨⟨y0, y1, y2, y3, y4, y5⟩, -⟩ := row6 hr2
  have HCY := Lib.hid (HC Y had)
  have HR3 := Lib.hid hr3
  have hwX := Lib.hid had
  have hXs := had.size
  clear HC hab hac had hr1 hr2 hr3
  go_enter Tryz.func33, Tryz.ntmps33
  go_upto_region 1 with fail
  rw [← hY]
  clear hY
  go_wp2_with fail
  refine HCY.out.mono ?_
  rintro _ w7 ⟨z, rfl, hz, hb7⟩
  have hq2 := keep_row hb7 HR3.out
  obtain ⟨vz, Ez, zs, Bz, rfl, hz2, hzd, hz3, hz4⟩ := hz
  have hSz := hz2.isS
  obtain ⟨⟨d0, d1, d2, d3, d4, d5⟩, s0, s1, s2, s3, s4, s5⟩ := row6 hq2
  have H2 := Lib.hid hz2
  have H34 := Lib.hid (And.intro hzd (And.intro hz3 hz4))
  have HQ2 := Lib.hid hq2
  have HB := Lib.hid (bset6 (x := .int .u64 (q : Int)) (y := .int .i64 (k : Int)) (z := .int .i64 (f : Int)) (x' := .bool sg) (y' := vz) (z' := .int .i64 Ez) (hwX.out.trans (hb7.mono hXs)) (Nat.le_trans (Nat.le_succ _) (Nat.le_succ _)))
  clear hz2 hzd hz3 hz4 hq2 hb7 x0 x1 x2 x3 x4 x5 y0 y1 y2 y3 y4 y5
  go_wp2
  have HS := row6_set (x := .int .u64 (q : Int)) (y := .int .i64 (k : Int)) (z := .int .i64 (f : Int)) (x' := .bool sg) (y' := vz) (z' := .int .i64 Ez) HQ2.out
  obtain ⟨⟨a0, a1, a2, a3, a4, a5⟩, -⟩ := row6 HS
  refine bodyPost_ret (v := .tuple #[.agg #[.int .u64 q, .int .i64 k, .int .i64 f, .bool sg, vz, .int .i64 Ez], .int .i64 A]) ?_ rfl ⟨_, rfl, ⟨_, _, _, Bz, rfl, ?_, H34.out.1, H34.out.2⟩, HB.out⟩
  · simp [results, Tryz.results33, go_sem, a0, a1, a2, a3, a4, a5]
  · exact H2.out.same fun hc => by
      have hne : sBlk vz ≠ w.heap.size + 2 := H2.out.ne_row HQ2.out (by decide) hc
      exact heap6_other hne
set_option maxRecDepth 100000 in
set_option maxHeartbeats 1600000 in
theorem did2 (q k p1 m1 f1 p2 m2 f2 f M : Nat) (n1 n2 sg : Bool) (v1 v2 : Value) (e1 e2 X A : Int) (w : World) (_hS1 : IsS v1) (_hS2 : IsS v2)
    (HC : ∀ W, Below w.heap.size w W → Calls Tryz.prog 21 #[.int .u64 q, .int .i64 k, .agg #[.int .u64 p1, .int .i64 m1, .int .i64 f1, .bool n1, v1, .int .i64 e1], .agg #[.int .u64 p2, .int .i64 m2, .int .i64 f2, .bool n2, v2, .int .i64 e2]] W fun e' w' => ∃ z, e' = .returned (.tuple #[z, .int .i64 A]) ∧ RealV w' z q k f sg M X ∧ Below W.heap.size W w') :
    Calls Tryz.prog 33 #[.int .i64 2, .int .u64 q, .int .i64 k, .agg #[.int .u64 p1, .int .i64 m1, .int .i64 f1, .bool n1, v1, .int .i64 e1], .agg #[.int .u64 p2, .int .i64 m2, .int .i64 f2, .bool n2, v2, .int .i64 e2]] w fun e' w' => ∃ z, e' = .returned (.tuple #[z, .int .i64 A]) ∧ RealV w' z q k f sg M X ∧ Below w.heap.size w w' := by
  have hab := (Below.refl w.heap.size w).alloc (Nat.le_refl _) (.cells #[.int .u64 p1, .int .i64 m1, .int .i64 f1, .bool n1, v1, .int .i64 e1] 39)
  have hac := hab.alloc hab.size (.cells #[.int .u64 p2, .int .i64 m2, .int .i64 f2, .bool n2, v2, .int .i64 e2] 39)
  have had := hac.alloc hac.size (.cells #[.int .u64 0, .int .i64 0, .int .i64 0, .bool false, .slice none 0 0, .int .i64 0] 39)
  obtain ⟨Y, hY⟩ : ∃ Y, Y = ((w.alloc (.cells #[.int .u64 p1, .int .i64 m1, .int .i64 f1, .bool n1, v1, .int .i64 e1] 39)).alloc (.cells #[.int .u64 p2, .int .i64 m2, .int .i64 f2, .bool n2, v2, .int .i64 e2] 39)).alloc (.cells #[.int .u64 0, .int .i64 0, .int .i64 0, .bool false, .slice none 0 0, .int .i64 0] 39) := ⟨_, rfl⟩
  have hr1 : Y.heap[w.heap.size]? = some (.cells #[.int .u64 p1, .int .i64 m1, .int .i64 f1, .bool n1, v1, .int .i64 e1] 39 (0, 0)) := by
    rw [hY]; exact row_chain31
  have hr2 : Y.heap[w.heap.size + 1]? = some (.cells #[.int .u64 p2, .int .i64 m2, .int .i64 f2, .bool n2, v2, .int .i64 e2] 39 (0, 0)) := by
    rw [hY]; exact row_chain32
  have hr3 : Y.heap[w.heap.size + 2]? = some (.cells #[.int .u64 0, .int .i64 0, .int .i64 0, .bool false, .slice none 0 0, .int .i64 0] 39 (0, 0)) := by
    rw [hY]; exact row_chain33
  rw [← hY] at had
  obtain ⟨⟨x0, x1, x2, x3, x4, x5⟩, -⟩ := row6 hr1
  obtain ⟨⟨y0, y1, y2, y3, y4, y5⟩, -⟩ := row6 hr2
  have HCY := Lib.hid (HC Y had)
  have HR3 := Lib.hid hr3
  have hwX := Lib.hid had
  have hXs := had.size
  clear HC hab hac had hr1 hr2 hr3
  go_enter Tryz.func33, Tryz.ntmps33
  go_upto_region 1 with fail
  rw [← hY]
  clear hY
  go_wp2_with fail
  refine HCY.out.mono ?_
  rintro _ w7 ⟨z, rfl, hz, hb7⟩
  have hq2 := keep_row hb7 HR3.out
  obtain ⟨vz, Ez, zs, Bz, rfl, hz2, hzd, hz3, hz4⟩ := hz
  have hSz := hz2.isS
  obtain ⟨⟨d0, d1, d2, d3, d4, d5⟩, s0, s1, s2, s3, s4, s5⟩ := row6 hq2
  have H2 := Lib.hid hz2
  have H34 := Lib.hid (And.intro hzd (And.intro hz3 hz4))
  have HQ2 := Lib.hid hq2
  have HB := Lib.hid (bset6 (x := .int .u64 (q : Int)) (y := .int .i64 (k : Int)) (z := .int .i64 (f : Int)) (x' := .bool sg) (y' := vz) (z' := .int .i64 Ez) (hwX.out.trans (hb7.mono hXs)) (Nat.le_trans (Nat.le_succ _) (Nat.le_succ _)))
  clear hz2 hzd hz3 hz4 hq2 hb7 x0 x1 x2 x3 x4 x5 y0 y1 y2 y3 y4 y5
  go_wp2
  have HS := row6_set (x := .int .u64 (q : Int)) (y := .int .i64 (k : Int)) (z := .int .i64 (f : Int)) (x' := .bool sg) (y' := vz) (z' := .int .i64 Ez) HQ2.out
  obtain ⟨⟨a0, a1, a2, a3, a4, a5⟩, -⟩ := row6 HS
  refine bodyPost_ret (v := .tuple #[.agg #[.int .u64 q, .int .i64 k, .int .i64 f, .bool sg, vz, .int .i64 Ez], .int .i64 A]) ?_ rfl ⟨_, rfl, ⟨_, _, _, Bz, rfl, ?_, H34.out.1, H34.out.2⟩, HB.out⟩
  · simp [results, Tryz.results33, go_sem, a0, a1, a2, a3, a4, a5]
  · exact H2.out.same fun hc => by
      have hne : sBlk vz ≠ w.heap.size + 2 := H2.out.ne_row HQ2.out (by decide) hc
      exact heap6_other hne
set_option maxRecDepth 100000 in
set_option maxHeartbeats 1600000 in
theorem did3 (q k p1 m1 f1 p2 m2 f2 f M : Nat) (n1 n2 sg : Bool) (v1 v2 : Value) (e1 e2 X A : Int) (w : World) (_hS1 : IsS v1) (_hS2 : IsS v2)
    (HC : ∀ W, Below w.heap.size w W → Calls Tryz.prog 31 #[.int .u64 q, .int .i64 k, .agg #[.int .u64 p1, .int .i64 m1, .int .i64 f1, .bool n1, v1, .int .i64 e1], .agg #[.int .u64 p2, .int .i64 m2, .int .i64 f2, .bool n2, v2, .int .i64 e2]] W fun e' w' => ∃ z, e' = .returned (.tuple #[z, .int .i64 A]) ∧ RealV w' z q k f sg M X ∧ Below W.heap.size W w') :
    Calls Tryz.prog 33 #[.int .i64 3, .int .u64 q, .int .i64 k, .agg #[.int .u64 p1, .int .i64 m1, .int .i64 f1, .bool n1, v1, .int .i64 e1], .agg #[.int .u64 p2, .int .i64 m2, .int .i64 f2, .bool n2, v2, .int .i64 e2]] w fun e' w' => ∃ z, e' = .returned (.tuple #[z, .int .i64 A]) ∧ RealV w' z q k f sg M X ∧ Below w.heap.size w w' := by
  have hab := (Below.refl w.heap.size w).alloc (Nat.le_refl _) (.cells #[.int .u64 p1, .int .i64 m1, .int .i64 f1, .bool n1, v1, .int .i64 e1] 39)
  have hac := hab.alloc hab.size (.cells #[.int .u64 p2, .int .i64 m2, .int .i64 f2, .bool n2, v2, .int .i64 e2] 39)
  have had := hac.alloc hac.size (.cells #[.int .u64 0, .int .i64 0, .int .i64 0, .bool false, .slice none 0 0, .int .i64 0] 39)
  obtain ⟨Y, hY⟩ : ∃ Y, Y = ((w.alloc (.cells #[.int .u64 p1, .int .i64 m1, .int .i64 f1, .bool n1, v1, .int .i64 e1] 39)).alloc (.cells #[.int .u64 p2, .int .i64 m2, .int .i64 f2, .bool n2, v2, .int .i64 e2] 39)).alloc (.cells #[.int .u64 0, .int .i64 0, .int .i64 0, .bool false, .slice none 0 0, .int .i64 0] 39) := ⟨_, rfl⟩
  have hr1 : Y.heap[w.heap.size]? = some (.cells #[.int .u64 p1, .int .i64 m1, .int .i64 f1, .bool n1, v1, .int .i64 e1] 39 (0, 0)) := by
    rw [hY]; exact row_chain31
  have hr2 : Y.heap[w.heap.size + 1]? = some (.cells #[.int .u64 p2, .int .i64 m2, .int .i64 f2, .bool n2, v2, .int .i64 e2] 39 (0, 0)) := by
    rw [hY]; exact row_chain32
  have hr3 : Y.heap[w.heap.size + 2]? = some (.cells #[.int .u64 0, .int .i64 0, .int .i64 0, .bool false, .slice none 0 0, .int .i64 0] 39 (0, 0)) := by
    rw [hY]; exact row_chain33
  rw [← hY] at had
  obtain ⟨⟨x0, x1, x2, x3, x4, x5⟩, -⟩ := row6 hr1
  obtain ⟨⟨y0, y1, y2, y3, y4, y5⟩, -⟩ := row6 hr2
  have HCY := Lib.hid (HC Y had)
  have HR3 := Lib.hid hr3
  have hwX := Lib.hid had
  have hXs := had.size
  clear HC hab hac had hr1 hr2 hr3
  go_enter Tryz.func33, Tryz.ntmps33
  go_upto_region 1 with fail
  rw [← hY]
  clear hY
  go_wp2_with fail
  refine HCY.out.mono ?_
  rintro _ w7 ⟨z, rfl, hz, hb7⟩
  have hq2 := keep_row hb7 HR3.out
  obtain ⟨vz, Ez, zs, Bz, rfl, hz2, hzd, hz3, hz4⟩ := hz
  have hSz := hz2.isS
  obtain ⟨⟨d0, d1, d2, d3, d4, d5⟩, s0, s1, s2, s3, s4, s5⟩ := row6 hq2
  have H2 := Lib.hid hz2
  have H34 := Lib.hid (And.intro hzd (And.intro hz3 hz4))
  have HQ2 := Lib.hid hq2
  have HB := Lib.hid (bset6 (x := .int .u64 (q : Int)) (y := .int .i64 (k : Int)) (z := .int .i64 (f : Int)) (x' := .bool sg) (y' := vz) (z' := .int .i64 Ez) (hwX.out.trans (hb7.mono hXs)) (Nat.le_trans (Nat.le_succ _) (Nat.le_succ _)))
  clear hz2 hzd hz3 hz4 hq2 hb7 x0 x1 x2 x3 x4 x5 y0 y1 y2 y3 y4 y5
  go_wp2
  have HS := row6_set (x := .int .u64 (q : Int)) (y := .int .i64 (k : Int)) (z := .int .i64 (f : Int)) (x' := .bool sg) (y' := vz) (z' := .int .i64 Ez) HQ2.out
  obtain ⟨⟨a0, a1, a2, a3, a4, a5⟩, -⟩ := row6 HS
  refine bodyPost_ret (v := .tuple #[.agg #[.int .u64 q, .int .i64 k, .int .i64 f, .bool sg, vz, .int .i64 Ez], .int .i64 A]) ?_ rfl ⟨_, rfl, ⟨_, _, _, Bz, rfl, ?_, H34.out.1, H34.out.2⟩, HB.out⟩
  · simp [results, Tryz.results33, go_sem, a0, a1, a2, a3, a4, a5]
  · exact H2.out.same fun hc => by
      have hne : sBlk vz ≠ w.heap.size + 2 := H2.out.ne_row HQ2.out (by decide) hc
      exact heap6_other hne
end Go.Proofs.YtgclooabjilniaaGreatDoor
