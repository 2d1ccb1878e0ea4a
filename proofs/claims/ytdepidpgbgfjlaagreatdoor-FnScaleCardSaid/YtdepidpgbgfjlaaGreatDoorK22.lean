/-
Texts of this proof, joined: InN SaA LwF IzC MuA MuB. No condition.
-/
import Derived.Test.YtdepidpgbgfjlaaGreatDoorK02
import Derived.Test.YtdepidpgbgfjlaaGreatDoorK05
import Derived.Test.YtdepidpgbgfjlaaGreatDoorK09
import Derived.Test.YtdepidpgbgfjlaaGreatDoorK21
/-
The package's fractions: Set, Abs, Neg; the thin package's RatAbs, RatNeg. No condition.
-/
namespace Go.Proofs.YtdepidpgbgfjlaaGreatDoor
open Go.RowKit

theorem RatP.setNeg {w : World} {B b n d : Nat} {neg : Bool} (h : RatP w B b neg n d) (x : Bool) : RatP (w.setCell ⟨b, 0, none⟩ (.bool x)) B b x n d := by
  obtain ⟨v1, v2, h1, h2, h3, h4⟩ := h
  exact ⟨v1, v2, h1, rowset (i := 0) (.bool x) h2, h3.away h2 (by decide) 0 _, h4.away h2 (by decide) 0 _⟩
end Go.Proofs.YtdepidpgbgfjlaaGreatDoor
/-
laws.same at equal words. No condition.
-/
namespace Go.Proofs.YtdepidpgbgfjlaaGreatDoor
open Go.RowKit

set_option maxRecDepth 100000 in
set_option maxHeartbeats 1600000 in
theorem same_any (v1 v2 : Value) (zs : List Nat) (w : World) (h1 : RW w v1 zs) (h2 : RW w v2 zs) (hl : zs.length ≤ 1000000000) :
    Calls Tryz.prog 72 #[v1, v2] w fun e w' => e = .returned (.bool true) ∧ Below w.heap.size w w' := by
  have hS1 := h1.isS
  have hS2 := h2.isS
  have hL1 := h1.len
  have hL2 := h2.len
  obtain ⟨L, hL⟩ : ∃ L, L = zs.length := ⟨_, rfl⟩
  rw [← hL] at hL1 hL2 hl
  have HL := Lib.hid hL
  have H1 := Lib.hid h1
  have H2 := Lib.hid h2
  clear h1 h2 hL
  go_enter Tryz.func72, Tryz.ntmps72
  go_wp2
  go_loopw [5, 13] (fun _ i wr => ∃ k : Nat, k ≤ L ∧ i = .int .i64 k ∧ Below w.heap.size w wr) (fun _ i _ => L - (intOf i).toNat)
  case atStart => exact ⟨0, Nat.zero_le _, rfl, Below.refl _ _⟩
  case round =>
    obtain ⟨k, hk, rfl, hbl⟩ := hrel
    by_cases hkL : k < L
    · have c1 := (H1.out.below hbl).cell k (by rw [← HL.out]; exact hkL)
      have c2 := (H2.out.below hbl).cell k (by rw [← HL.out]; exact hkL)
      obtain ⟨p, hp⟩ : ∃ p, p = zs.getD k 0 := ⟨_, rfl⟩
      rw [← hp] at c1 c2
      clear hp
      have t2 : ((p : Int) == p) = true := beq_self_eq_true _
      go_wp2
      go_quiet (fail)
      go_wp2
      exact ⟨⟨k + 1, by omega, by go_num, undrewN' hbl⟩, by simp [intOf]; omega⟩
    · have hk1 : k = L := by omega
      have HB := Lib.hid hbl
      clear hbl
      go_wp2
      go_ret
      exact ⟨rfl, HB.out⟩
end Go.Proofs.YtdepidpgbgfjlaaGreatDoor
/-
The statements on SetMantExp and MantExp. No condition.
-/
namespace Go.Proofs.YtdepidpgbgfjlaaGreatDoor
open Go.RowKit

theorem RealOk.one {P E p m f : Nat} {ws : List Nat} {e : Int} (h : RealOk P E p m f ws e) (hf : f = 1) : 0 < wv ws ∧ bl (wv ws) ≤ p ∧ bl (wv ws) ≤ P ∧ ws.length ≤ 1000000 ∧ -(E : Int) ≤ e ∧ e ≤ E := by
  subst hf
  obtain ⟨-, h2, -, h | h | h⟩ := h
  · exact absurd h (by decide)
  · exact absurd h (by decide)
  · exact ⟨h.2.1, h.2.2.1, Nat.le_trans h.2.2.1 h2, h.2.2.2⟩
theorem RealV.ok {w : World} {z : Value} {p m f M P E : Nat} {neg : Bool} {X : Int} (h : RealV w z p m f neg M X) (hp0 : 0 < p) (hp : p ≤ P) (hm : m ≤ 5) (hf : f ≤ 2) (h1 : f = 1 → 0 < M ∧ bl (od M) ≤ p ∧ bl M ≤ 60000000 ∧ -(E : Int) ≤ X ∧ X + bl M ≤ E) :
    ∃ (v : Value) (Ez : Int) (zs : List Nat), z = .agg #[.int .u64 p, .int .i64 m, .int .i64 f, .bool neg, v, .int .i64 Ez] ∧ RW w v zs ∧ RealOk P E p m f zs Ez ∧ (f = 1 → wv zs = od M ∧ zs = wds (od M) ∧ Ez = X + (tz M : Nat) ∧ deq (wv zs) Ez M X) ∧ (f ≠ 1 → zs = [] ∧ Ez = 0) := by
  obtain ⟨v, Ez, zs, B, e1, e2, e3, e4, e5⟩ := h
  refine ⟨v, Ez, zs, e1, e2.rw' e3, ⟨hp0, hp, hm, ?_⟩, fun hf1 => ?_, e4⟩
  · by_cases hf1 : f = 1
    · obtain ⟨k1, k2, k3, k4, k5⟩ := h1 hf1
      obtain ⟨l1, l2⟩ := e5 hf1
      have l3 := tz_le k1
      refine .inr (.inr ⟨hf1, ?_, ?_, ?_, ?_, ?_⟩)
      · rw [l1, wv_wds]; exact od_pos k1
      · rw [l1, wv_wds]; exact k2
      · rw [l1, wds_length, nw_bl (od_pos k1)]
        have : bl (od M) ≤ bl M := by have := bl_od k1; omega
        omega
      · omega
      · omega
    · omega
  · obtain ⟨k1, k2, k3, k4, k5⟩ := h1 hf1
    obtain ⟨l1, l2⟩ := e5 hf1
    have l3 : wv zs = od M := by rw [l1, wv_wds]
    refine ⟨l3, l1, l2, ?_⟩
    rw [l3, l2]; exact (od_deq k1 X).symm
end Go.Proofs.YtdepidpgbgfjlaaGreatDoor
/-
laws.same, laws.twin at equal values; laws.did by the thin package's contracts. No condition.
-/
namespace Go.Proofs.YtdepidpgbgfjlaaGreatDoor
open Go.RowKit

def zWd (f M : Nat) : List Nat := if f = 1 then wds (od M) else []
def zEx (f M : Nat) (X : Int) : Int := if f = 1 then X + (tz M : Nat) else 0
theorem zWd_len {f M k : Nat} (h : bl M ≤ k) : (zWd f M).length ≤ k + 3 := by
  unfold zWd
  split
  · rw [wds_length]
    rcases Nat.eq_zero_or_pos M with h0 | h0
    · subst h0
      have : nw (od 0) = 0 := by decide
      omega
    · have h1 := bl_od h0
      have := nl_of_bl (n := od M) (k := k) (by omega)
      unfold nw; omega
  · simp
theorem RealV.canon {w : World} {z : Value} {p m f M : Nat} {neg : Bool} {X : Int} (h : RealV w z p m f neg M X) :
    ∃ v : Value, z = .agg #[.int .u64 p, .int .i64 m, .int .i64 f, .bool neg, v, .int .i64 (zEx f M X)] ∧ RW w v (zWd f M) := by
  obtain ⟨v, E, zs, B, rfl, h2, h3, h4, h5⟩ := h
  by_cases hf : f = 1
  · obtain ⟨rfl, rfl⟩ := h5 hf
    rw [zWd, zEx, if_pos hf, if_pos hf]
    exact ⟨v, rfl, h2.rw' h3⟩
  · obtain ⟨rfl, rfl⟩ := h4 hf
    rw [zWd, zEx, if_neg hf, if_neg hf]
    exact ⟨v, rfl, h2.rw' h3⟩
set_option maxRecDepth 100000 in
set_option maxHeartbeats 1600000 in
theorem twin_any (q k f : Nat) (sg : Bool) (v1 v2 : Value) (E : Int) (zs : List Nat) (w : World) (h1 : RW w v1 zs) (h2 : RW w v2 zs) (hl : zs.length ≤ 1000000000) :
    Calls Tryz.prog 25 #[.agg #[.int .u64 q, .int .i64 k, .int .i64 f, .bool sg, v1, .int .i64 E], .agg #[.int .u64 q, .int .i64 k, .int .i64 f, .bool sg, v2, .int .i64 E]] w fun e w' => e = .returned (.bool true) ∧ Below w.heap.size w w' := by
  have hS1 := h1.isS
  have hS2 := h2.isS
  have hab := (Below.refl w.heap.size w).alloc (Nat.le_refl _) (.cells #[.int .u64 q, .int .i64 k, .int .i64 f, .bool sg, v1, .int .i64 E] 39)
  have hac := hab.alloc hab.size (.cells #[.int .u64 q, .int .i64 k, .int .i64 f, .bool sg, v2, .int .i64 E] 39)
  obtain ⟨X, hX⟩ : ∃ X, X = ((w.alloc (.cells #[.int .u64 q, .int .i64 k, .int .i64 f, .bool sg, v1, .int .i64 E] 39)).alloc (.cells #[.int .u64 q, .int .i64 k, .int .i64 f, .bool sg, v2, .int .i64 E] 39)) := ⟨_, rfl⟩
  have hr1 : X.heap[w.heap.size]? = some (.cells #[.int .u64 q, .int .i64 k, .int .i64 f, .bool sg, v1, .int .i64 E] 39 (0, 0)) := by
    rw [hX]; exact row_chain21
  have hr2 : X.heap[w.heap.size + 1]? = some (.cells #[.int .u64 q, .int .i64 k, .int .i64 f, .bool sg, v2, .int .i64 E] 39 (0, 0)) := by
    rw [hX]; exact row_chain22
  rw [← hX] at hac
  obtain ⟨⟨x0, x1, x2, x3, x4, x5⟩, -⟩ := row6 hr1
  obtain ⟨⟨y0, y1, y2, y3, y4, y5⟩, -⟩ := row6 hr2
  have HS := Lib.hid (same_any v1 v2 zs X (h1.below hac) (h2.below hac) hl)
  have HW := Lib.hid hac
  have hXs := hac.size
  clear h1 h2 hab hac hr1 hr2
  go_enter Tryz.func25, Tryz.ntmps25
  go_upto_region 1 with fail
  rw [← hX]
  clear hX
  go_wp2_with fail
  refine HS.out.mono ?_
  rintro _ w1 ⟨rfl, hb1⟩
  have HB := Lib.hid (HW.out.trans (hb1.mono hXs))
  clear hb1
  go_wp2
  go_ret
  exact ⟨rfl, HB.out⟩
set_option maxRecDepth 100000 in
set_option maxHeartbeats 1600000 in
theorem did0 (q k p1 m1 f1 p2 m2 f2 f M : Nat) (n1 n2 sg : Bool) (v1 v2 : Value) (e1 e2 X A : Int) (w : World) (_hS1 : IsS v1) (_hS2 : IsS v2)
    (HC : ∀ W, Below w.heap.size w W → Calls Tryz.prog 71 #[.int .u64 q, .int .i64 k, .agg #[.int .u64 p1, .int .i64 m1, .int .i64 f1, .bool n1, v1, .int .i64 e1], .agg #[.int .u64 p2, .int .i64 m2, .int .i64 f2, .bool n2, v2, .int .i64 e2]] W fun e' w' => ∃ z, e' = .returned (.tuple #[z, .int .i64 A]) ∧ RealV w' z q k f sg M X ∧ Below W.heap.size W w') :
    Calls Tryz.prog 24 #[.int .i64 0, .int .u64 q, .int .i64 k, .agg #[.int .u64 p1, .int .i64 m1, .int .i64 f1, .bool n1, v1, .int .i64 e1], .agg #[.int .u64 p2, .int .i64 m2, .int .i64 f2, .bool n2, v2, .int .i64 e2]] w fun e' w' => ∃ z, e' = .returned (.tuple #[z, .int .i64 A]) ∧ RealV w' z q k f sg M X ∧ Below w.heap.size w w' := by
  have hab := (Below.refl w.heap.size w).alloc (Nat.le_refl _) (.cells #[.int .u64 p1, .int .i64 m1, .int .i64 f1, .bool n1, v1, .int .i64 e1] 39)
  have hac := hab.alloc hab.size (.cells #[.int .u64 p2, .int .i64 m2, .int .i64 f2, .bool n2, v2, .int .i64 e2] 39)
  have had := hac.alloc hac.size (.cells #[.int .u64 0, .int .i64 0, .int .i64 0, .bool false, .slice none 0 0, .int .i64 0] 39)
  obtain ⟨Y, hY⟩ : ∃ Y, Y = ((w.alloc (.cells #[.int .u64 p1, .int .i64 m1, .int .i64 f1, .bool n1, v1, .int .i64 e1] 39)).alloc (.cells #[.int .u64 p2, .int .i64 m2, .int .i64 f2, .bool n2, v2, .int .i64 e2] 39)).alloc (.cells #[.int .u64 0, .int .i64 0, .int .i64 0, .bool false, .slice none 0 0, .int .i64 0] 39) := ⟨_, rfl⟩
  have hr1 : Y.heap[w.heap.size]? = some (.cells #[.int .u64 p1, .int .i64 m1, .int .i64 f1, .bool n1, v1, .int .i64 e1] 39 (0, 0)) := by
    rw [hY]; exact row_chain31
  have hr2 : Y.heap[w.heap.size + 1]? = some (.cells #[.int .u64 p2, .int .i64 m2, .int .i64 f2, .bool n2, v2, .int .i64 e2] 39 (0, 0)) := by
    rw [hY]; exact row_chain32
  have hr3 : Y.heap[w.heap.size + 2]? = some (.cells #[.int .u64 0, .int .i64 0, .int .i64 0, .bool false, .slice none 0 0, .int .i64 0] 39 (0, 0)) := by
    rw [hY]; exact row_chain33
  rw [← hY] at had
  obtain ⟨⟨x0, x1, x2, x3, x4, x5⟩, -⟩ := row6 hr1
  obtain ⟨⟨y0, y1, y2, y3, y4, y5⟩, -⟩ := row6 hr2
  have HCY := Lib.hid (HC Y had)
  have HR3 := Lib.hid hr3
  have hwX := Lib.hid had
  have hXs := had.size
  clear HC hab hac had hr1 hr2 hr3
  go_enter Tryz.func24, Tryz.ntmps24
  go_upto_region 1 with fail
  rw [← hY]
  clear hY
  go_wp2_with fail
  refine HCY.out.mono ?_
  rintro _ w7 ⟨z, rfl, hz, hb7⟩
  have hq2 := keep_row hb7 HR3.out
  obtain ⟨vz, Ez, zs, Bz, rfl, hz2, hzd, hz3, hz4⟩ := hz
  have hSz := hz2.isS
  obtain ⟨⟨d0, d1, d2, d3, d4, d5⟩, s0, s1, s2, s3, s4, s5⟩ := row6 hq2
  have H2 := Lib.hid hz2
  have H34 := Lib.hid (And.intro hzd (And.intro hz3 hz4))
  have HQ2 := Lib.hid hq2
  have HB := Lib.hid (bset6 (x := .int .u64 (q : Int)) (y := .int .i64 (k : Int)) (z := .int .i64 (f : Int)) (x' := .bool sg) (y' := vz) (z' := .int .i64 Ez) (hwX.out.trans (hb7.mono hXs)) (Nat.le_trans (Nat.le_succ _) (Nat.le_succ _)))
  clear hz2 hzd hz3 hz4 hq2 hb7 x0 x1 x2 x3 x4 x5 y0 y1 y2 y3 y4 y5
  go_wp2
  have HS := row6_set (x := .int .u64 (q : Int)) (y := .int .i64 (k : Int)) (z := .int .i64 (f : Int)) (x' := .bool sg) (y' := vz) (z' := .int .i64 Ez) HQ2.out
  obtain ⟨⟨a0, a1, a2, a3, a4, a5⟩, -⟩ := row6 HS
  refine bodyPost_ret (v := .tuple #[.agg #[.int .u64 q, .int .i64 k, .int .i64 f, .bool sg, vz, .int .i64 Ez], .int .i64 A]) ?_ rfl ⟨_, rfl, ⟨_, _, _, Bz, rfl, ?_, H34.out.1, H34.out.2⟩, HB.out⟩
  · simp [results, Tryz.results24, go_sem, a0, a1, a2, a3, a4, a5]
  · exact H2.out.same fun hc => by
      have hne : sBlk vz ≠ w.heap.size + 2 := H2.out.ne_row HQ2.out (by decide) hc
      exact heap6_other hne
set_option maxRecDepth 100000 in
set_option maxHeartbeats 1600000 in
theorem did1 (q k p1 m1 f1 p2 m2 f2 f M : Nat) (n1 n2 sg : Bool) (v1 v2 : Value) (e1 e2 X A : Int) (w : World) (_hS1 : IsS v1) (_hS2 : IsS v2)
    (HC : ∀ W, Below w.heap.size w W → Calls Tryz.prog 69 #[.int .u64 q, .int .i64 k, .agg #[.int .u64 p1, .int .i64 m1, .int .i64 f1, .bool n1, v1, .int .i64 e1], .agg #[.int .u64 p2, .int .i64 m2, .int .i64 f2, .bool n2, v2, .int .i64 e2]] W fun e' w' => ∃ z, e' = .returned (.tuple #[z, .int .i64 A]) ∧ RealV w' z q k f sg M X ∧ Below W.heap.size W w') :
    Calls Tryz.prog 24 #[.int .i64 1, .int .u64 q, .int .i64 k, .agg #[.int .u64 p1, .int .i64 m1, .int .i64 f1, .bool n1, v1, .int .i64 e1], .agg #[.int .u64 p2, .int .i64 m2, .int .i64 f2, .bool n2, v2, .int .i64 e2]] w fun e' w' => ∃ z, e' = .returned (.tuple #[z, .int .i64 A]) ∧ RealV w' z q k f sg M X ∧ Below w.heap.size w w' := by
  have hab := (Below.refl w.heap.size w).alloc (Nat.le_refl _) (.cells #[.int .u64 p1, .int .i64 m1, .int .i64 f1, .bool n1, v1, .int .i64 e1] 39)
  have hac := hab.alloc hab.size (.cells #[.int .u64 p2, .int .i64 m2, .int .i64 f2, .bool n2, v2, .int .i64 e2] 39)
  have had := hac.alloc hac.size (.cells #[.int .u64 0, .int .i64 0, .int .i64 0, .bool false, .slice none 0 0, .int .i64 0] 39)
  obtain ⟨Y, hY⟩ : ∃ Y, Y = ((w.alloc (.cells #[.int .u64 p1, .int .i64 m1, .int .i64 f1, .bool n1, v1, .int .i64 e1] 39)).alloc (.cells #[.int .u64 p2, .int .i64 m2, .int .i64 f2, .bool n2, v2, .int .i64 e2] 39)).alloc (.cells #[.int .u64 0, .int .i64 0, .int .i64 0, .bool false, .slice none 0 0, .int .i64 0] 39) := ⟨_, rfl⟩
  have hr1 : Y.heap[w.heap.size]? = some (.cells #[.int .u64 p1, .int .i64 m1, .int .i64 f1, .bool n1, v1, .int .i64 e1] 39 (0, 0)) := by
    rw [hY]; exact row_chain31
  have hr2 : Y.heap[w.heap.size + 1]? = some (.cells #[.int .u64 p2, .int .i64 m2, .int .i64 f2, .bool n2, v2, .int .i64 e2] 39 (0, 0)) := by
    rw [hY]; exact row_chain32
  have hr3 : Y.heap[w.heap.size + 2]? = some (.cells #[.int .u64 0, .int .i64 0, .int .i64 0, .bool false, .slice none 0 0, .int .i64 0] 39 (0, 0)) := by
    rw [hY]; exact row_chain33
  rw [← hY] at had
  obtain ⟨⟨x0, x1, x2, x3, x4, x5⟩, -⟩ := row6 hr1
  obtain ⟨⟨y0, y1, y2, y3, y4, y5⟩, -⟩ := row6 hr2
  have HCY := Lib.hid (HC Y had)
  have HR3 := Lib.hid hr3
  have hwX := Lib.hid had
  have hXs := had.size
  clear HC hab hac had hr1 hr2 hr3
  go_enter Tryz.func24, Tryz.ntmps24
  go_upto_region 1 with fail
  rw [← hY]
  clear hY
  go_wp2_with fail
  refine HCY.out.mono ?_
  rintro _ w7 ⟨z, rfl, hz, hb7⟩
  have hq2 := keep_row hb7 HR3.out
  obtain ⟨vz, Ez, zs, Bz, rfl, hz2, hzd, hz3, hz4⟩ := hz
  have hSz := hz2.isS
  obtain ⟨⟨d0, d1, d2, d3, d4, d5⟩, s0, s1, s2, s3, s4, s5⟩ := row6 hq2
  have H2 := Lib.hid hz2
  have H34 := Lib.hid (And.intro hzd (And.intro hz3 hz4))
  have HQ2 := Lib.hid hq2
  have HB := Lib.hid (bset6 (x := .int .u64 (q : Int)) (y := .int .i64 (k : Int)) (z := .int .i64 (f : Int)) (x' := .bool sg) (y' := vz) (z' := .int .i64 Ez) (hwX.out.trans (hb7.mono hXs)) (Nat.le_trans (Nat.le_succ _) (Nat.le_succ _)))
  clear hz2 hzd hz3 hz4 hq2 hb7 x0 x1 x2 x3 x4 x5 y0 y1 y2 y3 y4 y5
  go_wp2
  have HS := row6_set (x := .int .u64 (q : Int)) (y := .int .i64 (k : Int)) (z := .int .i64 (f : Int)) (x' := .bool sg) (y' := vz) (z' := .int .i64 Ez) HQ2.out
  obtain ⟨⟨a0, a1, a2, a3, a4, a5⟩, -⟩ := row6 HS
  refine bodyPost_ret (v := .tuple #[.agg #[.int .u64 q, .int .i64 k, .int .i64 f, .bool sg, vz, .int .i64 Ez], .int .i64 A]) ?_ rfl ⟨_, rfl, ⟨_, _, _, Bz, rfl, ?_, H34.out.1, H34.out.2⟩, HB.out⟩
  · simp [results, Tryz.results24, go_sem, a0, a1, a2, a3, a4, a5]
  · exact H2.out.same fun hc => by
      have hne : sBlk vz ≠ w.heap.size + 2 := H2.out.ne_row HQ2.out (by decide) hc
      exact heap6_other hne
set_option maxRecDepth 100000 in
set_option maxHeartbeats 1600000 in
theorem did2 (q k p1 m1 f1 p2 m2 f2 f M : Nat) (n1 n2 sg : Bool) (v1 v2 : Value) (e1 e2 X A : Int) (w : World) (_hS1 : IsS v1) (_hS2 : IsS v2)
    (HC : ∀ W, Below w.heap.size w W → Calls Tryz.prog 54 #[.int .u64 q, .int .i64 k, .agg #[.int .u64 p1, .int .i64 m1, .int .i64 f1, .bool n1, v1, .int .i64 e1], .agg #[.int .u64 p2, .int .i64 m2, .int .i64 f2, .bool n2, v2, .int .i64 e2]] W fun e' w' => ∃ z, e' = .returned (.tuple #[z, .int .i64 A]) ∧ RealV w' z q k f sg M X ∧ Below W.heap.size W w') :
    Calls Tryz.prog 24 #[.int .i64 2, .int .u64 q, .int .i64 k, .agg #[.int .u64 p1, .int .i64 m1, .int .i64 f1, .bool n1, v1, .int .i64 e1], .agg #[.int .u64 p2, .int .i64 m2, .int .i64 f2, .bool n2, v2, .int .i64 e2]] w fun e' w' => ∃ z, e' = .returned (.tuple #[z, .int .i64 A]) ∧ RealV w' z q k f sg M X ∧ Below w.heap.size w w' := by
  have hab := (Below.refl w.heap.size w).alloc (Nat.le_refl _) (.cells #[.int .u64 p1, .int .i64 m1, .int .i64 f1, .bool n1, v1, .int .i64 e1] 39)
  have hac := hab.alloc hab.size (.cells #[.int .u64 p2, .int .i64 m2, .int .i64 f2, .bool n2, v2, .int .i64 e2] 39)
  have had := hac.alloc hac.size (.cells #[.int .u64 0, .int .i64 0, .int .i64 0, .bool false, .slice none 0 0, .int .i64 0] 39)
  obtain ⟨Y, hY⟩ : ∃ Y, Y = ((w.alloc (.cells #[.int .u64 p1, .int .i64 m1, .int .i64 f1, .bool n1, v1, .int .i64 e1] 39)).alloc (.cells #[.int .u64 p2, .int .i64 m2, .int .i64 f2, .bool n2, v2, .int .i64 e2] 39)).alloc (.cells #[.int .u64 0, .int .i64 0, .int .i64 0, .bool false, .slice none 0 0, .int .i64 0] 39) := ⟨_, rfl⟩
  have hr1 : Y.heap[w.heap.size]? = some (.cells #[.int .u64 p1, .int .i64 m1, .int .i64 f1, .bool n1, v1, .int .i64 e1] 39 (0, 0)) := by
    rw [hY]; exact row_chain31
  have hr2 : Y.heap[w.heap.size + 1]? = some (.cells #[.int .u64 p2, .int .i64 m2, .int .i64 f2, .bool n2, v2, .int .i64 e2] 39 (0, 0)) := by
    rw [hY]; exact row_chain32
  have hr3 : Y.heap[w.heap.size + 2]? = some (.cells #[.int .u64 0, .int .i64 0, .int .i64 0, .bool false, .slice none 0 0, .int .i64 0] 39 (0, 0)) := by
    rw [hY]; exact row_chain33
  rw [← hY] at had
  obtain ⟨⟨x0, x1, x2, x3, x4, x5⟩, -⟩ := row6 hr1
  obtain ⟨⟨y0, y1, y2, y3, y4, y5⟩, -⟩ := row6 hr2
  have HCY := Lib.hid (HC Y had)
  have HR3 := Lib.hid hr3
  have hwX := Lib.hid had
  have hXs := had.size
  clear HC hab hac had hr1 hr2 hr3
  go_enter Tryz.func24, Tryz.ntmps24
  go_upto_region 1 with fail
  rw [← hY]
  clear hY
  go_wp2_with fail
  refine HCY.out.mono ?_
  rintro _ w7 ⟨z, rfl, hz, hb7⟩
  have hq2 := keep_row hb7 HR3.out
  obtain ⟨vz, Ez, zs, Bz, rfl, hz2, hzd, hz3, hz4⟩ := hz
  have hSz := hz2.isS
  obtain ⟨⟨d0, d1, d2, d3, d4, d5⟩, s0, s1, s2, s3, s4, s5⟩ := row6 hq2
  have H2 := Lib.hid hz2
  have H34 := Lib.hid (And.intro hzd (And.intro hz3 hz4))
  have HQ2 := Lib.hid hq2
  have HB := Lib.hid (bset6 (x := .int .u64 (q : Int)) (y := .int .i64 (k : Int)) (z := .int .i64 (f : Int)) (x' := .bool sg) (y' := vz) (z' := .int .i64 Ez) (hwX.out.trans (hb7.mono hXs)) (Nat.le_trans (Nat.le_succ _) (Nat.le_succ _)))
  clear hz2 hzd hz3 hz4 hq2 hb7 x0 x1 x2 x3 x4 x5 y0 y1 y2 y3 y4 y5
  go_wp2
  have HS := row6_set (x := .int .u64 (q : Int)) (y := .int .i64 (k : Int)) (z := .int .i64 (f : Int)) (x' := .bool sg) (y' := vz) (z' := .int .i64 Ez) HQ2.out
  obtain ⟨⟨a0, a1, a2, a3, a4, a5⟩, -⟩ := row6 HS
  refine bodyPost_ret (v := .tuple #[.agg #[.int .u64 q, .int .i64 k, .int .i64 f, .bool sg, vz, .int .i64 Ez], .int .i64 A]) ?_ rfl ⟨_, rfl, ⟨_, _, _, Bz, rfl, ?_, H34.out.1, H34.out.2⟩, HB.out⟩
  · simp [results, Tryz.results24, go_sem, a0, a1, a2, a3, a4, a5]
  · exact H2.out.same fun hc => by
      have hne : sBlk vz ≠ w.heap.size + 2 := H2.out.ne_row HQ2.out (by decide) hc
      exact heap6_other hne
set_option maxRecDepth 100000 in
set_option maxHeartbeats 1600000 in
theorem did3 (q k p1 m1 f1 p2 m2 f2 f M : Nat) (n1 n2 sg : Bool) (v1 v2 : Value) (e1 e2 X A : Int) (w : World) (_hS1 : IsS v1) (_hS2 : IsS v2)
    (HC : ∀ W, Below w.heap.size w W → Calls Tryz.prog 70 #[.int .u64 q, .int .i64 k, .agg #[.int .u64 p1, .int .i64 m1, .int .i64 f1, .bool n1, v1, .int .i64 e1], .agg #[.int .u64 p2, .int .i64 m2, .int .i64 f2, .bool n2, v2, .int .i64 e2]] W fun e' w' => ∃ z, e' = .returned (.tuple #[z, .int .i64 A]) ∧ RealV w' z q k f sg M X ∧ Below W.heap.size W w') :
    Calls Tryz.prog 24 #[.int .i64 3, .int .u64 q, .int .i64 k, .agg #[.int .u64 p1, .int .i64 m1, .int .i64 f1, .bool n1, v1, .int .i64 e1], .agg #[.int .u64 p2, .int .i64 m2, .int .i64 f2, .bool n2, v2, .int .i64 e2]] w fun e' w' => ∃ z, e' = .returned (.tuple #[z, .int .i64 A]) ∧ RealV w' z q k f sg M X ∧ Below w.heap.size w w' := by
  have hab := (Below.refl w.heap.size w).alloc (Nat.le_refl _) (.cells #[.int .u64 p1, .int .i64 m1, .int .i64 f1, .bool n1, v1, .int .i64 e1] 39)
  have hac := hab.alloc hab.size (.cells #[.int .u64 p2, .int .i64 m2, .int .i64 f2, .bool n2, v2, .int .i64 e2] 39)
  have had := hac.alloc hac.size (.cells #[.int .u64 0, .int .i64 0, .int .i64 0, .bool false, .slice none 0 0, .int .i64 0] 39)
  obtain ⟨Y, hY⟩ : ∃ Y, Y = ((w.alloc (.cells #[.int .u64 p1, .int .i64 m1, .int .i64 f1, .bool n1, v1, .int .i64 e1] 39)).alloc (.cells #[.int .u64 p2, .int .i64 m2, .int .i64 f2, .bool n2, v2, .int .i64 e2] 39)).alloc (.cells #[.int .u64 0, .int .i64 0, .int .i64 0, .bool false, .slice none 0 0, .int .i64 0] 39) := ⟨_, rfl⟩
  have hr1 : Y.heap[w.heap.size]? = some (.cells #[.int .u64 p1, .int .i64 m1, .int .i64 f1, .bool n1, v1, .int .i64 e1] 39 (0, 0)) := by
    rw [hY]; exact row_chain31
  have hr2 : Y.heap[w.heap.size + 1]? = some (.cells #[.int .u64 p2, .int .i64 m2, .int .i64 f2, .bool n2, v2, .int .i64 e2] 39 (0, 0)) := by
    rw [hY]; exact row_chain32
  have hr3 : Y.heap[w.heap.size + 2]? = some (.cells #[.int .u64 0, .int .i64 0, .int .i64 0, .bool false, .slice none 0 0, .int .i64 0] 39 (0, 0)) := by
    rw [hY]; exact row_chain33
  rw [← hY] at had
  obtain ⟨⟨x0, x1, x2, x3, x4, x5⟩, -⟩ := row6 hr1
  obtain ⟨⟨y0, y1, y2, y3, y4, y5⟩, -⟩ := row6 hr2
  have HCY := Lib.hid (HC Y had)
  have HR3 := Lib.hid hr3
  have hwX := Lib.hid had
  have hXs := had.size
  clear HC hab hac had hr1 hr2 hr3
  go_enter Tryz.func24, Tryz.ntmps24
  go_upto_region 1 with fail
  rw [← hY]
  clear hY
  go_wp2_with fail
  refine HCY.out.mono ?_
  rintro _ w7 ⟨z, rfl, hz, hb7⟩
  have hq2 := keep_row hb7 HR3.out
  obtain ⟨vz, Ez, zs, Bz, rfl, hz2, hzd, hz3, hz4⟩ := hz
  have hSz := hz2.isS
  obtain ⟨⟨d0, d1, d2, d3, d4, d5⟩, s0, s1, s2, s3, s4, s5⟩ := row6 hq2
  have H2 := Lib.hid hz2
  have H34 := Lib.hid (And.intro hzd (And.intro hz3 hz4))
  have HQ2 := Lib.hid hq2
  have HB := Lib.hid (bset6 (x := .int .u64 (q : Int)) (y := .int .i64 (k : Int)) (z := .int .i64 (f : Int)) (x' := .bool sg) (y' := vz) (z' := .int .i64 Ez) (hwX.out.trans (hb7.mono hXs)) (Nat.le_trans (Nat.le_succ _) (Nat.le_succ _)))
  clear hz2 hzd hz3 hz4 hq2 hb7 x0 x1 x2 x3 x4 x5 y0 y1 y2 y3 y4 y5
  go_wp2
  have HS := row6_set (x := .int .u64 (q : Int)) (y := .int .i64 (k : Int)) (z := .int .i64 (f : Int)) (x' := .bool sg) (y' := vz) (z' := .int .i64 Ez) HQ2.out
  obtain ⟨⟨a0, a1, a2, a3, a4, a5⟩, -⟩ := row6 HS
  refine bodyPost_ret (v := .tuple #[.agg #[.int .u64 q, .int .i64 k, .int .i64 f, .bool sg, vz, .int .i64 Ez], .int .i64 A]) ?_ rfl ⟨_, rfl, ⟨_, _, _, Bz, rfl, ?_, H34.out.1, H34.out.2⟩, HB.out⟩
  · simp [results, Tryz.results24, go_sem, a0, a1, a2, a3, a4, a5]
  · exact H2.out.same fun hc => by
      have hne : sBlk vz ≠ w.heap.size + 2 := H2.out.ne_row HQ2.out (by decide) hc
      exact heap6_other hne
end Go.Proofs.YtdepidpgbgfjlaaGreatDoor
/-
Products of words: mulAddWWW, mulAddVWW, addMulVVWW. No condition.
-/
namespace Go.Proofs.YtdepidpgbgfjlaaGreatDoor
open Go.RowKit

set_option maxRecDepth 100000 in
theorem mulWWW_any (x y c q r : Nat) (w : World) (hx : x < 18446744073709551616) (hy : y < 18446744073709551616) (hc : c < 18446744073709551616) (h : x * y + c = r + 18446744073709551616 * q) (hr : r < 18446744073709551616) (hq : q < 18446744073709551616) :
    Calls Tryz.prog 280 #[.int .u64 x, .int .u64 y, .int .u64 c] w fun e w' => e = .returned (.tuple #[.int .u64 q, .int .u64 r]) ∧ w' = w := by
  have HM := Lib.hid (Tryz.bits_Mul x y hx hy w)
  obtain ⟨P, hP⟩ : ∃ P, P = x * y := ⟨_, rfl⟩
  rw [← hP] at HM h
  obtain ⟨hi, hhi⟩ : ∃ hi, hi = P / 18446744073709551616 := ⟨_, rfl⟩
  obtain ⟨lo, hlo⟩ : ∃ lo, lo = P % 18446744073709551616 := ⟨_, rfl⟩
  rw [← hhi, ← hlo] at HM
  obtain ⟨cc, hcc⟩ : ∃ cc, cc = q - hi := ⟨_, rfl⟩
  have H1 := Lib.hid (show lo + c = r + 18446744073709551616 * cc by omega)
  have hle : hi + cc = q := by omega
  have e0 : (hi : Int) + (cc : Int) = (q : Int) := by omega
  have e1 : IntKind.u64.wrap ((hi : Int) + (cc : Int)) = (q : Int) := by rw [e0, IntKind.wrap_u64]; omega
  have hlol : lo < 18446744073709551616 := by omega
  have hhil : hi < 18446744073709551616 := by omega
  clear hP hhi hlo hcc h hle
  go_enter Tryz.func280, Tryz.ntmps280
  go_wp2_with fail
  refine HM.out.mono ?_
  rintro _ _ ⟨rfl, rfl⟩
  go_wp2_with fail
  refine (bitsAdd0 lo c r cc _ H1.out hr).mono ?_
  rintro _ _ ⟨rfl, rfl⟩
  go_wp2
  go_ret2
  exact ⟨rfl, rfl⟩
theorem mul_word_lt {a y d q s : Nat} (ha : a < 18446744073709551616) (hy : y < 18446744073709551616) (hd : d < 18446744073709551616) (h : a * y + d = s + 18446744073709551616 * q) : q < 18446744073709551616 := by
  have h1 : a * y ≤ 18446744073709551615 * 18446744073709551615 := Nat.mul_le_mul (by omega) (by omega)
  omega
set_option maxRecDepth 100000 in
set_option maxHeartbeats 1600000 in
theorem mulAddVWW_g_any (v x : Value) (os : List Value) (xs : List Nat) (y r B : Nat) (w : World) (ho : Own w B 164 v os) (hx : RW w x xs) (hlx : xs.length = os.length)
    (hax : sBlk x = sBlk v → sOff v ≤ sOff x) (hy : y < 18446744073709551616) (hr : r < 18446744073709551616) (hl : os.length ≤ 1000000000) :
    Calls Tryz.prog 279 #[v, x, .int .u64 y, .int .u64 r] w fun e w' => ∃ c : Nat, e = .returned (.int .u64 c) ∧ (c < 18446744073709551616 ∧ wv xs * y + r = wv (wdsN (wv xs * y + r) os.length) + 18446744073709551616 ^ os.length * c) ∧ VvP v os.length B (wv xs * y + r) w w' := by
  have hS := ho.isS
  have hSx := hx.isS
  obtain ⟨L, hLw⟩ : ∃ L, L = os.length := ⟨_, rfl⟩
  have hL : sLen v = L := by rw [hLw]; exact ho.len
  have hLx : sLen x = L := by rw [hx.len, hlx, hLw]
  have R0 := Lib.hid (Vv.start ho hLw.symm)
  have HB0 : Hid (0 < L → 0 < sCap v ∧ B ≤ sBlk v) := Lib.hid (fun h => by
    have := hS.le
    have hc : 0 < sCap v := by omega
    exact ⟨hc, (ho.lt hc).1⟩)
  have HXL : Hid (xs.length = L) := Lib.hid (by omega)
  rw [← hLw] at hl ⊢
  have HX := Lib.hid hx
  have HAX := Lib.hid hax
  clear ho hLw hx hlx hax
  go_enter Tryz.func279, Tryz.ntmps279
  go_wp2
  go_loopw [8, 19] (fun c i wr => ∃ k d Z : Nat, k ≤ L ∧ i = .int .i64 k ∧ c = .int .u64 d ∧ (d < 18446744073709551616 ∧ wv (xs.take k) * y + r = Z + 18446744073709551616 ^ k * d) ∧ Vv v L B k Z w wr) (fun c i _ => L - (intOf i).toNat)
  case atStart => exact ⟨0, r, 0, Nat.zero_le _, rfl, rfl, ⟨hr, by simp [wv]⟩, R0.out⟩
  case round =>
    obtain ⟨k, d, Z, hk, rfl, rfl, ⟨hd, hZ⟩, hrel⟩ := hrel
    have HREL := Lib.hid hrel
    by_cases hkL : k < L
    · obtain ⟨hcap, hB⟩ := HB0.out (by omega)
      have cx := hrel.src HX.out HAX.out (Nat.le_refl k) (by rw [HXL.out]; exact hkL)
      obtain ⟨u, cv⟩ := hrel.own hkL
      have fz := hrel.frozen hcap (sOff v + k)
      have hxl := getD_ltW HX.out.lt k
      have e1 := wv_take_succ (ws := xs) (i := k) (by rw [HXL.out]; exact hkL)
      obtain ⟨a, ha⟩ : ∃ a, a = xs.getD k 0 := ⟨_, rfl⟩
      rw [← ha] at cx hxl e1
      obtain ⟨s, c, hsc, hs⟩ : ∃ s c, a * y + d = s + 18446744073709551616 * c ∧ s < 18446744073709551616 := ⟨(a * y + d) % 18446744073709551616, (a * y + d) / 18446744073709551616, by omega, by omega⟩
      have hc1 := mul_word_lt hxl hy hd hsc
      have HA : Hid (Calls Tryz.prog 280 #[.int .u64 a, .int .u64 y, .int .u64 d] wr fun e w' => e = .returned (.tuple #[.int .u64 c, .int .u64 s]) ∧ w' = wr) := Lib.hid (mulWWW_any a y d c s _ hxl hy hd hsc hs hc1)
      have HZ : Hid (wv (xs.take (k + 1)) * y + r = Z + 18446744073709551616 ^ k * s + 18446744073709551616 ^ (k + 1) * c) := Lib.hid (by
        rw [e1, Nat.pow_succ, Nat.mul_assoc]
        have h1 : 18446744073709551616 ^ k * (a * y + d) = 18446744073709551616 ^ k * s + 18446744073709551616 ^ k * (18446744073709551616 * c) := by rw [hsc, Nat.mul_add]
        rw [Nat.mul_add, ← Nat.mul_assoc] at h1
        rw [Nat.add_mul]
        omega)
      have PUT := Lib.hid (HREL.out.put hkL hB hs)
      clear hrel e1 ha hZ hsc
      go_wp2_with fail
      refine HA.out.mono ?_
      rintro _ _ ⟨rfl, rfl⟩
      go_wp2
      exact ⟨⟨k + 1, c, _, by omega, by go_num, rfl, ⟨hc1, HZ.out⟩, PUT.out⟩, by simp [intOf]; omega⟩
    · have hkk : k = L := by omega
      have HD : Hid ((d < 18446744073709551616 ∧ wv xs * y + r = wv (wdsN (wv xs * y + r) L) + 18446744073709551616 ^ L * d) ∧ VvP v L B (wv xs * y + r) w wr) := Lib.hid (by
        subst hkk
        rw [List.take_of_length_le (by rw [HXL.out]; exact Nat.le_refl _)] at hZ
        have hZl : Z < 18446744073709551616 ^ k := by
          obtain ⟨os', ds, g1, g2, g3, g4, g5, g6, g7, g8⟩ := hrel
          have := wv_lt g5
          rw [g4] at this; omega
        refine ⟨⟨hd, ?_⟩, hrel.done d hZ⟩
        rw [wdsN_wv, hZ, Nat.add_mul_mod_self_left, Nat.mod_eq_of_lt hZl])
      clear hrel hZ HREL
      go_wp2
      go_ret
      exact ⟨d, rfl, HD.out⟩
set_option maxRecDepth 100000 in
theorem mulAddVWW_any (v x : Value) (os : List Value) (xs : List Nat) (y r B : Nat) (w : World) (ho : Own w B 164 v os) (hx : RW w x xs) (hlx : xs.length = os.length)
    (hax : sBlk x = sBlk v → sOff v ≤ sOff x) (hy : y < 18446744073709551616) (hr : r < 18446744073709551616) (hl : os.length ≤ 1000000000) :
    Calls Tryz.prog 267 #[v, x, .int .u64 y, .int .u64 r] w fun e w' => ∃ c : Nat, e = .returned (.int .u64 c) ∧ (c < 18446744073709551616 ∧ wv xs * y + r = wv (wdsN (wv xs * y + r) os.length) + 18446744073709551616 ^ os.length * c) ∧ VvP v os.length B (wv xs * y + r) w w' := by
  have hS := ho.isS
  have hSx := hx.isS
  have H := Lib.hid (mulAddVWW_g_any v x os xs y r B w ho hx hlx hax hy hr hl)
  clear ho hx hlx hax hl
  go_enter Tryz.func267, Tryz.ntmps267
  go_wp2_with fail
  refine H.out.mono ?_
  rintro _ w1 ⟨c, rfl, h1, h2⟩
  have H1 := Lib.hid (And.intro h1 h2)
  clear h1 h2
  go_wp2
  go_ret
  exact ⟨c, rfl, H1.out⟩
set_option maxRecDepth 100000 in
set_option maxHeartbeats 1600000 in
theorem addMulVVWW_g_any (v x y : Value) (os : List Value) (xs ys : List Nat) (m a0 B : Nat) (w : World) (ho : Own w B 164 v os) (hx : RW w x xs) (hy : RW w y ys) (hlx : xs.length = os.length) (hly : ys.length = os.length)
    (hax : sBlk x = sBlk v → sOff v ≤ sOff x) (hay : sBlk y = sBlk v → sOff v ≤ sOff y) (hm : m < 18446744073709551616) (ha0 : a0 < 18446744073709551616) (hl : os.length ≤ 1000000000) :
    Calls Tryz.prog 271 #[v, x, y, .int .u64 m, .int .u64 a0] w fun e w' => ∃ c : Nat, e = .returned (.int .u64 c) ∧ (c < 18446744073709551616 ∧ wv xs + wv ys * m + a0 = wv (wdsN (wv xs + wv ys * m + a0) os.length) + 18446744073709551616 ^ os.length * c) ∧ VvP v os.length B (wv xs + wv ys * m + a0) w w' := by
  have hS := ho.isS
  have hSx := hx.isS
  have hSy := hy.isS
  obtain ⟨L, hLw⟩ : ∃ L, L = os.length := ⟨_, rfl⟩
  have hL : sLen v = L := by rw [hLw]; exact ho.len
  have hLx : sLen x = L := by rw [hx.len, hlx, hLw]
  have hLy : sLen y = L := by rw [hy.len, hly, hLw]
  have R0 := Lib.hid (Vv.start ho hLw.symm)
  have HB0 : Hid (0 < L → 0 < sCap v ∧ B ≤ sBlk v) := Lib.hid (fun h => by
    have := hS.le
    have hc : 0 < sCap v := by omega
    exact ⟨hc, (ho.lt hc).1⟩)
  have HXL : Hid (xs.length = L) := Lib.hid (by omega)
  have HYL : Hid (ys.length = L) := Lib.hid (by omega)
  rw [← hLw] at hl ⊢
  have HX := Lib.hid hx
  have HY := Lib.hid hy
  have HAX := Lib.hid hax
  have HAY := Lib.hid hay
  clear ho hLw hx hy hlx hly hax hay
  go_enter Tryz.func271, Tryz.ntmps271
  go_wp2
  go_loopw [10, 32] (fun c i wr => ∃ k d Z : Nat, k ≤ L ∧ i = .int .i64 k ∧ c = .int .u64 d ∧ (d < 18446744073709551616 ∧ wv (xs.take k) + wv (ys.take k) * m + a0 = Z + 18446744073709551616 ^ k * d) ∧ Vv v L B k Z w wr) (fun c i _ => L - (intOf i).toNat)
  case atStart => exact ⟨0, a0, 0, Nat.zero_le _, rfl, rfl, ⟨ha0, by simp [wv]⟩, R0.out⟩
  case round =>
    obtain ⟨k, d, Z, hk, rfl, rfl, ⟨hd, hZ⟩, hrel⟩ := hrel
    have HREL := Lib.hid hrel
    by_cases hkL : k < L
    · obtain ⟨hcap, hB⟩ := HB0.out (by omega)
      have cx := hrel.src HX.out HAX.out (Nat.le_refl k) (by rw [HXL.out]; exact hkL)
      have cy := hrel.src HY.out HAY.out (Nat.le_refl k) (by rw [HYL.out]; exact hkL)
      obtain ⟨u, cv⟩ := hrel.own hkL
      have fz := hrel.frozen hcap (sOff v + k)
      have hxl := getD_ltW HX.out.lt k
      have hyl := getD_ltW HY.out.lt k
      have e1 := wv_take_succ (ws := xs) (i := k) (by rw [HXL.out]; exact hkL)
      have e2 := wv_take_succ (ws := ys) (i := k) (by rw [HYL.out]; exact hkL)
      obtain ⟨a, ha⟩ : ∃ a, a = xs.getD k 0 := ⟨_, rfl⟩
      obtain ⟨b, hb⟩ : ∃ b, b = ys.getD k 0 := ⟨_, rfl⟩
      rw [← ha] at cx hxl e1
      rw [← hb] at cy hyl e2
      have hbm : b * m ≤ 18446744073709551615 * 18446744073709551615 := Nat.mul_le_mul (by omega) (by omega)
      obtain ⟨s, z1, hsc, hs⟩ : ∃ s z1, b * m + a = s + 18446744073709551616 * z1 ∧ s < 18446744073709551616 := ⟨(b * m + a) % 18446744073709551616, (b * m + a) / 18446744073709551616, by omega, by omega⟩
      have hz1 : z1 < 18446744073709551616 := by omega
      obtain ⟨l, cc, hlc, hll⟩ : ∃ l cc, s + d = l + 18446744073709551616 * cc ∧ l < 18446744073709551616 := ⟨(s + d) % 18446744073709551616, (s + d) / 18446744073709551616, by omega, by omega⟩
      obtain ⟨c, hc⟩ : ∃ c, c = cc + z1 := ⟨_, rfl⟩
      have hc1 : c < 18446744073709551616 := by omega
      have hcc1 : cc < 18446744073709551616 := by omega
      have e3 : (cc : Int) + (z1 : Int) = (c : Int) := by omega
      have e4 : IntKind.u64.wrap ((cc : Int) + (z1 : Int)) = (c : Int) := by rw [e3, IntKind.wrap_u64]; omega
      have HA : Hid (∀ n, Calls Tryz.prog 280 #[.int .u64 b, .int .u64 m, .int .u64 a] (wr.drewN n) fun e w' => e = .returned (.tuple #[.int .u64 z1, .int .u64 s]) ∧ w' = wr.drewN n) := Lib.hid (fun n => mulWWW_any b m a z1 s _ hyl hm hxl hsc hs hz1)
      have HB : Hid (∀ W, Calls Tryz.prog 251 #[.int .u64 s, .int .u64 d, .int .u64 0] W fun e w' => e = .returned (.tuple #[.int .u64 l, .int .u64 cc]) ∧ W = w') := Lib.hid (fun W => bitsAdd0 s d l cc W hlc hll)
      have HZ : Hid (wv (xs.take (k + 1)) + wv (ys.take (k + 1)) * m + a0 = Z + 18446744073709551616 ^ k * l + 18446744073709551616 ^ (k + 1) * c) := Lib.hid (by
        rw [e1, e2, Nat.pow_succ, Nat.mul_assoc]
        have h0 : b * m + a + d = l + 18446744073709551616 * c := by omega
        have h1 : 18446744073709551616 ^ k * (b * m + a + d) = 18446744073709551616 ^ k * l + 18446744073709551616 ^ k * (18446744073709551616 * c) := by rw [h0, Nat.mul_add]
        rw [Nat.mul_add, Nat.mul_add, ← Nat.mul_assoc] at h1
        rw [Nat.add_mul]
        omega)
      have PUT := Lib.hid (fun n => (HREL.out.drewN (k := n)).put hkL hB hll)
      clear hrel e1 e2 ha hb hZ hsc hbm hlc hc
      go_wp2_with fail
      go_quiet ((go_at_call 280; exact Calls.quiet_of_same (HA.out _)))
      go_wp2_with fail
      refine (HB.out _).mono ?_
      rintro _ _ ⟨rfl, rfl⟩
      go_wp2
      exact ⟨⟨k + 1, c, _, by omega, by go_num, rfl, ⟨hc1, HZ.out⟩, PUT.out nq⟩, by simp [intOf]; omega⟩
    · have hkk : k = L := by omega
      have HD : Hid ((d < 18446744073709551616 ∧ wv xs + wv ys * m + a0 = wv (wdsN (wv xs + wv ys * m + a0) L) + 18446744073709551616 ^ L * d) ∧ VvP v L B (wv xs + wv ys * m + a0) w wr) := Lib.hid (by
        subst hkk
        rw [List.take_of_length_le (by rw [HXL.out]; exact Nat.le_refl _), List.take_of_length_le (by rw [HYL.out]; exact Nat.le_refl _)] at hZ
        have hZl : Z < 18446744073709551616 ^ k := by
          obtain ⟨os', ds, g1, g2, g3, g4, g5, g6, g7, g8⟩ := hrel
          have := wv_lt g5
          rw [g4] at this; omega
        refine ⟨⟨hd, ?_⟩, hrel.done d hZ⟩
        rw [wdsN_wv, hZ, Nat.add_mul_mod_self_left, Nat.mod_eq_of_lt hZl])
      clear hrel hZ HREL
      go_wp2
      go_ret
      exact ⟨d, rfl, HD.out⟩
set_option maxRecDepth 100000 in
theorem addMulVVWW_any (v x y : Value) (os : List Value) (xs ys : List Nat) (m a0 B : Nat) (w : World) (ho : Own w B 164 v os) (hx : RW w x xs) (hy : RW w y ys) (hlx : xs.length = os.length) (hly : ys.length = os.length)
    (hax : sBlk x = sBlk v → sOff v ≤ sOff x) (hay : sBlk y = sBlk v → sOff v ≤ sOff y) (hm : m < 18446744073709551616) (ha0 : a0 < 18446744073709551616) (hl : os.length ≤ 1000000000) :
    Calls Tryz.prog 243 #[v, x, y, .int .u64 m, .int .u64 a0] w fun e w' => ∃ c : Nat, e = .returned (.int .u64 c) ∧ (c < 18446744073709551616 ∧ wv xs + wv ys * m + a0 = wv (wdsN (wv xs + wv ys * m + a0) os.length) + 18446744073709551616 ^ os.length * c) ∧ VvP v os.length B (wv xs + wv ys * m + a0) w w' := by
  have hS := ho.isS
  have hSx := hx.isS
  have hSy := hy.isS
  have H := Lib.hid (addMulVVWW_g_any v x y os xs ys m a0 B w ho hx hy hlx hly hax hay hm ha0 hl)
  clear ho hx hy hlx hly hax hay hl
  go_enter Tryz.func243, Tryz.ntmps243
  go_wp2_with fail
  refine H.out.mono ?_
  rintro _ w1 ⟨c, rfl, h1, h2⟩
  have H1 := Lib.hid (And.intro h1 h2)
  clear h1 h2
  go_wp2
  go_ret
  exact ⟨c, rfl, H1.out⟩
end Go.Proofs.YtdepidpgbgfjlaaGreatDoor
/-
Products of words: basicMul. No condition.
-/
namespace Go.Proofs.YtdepidpgbgfjlaaGreatDoor
open Go.RowKit

theorem wdsN_sub {Z L k m : Nat} (h : k + m ≤ L) : ((wdsN Z L).take (k + m)).drop k = wdsN (Z / 18446744073709551616 ^ k) m := by
  refine wdsN_of ?_ fun j hj => ?_
  · rw [List.length_drop, List.length_take, wdsN_length]; omega
  · rw [List.getD_eq_getElem?_getD, List.getElem?_drop, List.getElem?_take, if_pos (by omega), ← List.getD_eq_getElem?_getD, wdsN_getD (by omega)]
    unfold wdg
    rw [Nat.div_div_eq_div_mul, ← Nat.pow_add]
theorem wdsN_take {Z L k : Nat} (h : k ≤ L) : (wdsN Z L).take k = wdsN Z k := by
  have := wdsN_sub (Z := Z) (L := L) (k := 0) (m := k) (by omega)
  rw [Nat.zero_add, List.drop_zero, Nat.pow_zero, Nat.div_one] at this
  exact this
theorem bm_words {Z V m k n S c : Nat} (hk : k < n) (hZ : Z < 18446744073709551616 ^ (m + k)) (hS : S = Z / 18446744073709551616 ^ k + V) (hc : S = wv (wdsN S m) + 18446744073709551616 ^ m * c) (hcl : c < 18446744073709551616) :
    ((wdsN Z (m + n)).take k ++ (wdsN S m ++ (wdsN Z (m + n)).drop (k + m))).set (m + k) c = wdsN (Z + 18446744073709551616 ^ k * V) (m + n) := by
  have hlt : ((wdsN Z (m + n)).take k).length = k := by rw [List.length_take, wdsN_length]; omega
  have hll : ((wdsN Z (m + n)).take k ++ (wdsN S m ++ (wdsN Z (m + n)).drop (k + m))).length = m + n := by
    rw [List.length_append, hlt, List.length_append, wdsN_length, List.length_drop, wdsN_length]; omega
  refine wdsN_eq (by rw [List.length_set, hll]) ?_ ⟨0, ?_⟩
  · refine set_lt ?_ hcl
    intro d hd
    rcases List.mem_append.1 hd with h | h
    · exact wdsN_lt d (List.mem_of_mem_take h)
    · rcases List.mem_append.1 h with h | h
      · exact wdsN_lt d h
      · exact wdsN_lt d (List.mem_of_mem_drop h)
  · have hw := wset (ws := (wdsN Z (m + n)).take k ++ (wdsN S m ++ (wdsN Z (m + n)).drop (k + m))) (i := m + k) (by rw [hll]; omega) c
    have hg : ((wdsN Z (m + n)).take k ++ (wdsN S m ++ (wdsN Z (m + n)).drop (k + m))).getD (m + k) 0 = 0 := by
      rw [List.getD_eq_getElem?_getD, List.getElem?_append_right (by omega), hlt, List.getElem?_append_right (by rw [wdsN_length]; omega), wdsN_length, List.getElem?_drop, ← List.getD_eq_getElem?_getD, wdsN_getD (by omega)]
      unfold wdg
      rw [show k + m + (m + k - k - m) = m + k by omega, Nat.div_eq_of_lt hZ]
    have hD : wv ((wdsN Z (m + n)).drop (k + m)) = 0 := by
      have h1 := wv_split (wdsN Z (m + n)) (k + m) (by rw [wdsN_length]; omega)
      rw [wdsN_take (by omega), wdsN_wv, wdsN_wv, Nat.mod_eq_of_lt (Nat.lt_of_lt_of_le hZ (Nat.pow_le_pow_right (by decide) (by omega))), Nat.add_comm k m, Nat.mod_eq_of_lt hZ] at h1
      have h2 : 18446744073709551616 ^ (m + k) * wv ((wdsN Z (m + n)).drop (m + k)) = 0 := by omega
      rcases Nat.mul_eq_zero.1 h2 with h3 | h3
      · exact absurd h3 (Nat.ne_of_gt (wpow_pos _))
      · rw [Nat.add_comm k m]; exact h3
    obtain ⟨W, hW⟩ : ∃ W, W = wv (((wdsN Z (m + n)).take k ++ (wdsN S m ++ (wdsN Z (m + n)).drop (k + m))).set (m + k) c) := ⟨_, rfl⟩
    rw [← hW] at hw ⊢
    rw [hg, wv_append, hlt, wv_append, wdsN_length, hD, wdsN_take (by omega), wdsN_wv] at hw
    have e1 : 18446744073709551616 ^ (m + k) * c = 18446744073709551616 ^ k * (18446744073709551616 ^ m * c) := by rw [Nat.pow_add, Nat.mul_comm (18446744073709551616 ^ m), Nat.mul_assoc]
    have e2 : 18446744073709551616 ^ k * S = 18446744073709551616 ^ k * wv (wdsN S m) + 18446744073709551616 ^ k * (18446744073709551616 ^ m * c) := by rw [← Nat.mul_add, ← hc]
    have e3 : 18446744073709551616 ^ k * S = 18446744073709551616 ^ k * (Z / 18446744073709551616 ^ k) + 18446744073709551616 ^ k * V := by rw [hS, Nat.mul_add]
    have e4 := Nat.div_add_mod Z (18446744073709551616 ^ k)
    rw [Nat.mul_zero, Nat.mul_zero, Nat.add_zero, Nat.add_zero] at hw
    rw [Nat.mul_zero, Nat.add_zero, hw, e1]
    omega
/-- Behind k words of the second factor. -/
def BmRel (z : Value) (xs ys : List Nat) (N B k : Nat) (w wr : World) : Prop :=
  Own wr B 164 z (cellsW (wdsN (wv xs * wv (ys.take k)) N)) ∧ Below B w wr ∧ FrB (sBlk z) (sOff z) (sOff z + N) w wr
set_option maxRecDepth 100000 in
set_option maxHeartbeats 6400000 in
theorem basicMul_any (z x y : Value) (os : List Value) (xs ys : List Nat) (B : Nat) (w : World) (hz : Own w B 164 z os) (hx : RW w x xs) (hy : RW w y ys) (hos : os.length = xs.length + ys.length) (hnx : sBlk x ≠ sBlk z) (hny : sBlk y ≠ sBlk z) (h0 : 0 < xs.length) (hl : os.length ≤ 1000000000) :
    Calls Tryz.prog 206 #[z, x, y] w fun e w' => e = .returned (.tuple #[]) ∧ Own w' B 164 z (cellsW (wdsN (wv xs * wv ys) os.length)) ∧ Below B w w' ∧ FrB (sBlk z) (sOff z) (sOff z + os.length) w w' := by
  have hS := hz.isS
  have hSx := hx.isS
  have hSy := hy.isS
  obtain ⟨m, hm⟩ : ∃ m, m = xs.length := ⟨_, rfl⟩
  obtain ⟨n, hn⟩ : ∃ n, n = ys.length := ⟨_, rfl⟩
  obtain ⟨N, hN⟩ : ∃ N, N = os.length := ⟨_, rfl⟩
  have hLz : sLen z = N := by rw [hz.len, hN]
  have hLx : sLen x = m := by rw [hx.len, hm]
  have hLy : sLen y = n := by rw [hy.len, hn]
  have hNm : N = m + n := by omega
  have hcz : N ≤ sCap z := by have := hS.le; omega
  have hcz0 : 0 < sCap z := by omega
  have hBz := (hz.lt hcz0).1
  have hS0 : IsS (subS z 0 N) := subS_isS hS (Nat.zero_le _) hcz
  have hsub := hz.sub (l := 0) (n := N) (Nat.zero_le _) (by omega)
  have hsl : ((os.take N).drop 0).length = N := by simp; omega
  have e1 : (m : Int) + (n : Int) = (N : Int) := by omega
  rw [← hN] at hl ⊢
  rw [← hm] at h0
  have HZ := Lib.hid hz
  have HX := Lib.hid hx
  have HY := Lib.hid hy
  have HNX := Lib.hid hnx
  have HNY := Lib.hid hny
  have HM := Lib.hid hm
  have HN := Lib.hid hn
  have HNN := Lib.hid hN
  have HNM := Lib.hid hNm
  have HSUB := Lib.hid hsub
  have HSL := Lib.hid hsl
  have hmb : m ≤ N := by omega
  clear hz hx hy hnx hny hm hn hN hos hNm hsub hsl
  go_enter Tryz.func206, Tryz.ntmps206
  go_wp2_with (refine wpList_clear_O (o := ⟨none, _, _, _, _, _⟩) rfl (.tmp 14) 121 rfl elemT rfl (subS z 0 N) rfl B _ HSUB.out ?_)
  intro w1 ho1 hb1 hf1
  have hmn : min N os.length = N := by rw [← HNN.out]; exact Nat.min_self _
  rw [hmn] at ho1 hf1
  rw [(sub0 hS).1, (sub0 hS).2] at hf1
  have hp1 := HZ.out.patch (l := 0) (n := N) (Nat.zero_le _) (by rw [← HNN.out]; exact Nat.le_refl _) (by simp) ho1 (by rw [Nat.add_zero]; exact hf1)
  rw [List.take_zero, List.nil_append, List.drop_of_length_le (by rw [← HNN.out]; exact Nat.le_refl _), List.append_nil, cellsW_zeros] at hp1
  have hz0 : List.replicate N 0 = wdsN 0 N := wdsN_of (by simp) (fun j hj => by
    rw [List.getD_eq_getElem?_getD, List.getElem?_replicate, if_pos hj]; simp [wdg])
  have R0 : Hid (BmRel z xs ys N B 0 w w1) := Lib.hid ⟨by rw [List.take_zero, show wv [] = 0 from rfl, Nat.mul_zero, ← hz0]; exact hp1, hb1, hf1⟩
  clear ho1 hb1 hf1 hp1 hz0 HSUB HSL
  go_wp2
  go_loopw [17] (fun i wr => ∃ k : Nat, k ≤ n ∧ i = .int .i64 k ∧ BmRel z xs ys N B k w wr) (fun i _ => n - (intOf i).toNat)
  case atStart => exact ⟨0, Nat.zero_le _, rfl, R0.out⟩
  case round =>
    obtain ⟨k, hk, rfl, hrel⟩ := hrel
    obtain ⟨wo, hwo⟩ : ∃ wo : World, wo = wr := ⟨_, rfl⟩
    subst hwo
    have HREL := Lib.hid hrel
    have HYo := Lib.hid (hrel.2.2.rw HY.out (fun h => absurd h HNY.out))
    have HXo := Lib.hid (hrel.2.2.rw HX.out (fun h => absurd h HNX.out))
    by_cases hkn : k < n
    · have cy := HYo.out.cell k (by rw [← HN.out]; exact hkn)
      have hyl := getD_ltW HY.out.lt k
      have e2 := wv_take_succ (ws := ys) (i := k) (by rw [← HN.out]; exact hkn)
      obtain ⟨d, hd⟩ : ∃ d, d = ys.getD k 0 := ⟨_, rfl⟩
      rw [← hd] at cy hyl e2
      by_cases hd0 : d = 0
      · have t1 : ((d : Int) == 0) = true := by rw [hd0]; rfl
        have HR : Hid (BmRel z xs ys N B (k + 1) w wo) := Lib.hid (by
          unfold BmRel; rw [e2, hd0, Nat.mul_zero, Nat.add_zero]; exact hrel)
        clear hrel e2 hd hd0 HREL
        go_wp2
        exact ⟨⟨k + 1, by omega, by go_num, HR.out⟩, by simp [intOf]; omega⟩
      · have t1 : ((d : Int) == 0) = false := by rw [beq_eq_false_iff_ne]; omega
        obtain ⟨Z, hZ⟩ : ∃ Z, Z = wv xs * wv (ys.take k) := ⟨_, rfl⟩
        have hZl : Z < 18446744073709551616 ^ (m + k) := by
          have h1 := wv_lt HX.out.lt
          have h2 := wv_lt (a := ys.take k) (fun d hd => HY.out.lt d (List.mem_of_mem_take hd))
          rw [List.length_take, show min k ys.length = k by have := HN.out; omega] at h2
          rw [← HM.out] at h1
          rw [hZ, Nat.pow_add]
          exact Nat.mul_lt_mul'' h1 h2
        obtain ⟨S, hSS⟩ : ∃ S, S = Z / 18446744073709551616 ^ k + wv xs * d := ⟨_, rfl⟩
        have hrel' := hrel
        obtain ⟨r1, r2, r3⟩ := hrel'
        rw [← hZ] at r1
        have hkm : k + m ≤ N := by have := HNM.out; omega
        have hSk : IsS (subS z k (k + m)) := subS_isS hS (Nat.le_add_right _ _) (by omega)
        have rs := r1.sub (l := k) (n := k + m) (Nat.le_add_right _ _) (by rw [cellsW_length, wdsN_length]; exact hkm)
        have es : ((cellsW (wdsN Z N)).take (k + m)).drop k = cellsW (wdsN (Z / 18446744073709551616 ^ k) m) := by
          rw [← wdsN_sub hkm]; simp [cellsW]
        rw [es] at rs
        have hq : Z / 18446744073709551616 ^ k < 18446744073709551616 ^ m := by
          refine Nat.div_lt_of_lt_mul ?_
          rw [← Nat.pow_add, Nat.add_comm]; exact hZl
        have HCALL : Hid (∀ j, Calls Tryz.prog 243 #[subS z k (k + m), subS z k (k + m), x, .int .u64 d, .int .u64 0] (wo.drewN j) fun e w' => ∃ c : Nat, e = .returned (.int .u64 c) ∧ (c < 18446744073709551616 ∧ S = wv (wdsN S m) + 18446744073709551616 ^ m * c) ∧ VvP (subS z k (k + m)) m B S wo w') := Lib.hid (fun j => by
          have := addMulVVWW_any (subS z k (k + m)) (subS z k (k + m)) x _ (wdsN (Z / 18446744073709551616 ^ k) m) xs d 0 B (wo.drewN j) (rs.drewN j) ((rs.rw' wdsN_lt).below (undrewN' (Below.refl _ _))) (HXo.out.below (undrewN' (Below.refl _ _)))
            (by rw [cellsW_length]) (by rw [cellsW_length, wdsN_length]; exact HM.out.symm) (fun _ => Nat.le_refl _) (by rw [subS_blk hS]; intro h; exact absurd h HNX.out) hyl (by decide) (by rw [cellsW_length, wdsN_length]; omega)
          rw [cellsW_length, wdsN_length, wv_wdsN_lt hq, Nat.add_zero, ← hSS] at this
          refine this.mono ?_
          rintro _ w' ⟨c, rfl, h1, h2, h3, h4⟩
          exact ⟨c, rfl, h1, h2, undrewN h3, h4.undrewN⟩)
        have HFIN : Hid (∀ c w2, c < 18446744073709551616 → S = wv (wdsN S m) + 18446744073709551616 ^ m * c → VvP (subS z k (k + m)) m B S wo w2 →
            (w2.frozen? ⟨sBlk z, sOff z + (m + k), none⟩ = false ∧ ∃ u, w2.cell? ⟨sBlk z, sOff z + (m + k), none⟩ = some u) ∧ BmRel z xs ys N B (k + 1) w (w2.setCell ⟨sBlk z, sOff z + (m + k), none⟩ (.int .u64 (c : Int)))) := Lib.hid (fun c w2 hc hcS hvp => by
          have hpt := VvP.patch (l := k) (n := k + m) r1 (Nat.le_add_right _ _) (by rw [cellsW_length, wdsN_length]; exact hkm) (by rw [Nat.add_sub_cancel_left]; exact hvp)
          rw [Nat.add_sub_cancel_left] at hpt
          obtain ⟨g1, g2, g3⟩ := hpt
          have ec : (cellsW (wdsN Z N)).take k ++ (cellsW (wdsN S m) ++ (cellsW (wdsN Z N)).drop (k + m)) = cellsW ((wdsN Z N).take k ++ (wdsN S m ++ (wdsN Z N).drop (k + m))) := by simp [cellsW]
          rw [ec] at g1
          have hll : ((wdsN Z N).take k ++ (wdsN S m ++ (wdsN Z N).drop (k + m))).length = N := by
            rw [List.length_append, List.length_take, wdsN_length, List.length_append, wdsN_length, List.length_drop, wdsN_length]; omega
          have hmk : m + k < N := by have := HNM.out; omega
          have gs := g1.set (i := m + k) (by rw [cellsW_length, hll]; exact hmk) (.int .u64 (c : Int))
          have hbw := bm_words (V := wv xs * d) hkn hZl hSS hcS hc
          rw [← HNM.out] at hbw
          rw [cellsW_set, hbw, show Z + 18446744073709551616 ^ k * (wv xs * d) = wv xs * wv (ys.take (k + 1)) by rw [e2, Nat.mul_add, hZ]; congr 1; rw [Nat.mul_left_comm]] at gs
          refine ⟨⟨g1.frozen hcz0 _, _, g1.cell (List.getElem?_eq_getElem (by rw [cellsW_length, hll]; exact hmk))⟩, gs, bset (r2.trans g2) hBz, ?_⟩
          refine r3.trans r2.size ?_
          refine (g3.mono (by omega) (by omega)).set (by omega) (by omega) _)
        have e3 : (k : Int) + (m : Int) = ((k + m : Nat) : Int) := by omega
        have e4 : (m : Int) + (k : Int) = ((m + k : Nat) : Int) := by omega
        obtain ⟨km, hkmE⟩ : ∃ km, km = k + m := ⟨_, rfl⟩
        obtain ⟨mk, hmkE⟩ : ∃ mk, mk = m + k := ⟨_, rfl⟩
        rw [← hkmE] at hSk HCALL HFIN e3 hkm
        rw [← hmkE] at HFIN e4
        have hmkN : mk < N := by have := HNM.out; omega
        have hkkm : k ≤ km := by omega
        have hkc : km ≤ sCap z := by omega
        have hkkm' : (k : Int) ≤ (km : Int) := by omega
        have hkc' : (km : Int) ≤ (sCap z : Int) := by omega
        have hk0 : (0 : Int) ≤ (k : Int) := by omega
        have hw1 : IntKind.i64.wrap (km : Int) = (km : Int) := by rw [IntKind.wrap_i64]; omega
        have hw2 : IntKind.i64.wrap (mk : Int) = (mk : Int) := by rw [IntKind.wrap_i64]; omega
        clear hrel e2 hd hd0 HREL hZ hZl hSS r1 r2 r3 rs es hq hkmE hmkE
        go_upto_region 5 with fail
        first
          | (go_region_held3 (fun _ => True)
              ((exact True.intro))
              (first
                | (go_at_call 243; refine (HCALL.out 1).mono ?_; rintro _ w2 ⟨c, rfl, ⟨hc, hcS⟩, hvp⟩; obtain ⟨⟨fz, u, cu⟩, hq⟩ := HFIN.out c w2 hc hcS hvp; have HQ := Lib.hid hq; clear hcS hvp hq)))
          | fail
        all_goals
          go_wp2
          exact ⟨⟨k + 1, by omega, by go_num, HQ.out⟩, by simp [intOf]; omega⟩
    · have hkk : k = n := by omega
      have HD : Hid (Own wo B 164 z (cellsW (wdsN (wv xs * wv ys) N)) ∧ Below B w wo ∧ FrB (sBlk z) (sOff z) (sOff z + N) w wo) := Lib.hid (by
        have h1 := hrel
        unfold BmRel at h1
        rw [hkk, List.take_of_length_le (by rw [HN.out]; exact Nat.le_refl _)] at h1
        exact h1)
      clear hrel HREL hkk
      go_wp2
      go_end0
      exact ⟨rfl, HD.out⟩
end Go.Proofs.YtdepidpgbgfjlaaGreatDoor
