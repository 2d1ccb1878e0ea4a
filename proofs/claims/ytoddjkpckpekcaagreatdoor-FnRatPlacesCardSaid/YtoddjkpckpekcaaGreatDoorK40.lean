/-
Texts of this proof, joined: NmF SfB RdP SfC RgJ ObS InN SfD FiA. No condition.
-/
import Derived.Test.YtoddjkpckpekcaaGreatDoorK01
import Derived.Test.YtoddjkpckpekcaaGreatDoorK02
import Derived.Test.YtoddjkpckpekcaaGreatDoorK03
import Derived.Test.YtoddjkpckpekcaaGreatDoorK04
import Derived.Test.YtoddjkpckpekcaaGreatDoorK05
import Derived.Test.YtoddjkpckpekcaaGreatDoorK06
import Derived.Test.YtoddjkpckpekcaaGreatDoorK07
import Derived.Test.YtoddjkpckpekcaaGreatDoorK08
import Derived.Test.YtoddjkpckpekcaaGreatDoorK09
import Derived.Test.YtoddjkpckpekcaaGreatDoorK10
import Derived.Test.YtoddjkpckpekcaaGreatDoorK11
import Derived.Test.YtoddjkpckpekcaaGreatDoorK12
import Derived.Test.YtoddjkpckpekcaaGreatDoorK13
import Derived.Test.YtoddjkpckpekcaaGreatDoorK14
import Derived.Test.YtoddjkpckpekcaaGreatDoorK15
import Derived.Test.YtoddjkpckpekcaaGreatDoorK16
import Derived.Test.YtoddjkpckpekcaaGreatDoorK17
import Derived.Test.YtoddjkpckpekcaaGreatDoorK18
import Derived.Test.YtoddjkpckpekcaaGreatDoorK19
import Derived.Test.YtoddjkpckpekcaaGreatDoorK20
import Derived.Test.YtoddjkpckpekcaaGreatDoorK21
import Derived.Test.YtoddjkpckpekcaaGreatDoorK22
import Derived.Test.YtoddjkpckpekcaaGreatDoorK23
import Derived.Test.YtoddjkpckpekcaaGreatDoorK24
import Derived.Test.YtoddjkpckpekcaaGreatDoorK25
import Derived.Test.YtoddjkpckpekcaaGreatDoorK26
import Derived.Test.YtoddjkpckpekcaaGreatDoorK27
import Derived.Test.YtoddjkpckpekcaaGreatDoorK29
import Derived.Test.YtoddjkpckpekcaaGreatDoorK33
import Derived.Test.YtoddjkpckpekcaaGreatDoorK37
import Derived.Test.YtoddjkpckpekcaaGreatDoorK39
import Derived.Laws.Externs
import Derived.Laws.Bits64b
import Derived.WalkKit
import Derived.WalkSpells
import Derived.WalkLawsBesides
import Derived.Lib.Hide
import Derived.Deep.QuietTactic
import Derived.BigQuiet
import Derived.Deep.DeepFit
import Derived.Deep.AppendSrc
import Derived.Deep.RegionHeld3
import Derived.Deep.DeepCutAuto
import Derived.Deep.CutRange
import Derived.Test.YtoddjkpckpekcaaGreatDoorProg
import Derived.RegionTactic
import Derived.BigRegion
import Derived.Laws.Cover2
namespace Go.Proofs.YtoddjkpckpekcaaGreatDoor
open Go.RowKit

set_option maxHeartbeats 1600000 in
theorem norm_full (g B N D : Nat) (n : Bool) (va vb : Value) (w : World) (row : w.heap[g]? = some (.cells #[.bool n, va, .bool false, vb] 89 (0, 0))) (oa : Own w B 98 va (cellsW (wds N))) (ob : Own w B 98 vb (cellsW (wds D)))
    (hab : 0 < sCap va → 0 < sCap vb → sBlk va ≠ sBlk vb) (hD0 : 0 < D) (hN : nw N < 40) (hD : nw D < 40) (hB : B ≤ g) (hT : DivW w) (hg : 3 < B) :
    Calls Tryz.prog 83 #[.pointer (some ⟨g, 0, none⟩)] w fun e w' => e = .returned (.pointer (some ⟨g, 0, none⟩)) ∧ NmP g B (N / Nat.gcd N D) (D / Nat.gcd N D) (n && decide (0 < N)) va vb w w' := by
  rcases Nat.eq_zero_or_pos N with h0 | h0
  · subst h0
    have hBw : B ≤ w.heap.size := Nat.le_trans hB (Nat.le_of_lt (get_lt row))
    have la : sLen va = 0 := oa.len
    refine (norm_zero g B n false va vb _ w row oa.isS la ob hBw).mono ?_
    rintro e w' ⟨he, r, w1, hr, rfl⟩
    rw [Nat.gcd_zero_left, Nat.zero_div, Nat.div_self hD0, decide_eq_false (show ¬ 0 < 0 by omega), Bool.and_false]
    have row2 := rowset (i := 0) (.bool false) row
    have ob2 := ob.away row (by decide) 0 (.bool false)
    have oa2 := oa.away row (by decide) 0 (.bool false)
    have h1 := (hr.fr g (get_lt row2) (fun hc => ob2.neRow row2 (by decide) hc)).trans row2
    have h2 := rowset (i := 3) r h1
    have oa3 := oa2.frz hr.fr (fun a b => hab a b)
    refine ⟨he, ⟨va, r, hB, h2, oa3.away h1 (by decide) 3 r, by have h := hr.own.away h1 (by decide) 3 r; exact h⟩, bset ((bset (Below.refl B w) hB).trans hr.below) hB, fun k hk a b c => ?_⟩
    rw [heap_setCell_other _ _ _ _ (by simpa using a)]
    refine (hr.fr k (by simpa using hk) c).trans ?_
    exact heap_setCell_other _ _ _ _ (by simpa using a)
  · rw [decide_eq_true h0, Bool.and_true]
    exact norm_rat g B N D n false va vb w row oa ob hab h0 hD0 hN hD hB hT hg
structure SfS (g B N D : Nat) (n : Bool) (va vb : Value) (w W : World) : Prop where
  row : W.heap[g]? = some (.cells #[.bool n, va, .bool false, vb] 89 (0, 0))
  oa : Own W B 98 va (cellsW (wds N))
  ob : Own W B 98 vb (cellsW (wds D))
  ab : 0 < sCap va → 0 < sCap vb → sBlk va ≠ sBlk vb
  bl : Below B w W
  tw : DivW W
theorem SfS.drewN {g B N D : Nat} {n : Bool} {va vb : Value} {w W : World} (h : SfS g B N D n va vb w W) (k : Nat) : SfS g B N D n va vb w (W.drewN k) := ⟨h.row, h.oa.drewN k, h.ob.drewN k, h.ab, undrewN' h.bl, h.tw⟩
section
variable {g B N D : Nat} {n : Bool} {va vb : Value} {w W : World}
theorem SfS.start (row : W.heap[g]? = some (.cells #[.bool false, .slice none 0 0, .bool false, .slice none 0 0] 89 (0, 0))) (hT : DivW W) : SfS g B 0 0 false (.slice none 0 0) (.slice none 0 0) W W :=
  ⟨row, Own.nil _ _ _, Own.nil _ _ _, fun h => absurd h (by decide), Below.refl _ _, hT⟩
theorem SfS.setA (h : SfS g B 0 0 n (.slice none 0 0) (.slice none 0 0) w W) (hB : B ≤ g) (dg : 3 < B) (m : Nat) (hm : m < 18446744073709551616) :
    Calls Tryz.prog 79 #[.pointer (some ⟨g, 0, none⟩), .int .u64 m] W fun e w' => e = .returned (.pointer (some ⟨g, 0, none⟩)) ∧ ∃ va', SfS g B m 0 false va' (.slice none 0 0) w w' ∧ (m = 0 → va' = .slice none 0 0) := by
  refine (intSetU g 0 m _ _ _ W h.row rfl rfl hm).mono ?_
  rintro _ w' ⟨rfl, r, w1, rfl, h1, h2, h3⟩
  have hBW : B ≤ W.heap.size := Nat.le_trans hB (Nat.le_of_lt (get_lt h.row))
  have q1 := keep_row h2 h.row
  have q2 := rowset (i := 1) r q1
  have q3 := rowset (i := 0) (.bool false) q2
  have o1 := ((h1.mono hBW).away q1 (by decide) 1 r).away q2 (by decide) 0 (.bool false)
  have b3 := bset (i := 0) (u := .bool false) (bset (i := 1) (u := r) (h.bl.trans (h2.mono hBW)) hB) hB
  have t1 := h.tw.below h2
  have tw : DivW ((w1.setCell ⟨g, 1, none⟩ r).setCell ⟨g, 0, none⟩ (.bool false)) := by
    unfold DivW at t1 ⊢
    rw [cell_other (by simp only; omega), cell_other (by simp only; omega)]
    exact t1
  exact ⟨rfl, r, ⟨q3, o1, Own.nil _ _ _, fun _ hc => absurd hc (by decide), b3, tw⟩, h3⟩
theorem SfS.neg (h : SfS g B N D n va vb w W) (hB : B ≤ g) (dg : 3 < B) (x : Bool) : SfS g B N D x va vb w (W.setCell ⟨g, 0, none⟩ (.bool x)) := by
  have q := rowset (i := 0) (.bool x) h.row
  refine ⟨q, h.oa.away h.row (by decide) 0 _, h.ob.away h.row (by decide) 0 _, h.ab, bset h.bl hB, ?_⟩
  have t1 := h.tw
  unfold DivW at t1 ⊢
  rw [cell_other (by simp only; omega)]
  exact t1
theorem SfS.setB (h : SfS g B N 0 n va (.slice none 0 0) w W) (hB : B ≤ g) (dg : 3 < B) :
    Calls Tryz.prog 81 #[] W fun e w1 => ∃ c, e = .returned (.pointer (some ⟨c, 0, none⟩)) ∧ Below W.heap.size W w1 ∧
      Calls Tryz.prog 80 #[.pointer (some ⟨g, 2, none⟩), .pointer (some ⟨c, 0, none⟩)] w1 fun e w' => e = .returned (.pointer (some ⟨g, 2, none⟩)) ∧ ∃ vb', SfS g B N 1 n va vb' w w' := by
  refine (intOne_any W).mono ?_
  rintro _ w1 ⟨rfl, hw1⟩
  have hb1 : Below W.heap.size W w1 := by rw [hw1]; exact bthen (fbone _) (fbone _)
  have rc : w1.heap[W.heap.size + 1]? = some (.cells #[.bool false, .slice (some ⟨W.heap.size, 0, none⟩) 1 1] 87 (0, 0)) := by
    rw [hw1]
    have := heap_alloc_new (W.alloc (.cells #[.int .u64 1] 98)) (.cells #[.bool false, .slice (some ⟨W.heap.size, 0, none⟩) 1 1] 87)
    rw [show (W.alloc (.cells #[.int .u64 1] 98)).heap.size = W.heap.size + 1 by simp] at this
    exact this
  have r1 : w1.heap[W.heap.size]? = some (.cells #[.int .u64 1] 98 (0, 0)) := by
    rw [hw1]; exact keep_row (fbone _) (heap_alloc_new W _)
  have rw1 : RW w1 (.slice (some ⟨W.heap.size, 0, none⟩) 1 1) (wds 1) := by
    rw [wds_one]
    refine ⟨⟨⟨fun _ => rfl, Nat.le_refl _⟩, rfl, fun i hi => ?_⟩, fun d hd => by rw [List.mem_singleton.1 hd]; decide⟩
    rw [ints_length] at hi
    obtain rfl : i = 0 := by simp at hi; omega
    exact (row_at (i := 0) r1 rfl).1
  have q1 := keep_row hb1 h.row
  have hgl := get_lt h.row
  refine ⟨W.heap.size + 1, rfl, hb1, ?_⟩
  refine (intSet g 2 (W.heap.size + 1) 0 (.bool false) (.slice (some ⟨W.heap.size, 0, none⟩) 1 1) false _ _ _ _ (wds 1) w1 (by omega) q1 rc rfl rfl rfl rfl rw1 (by decide)).mono ?_
  rintro _ w' ⟨rfl, r, w2, rfl, ho, hb2⟩
  have hBW : B ≤ W.heap.size := Nat.le_trans hB (Nat.le_of_lt hgl)
  have hBw1 : B ≤ w1.heap.size := Nat.le_trans hBW hb1.size
  have q2 := keep_row hb2 q1
  have q3 := rowset (i := 3) r q2
  have q4 := rowset (i := 2) (.bool false) q3
  have o1 := ((ho.mono hBw1).away q2 (by decide) 3 r).away q3 (by decide) 2 (.bool false)
  have oa := (((h.oa.below hb1).below hb2).away q2 (by decide) 3 r).away q3 (by decide) 2 (.bool false)
  have b3 := bset (i := 2) (u := .bool false) (bset (i := 3) (u := r) ((h.bl.trans (hb1.mono hBW)).trans (hb2.mono hBw1)) hB) hB
  have t1 := (h.tw.below hb1).below hb2
  have tw : DivW ((w2.setCell ⟨g, 3, none⟩ r).setCell ⟨g, 2, none⟩ (.bool false)) := by
    unfold DivW at t1 ⊢
    rw [cell_other (by simp only; omega), cell_other (by simp only; omega)]
    exact t1
  refine ⟨rfl, r, ⟨q4, oa, o1, fun ha hc he => ?_, b3, tw⟩⟩
  have k1 := (h.oa.lt ha).2
  have k2 := (ho.lt hc).1
  have k3 := hb1.size
  omega
theorem SfS.lshA (h : SfS g B N D n va vb w W) (hB : B ≤ g) (dg : 3 < B) (hz : N = 0 → va = .slice none 0 0) (hl : nw N ≤ 10000000) (s : Nat) (hs : s ≤ 1000000000) :
    Calls Tryz.prog 82 #[.pointer (some ⟨g, 0, none⟩), .pointer (some ⟨g, 0, none⟩), .int .u64 s] W fun e w' => e = .returned (.pointer (some ⟨g, 0, none⟩)) ∧ ∃ va', SfS g B (N * 2 ^ s) D n va' vb w w' := by
  have hBW : B ≤ W.heap.size := Nat.le_trans hB (Nat.le_of_lt (get_lt h.row))
  refine (intLsh_same g 0 N s B _ n va _ W h.row rfl rfl (by decide) h.oa hz hl hs hBW).mono ?_
  rintro _ w' ⟨rfl, r, w1, k, rfl, hq⟩
  have q1 := hq.fr.row (show (W.drewN k).heap[g]? = _ from h.row) (fun hc he => h.oa.ne_row h.row (by decide) hc he.symm)
  have q2 := rowset (i := 1) r q1
  have q3 := rowset (i := 0) (.bool n) q2
  have o1 := (hq.own.away q1 (by decide) 1 r).away q2 (by decide) 0 (.bool n)
  have ob := (((h.ob.drewN k).frz hq.fr (fun a b he => h.ab b a he.symm)).away q1 (by decide) 1 r).away q2 (by decide) 0 (.bool n)
  have b3 := bset (i := 0) (u := .bool n) (bset (i := 1) (u := r) (h.bl.trans (undrewN hq.below)) hB) hB
  have t1 := h.tw.drewN k
  have t2 : DivW w1 := by
    unfold DivW at t1 ⊢
    exact (hq.below.cell (p := ⟨3, 0, none⟩) dg).trans t1
  have tw : DivW ((w1.setCell ⟨g, 1, none⟩ r).setCell ⟨g, 0, none⟩ (.bool n)) := by
    unfold DivW at t2 ⊢
    rw [cell_other (by simp only; omega), cell_other (by simp only; omega)]
    exact t2
  refine ⟨rfl, r, ⟨q3, o1, ob, fun ha hc he => ?_, b3, tw⟩⟩
  rcases hq.at' ha with ⟨k1, k2⟩ | k1
  · exact h.ab k1 hc (by rw [← k2]; exact he)
  · have := (h.ob.lt hc).2
    have e : (W.drewN k).heap.size = W.heap.size := rfl
    omega
theorem SfS.lshB (h : SfS g B N D n va vb w W) (hB : B ≤ g) (dg : 3 < B) (hz : 0 < D) (hl : nw D ≤ 10000000) (s : Nat) (hs : s ≤ 1000000000) :
    Calls Tryz.prog 82 #[.pointer (some ⟨g, 2, none⟩), .pointer (some ⟨g, 2, none⟩), .int .u64 s] W fun e w' => e = .returned (.pointer (some ⟨g, 2, none⟩)) ∧ ∃ vb', SfS g B N (D * 2 ^ s) n va vb' w w' := by
  have hBW : B ≤ W.heap.size := Nat.le_trans hB (Nat.le_of_lt (get_lt h.row))
  refine (intLsh_same g 2 D s B _ false vb _ W h.row rfl rfl (by decide) h.ob (fun hc => absurd hc (by omega)) hl hs hBW).mono ?_
  rintro _ w' ⟨rfl, r, w1, k, rfl, hq⟩
  have q1 := hq.fr.row (show (W.drewN k).heap[g]? = _ from h.row) (fun hc he => h.ob.ne_row h.row (by decide) hc he.symm)
  have q2 := rowset (i := 3) r q1
  have q3 := rowset (i := 2) (.bool false) q2
  have o1 := (hq.own.away q1 (by decide) 3 r).away q2 (by decide) 2 (.bool false)
  have oa := (((h.oa.drewN k).frz hq.fr (fun a b he => h.ab a b he)).away q1 (by decide) 3 r).away q2 (by decide) 2 (.bool false)
  have b3 := bset (i := 2) (u := .bool false) (bset (i := 3) (u := r) (h.bl.trans (undrewN hq.below)) hB) hB
  have t1 := h.tw.drewN k
  have t2 : DivW w1 := by
    unfold DivW at t1 ⊢
    exact (hq.below.cell (p := ⟨3, 0, none⟩) dg).trans t1
  have tw : DivW ((w1.setCell ⟨g, 3, none⟩ r).setCell ⟨g, 2, none⟩ (.bool false)) := by
    unfold DivW at t2 ⊢
    rw [cell_other (by simp only; omega), cell_other (by simp only; omega)]
    exact t2
  refine ⟨rfl, r, ⟨q3, oa, o1, fun ha hc he => ?_, b3, tw⟩⟩
  rcases hq.at' hc with ⟨k1, k2⟩ | k1
  · exact h.ab ha k1 (by rw [← k2]; exact he)
  · have := (h.oa.lt ha).2
    have e : (W.drewN k).heap.size = W.heap.size := rfl
    omega
theorem SfS.norm (h : SfS g B N D n va vb w W) (hB : B ≤ g) (dg : 3 < B) (hD0 : 0 < D) (hN : nw N < 40) (hD : nw D < 40) :
    Calls Tryz.prog 83 #[.pointer (some ⟨g, 0, none⟩)] W fun e w' => e = .returned (.pointer (some ⟨g, 0, none⟩)) ∧ RatP w' B g (n && decide (0 < N)) (N / Nat.gcd N D) (D / Nat.gcd N D) ∧ Below B w w' := by
  refine (norm_full g B N D n va vb W h.row h.oa h.ob h.ab hD0 hN hD hB h.tw dg).mono ?_
  rintro _ w' ⟨rfl, hp⟩
  exact ⟨rfl, hp.rat, h.bl.trans hp.bl⟩
end
theorem ord_neg {b : Nat} (hb : b < 18446744073709551616) (h : obF b) : (FloatKind.f64.format.order b 0 == some .lt) = (obN b && decide (0 < obM b)) := by
  rw [f64_fmt]
  unfold Ieee.Format.order
  have h0 : Ieee.double.read 0 = .number false 0 (-1074) := by decide
  have hE := obE_bd h
  rw [read_fin hb h, h0]
  simp only [Ieee.Datum.order]
  rw [Int.min_eq_right hE.1, Int.sub_self, icmp, sgn_nat, sgn_nat]
  simp only [Nat.zero_mul, Bool.false_eq_true, if_false]
  have hp := Nat.two_pow_pos (obE b - -1074).toNat
  by_cases hM : obM b = 0
  · rw [hM, Nat.zero_mul]; simp
  · have hpos : 0 < obM b * 2 ^ (obE b - -1074).toNat := Nat.mul_pos (by omega) hp
    rw [decide_eq_true (show 0 < obM b by omega)]
    cases obN b
    · simp only [Bool.false_eq_true, if_false]
      rw [if_neg (by omega), if_neg (by omega)]; rfl
    · simp only [if_true]
      rw [if_pos (by omega)]; rfl
theorem or_hid {f : Nat} (hf : f < 4503599627370496) : bits .or .u64 (f : Int) 4503599627370496 = ((f + 4503599627370496 : Nat) : Int) := by
  rw [show (4503599627370496 : Int) = ((4503599627370496 : Nat) : Int) from rfl, bits_or_u64_nat _ _ (by omega) (by decide)]
  congr 1
  rw [Nat.or_comm, show (4503599627370496 : Nat) = 2 ^ 52 * 1 from rfl, ← Nat.two_pow_add_eq_or_of_lt (by omega)]
  omega
end Go.Proofs.YtoddjkpckpekcaaGreatDoor
namespace Go.Proofs.YtoddjkpckpekcaaGreatDoor

theorem red_mul (n d k : Nat) (hk : 0 < k) : (n * k) / Nat.gcd (n * k) (d * k) = n / Nat.gcd n d := by
  rw [Nat.gcd_mul_right, Nat.mul_div_mul_right _ _ hk]
end Go.Proofs.YtoddjkpckpekcaaGreatDoor
namespace Go.Proofs.YtoddjkpckpekcaaGreatDoor
open Go.RowKit

theorem and_one {m r : Nat} (hm : m < 18446744073709551616) (hr : r = m % 2) : bits .and .u64 (m : Int) 1 = (r : Int) := by
  rw [show (1 : Int) = ((1 : Nat) : Int) from rfl, bits_and_u64_nat m 1 hm (by decide), Nat.and_one_is_mod, hr]
def sfN (x : Nat) : Nat := obM x * 2 ^ (obE x).toNat
def sfD (x : Nat) : Nat := 2 ^ (-obE x).toNat
theorem sfD_pos (x : Nat) : 0 < sfD x := Nat.two_pow_pos _
theorem sf_pos (x : Nat) : decide (0 < sfN x) = decide (0 < obM x) := by
  unfold sfN
  rw [decide_eq_decide]
  constructor
  · intro h; exact Nat.pos_of_mul_pos_right h
  · intro h; exact Nat.mul_pos h (Nat.two_pow_pos _)
theorem bl_sfN {x : Nat} (h : obF x) : bl (sfN x) ≤ 1100 ∧ bl (sfD x) ≤ 1100 := by
  have hE := obE_bd h
  have hM := bl_le (n := obM x) (k := 53) (by have := obM_bd x; omega)
  have h1 := bl_two (obM x) (obE x).toNat
  have h2 := bl_two 1 (-obE x).toNat
  rw [Nat.one_mul, show bl 1 = 1 from rfl] at h2
  unfold sfN sfD
  omega
theorem sf_same {N D n d k : Nat} (hk : 0 < k) (h1 : n = N * k) (h2 : d = D * k) : N / Nat.gcd N D = n / Nat.gcd n d ∧ D / Nat.gcd N D = d / Nat.gcd n d := by
  subst h1 h2
  have e1 := red_mul N D k hk
  have e2 := red_mul D N k hk
  rw [Nat.gcd_comm (D * k), Nat.gcd_comm D] at e2
  exact ⟨e1.symm, e2.symm⟩
theorem nw_of_bl2 {n k : Nat} (h : bl n ≤ 64 * k) : nw n ≤ k :=
  nw_le (Nat.lt_of_lt_of_le (lt_bl n) (by
    rw [show (18446744073709551616 : Nat) = 2 ^ 64 from rfl, ← Nat.pow_mul]
    exact Nat.pow_le_pow_right (by decide) h))
theorem nw_low {n : Nat} (h : bl n ≤ 1200) : nw n < 40 := Nat.lt_of_le_of_lt (nw_of_bl2 (k := 19) (by omega)) (by decide)
theorem bl_left {a b : Nat} (hb : 0 < b) : bl a ≤ bl (a * b) := bl_mono (Nat.le_mul_of_pos_right a hb)
set_option maxRecDepth 100000 in
set_option maxHeartbeats 1600000 in
theorem sf_tail (x : Nat) (hf : obF x) (m j : Nat) (s : Int) (hm : m * 2 ^ j = obM x) (hs : s = -obE x - (j : Int)) (hj : j = 0 ∨ 0 ≤ s) :
    (0 < s → m / Nat.gcd m (2 ^ s.toNat) = sfN x / Nat.gcd (sfN x) (sfD x) ∧ 2 ^ s.toNat / Nat.gcd m (2 ^ s.toNat) = sfD x / Nat.gcd (sfN x) (sfD x) ∧ nw m < 40 ∧ nw (2 ^ s.toNat) < 40) ∧
    (s ≤ 0 → m * 2 ^ (-s).toNat / Nat.gcd (m * 2 ^ (-s).toNat) 1 = sfN x / Nat.gcd (sfN x) (sfD x) ∧ 1 / Nat.gcd (m * 2 ^ (-s).toNat) 1 = sfD x / Nat.gcd (sfN x) (sfD x) ∧ nw (m * 2 ^ (-s).toNat) < 40) := by
  obtain ⟨b1, b2⟩ := bl_sfN hf
  have hE := obE_bd hf
  have hk := Nat.two_pow_pos j
  have bm : bl m ≤ 60 := by
    have h1 := bl_left (a := m) hk
    rw [hm] at h1
    have hM := bl_le (n := obM x) (k := 53) (by have := obM_bd x; omega)
    omega
  refine ⟨fun h => ?_, fun h => ?_⟩
  · have e1 : sfN x = m * 2 ^ j := by
      unfold sfN
      rw [hm, show (obE x).toNat = 0 by omega, Nat.pow_zero, Nat.mul_one]
    have e2 : sfD x = 2 ^ s.toNat * 2 ^ j := by
      unfold sfD
      rw [← Nat.pow_add]; congr 1; omega
    obtain ⟨k1, k2⟩ := sf_same hk e1 e2
    refine ⟨k1, k2, nw_low (by omega), nw_low ?_⟩
    have := bl_left (a := 2 ^ s.toNat) hk
    rw [← e2] at this
    omega
  · have e1 : sfN x = m * 2 ^ (-s).toNat * 2 ^ j := by
      unfold sfN
      rw [← hm, Nat.mul_assoc, Nat.mul_assoc, ← Nat.pow_add, ← Nat.pow_add]
      rcases hj with h0 | h0
      · congr 2; omega
      · congr 2; omega
    have e2 : sfD x = 1 * 2 ^ j := by
      unfold sfD
      rw [Nat.one_mul]
      rcases hj with h0 | h0
      · congr 1; omega
      · congr 1; omega
    obtain ⟨k1, k2⟩ := sf_same hk e1 e2
    refine ⟨k1, k2, nw_low ?_⟩
    have := bl_left (a := m * 2 ^ (-s).toNat) hk
    rw [← e1] at this
    omega
def SfL (x m : Nat) (s : Int) : Prop := ∃ j : Nat, m * 2 ^ j = obM x ∧ s = -obE x - (j : Int) ∧ (j = 0 ∨ 0 ≤ s)
theorem SfL.step {x m : Nat} {s : Int} (h : SfL x m s) (h0 : m % 2 = 0) (hs : 0 < s) : SfL x (m / 2) (s - 1) := by
  obtain ⟨j, h1, h2, h3⟩ := h
  refine ⟨j + 1, ?_, by omega, .inr (by omega)⟩
  rw [Nat.pow_succ, Nat.mul_comm (2 ^ j), ← Nat.mul_assoc, show m / 2 * 2 = m by omega]
  exact h1
theorem sf_nn {x m k : Nat} {s : Int} (h : SfL x m s) (hk : 0 < k) : ((obN x && decide (0 < obM x)) && decide (0 < m * k)) = (obN x && decide (0 < obM x)) := by
  obtain ⟨j, h1, -⟩ := h
  rcases Nat.eq_zero_or_pos m with h0 | h0
  · rw [h0, Nat.zero_mul] at h1
    rw [← h1]; simp
  · rw [decide_eq_true (Nat.mul_pos h0 hk), Bool.and_true]
set_option maxRecDepth 100000 in
set_option maxHeartbeats 6400000 in
theorem ratSF (g B x : Nat) (w : World) (hx : x < 18446744073709551616) (hf : obF x) (row : w.heap[g]? = some (.cells #[.bool false, .slice none 0 0, .bool false, .slice none 0 0] 89 (0, 0))) (hB : B ≤ g) (hT : DivW w) (dg : 3 < B) :
    Calls Tryz.prog 47 #[.pointer (some ⟨g, 0, none⟩), .float .f64 x] w fun e w' => e = .returned (.pointer (some ⟨g, 0, none⟩)) ∧
      RatP w' B g (obN x && decide (0 < obM x)) (sfN x / Nat.gcd (sfN x) (sfD x)) (sfD x / Nat.gcd (sfN x) (sfD x)) ∧ Below B w w' := by
  have q1 : (x : Int) / 4503599627370496 = ((x / 4503599627370496 : Nat) : Int) := by omega
  have q2 : x / 4503599627370496 < 18446744073709551616 := by omega
  have q3 := and_2047 q2
  have hg7 : x / 4503599627370496 % 2048 ≠ 2047 := by unfold obF at hf; omega
  obtain ⟨q, hq⟩ : ∃ q, q = x / 4503599627370496 := ⟨_, rfl⟩
  rw [← hq] at q1 q2 q3 hg7
  obtain ⟨e, he⟩ : ∃ g, g = q % 2048 := ⟨_, rfl⟩
  rw [← he] at q3 hg7
  have q4 := and_frac hx
  have q6 := ord_neg hx hf
  have t7 : ((e : Int) == 2047) = false := by rw [beq_eq_false_iff_ne]; omega
  obtain ⟨nn, hnn⟩ : ∃ n, n = (obN x && decide (0 < obM x)) := ⟨_, rfl⟩
  rw [← hnn] at q6 ⊢
  have HNN := Lib.hid hnn
  have HS0 := Lib.hid (SfS.start (B := B) row hT)
  obtain ⟨m0, hm0⟩ : ∃ m, m = obM x := ⟨_, rfl⟩
  obtain ⟨s0, hs0⟩ : ∃ s : Int, s = -obE x := ⟨_, rfl⟩
  have HL0 : Hid (SfL x m0 s0) := Lib.hid ⟨0, by rw [Nat.pow_zero, Nat.mul_one, hm0], by rw [hs0]; simp, .inl rfl⟩
  have hm0b : m0 ≤ 9007199254740991 := by rw [hm0]; exact obM_bd x
  have hs0b1 : -971 ≤ s0 := by have := obE_bd hf; omega
  have hs0b2 : s0 ≤ 1074 := by have := obE_bd hf; omega
  have HTAIL := Lib.hid (fun (m : Nat) (s : Int) (h : SfL x m s) => by
    obtain ⟨j, k1, k2, k3⟩ := h
    exact sf_tail x hf m j s k1 k2 k3)
  obtain ⟨N, hN⟩ : ∃ N, N = sfN x / Nat.gcd (sfN x) (sfD x) := ⟨_, rfl⟩
  obtain ⟨D, hD⟩ : ∃ D, D = sfD x / Nat.gcd (sfN x) (sfD x) := ⟨_, rfl⟩
  rw [← hN, ← hD] at HTAIL ⊢
  have hel : e < 2048 := by omega
  by_cases he0 : e = 0
  · have t0 : ((e : Int) == 0) = true := by rw [he0]; rfl
    have hmm : x % 4503599627370496 = m0 := by rw [hm0]; unfold obM; rw [if_pos (by omega)]; omega
    rw [hmm] at q4
    have hss : 52 - ((e : Int) - 1022) = s0 := by rw [hs0]; unfold obE; omega
    clear row hT hf hx hq he hnn hm0 hs0 hN hD he0 hmm
    go_enter Tryz.func47, Tryz.ntmps47
    go_wp2_with (simp only [f64bits])
    go_loopw [6, 8] (fun mv sv wr => ∃ (m : Nat) (s : Int), mv = .int .u64 m ∧ sv = .int .i64 s ∧ SfL x m s ∧ m ≤ 9007199254740991 ∧ -971 ≤ s ∧ s ≤ 1074 ∧ w = wr) (fun _ sv _ => (intOf sv).toNat)
    case atStart => exact ⟨m0, s0, rfl, rfl, HL0.out, hm0b, hs0b1, hs0b2, rfl⟩
    case round =>
      obtain ⟨m, s, rfl, rfl, hl, hmb, hsb1, hsb2, rfl⟩ := hrel
      have HL := Lib.hid hl
      rcases (by omega : (m % 2 = 0 ∧ 0 < s) ∨ m % 2 = 1 ∨ (m % 2 = 0 ∧ s ≤ 0)) with ⟨h0, h1⟩ | h0 | ⟨h0, h1⟩
      · have hst := Lib.hid (hl.step h0 h1)
        have a1 : bits .and .u64 (m : Int) 1 = 0 := and_one (r := 0) (by omega) h0.symm
        have t2 : decide (0 < s) = true := decide_eq_true h1
        have e1 : (m : Int) / 2 = ((m / 2 : Nat) : Int) := by omega
        have hm2 : m / 2 ≤ 9007199254740991 := by omega
        obtain ⟨m2, hm2'⟩ : ∃ k, k = m / 2 := ⟨_, rfl⟩
        rw [← hm2'] at e1 hm2 hst
        clear hl h0 hm2'
        go_wp2
        go_roundw
        case rel => exact ⟨m2, s - 1, rfl, rfl, hst.out, hm2, by omega, by omega, trivial⟩
        case measure => simp [intOf]; omega
      · have a1 : bits .and .u64 (m : Int) 1 = 1 := and_one (r := 1) (by omega) h0.symm
        clear hl h0
        go_wp2_with fail
        refine (HS0.out.setA hB dg m (by omega)).mono ?_
        rintro _ w1 ⟨rfl, va, hA, hz⟩
        obtain ⟨k0, f0⟩ := row_at (i := 0) hA.row rfl
        have hN := hA.neg hB dg nn
        obtain ⟨W2, hW2⟩ : ∃ W2, W2 = w1.setCell ⟨g, 0, none⟩ (.bool nn) := ⟨_, rfl⟩
        rw [← hW2] at hN
        have HN := Lib.hid hN
        have HZ := Lib.hid hz
        clear hA hN hz
        go_upto_region 17 with fail
        rw [← hW2]
        clear hW2 k0 f0
        (refine wp_region_hoistP [0, 1, 2] [] [] [3, 4] (by kernel_rfl) (by kernel_rfl) ⟨fun _ _ _ h => (by first | exact (hQp _ _ _ h).elim | cases h.2.1 | (obtain ⟨_, h3, _⟩ := h.2; cases h3)), fun _ _ h => (by first | exact (hQo _ _ h).elim | cases h.1 | (obtain ⟨_, h3, _⟩ := h; cases h3))⟩ ?_; simp only [pickOps, List.flatMap_cons, List.flatMap_nil, Option.toList_some, List.cons_append, List.nil_append, List.getElem?_toArray, List.getElem?_cons_zero, List.getElem?_cons_succ]; (repeat (go_big_quiet_step (fail))); refine wpQuiet_nil ?_; (repeat (go_big_quiet_step (fail))); refine wpQuiet_nil ?_; rintro _ ⟨nq, rfl⟩; (repeat (go_big_quiet_step (fail))); refine wpQuiet_nil ?_)
        go_wp2_with fail
        refine ((HN.out.drewN nq).setB hB dg).mono ?_
        rintro _ w3 ⟨c, rfl, hb3, hset⟩
        have HSET := Lib.hid hset
        clear hset hb3
        go_wp2_with fail
        refine HSET.out.mono ?_
        rintro _ w4 ⟨rfl, vb, hB4⟩
        have H4 := Lib.hid hB4
        clear hB4 HSET
        rcases Int.lt_or_le 0 s with hsp | hsp
        · have HT := Lib.hid ((HTAIL.out m s HL.out).1 hsp)
          have HP := Lib.hid (sf_nn (k := 1) HL.out (by decide))
          have t2 : decide (0 < s) = true := decide_eq_true hsp
          obtain ⟨k, hk⟩ := Int.eq_ofNat_of_zero_le (Int.le_of_lt hsp)
          subst hk
          have hkb : k ≤ 1074 := by omega
          have e1 : IntKind.u64.wrap (k : Int) = (k : Int) := by rw [IntKind.wrap_u64]; omega
          go_upto_region 19 with fail
          (refine wp_region_hoist 8 (by kernel_rfl) (by kernel_rfl) ⟨fun _ _ _ h => (by first | exact (hQp _ _ _ h).elim | cases h.2.1 | (obtain ⟨_, h3, _⟩ := h.2; cases h3)), fun _ _ h => (by first | exact (hQo _ _ h).elim | cases h.1 | (obtain ⟨_, h3, _⟩ := h; cases h3))⟩ ?_; simp only [List.take_succ_cons, List.take_zero, List.drop_succ_cons, List.drop_zero]; (repeat (go_big_quiet_step (fail))); refine wpQuiet_nil ?_; rintro _ ⟨nq, rfl⟩)
          go_wp2_with fail
          refine ((H4.out.drewN nq).lshB hB dg (by decide) (by decide) k (by omega)).mono ?_
          rintro _ w5 ⟨rfl, vb', h5⟩
          have H5 := Lib.hid h5
          clear h5
          have HF : Hid (Calls Tryz.prog 83 #[.pointer (some ⟨g, 0, none⟩)] w5 fun e w' => e = .returned (.pointer (some ⟨g, 0, none⟩)) ∧ RatP w' B g nn N D ∧ Below B w w') := Lib.hid (by
            obtain ⟨t1, t2, t3, t4⟩ := HT.out
            have t5 := HP.out
            simp only [Int.toNat_natCast] at t1 t2 t4
            rw [Nat.mul_one] at t5
            have h5 := H5.out
            rw [Nat.one_mul] at h5
            have := h5.norm hB dg (Nat.two_pow_pos _) t3 t4
            rw [t1, t2, HNN.out, t5] at this
            rw [HNN.out]
            exact this)
          go_wp2_with fail
          refine HF.out.mono ?_
          rintro _ w6 ⟨rfl, h6, hb6⟩
          have Q := Lib.hid (And.intro h6 hb6)
          clear h6 hb6
          go_wp2
          go_ret
          exact ⟨rfl, Q.out⟩
        · have HT := Lib.hid ((HTAIL.out m s HL.out).2 hsp)
          have t2 : decide (0 < s) = false := decide_eq_false (by omega)
          obtain ⟨k, hk⟩ := Int.eq_ofNat_of_zero_le (show 0 ≤ -s by omega)
          have HP := Lib.hid (sf_nn (k := 2 ^ k) HL.out (Nat.two_pow_pos _))
          have hkb : k ≤ 1074 := by omega
          have hk' : s = -(k : Int) := by omega
          subst hk'
          have e0 : IntKind.i64.wrap (- -(k : Int)) = (k : Int) := by rw [IntKind.wrap_i64]; omega
          have e0' : IntKind.i64.wrap (k : Int) = (k : Int) := by rw [IntKind.wrap_i64]; omega
          have e1 : IntKind.u64.wrap (k : Int) = (k : Int) := by rw [IntKind.wrap_u64]; omega
          clear hk
          go_upto_region 20 with fail
          (refine wp_region_hoist 9 (by kernel_rfl) (by kernel_rfl) ⟨fun _ _ _ h => (by first | exact (hQp _ _ _ h).elim | cases h.2.1 | (obtain ⟨_, h3, _⟩ := h.2; cases h3)), fun _ _ h => (by first | exact (hQo _ _ h).elim | cases h.1 | (obtain ⟨_, h3, _⟩ := h; cases h3))⟩ ?_; simp only [List.take_succ_cons, List.take_zero, List.drop_succ_cons, List.drop_zero]; (repeat (go_big_quiet_step (fail))); refine wpQuiet_nil ?_; rintro _ ⟨nq, rfl⟩)
          go_wp2_with fail
          refine ((H4.out.drewN nq).lshA hB dg HZ.out (by have := nw_low (n := m) (Nat.le_trans (bl_le (k := 53) (by omega)) (by decide)); omega) k (by omega)).mono ?_
          rintro _ w5 ⟨rfl, va', h5⟩
          have H5 := Lib.hid h5
          clear h5
          have HF : Hid (Calls Tryz.prog 83 #[.pointer (some ⟨g, 0, none⟩)] w5 fun e w' => e = .returned (.pointer (some ⟨g, 0, none⟩)) ∧ RatP w' B g nn N D ∧ Below B w w') := Lib.hid (by
            obtain ⟨t1, t2, t3⟩ := HT.out
            have t5 := HP.out
            rw [Int.neg_neg, Int.toNat_natCast] at t1 t2 t3
            have := H5.out.norm hB dg (by decide) t3 (by decide)
            rw [t1, t2, HNN.out, t5] at this
            rw [HNN.out]
            exact this)
          go_wp2_with fail
          refine HF.out.mono ?_
          rintro _ w6 ⟨rfl, h6, hb6⟩
          have Q := Lib.hid (And.intro h6 hb6)
          clear h6 hb6
          go_wp2
          go_ret
          exact ⟨rfl, Q.out⟩
      · have a1 : bits .and .u64 (m : Int) 1 = 0 := and_one (r := 0) (by omega) h0.symm
        have t2' : decide (0 < s) = false := decide_eq_false (by omega)
        clear hl h0
        go_wp2_with fail
        refine (HS0.out.setA hB dg m (by omega)).mono ?_
        rintro _ w1 ⟨rfl, va, hA, hz⟩
        obtain ⟨k0, f0⟩ := row_at (i := 0) hA.row rfl
        have hN := hA.neg hB dg nn
        obtain ⟨W2, hW2⟩ : ∃ W2, W2 = w1.setCell ⟨g, 0, none⟩ (.bool nn) := ⟨_, rfl⟩
        rw [← hW2] at hN
        have HN := Lib.hid hN
        have HZ := Lib.hid hz
        clear hA hN hz
        go_upto_region 17 with fail
        rw [← hW2]
        clear hW2 k0 f0
        (refine wp_region_hoistP [0, 1, 2] [] [] [3, 4] (by kernel_rfl) (by kernel_rfl) ⟨fun _ _ _ h => (by first | exact (hQp _ _ _ h).elim | cases h.2.1 | (obtain ⟨_, h3, _⟩ := h.2; cases h3)), fun _ _ h => (by first | exact (hQo _ _ h).elim | cases h.1 | (obtain ⟨_, h3, _⟩ := h; cases h3))⟩ ?_; simp only [pickOps, List.flatMap_cons, List.flatMap_nil, Option.toList_some, List.cons_append, List.nil_append, List.getElem?_toArray, List.getElem?_cons_zero, List.getElem?_cons_succ]; (repeat (go_big_quiet_step (fail))); refine wpQuiet_nil ?_; (repeat (go_big_quiet_step (fail))); refine wpQuiet_nil ?_; rintro _ ⟨nq, rfl⟩; (repeat (go_big_quiet_step (fail))); refine wpQuiet_nil ?_)
        go_wp2_with fail
        refine ((HN.out.drewN nq).setB hB dg).mono ?_
        rintro _ w3 ⟨c, rfl, hb3, hset⟩
        have HSET := Lib.hid hset
        clear hset hb3
        go_wp2_with fail
        refine HSET.out.mono ?_
        rintro _ w4 ⟨rfl, vb, hB4⟩
        have H4 := Lib.hid hB4
        clear hB4 HSET
        rcases Int.lt_or_le 0 s with hsp | hsp
        · exfalso; omega
        · have HT := Lib.hid ((HTAIL.out m s HL.out).2 hsp)
          have t2 : decide (0 < s) = false := decide_eq_false (by omega)
          obtain ⟨k, hk⟩ := Int.eq_ofNat_of_zero_le (show 0 ≤ -s by omega)
          have HP := Lib.hid (sf_nn (k := 2 ^ k) HL.out (Nat.two_pow_pos _))
          have hkb : k ≤ 1074 := by omega
          have hk' : s = -(k : Int) := by omega
          subst hk'
          have e0 : IntKind.i64.wrap (- -(k : Int)) = (k : Int) := by rw [IntKind.wrap_i64]; omega
          have e0' : IntKind.i64.wrap (k : Int) = (k : Int) := by rw [IntKind.wrap_i64]; omega
          have e1 : IntKind.u64.wrap (k : Int) = (k : Int) := by rw [IntKind.wrap_u64]; omega
          clear hk
          go_upto_region 20 with fail
          (refine wp_region_hoist 9 (by kernel_rfl) (by kernel_rfl) ⟨fun _ _ _ h => (by first | exact (hQp _ _ _ h).elim | cases h.2.1 | (obtain ⟨_, h3, _⟩ := h.2; cases h3)), fun _ _ h => (by first | exact (hQo _ _ h).elim | cases h.1 | (obtain ⟨_, h3, _⟩ := h; cases h3))⟩ ?_; simp only [List.take_succ_cons, List.take_zero, List.drop_succ_cons, List.drop_zero]; (repeat (go_big_quiet_step (fail))); refine wpQuiet_nil ?_; rintro _ ⟨nq, rfl⟩)
          go_wp2_with fail
          refine ((H4.out.drewN nq).lshA hB dg HZ.out (by have := nw_low (n := m) (Nat.le_trans (bl_le (k := 53) (by omega)) (by decide)); omega) k (by omega)).mono ?_
          rintro _ w5 ⟨rfl, va', h5⟩
          have H5 := Lib.hid h5
          clear h5
          have HF : Hid (Calls Tryz.prog 83 #[.pointer (some ⟨g, 0, none⟩)] w5 fun e w' => e = .returned (.pointer (some ⟨g, 0, none⟩)) ∧ RatP w' B g nn N D ∧ Below B w w') := Lib.hid (by
            obtain ⟨t1, t2, t3⟩ := HT.out
            have t5 := HP.out
            rw [Int.neg_neg, Int.toNat_natCast] at t1 t2 t3
            have := H5.out.norm hB dg (by decide) t3 (by decide)
            rw [t1, t2, HNN.out, t5] at this
            rw [HNN.out]
            exact this)
          go_wp2_with fail
          refine HF.out.mono ?_
          rintro _ w6 ⟨rfl, h6, hb6⟩
          have Q := Lib.hid (And.intro h6 hb6)
          clear h6 hb6
          go_wp2
          go_ret
          exact ⟨rfl, Q.out⟩
  · have t0 : ((e : Int) == 0) = false := by rw [beq_eq_false_iff_ne]; omega
    obtain ⟨f, hff⟩ : ∃ f, f = x % 4503599627370496 := ⟨_, rfl⟩
    rw [← hff] at q4
    have q5 := or_hid (f := f) (by omega)
    have hmm : f + 4503599627370496 = m0 := by rw [hm0, hff]; unfold obM; rw [if_neg (by omega)]; omega
    rw [hmm] at q5
    have hss : 52 - ((e : Int) - 1023) = s0 := by rw [hs0]; unfold obE; omega
    clear row hT hf hx hq he hnn hm0 hs0 hN hD he0 hmm hff
    go_enter Tryz.func47, Tryz.ntmps47
    go_wp2_with (simp only [f64bits])
    go_loopw [6, 8] (fun mv sv wr => ∃ (m : Nat) (s : Int), mv = .int .u64 m ∧ sv = .int .i64 s ∧ SfL x m s ∧ m ≤ 9007199254740991 ∧ -971 ≤ s ∧ s ≤ 1074 ∧ w = wr) (fun _ sv _ => (intOf sv).toNat)
    case atStart => exact ⟨m0, s0, rfl, rfl, HL0.out, hm0b, hs0b1, hs0b2, rfl⟩
    case round =>
      obtain ⟨m, s, rfl, rfl, hl, hmb, hsb1, hsb2, rfl⟩ := hrel
      have HL := Lib.hid hl
      rcases (by omega : (m % 2 = 0 ∧ 0 < s) ∨ m % 2 = 1 ∨ (m % 2 = 0 ∧ s ≤ 0)) with ⟨h0, h1⟩ | h0 | ⟨h0, h1⟩
      · have hst := Lib.hid (hl.step h0 h1)
        have a1 : bits .and .u64 (m : Int) 1 = 0 := and_one (r := 0) (by omega) h0.symm
        have t2 : decide (0 < s) = true := decide_eq_true h1
        have e1 : (m : Int) / 2 = ((m / 2 : Nat) : Int) := by omega
        have hm2 : m / 2 ≤ 9007199254740991 := by omega
        obtain ⟨m2, hm2'⟩ : ∃ k, k = m / 2 := ⟨_, rfl⟩
        rw [← hm2'] at e1 hm2 hst
        clear hl h0 hm2'
        go_wp2
        go_roundw
        case rel => exact ⟨m2, s - 1, rfl, rfl, hst.out, hm2, by omega, by omega, trivial⟩
        case measure => simp [intOf]; omega
      · have a1 : bits .and .u64 (m : Int) 1 = 1 := and_one (r := 1) (by omega) h0.symm
        clear hl h0
        go_wp2_with fail
        refine (HS0.out.setA hB dg m (by omega)).mono ?_
        rintro _ w1 ⟨rfl, va, hA, hz⟩
        obtain ⟨k0, f0⟩ := row_at (i := 0) hA.row rfl
        have hN := hA.neg hB dg nn
        obtain ⟨W2, hW2⟩ : ∃ W2, W2 = w1.setCell ⟨g, 0, none⟩ (.bool nn) := ⟨_, rfl⟩
        rw [← hW2] at hN
        have HN := Lib.hid hN
        have HZ := Lib.hid hz
        clear hA hN hz
        go_upto_region 17 with fail
        rw [← hW2]
        clear hW2 k0 f0
        (refine wp_region_hoistP [0, 1, 2] [] [] [3, 4] (by kernel_rfl) (by kernel_rfl) ⟨fun _ _ _ h => (by first | exact (hQp _ _ _ h).elim | cases h.2.1 | (obtain ⟨_, h3, _⟩ := h.2; cases h3)), fun _ _ h => (by first | exact (hQo _ _ h).elim | cases h.1 | (obtain ⟨_, h3, _⟩ := h; cases h3))⟩ ?_; simp only [pickOps, List.flatMap_cons, List.flatMap_nil, Option.toList_some, List.cons_append, List.nil_append, List.getElem?_toArray, List.getElem?_cons_zero, List.getElem?_cons_succ]; (repeat (go_big_quiet_step (fail))); refine wpQuiet_nil ?_; (repeat (go_big_quiet_step (fail))); refine wpQuiet_nil ?_; rintro _ ⟨nq, rfl⟩; (repeat (go_big_quiet_step (fail))); refine wpQuiet_nil ?_)
        go_wp2_with fail
        refine ((HN.out.drewN nq).setB hB dg).mono ?_
        rintro _ w3 ⟨c, rfl, hb3, hset⟩
        have HSET := Lib.hid hset
        clear hset hb3
        go_wp2_with fail
        refine HSET.out.mono ?_
        rintro _ w4 ⟨rfl, vb, hB4⟩
        have H4 := Lib.hid hB4
        clear hB4 HSET
        rcases Int.lt_or_le 0 s with hsp | hsp
        · have HT := Lib.hid ((HTAIL.out m s HL.out).1 hsp)
          have HP := Lib.hid (sf_nn (k := 1) HL.out (by decide))
          have t2 : decide (0 < s) = true := decide_eq_true hsp
          obtain ⟨k, hk⟩ := Int.eq_ofNat_of_zero_le (Int.le_of_lt hsp)
          subst hk
          have hkb : k ≤ 1074 := by omega
          have e1 : IntKind.u64.wrap (k : Int) = (k : Int) := by rw [IntKind.wrap_u64]; omega
          go_upto_region 19 with fail
          (refine wp_region_hoist 8 (by kernel_rfl) (by kernel_rfl) ⟨fun _ _ _ h => (by first | exact (hQp _ _ _ h).elim | cases h.2.1 | (obtain ⟨_, h3, _⟩ := h.2; cases h3)), fun _ _ h => (by first | exact (hQo _ _ h).elim | cases h.1 | (obtain ⟨_, h3, _⟩ := h; cases h3))⟩ ?_; simp only [List.take_succ_cons, List.take_zero, List.drop_succ_cons, List.drop_zero]; (repeat (go_big_quiet_step (fail))); refine wpQuiet_nil ?_; rintro _ ⟨nq, rfl⟩)
          go_wp2_with fail
          refine ((H4.out.drewN nq).lshB hB dg (by decide) (by decide) k (by omega)).mono ?_
          rintro _ w5 ⟨rfl, vb', h5⟩
          have H5 := Lib.hid h5
          clear h5
          have HF : Hid (Calls Tryz.prog 83 #[.pointer (some ⟨g, 0, none⟩)] w5 fun e w' => e = .returned (.pointer (some ⟨g, 0, none⟩)) ∧ RatP w' B g nn N D ∧ Below B w w') := Lib.hid (by
            obtain ⟨t1, t2, t3, t4⟩ := HT.out
            have t5 := HP.out
            simp only [Int.toNat_natCast] at t1 t2 t4
            rw [Nat.mul_one] at t5
            have h5 := H5.out
            rw [Nat.one_mul] at h5
            have := h5.norm hB dg (Nat.two_pow_pos _) t3 t4
            rw [t1, t2, HNN.out, t5] at this
            rw [HNN.out]
            exact this)
          go_wp2_with fail
          refine HF.out.mono ?_
          rintro _ w6 ⟨rfl, h6, hb6⟩
          have Q := Lib.hid (And.intro h6 hb6)
          clear h6 hb6
          go_wp2
          go_ret
          exact ⟨rfl, Q.out⟩
        · have HT := Lib.hid ((HTAIL.out m s HL.out).2 hsp)
          have t2 : decide (0 < s) = false := decide_eq_false (by omega)
          obtain ⟨k, hk⟩ := Int.eq_ofNat_of_zero_le (show 0 ≤ -s by omega)
          have HP := Lib.hid (sf_nn (k := 2 ^ k) HL.out (Nat.two_pow_pos _))
          have hkb : k ≤ 1074 := by omega
          have hk' : s = -(k : Int) := by omega
          subst hk'
          have e0 : IntKind.i64.wrap (- -(k : Int)) = (k : Int) := by rw [IntKind.wrap_i64]; omega
          have e0' : IntKind.i64.wrap (k : Int) = (k : Int) := by rw [IntKind.wrap_i64]; omega
          have e1 : IntKind.u64.wrap (k : Int) = (k : Int) := by rw [IntKind.wrap_u64]; omega
          clear hk
          go_upto_region 20 with fail
          (refine wp_region_hoist 9 (by kernel_rfl) (by kernel_rfl) ⟨fun _ _ _ h => (by first | exact (hQp _ _ _ h).elim | cases h.2.1 | (obtain ⟨_, h3, _⟩ := h.2; cases h3)), fun _ _ h => (by first | exact (hQo _ _ h).elim | cases h.1 | (obtain ⟨_, h3, _⟩ := h; cases h3))⟩ ?_; simp only [List.take_succ_cons, List.take_zero, List.drop_succ_cons, List.drop_zero]; (repeat (go_big_quiet_step (fail))); refine wpQuiet_nil ?_; rintro _ ⟨nq, rfl⟩)
          go_wp2_with fail
          refine ((H4.out.drewN nq).lshA hB dg HZ.out (by have := nw_low (n := m) (Nat.le_trans (bl_le (k := 53) (by omega)) (by decide)); omega) k (by omega)).mono ?_
          rintro _ w5 ⟨rfl, va', h5⟩
          have H5 := Lib.hid h5
          clear h5
          have HF : Hid (Calls Tryz.prog 83 #[.pointer (some ⟨g, 0, none⟩)] w5 fun e w' => e = .returned (.pointer (some ⟨g, 0, none⟩)) ∧ RatP w' B g nn N D ∧ Below B w w') := Lib.hid (by
            obtain ⟨t1, t2, t3⟩ := HT.out
            have t5 := HP.out
            rw [Int.neg_neg, Int.toNat_natCast] at t1 t2 t3
            have := H5.out.norm hB dg (by decide) t3 (by decide)
            rw [t1, t2, HNN.out, t5] at this
            rw [HNN.out]
            exact this)
          go_wp2_with fail
          refine HF.out.mono ?_
          rintro _ w6 ⟨rfl, h6, hb6⟩
          have Q := Lib.hid (And.intro h6 hb6)
          clear h6 hb6
          go_wp2
          go_ret
          exact ⟨rfl, Q.out⟩
      · have a1 : bits .and .u64 (m : Int) 1 = 0 := and_one (r := 0) (by omega) h0.symm
        have t2' : decide (0 < s) = false := decide_eq_false (by omega)
        clear hl h0
        go_wp2_with fail
        refine (HS0.out.setA hB dg m (by omega)).mono ?_
        rintro _ w1 ⟨rfl, va, hA, hz⟩
        obtain ⟨k0, f0⟩ := row_at (i := 0) hA.row rfl
        have hN := hA.neg hB dg nn
        obtain ⟨W2, hW2⟩ : ∃ W2, W2 = w1.setCell ⟨g, 0, none⟩ (.bool nn) := ⟨_, rfl⟩
        rw [← hW2] at hN
        have HN := Lib.hid hN
        have HZ := Lib.hid hz
        clear hA hN hz
        go_upto_region 17 with fail
        rw [← hW2]
        clear hW2 k0 f0
        (refine wp_region_hoistP [0, 1, 2] [] [] [3, 4] (by kernel_rfl) (by kernel_rfl) ⟨fun _ _ _ h => (by first | exact (hQp _ _ _ h).elim | cases h.2.1 | (obtain ⟨_, h3, _⟩ := h.2; cases h3)), fun _ _ h => (by first | exact (hQo _ _ h).elim | cases h.1 | (obtain ⟨_, h3, _⟩ := h; cases h3))⟩ ?_; simp only [pickOps, List.flatMap_cons, List.flatMap_nil, Option.toList_some, List.cons_append, List.nil_append, List.getElem?_toArray, List.getElem?_cons_zero, List.getElem?_cons_succ]; (repeat (go_big_quiet_step (fail))); refine wpQuiet_nil ?_; (repeat (go_big_quiet_step (fail))); refine wpQuiet_nil ?_; rintro _ ⟨nq, rfl⟩; (repeat (go_big_quiet_step (fail))); refine wpQuiet_nil ?_)
        go_wp2_with fail
        refine ((HN.out.drewN nq).setB hB dg).mono ?_
        rintro _ w3 ⟨c, rfl, hb3, hset⟩
        have HSET := Lib.hid hset
        clear hset hb3
        go_wp2_with fail
        refine HSET.out.mono ?_
        rintro _ w4 ⟨rfl, vb, hB4⟩
        have H4 := Lib.hid hB4
        clear hB4 HSET
        rcases Int.lt_or_le 0 s with hsp | hsp
        · exfalso; omega
        · have HT := Lib.hid ((HTAIL.out m s HL.out).2 hsp)
          have t2 : decide (0 < s) = false := decide_eq_false (by omega)
          obtain ⟨k, hk⟩ := Int.eq_ofNat_of_zero_le (show 0 ≤ -s by omega)
          have HP := Lib.hid (sf_nn (k := 2 ^ k) HL.out (Nat.two_pow_pos _))
          have hkb : k ≤ 1074 := by omega
          have hk' : s = -(k : Int) := by omega
          subst hk'
          have e0 : IntKind.i64.wrap (- -(k : Int)) = (k : Int) := by rw [IntKind.wrap_i64]; omega
          have e0' : IntKind.i64.wrap (k : Int) = (k : Int) := by rw [IntKind.wrap_i64]; omega
          have e1 : IntKind.u64.wrap (k : Int) = (k : Int) := by rw [IntKind.wrap_u64]; omega
          clear hk
          go_upto_region 20 with fail
          (refine wp_region_hoist 9 (by kernel_rfl) (by kernel_rfl) ⟨fun _ _ _ h => (by first | exact (hQp _ _ _ h).elim | cases h.2.1 | (obtain ⟨_, h3, _⟩ := h.2; cases h3)), fun _ _ h => (by first | exact (hQo _ _ h).elim | cases h.1 | (obtain ⟨_, h3, _⟩ := h; cases h3))⟩ ?_; simp only [List.take_succ_cons, List.take_zero, List.drop_succ_cons, List.drop_zero]; (repeat (go_big_quiet_step (fail))); refine wpQuiet_nil ?_; rintro _ ⟨nq, rfl⟩)
          go_wp2_with fail
          refine ((H4.out.drewN nq).lshA hB dg HZ.out (by have := nw_low (n := m) (Nat.le_trans (bl_le (k := 53) (by omega)) (by decide)); omega) k (by omega)).mono ?_
          rintro _ w5 ⟨rfl, va', h5⟩
          have H5 := Lib.hid h5
          clear h5
          have HF : Hid (Calls Tryz.prog 83 #[.pointer (some ⟨g, 0, none⟩)] w5 fun e w' => e = .returned (.pointer (some ⟨g, 0, none⟩)) ∧ RatP w' B g nn N D ∧ Below B w w') := Lib.hid (by
            obtain ⟨t1, t2, t3⟩ := HT.out
            have t5 := HP.out
            rw [Int.neg_neg, Int.toNat_natCast] at t1 t2 t3
            have := H5.out.norm hB dg (by decide) t3 (by decide)
            rw [t1, t2, HNN.out, t5] at this
            rw [HNN.out]
            exact this)
          go_wp2_with fail
          refine HF.out.mono ?_
          rintro _ w6 ⟨rfl, h6, hb6⟩
          have Q := Lib.hid (And.intro h6 hb6)
          clear h6 hb6
          go_wp2
          go_ret
          exact ⟨rfl, Q.out⟩
theorem dvd_two {n d : Nat} (h : d ∣ 2 ^ n) : ∃ t, t ≤ n ∧ d = 2 ^ t := by
  induction n generalizing d with
  | zero => exact ⟨0, Nat.le_refl _, by rw [Nat.pow_zero] at h ⊢; exact Nat.dvd_one.1 h⟩
  | succ n ih =>
    by_cases he : d % 2 = 0
    · obtain ⟨e, rfl⟩ := Nat.dvd_of_mod_eq_zero he
      rw [Nat.pow_succ, Nat.mul_comm 2 e] at h
      obtain ⟨t, h1, h2⟩ := ih (Nat.dvd_of_mul_dvd_mul_right (k := 2) (by decide) h)
      exact ⟨t + 1, by omega, by rw [h2, Nat.pow_succ, Nat.mul_comm]⟩
    · have hc : Nat.Coprime d 2 := by
        have h1 : Nat.gcd d 2 ∣ 2 := Nat.gcd_dvd_right _ _
        have h2 : Nat.gcd d 2 ∣ d := Nat.gcd_dvd_left _ _
        have h3 : Nat.gcd d 2 ≤ 2 := Nat.le_of_dvd (by decide) h1
        have h4 : Nat.gcd d 2 ≠ 2 := fun hc => by rw [hc] at h2; exact he (Nat.mod_eq_zero_of_dvd h2)
        have h5 : Nat.gcd d 2 ≠ 0 := fun hc => by rw [hc] at h1; exact absurd (Nat.eq_zero_of_zero_dvd h1) (by decide)
        show Nat.gcd d 2 = 1
        omega
      rw [Nat.pow_succ] at h
      obtain ⟨t, h1, h2⟩ := ih (hc.dvd_of_dvd_mul_right h)
      exact ⟨t, by omega, h2⟩
theorem fo_dyad {N D M t a : Nat} {E : Int} (hD : D = 2 ^ t) (hM : 0 < M) (hM2 : bl M ≤ 60) (hN : N * 2 ^ a = M * 2 ^ (t + E.toNat)) (hE : (a : Int) = (E.toNat : Int) - E) :
    deq (foM N D) (-(foJ N D : Int) - 1) M E := by
  have hN0 : 0 < N := by
    refine Nat.pos_of_ne_zero fun h => ?_
    rw [h, Nat.zero_mul] at hN
    have := Nat.mul_pos hM (Nat.two_pow_pos (t + E.toNat))
    omega
  have hbD : bl D = t + 1 := by rw [hD]; exact bl_of (k := t) (Nat.le_refl _) (Nat.pow_lt_pow_right (by decide) (by omega))
  have hb := congrArg bl hN
  rw [bl_mul hN0, bl_mul hM] at hb
  have hJ : foJ N D = 62 + t - bl N := by unfold foJ; omega
  obtain ⟨J, hJJ⟩ : ∃ J, J = foJ N D := ⟨_, rfl⟩
  rw [← hJJ] at hJ
  obtain ⟨e, he⟩ : ∃ e, J + E.toNat = e + a := ⟨J + E.toNat - a, by omega⟩
  have h1 : N * 2 ^ J = M * 2 ^ e * D := by
    refine Nat.eq_of_mul_eq_mul_right (Nat.two_pow_pos a) ?_
    rw [hD, Nat.mul_assoc, ← Nat.pow_add, Nat.add_comm J a, Nat.pow_add, ← Nat.mul_assoc, hN, Nat.mul_assoc, ← Nat.pow_add, Nat.mul_assoc, Nat.mul_assoc, ← Nat.pow_add, ← Nat.pow_add]
    congr 2; omega
  have hD0 : 0 < D := by rw [hD]; exact Nat.two_pow_pos _
  have h2 : qN N D J = M * 2 ^ e := by unfold qN; rw [h1]; exact Nat.mul_div_cancel _ hD0
  have h3 : qS N D J = 0 := by unfold qS; rw [h1, Nat.mul_mod_left, if_pos rfl]
  have h4 : foM N D = M * 2 ^ (e + 1) := by
    unfold foM; rw [← hJJ, h2, h3, Nat.pow_succ, ← Nat.mul_assoc M]; omega
  refine ⟨0, e + 1, by rw [h4, Nat.pow_zero, Nat.mul_one], ?_⟩
  rw [← hJJ]
  omega
theorem btV_ob {x : Nat} (hf : obF x) (hM : 0 < obM x) : btV false (obM x) (obE x) 52 (-1074) 2047 = x % 9223372036854775808 ∧ btS false (obM x) (obE x) 52 (-1074) 2047 = 0 := by
  obtain ⟨hE1, hE2⟩ := obE_bd hf
  have hMb := obM_bd x
  have hbl : bl (obM x) ≤ 53 := bl_le (k := 53) (by omega)
  have hU : btU (obM x) (obE x) 52 (-1074) = obE x := by
    unfold btU
    unfold obF at hf
    by_cases hs : x % 9223372036854775808 < 4503599627370496
    · have : obE x = -1074 := by unfold obE; omega
      omega
    · have h1 : bl (obM x) = 53 := bl_of (k := 52) (by unfold obM; rw [if_neg hs]; omega) (by omega)
      omega
  have hQ : btQ false (obM x) (obE x) (obE x) = obM x := by
    unfold btQ; rw [if_pos (Int.le_refl _), Int.sub_self, Int.toNat_zero, Nat.pow_zero, Nat.mul_one]
  have hA : btA false (obM x) (obE x) (obE x) = 0 := by unfold btA; rw [if_pos (Int.le_refl _)]
  have hV : (obE x - -1074).toNat * 2 ^ 52 + obM x = x % 9223372036854775808 := by
    unfold obF at hf
    unfold obE obM
    by_cases hs : x % 9223372036854775808 < 4503599627370496
    · rw [if_pos hs]; omega
    · rw [if_neg hs]; omega
  have hI : btI (obM x) (obE x) 52 (-1074) 2047 = false := by
    unfold btI
    refine decide_eq_false ?_
    unfold obF at hf
    rw [hV]
    omega
  unfold btV btS
  rw [hU, hQ, hA, hI]
  exact ⟨hV, rfl⟩
theorem fo_back {x : Nat} (hf : obF x) : foV (sfN x / Nat.gcd (sfN x) (sfD x)) (sfD x / Nat.gcd (sfN x) (sfD x)) = x % 9223372036854775808 ∧ foS (sfN x / Nat.gcd (sfN x) (sfD x)) (sfD x / Nat.gcd (sfN x) (sfD x)) = 0 := by
  obtain ⟨g, hg⟩ : ∃ g, g = Nat.gcd (sfN x) (sfD x) := ⟨_, rfl⟩
  have hg0 : 0 < g := by rw [hg]; exact Nat.gcd_pos_of_pos_right _ (sfD_pos x)
  have e1 : sfN x / g * g = sfN x := Nat.div_mul_cancel (by rw [hg]; exact Nat.gcd_dvd_left _ _)
  have e2 : sfD x / g * g = sfD x := Nat.div_mul_cancel (by rw [hg]; exact Nat.gcd_dvd_right _ _)
  rw [← hg]
  obtain ⟨N, hN⟩ : ∃ N, N = sfN x / g := ⟨_, rfl⟩
  obtain ⟨D, hD⟩ : ∃ D, D = sfD x / g := ⟨_, rfl⟩
  rw [← hN] at e1 ⊢
  rw [← hD] at e2 ⊢
  rcases Nat.eq_zero_or_pos (obM x) with h0 | h0
  · have hs : sfN x = 0 := by unfold sfN; rw [h0, Nat.zero_mul]
    have hN0 : N = 0 := by
      rw [hs] at e1
      rcases Nat.mul_eq_zero.1 e1 with h | h
      · exact h
      · omega
    unfold foV foS
    rw [if_pos hN0, if_pos hN0]
    refine ⟨?_, rfl⟩
    unfold obM at h0
    split at h0 <;> omega
  · obtain ⟨t, -, ht⟩ := dvd_two (n := (-obE x).toNat) (d := D) ⟨g, by rw [e2]; rfl⟩
    have hc : N * 2 ^ (-obE x).toNat = obM x * 2 ^ (t + (obE x).toNat) := by
      have h1 : N * sfD x = sfN x * D := by rw [← e1, ← e2, ← Nat.mul_assoc, Nat.mul_right_comm]
      unfold sfD sfN at h1
      rw [h1, ht, Nat.mul_assoc, ← Nat.pow_add, Nat.add_comm]
    have hMb := obM_bd x
    have hN0 : N ≠ 0 := fun h => by
      rw [h, Nat.zero_mul] at hc
      have := Nat.mul_pos h0 (Nat.two_pow_pos (t + (obE x).toNat))
      omega
    have hd := fo_dyad (N := N) (D := D) (M := obM x) (t := t) (a := (-obE x).toNat) (E := obE x) ht h0 (Nat.le_trans (bl_le (k := 53) (by omega)) (by decide)) hc (by omega)
    have hbp := bl_pos h0
    obtain ⟨hE1, -⟩ := obE_bd hf
    obtain ⟨v1, v2⟩ := btV_deq (n := false) (k := 52) (T := 2047) (L := -1074) h0 hd.symm (by omega) (by decide)
    obtain ⟨w1, w2⟩ := btV_ob hf h0
    unfold foV foS
    rw [if_neg hN0, if_neg hN0, ← v1, ← v2]
    exact ⟨w1, w2⟩
theorem ob_field {x : Nat} (_hx : x < 18446744073709551616) : (x : Int) / 4503599627370496 = ((x / 4503599627370496 : Nat) : Int) ∧ x / 4503599627370496 < 18446744073709551616 := by omega
theorem RatP.setNeg {w : World} {B b n d : Nat} {neg : Bool} (h : RatP w B b neg n d) (x : Bool) : RatP (w.setCell ⟨b, 0, none⟩ (.bool x)) B b x n d := by
  obtain ⟨v1, v2, h1, h2, h3, h4⟩ := h
  exact ⟨v1, v2, h1, rowset (i := 0) (.bool x) h2, h3.away h2 (by decide) 0 _, h4.away h2 (by decide) 0 _⟩
theorem rw_row3 {w : World} {k T : Nat} {a : Bool} {b c x y z v : Value} {ds : List Nat} (hv : RW w v ds) (hb : IsS b) (hc : IsS c) (h : w.heap[k]? = some (.cells #[.bool a, b, c] T (0, 0))) :
    RW (((w.setCell ⟨k, 0, none⟩ x).setCell ⟨k, 1, none⟩ y).setCell ⟨k, 2, none⟩ z) v ds := by
  refine ⟨⟨hv.ri.isS, hv.ri.len, fun i hi => ?_⟩, hv.lt⟩
  have hcell := hv.ri.cell i hi
  have hne : sBlk v ≠ k := by
    intro he
    rw [he, cell_of_row w k _ _ _ _ h] at hcell
    obtain ⟨b1, b2, b3, rfl⟩ := hb.form
    obtain ⟨c1, c2, c3, rfl⟩ := hc.form
    rcases Nat.lt_or_ge (sOff v + i) 3 with h3 | h3
    · rcases (by omega : sOff v + i = 0 ∨ sOff v + i = 1 ∨ sOff v + i = 2) with e | e | e <;> rw [e] at hcell <;> simp at hcell
    · rw [Array.getElem?_eq_none (by simpa using h3)] at hcell; cases hcell
  have hh : (((w.setCell ⟨k, 0, none⟩ x).setCell ⟨k, 1, none⟩ y).setCell ⟨k, 2, none⟩ z).heap[sBlk v]? = w.heap[sBlk v]? := by
    rw [heap_setCell_other _ _ _ _ (by simpa using hne), heap_setCell_other _ _ _ _ (by simpa using hne), heap_setCell_other _ _ _ _ (by simpa using hne)]
  exact (World.cell?_of_block hh).trans hcell
theorem two_new {w : World} {A B : Array Value} {T U : TypeId} : ((w.alloc (.cells A T)).alloc (.cells B U)).heap[w.heap.size]? = some (.cells A T (0, 0)) ∧ ((w.alloc (.cells A T)).alloc (.cells B U)).heap[w.heap.size + 1]? = some (.cells B U (0, 0)) := by
  refine ⟨keep_row (fbone _) (heap_alloc_new _ _), ?_⟩
  have := heap_alloc_new (w.alloc (.cells A T)) (.cells B U)
  rw [show (w.alloc (.cells A T)).heap.size = w.heap.size + 1 by simp] at this
  exact this
theorem rSF_V (x : Nat) : (rI (obN x) (sfN x)).natAbs = sfN x ∧ decide (rI (obN x) (sfN x) < 0) = (obN x && decide (0 < obM x)) := by
  rw [rI_abs, rI_neg, sf_pos]; exact ⟨rfl, rfl⟩
set_option maxRecDepth 100000 in
set_option maxHeartbeats 1600000 in
theorem impRSF (x : Nat) (w : World) (hx : x < 18446744073709551616) (hf : obF x) (hT : DivW w) :
    Calls Tryz.prog 24 #[.int .u64 x] w fun e w' => ∃ s r1 r2, e = .returned (.tuple #[.agg #[.bool s, r1, r2], .bool true]) ∧ IsS r1 ∧ IsS r2 ∧ FracV w' (.agg #[.bool s, r1, r2]) (rI (obN x) (sfN x)) (sfD x) ∧ Below w.heap.size w w' := by
  obtain ⟨X, hX⟩ : ∃ X, X = (w.alloc (.cells #[.bool false, .slice none 0 0, .slice none 0 0] 26)).alloc (.cells #[.bool false, .slice none 0 0, .bool false, .slice none 0 0] 89) := ⟨_, rfl⟩
  have hab : Below w.heap.size w X := by rw [hX]; exact bthen (fbone _) (fbone _)
  have hXz : X.heap.size = w.heap.size + 2 := by rw [hX]; simp
  have hrow : X.heap[w.heap.size]? = some (.cells #[.bool false, .slice none 0 0, .slice none 0 0] 26 (0, 0)) := by rw [hX]; exact two_new.1
  have hrow2 : X.heap[w.heap.size + 1]? = some (.cells #[.bool false, .slice none 0 0, .bool false, .slice none 0 0] 89 (0, 0)) := by rw [hX]; exact two_new.2
  have dg : 3 < w.heap.size + 1 := Nat.lt_succ_of_lt (World.block_lt_of_cell? w _ hT)
  have HI := Lib.hid (ratSF (w.heap.size + 1) (w.heap.size + 1) x X hx hf hrow2 (Nat.le_refl _) (hT.below hab) dg)
  obtain ⟨b1, b2⟩ := bl_sfN hf
  have m1 := nw_low (n := sfN x) (by omega)
  have m2 := nw_low (n := sfD x) (by omega)
  have HFR := Lib.hid (fun (w' : World) (h : RatP w' (w.heap.size + 1) (w.heap.size + 1) (obN x && decide (0 < obM x)) (sfN x / Nat.gcd (sfN x) (sfD x)) (sfD x / Nat.gcd (sfN x) (sfD x))) =>
    frac_any _ _ _ _ _ w' h (gcd_div_pos (sfD_pos x)) (Nat.le_trans (nw_mono (Nat.div_le_self _ _)) (by omega)) (Nat.le_trans (nw_mono (Nat.div_le_self _ _)) (by omega)))
  obtain ⟨v1, v2⟩ := rSF_V x
  have v3 := neg_div (rI (obN x) (sfN x)) (sfD_pos x)
  rw [v1, v2] at v3
  rw [v3] at HFR
  obtain ⟨s, hs⟩ : ∃ s, s = (obN x && decide (0 < obM x)) := ⟨_, rfl⟩
  rw [← hs] at HFR HI v2
  obtain ⟨N, hN⟩ : ∃ N, N = sfN x / Nat.gcd (sfN x) (sfD x) := ⟨_, rfl⟩
  obtain ⟨D, hD⟩ : ∃ D, D = sfD x / Nat.gcd (sfN x) (sfD x) := ⟨_, rfl⟩
  have HV := Lib.hid (And.intro v1 (And.intro v2 (And.intro hN hD)))
  rw [← hN, ← hD] at HFR HI
  have HR := Lib.hid hrow
  have HB := Lib.hid hab
  clear hab hrow hrow2 hf b1 b2 m1 m2 v1 v2 v3 hs hN hD hT
  go_enter Tryz.func24, Tryz.ntmps24
  go_wp2_with (simp only [f64from])
  rw [← hX]
  clear hX
  refine HI.out.mono ?_
  rintro _ w1 ⟨rfl, hr, hb1⟩
  have HR1 := Lib.hid hr
  have hrow1 : w1.heap[w.heap.size]? = some (.cells #[.bool false, .slice none 0 0, .slice none 0 0] 26 (0, 0)) := (hb1.block _ (Nat.lt_succ_self _)).trans HR.out
  have HRW := Lib.hid hrow1
  have HB1 := Lib.hid (HB.out.trans (hb1.mono (Nat.le_succ _)))
  clear hr hb1 hrow1
  go_wp2_with fail
  refine (HFR.out w1 HR1.out).mono ?_
  rintro _ w2 ⟨r1, r2, rfl, k1, k2, hb2⟩
  have hSr1 := k1.isS
  have hSr2 := k2.isS
  have hrow2 := keep_row hb2 HRW.out
  obtain ⟨c0, c1, c2, f0, f1, f2⟩ := row3 hrow2
  obtain ⟨e0, e1, e2, -, -, -⟩ := row3 (row3_set (x := .bool s) (y := r1) (z := r2) hrow2)
  have A1 := Lib.hid (rw_row3 (x := .bool s) (y := r1) (z := r2) k1 IsS.nil IsS.nil hrow2)
  have A2 := Lib.hid (rw_row3 (x := .bool s) (y := r1) (z := r2) k2 IsS.nil IsS.nil hrow2)
  have HBB := Lib.hid (bset3 (a := .bool s) (b := r1) (c := r2) (HB1.out.trans (hb2.mono HB1.out.size)) (Nat.le_refl _))
  clear hrow2 k1 k2 hb2
  go_wp2
  refine bodyPost_ret (v := .tuple #[.agg #[.bool s, r1, r2], .bool true]) ?_ rfl ⟨s, r1, r2, rfl, hSr1, hSr2, ⟨r1, r2, by rw [HV.out.2.1], ?_, ?_⟩, HBB.out⟩
  · simp [results, Tryz.results24, go_sem, e0, e1, e2]
  · rw [HV.out.1, ← HV.out.2.2.1]; exact A1.out
  · rw [HV.out.1, ← HV.out.2.2.2]; exact A2.out
set_option maxRecDepth 100000 in
theorem finite_any (x : Nat) (w : World) (hx : x < 18446744073709551616) :
    Calls Tryz.prog 23 #[.int .u64 x] w fun e' w' => e' = .returned (.bool (decide (x / 4503599627370496 % 2048 < 2047))) ∧ w = w' := by
  obtain ⟨u1, u2⟩ := ob_field hx
  have u3 := and_2047 u2
  obtain ⟨c, hc⟩ : ∃ c, c = x / 4503599627370496 := ⟨_, rfl⟩
  rw [← hc] at u1 u2 u3 ⊢
  obtain ⟨g, hg⟩ : ∃ g, g = c % 2048 := ⟨_, rfl⟩
  rw [← hg] at u3 ⊢
  clear hc hg
  by_cases h : g < 2047
  · have t1 : decide (g < 2047) = true := decide_eq_true h
    have t2 : decide ((g : Int) < 2047) = true := decide_eq_true (by omega)
    rw [t1]
    clear h
    go_enter Tryz.func23, Tryz.ntmps23
    go_wp2
    go_ret
    exact ⟨rfl, rfl⟩
  · have t1 : decide (g < 2047) = false := decide_eq_false h
    have t2 : decide ((g : Int) < 2047) = false := decide_eq_false (by omega)
    rw [t1]
    clear h
    go_enter Tryz.func23, Tryz.ntmps23
    go_wp2
    go_ret
    exact ⟨rfl, rfl⟩
end Go.Proofs.YtoddjkpckpekcaaGreatDoor
