/-
Texts of this proof, joined: RgK. No condition.
-/
import Derived.Test.YtoddjkpckpekcaaGreatDoorK01
import Derived.Test.YtoddjkpckpekcaaGreatDoorK02
import Derived.Test.YtoddjkpckpekcaaGreatDoorK03
import Derived.Test.YtoddjkpckpekcaaGreatDoorK04
import Derived.Test.YtoddjkpckpekcaaGreatDoorK05
import Derived.Test.YtoddjkpckpekcaaGreatDoorK06
import Derived.Test.YtoddjkpckpekcaaGreatDoorK07
import Derived.Test.YtoddjkpckpekcaaGreatDoorK08
import Derived.Test.YtoddjkpckpekcaaGreatDoorK09
import Derived.Test.YtoddjkpckpekcaaGreatDoorK10
import Derived.Test.YtoddjkpckpekcaaGreatDoorK11
import Derived.Test.YtoddjkpckpekcaaGreatDoorK12
import Derived.Test.YtoddjkpckpekcaaGreatDoorK13
import Derived.Test.YtoddjkpckpekcaaGreatDoorK14
import Derived.Test.YtoddjkpckpekcaaGreatDoorK15
import Derived.Test.YtoddjkpckpekcaaGreatDoorK16
import Derived.Test.YtoddjkpckpekcaaGreatDoorK17
import Derived.Test.YtoddjkpckpekcaaGreatDoorK18
import Derived.Test.YtoddjkpckpekcaaGreatDoorK19
import Derived.Test.YtoddjkpckpekcaaGreatDoorK20
import Derived.Test.YtoddjkpckpekcaaGreatDoorK21
import Derived.Test.YtoddjkpckpekcaaGreatDoorK22
import Derived.Test.YtoddjkpckpekcaaGreatDoorK23
import Derived.Test.YtoddjkpckpekcaaGreatDoorK24
import Derived.Test.YtoddjkpckpekcaaGreatDoorK25
import Derived.Test.YtoddjkpckpekcaaGreatDoorK26
import Derived.Test.YtoddjkpckpekcaaGreatDoorK27
import Derived.Test.YtoddjkpckpekcaaGreatDoorK29
import Derived.Test.YtoddjkpckpekcaaGreatDoorK33
import Derived.Test.YtoddjkpckpekcaaGreatDoorK37
import Derived.Test.YtoddjkpckpekcaaGreatDoorK40
import Derived.Laws.Externs
import Derived.Laws.Cover2
import Derived.Deep.DeepCutAuto
import Derived.Laws.Bits64b
import Derived.WalkKit
import Derived.WalkSpells
import Derived.WalkLawsBesides
import Derived.Lib.Hide
import Derived.Deep.QuietTactic
import Derived.BigQuiet
import Derived.Deep.DeepFit
import Derived.Deep.AppendSrc
import Derived.Deep.RegionHeld3
import Derived.Deep.CutRange
import Derived.Test.YtoddjkpckpekcaaGreatDoorProg
import Derived.RegionTactic
import Derived.BigRegion
namespace Go.Proofs.YtoddjkpckpekcaaGreatDoor
open Go.RowKit

set_option maxRecDepth 100000 in
set_option maxHeartbeats 1600000 in
theorem lawRFB_fin (x : Nat) (w : World) (hx : x < 18446744073709551616) (hf : obF x) (hT : DivW w) :
    Calls Tryz.prog 7 #[.int .u64 x] w fun e w' => e = .returned (.bool true) ∧ Below w.heap.size w w' := by
  have HFN := Lib.hid (finite_any x w hx)
  rw [decide_eq_true (show x / 4503599627370496 % 2048 < 2047 by unfold obF at hf; omega)] at HFN
  have HS := Lib.hid (impRSF x w hx hf hT)
  obtain ⟨v1, v2⟩ := rSF_V x
  obtain ⟨k1, k2⟩ := fo_back hf
  obtain ⟨g, hg⟩ : ∃ g, g = Nat.gcd (sfN x) (sfD x) := ⟨_, rfl⟩
  obtain ⟨N, hN⟩ : ∃ N, N = sfN x / Nat.gcd (sfN x) (sfD x) := ⟨_, rfl⟩
  obtain ⟨D, hD⟩ : ∃ D, D = sfD x / Nat.gcd (sfN x) (sfD x) := ⟨_, rfl⟩
  have hD0 : 0 < D := by rw [hD]; exact gcd_div_pos (sfD_pos x)
  have hNp : decide (0 < N) = decide (0 < obM x) := by
    rw [← sf_pos x, hN]
    by_cases h : 0 < sfN x
    · have h1 : 0 < sfN x / Nat.gcd (sfN x) (sfD x) := Nat.div_pos (Nat.gcd_le_left _ h) (Nat.gcd_pos_of_pos_left _ h)
      rw [decide_eq_true h, decide_eq_true h1]
    · have h1 : sfN x = 0 := by omega
      rw [h1, Nat.zero_div]
  obtain ⟨b1, b2⟩ := bl_sfN hf
  have hbN : bl N ≤ 2000 := Nat.le_trans (bl_mono (by rw [hN]; exact Nat.div_le_self _ _)) (by omega)
  have hbD : bl D ≤ 2000 := Nat.le_trans (bl_mono (by rw [hD]; exact Nat.div_le_self _ _)) (by omega)
  rw [← hN, ← hD] at k1 k2
  obtain ⟨p1, p2, p3⟩ := fo_rf (N := N) (D := D) hD0 hbN hbD (fun h => h.2 k2)
  rw [k1] at p2
  rw [k2] at p3
  obtain ⟨R, hR⟩ : ∃ R, R = x % 9223372036854775808 + (if obN x && decide (0 < obM x) then 9223372036854775808 else 0) := ⟨_, rfl⟩
  have hval : rfV N D + (if decide (rI (obN x) (sfN x) < 0) && decide (0 < N) then 9223372036854775808 else 0) = R := by
    rw [p2, v2, hNp, Bool.and_assoc, Bool.and_self, hR]
  have hex : rfX N D = true := by rw [p3]; rfl
  have HI : Hid (∀ s r1 r2 w1, FracV w1 (.agg #[.bool s, r1, r2]) (rI (obN x) (sfN x)) (sfD x) → Below w.heap.size w w1 → ∀ w2, Below w1.heap.size w1 w2 → 0 < sLen r2 ∧ Calls Tryz.prog 14 #[.agg #[.bool s, r1, r2]] w2 fun e w3 => e = .returned (.tuple #[.int .u64 (R : Int), .bool true]) ∧ Below w2.heap.size w2 w3) := Lib.hid (fun s r1 r2 w1 h hb w2 hb2 => by
    obtain ⟨q1, q2, e, h1, h2⟩ := h
    injection e with e
    injection e with e
    simp only [List.cons.injEq, and_true, Value.bool.injEq] at e
    obtain ⟨rfl, rfl, rfl⟩ := e
    rw [v1, ← hN] at h1
    rw [v1, ← hD] at h2
    refine ⟨by rw [h2.len, wds_length]; exact nw_pos hD0, ?_⟩
    have m1 : nw (sfN x) ≤ 31 := nw_b (by omega)
    have m2 : nw (sfD x) ≤ 31 := nw_b (by omega)
    have := impRF64 (decide (rI (obN x) (sfN x) < 0)) r1 r2 (wds N) (wds D) w2 (h1.below hb2) (h2.below hb2) (by rw [wds_length, hN]; exact Nat.le_trans (nw_mono (Nat.div_le_self _ _)) (by omega)) (by rw [wds_length, hD]; exact Nat.le_trans (nw_mono (Nat.div_le_self _ _)) (by omega)) (by rw [wv_wds]; exact hD0) (by rw [wv_wds, wv_wds]; exact p1) ((hT.below hb).below hb2)
    rw [wv_wds, wv_wds, hval, hex] at this
    exact this)
  have hz : x = x % 9223372036854775808 + (if obN x && decide (0 < obM x) then 9223372036854775808 else 0) ∨ (x % 9223372036854775808 + (if obN x && decide (0 < obM x) then 9223372036854775808 else 0) = 0 ∧ x = 9223372036854775808) := by
    have hn : obN x = decide (9223372036854775808 ≤ x) := rfl
    rw [hn]
    by_cases h1 : 9223372036854775808 ≤ x
    · rw [decide_eq_true h1, Bool.true_and]
      by_cases h2 : 0 < obM x
      · rw [decide_eq_true h2]; left; simp; omega
      · rw [decide_eq_false h2]; right
        unfold obM at h2
        simp
        split at h2 <;> omega
    · rw [decide_eq_false h1, Bool.false_and]; left; simp; omega
  rw [← hR] at hz
  clear hf v1 v2 k1 k2 hg hN hD hD0 hNp b1 b2 hbN hbD p1 p2 p3 hR hval hex hT
  go_enter Tryz.func7, Tryz.ntmps7
  go_wp2_with fail
  refine HFN.out.mono ?_
  rintro _ _ ⟨rfl, rfl⟩
  go_wp2_with fail
  refine HS.out.mono ?_
  rintro _ w1 ⟨s, r1, r2, rfl, hS1, hS2, hfr, hb1⟩
  have hbX := (Below.refl w1.heap.size w1).alloc (Nat.le_refl _) (.cells #[.bool s, r1, r2] 26)
  obtain ⟨X, hX⟩ : ∃ X, X = w1.alloc (.cells #[.bool s, r1, r2] 26) := ⟨_, rfl⟩
  have hrX : X.heap[w1.heap.size]? = some (.cells #[.bool s, r1, r2] 26 (0, 0)) := by rw [hX]; exact box_row (Below.refl _ _)
  rw [← hX] at hbX
  obtain ⟨c0, c1, c2, -, -, -⟩ := row3 hrX
  obtain ⟨hl, hi⟩ := HI.out s r1 r2 w1 hfr hb1 X hbX
  have HII := Lib.hid hi
  have HX := Lib.hid hX
  have HB := Lib.hid (hb1.trans (hbX.mono hb1.size))
  obtain ⟨l, hll⟩ : ∃ l, l = sLen r2 := ⟨_, rfl⟩
  rw [← hll] at hl
  have hll' : sLen r2 = l := hll.symm
  have t0 : ((l : Int) == 0) = false := by rw [beq_eq_false_iff_ne]; omega
  clear hfr hb1 hi hX hbX hrX hll
  go_upto_region 4 with fail
  rw [← HX.out]
  go_wp2_with fail
  refine HII.out.mono ?_
  rintro _ w2 ⟨rfl, hb2⟩
  have HB2 := Lib.hid (HB.out.trans (hb2.mono HB.out.size))
  clear hb2
  rcases hz with hz | ⟨hz1, hz2⟩
  · have t1 : ((R : Int) == (x : Int)) = true := by rw [beq_iff_eq]; omega
    clear hz
    go_wp2
    go_ret
    exact ⟨rfl, HB2.out⟩
  · have t1 : ((R : Int) == (x : Int)) = false := by rw [beq_eq_false_iff_ne]; omega
    have t2 : ((R : Int) == 0) = true := by rw [beq_iff_eq]; omega
    have t3 : ((x : Int) == 9223372036854775808) = true := by rw [beq_iff_eq]; omega
    clear hz1 hz2
    go_wp2
    go_ret
    exact ⟨rfl, HB2.out⟩
set_option maxRecDepth 100000 in
theorem lawRFB_inf (x : Nat) (w : World) (hx : x < 18446744073709551616) (hf : ¬ obF x) :
    Calls Tryz.prog 7 #[.int .u64 x] w fun e w' => e = .returned (.bool true) ∧ Below w.heap.size w w' := by
  have HFN := Lib.hid (finite_any x w hx)
  rw [decide_eq_false (show ¬ x / 4503599627370496 % 2048 < 2047 by unfold obF at hf; omega)] at HFN
  clear hf
  go_enter Tryz.func7, Tryz.ntmps7
  go_wp2_with fail
  refine HFN.out.mono ?_
  rintro _ _ ⟨rfl, rfl⟩
  go_wp2
  go_ret
  exact ⟨rfl, Below.refl _ _⟩
theorem lawRatFloatBack (a : Int) (w : World) (_hK : KarW w) (hT : DivW w) (h1 : 0 ≤ a) (h2 : a ≤ 18446744073709551615) :
    Calls Tryz.prog 7 #[.int .u64 a] w fun e w' => e = .returned (.bool true) ∧ Below w.heap.size w w' := by
  obtain ⟨x, rfl⟩ := Int.eq_ofNat_of_zero_le h1
  have hx : x < 18446744073709551616 := by omega
  by_cases hf : obF x
  · exact lawRFB_fin x w hx hf hT
  · exact lawRFB_inf x w hx hf
end Go.Proofs.YtoddjkpckpekcaaGreatDoor
