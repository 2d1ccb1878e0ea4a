/-
Texts of this proof, joined: DlE GcD. No condition.
-/
import Derived.Test.YtllhnjpnkmjopaaGreatDoorK21
import Derived.Test.YtllhnjpnkmjopaaGreatDoorK25
import Derived.Test.YtllhnjpnkmjopaaGreatDoorK29
import Derived.Test.YtllhnjpnkmjopaaGreatDoorK30
namespace Go.Proofs.YtllhnjpnkmjopaaGreatDoor
open Go.RowKit

set_option maxRecDepth 100000 in
set_option maxHeartbeats 3200000 in
theorem div_stk (z z2 x y : Value) (zs z2s : List Value) (N D B s L : Nat) (o : Option (Nat × Value)) (w : World) (hst : StO w B s L o) (hL : L ≤ 90000) (hzS : 0 < sCap z → ¬ SBk s o (sBlk z)) (hz2S : 0 < sCap z2 → ¬ SBk s o (sBlk z2)) (hxS : ¬ SBk s o (sBlk x)) (hyS : ¬ SBk s o (sBlk y)) (hz : Own w B 116 z zs) (hz2 : Own w B 116 z2 z2s) (hx : RO w x (wds N)) (hy : RO w y (wds D)) (ax : Al z x) (hD : 0 < D) (hn40 : nw D < 40) (hlu : nw N ≤ 90000)
    (hzz : 0 < sCap z → 0 < sCap z2 → sBlk z ≠ sBlk z2) (hxz : Al z2 x) (hyz : 0 < sCap z2 → sBlk y ≠ sBlk z2) (hB : B ≤ w.heap.size) (hT : DivW w) (hg : 4 < B) :
    Calls Tryz.prog 165 #[z, .pointer (some ⟨s, 0, none⟩), z2, x, y] w fun e w' => ∃ q r, e = .returned (.tuple #[q, r]) ∧ (NdP z z2 q r N D B w w' ∨ ∃ k o', DlP z z2 q r N D B s L o o' (w.drewN k) w') := by
  have hSz := hz.isS
  have hSz2 := hz2.isS
  have hSx := hx.rw.isS
  have hSy := hy.rw.isS
  obtain ⟨n, hne⟩ : ∃ n, n = nw D := ⟨_, rfl⟩
  have hLy : sLen y = n := by rw [hy.rw.len, wds_length, hne]
  have hn0 : 0 < n := by rw [hne]; exact nw_pos hD
  have t0 : ((n : Int) == 0) = false := by rw [beq_eq_false_iff_ne]; omega
  by_cases h1 : n = 1
  · have t1 : ((n : Int) == 1) = true := by rw [beq_iff_eq]; omega
    have hDl : D < 18446744073709551616 := by
      have := lt_nw D
      rw [← hne, h1, Nat.pow_one] at this
      exact this
    have cy : w.cell? ⟨sBlk y, sOff y, none⟩ = some (.int .u64 (D : Int)) := by
      have := hy.rw.cell 0 (by rw [wds_length, ← hne]; exact hn0)
      rw [wds_getD, wdg_zero_eq, Nat.mod_eq_of_lt hDl, Nat.add_zero] at this
      exact this
    have HC1 := Lib.hid (divW_gen z x zs N D B w hz hx ax hD hDl (by omega) hB)
    have hml : N % D < 18446744073709551616 := Nat.lt_trans (Nat.mod_lt _ hD) hDl
    have HC2 : Hid (∀ q w1, NatR z q (N / D) B w w1 → Calls Tryz.prog 115 #[z2, .int .u64 ((N % D : Nat) : Int)] w1 fun e w' => ∃ r, e = .returned r ∧ IsS r ∧ NdP z z2 q r N D B w w') := Lib.hid (fun q w1 hq => by
      have h2 : Own w1 B 116 z2 z2s := hz2.frz hq.fr (fun a b he => hzz b a he.symm)
      refine (setWord_gen z2 z2s (N % D) B w1 h2 hml (Nat.le_trans hB hq.below.size)).mono ?_
      rintro _ w' ⟨r, rfl, hr⟩
      exact ⟨r, rfl, hr.own.isS, .of hz hz2 hzz hq hr⟩)
    obtain ⟨R, hR⟩ : ∃ R, R = N % D := ⟨_, rfl⟩
    rw [← hR] at HC1 HC2
    clear hst hzS hz2S hxS hyS hL hz hz2 hx hy ax hzz hxz hyz hB hT hg hne h1 hml hR hDl
    go_enter_defers Tryz.func165, Tryz.ntmps165
    go_wp2_with fail
    refine HC1.out.mono ?_
    rintro _ w1 ⟨q, rfl, hq⟩
    have hSq := hq.own.isS
    have HC := Lib.hid (HC2.out q w1 hq)
    clear hq
    go_wp2_with fail
    refine HC.out.mono ?_
    rintro _ w2 ⟨r, rfl, hSr, hnd⟩
    have Q := Lib.hid hnd
    clear hnd
    go_wp2
    simp [bodyPostD, Leaves, results, Tryz.results165, go_sem]
    exact ⟨q, r, ⟨rfl, rfl⟩, .inl Q.out⟩
  · have t1 : ((n : Int) == 1) = false := by rw [beq_eq_false_iff_ne]; omega
    have HCM := Lib.hid (cmp_any x y N D w hx.rw hy.rw (by omega) (by omega))
    obtain ⟨C, hC⟩ : ∃ C, C = cmpN N D := ⟨_, rfl⟩
    rw [← hC] at HCM
    by_cases hlt : N < D
    · have t2 : decide (C < 0) = true := by rw [hC, cmpN_lt hlt]; decide
      have HC : Hid (∀ k, Calls Tryz.prog 135 #[z2, x] (w.drewN k) fun e w' => ∃ r, e = .returned r ∧ IsS r ∧ NdP z z2 (subS z 0 0) r N D B w w') := Lib.hid (fun k => by
        have h1 : NatR z (subS z 0 0) (N / D) B w (w.drewN k) := by
          rw [Nat.div_eq_of_lt hlt]
          exact ⟨by have := (hz.drewN k).sub (l := 0) (n := 0) (Nat.le_refl _) (Nat.zero_le _); simpa [cellsW, wds_zero] using this, undrewN' (Below.refl _ _), fun _ _ _ => rfl, fun hc => .inl ⟨by rw [subS_cap hz.isS] at hc; exact hc, subS_blk hz.isS⟩⟩
        refine (set_at z2 x z2s (wds N) B (w.drewN k) (hz2.drewN k) (hx.rw.drewN k) (by rw [wds_length]; omega) hB).mono ?_
        rintro _ w' ⟨r, rfl, g1, g2, g3, g4⟩
        refine ⟨r, rfl, g1.isS, .of hz hz2 hzz h1 ⟨?_, g2, g3, g4⟩⟩
        rw [Nat.mod_eq_of_lt hlt]; exact g1)
      have hSq : IsS (subS z 0 0) := subS_isS hSz (Nat.zero_le _) (Nat.zero_le _)
      have hc0 : 0 ≤ sCap z := Nat.zero_le _
      clear hst hzS hz2S hxS hyS hL hz hz2 hx hy ax hzz hxz hyz hB hT hg hne h1 hC hlt
      go_enter_defers Tryz.func165, Tryz.ntmps165
      go_wp2_with fail
      refine HCM.out.mono ?_
      rintro _ _ ⟨rfl, k, rfl⟩
      go_wp2_with fail
      refine (HC.out k).mono ?_
      rintro _ w2 ⟨r, rfl, hSr, hnd⟩
      have Q := Lib.hid hnd
      clear hnd
      go_wp2
      simp [bodyPostD, Leaves, results, Tryz.results165, go_sem]
      exact ⟨_, r, ⟨rfl, rfl⟩, .inl Q.out⟩
    · have t2 : decide (C < 0) = false := by
        rw [hC]
        unfold cmpN
        rw [if_neg hlt]
        split <;> rfl
      have hnl : nw D ≤ nw N := nw_mono (by omega)
      have HDL : Hid (∀ k, Calls Tryz.prog 199 #[z, .pointer (some ⟨s, 0, none⟩), z2, x, y] (w.drewN k) fun e w' => ∃ q r, e = .returned (.tuple #[q, r]) ∧ ∃ o', DlP z z2 q r N D B s L o o' (w.drewN k) w') := Lib.hid (fun k => by
        have hb : Below w.heap.size w (w.drewN k) := undrewN' (Below.refl _ _)
        exact divLarge_any z z2 x y zs z2s N D B s L o _ (hz.drewN k) (hz2.drewN k) (hx.below hb) (hy.below hb) (by omega) hn40 hnl hlu (hst.below hb) hL hzS hz2S hxS hyS hzz hxz hyz hB (hT.drewN k) hg)
      clear hst hzS hz2S hxS hyS hL hz hz2 hx hy ax hzz hxz hyz hB hT hg hne h1 hC hlt hnl
      go_enter_defers Tryz.func165, Tryz.ntmps165
      go_wp2_with fail
      refine HCM.out.mono ?_
      rintro _ _ ⟨rfl, k, rfl⟩
      go_wp2_with fail
      refine (HDL.out k).mono ?_
      rintro _ w6 ⟨q, r, rfl, o', hdl⟩
      have hSq := hdl.oq.isS
      have hSr := hdl.or_.isS
      have Q := Lib.hid hdl
      clear hdl HDL
      go_wp2
      simp [bodyPostD, Leaves, results, Tryz.results165, go_sem]
      exact ⟨q, r, ⟨rfl, rfl⟩, .inr ⟨_, _, Q.out⟩⟩
structure IntR (b : Nat) (vz : Value) (neg : Bool) (N B : Nat) (w w' : World) : Prop where
  row : ∃ r, w'.heap[b]? = some (.cells #[.bool neg, r] 110 (0, 0)) ∧ Own w' B 116 r (cellsW (wds N)) ∧ (0 < sCap r → (0 < sCap vz ∧ sBlk r = sBlk vz) ∨ w.heap.size ≤ sBlk r)
  below : Below B w w'
  fr : ∀ k, k < w.heap.size → k ≠ b → (0 < sCap vz → k ≠ sBlk vz) → w'.heap[k]? = w.heap[k]?
theorem Own.neRow {w : World} {B b T : Nat} {v : Value} {xs : List Value} {cs : Array Value} (h : Own w B 116 v xs) (hr : w.heap[b]? = some (.cells cs T (0, 0))) (hT : T ≠ 116) (hc : 0 < sCap v) : b ≠ sBlk v := fun he => by
  obtain ⟨cur, hg⟩ := h.rowOf hc
  rw [← he, hr] at hg
  have h7 := Option.some.inj hg
  injection h7 with _ h8
  exact hT h8
theorem IntR.of {b : Nat} {vz r : Value} {neg zneg : Bool} {v : Value} {N B : Nat} {w w1 : World} (hz : w.heap[b]? = some (.cells #[.bool zneg, v] 110 (0, 0))) (hb : B ≤ b) (hne : 0 < sCap vz → b ≠ sBlk vz) (h : NatR vz r N B w w1) :
    IntR b vz neg N B w ((w1.setCell ⟨b, 1, none⟩ r).setCell ⟨b, 0, none⟩ (.bool neg)) := by
  have hr1 := h.fr.row hz hne
  have r1 := rowset (i := 1) r hr1
  have r2 := rowset (i := 0) (.bool neg) r1
  refine ⟨⟨r, r2, (h.own.away hr1 (by decide) 1 r).away r1 (by decide) 0 (.bool neg), h.at'⟩, bset (bset h.below hb) hb, fun k hk h1 h2 => ?_⟩
  rw [heap_setCell_other _ _ _ _ (by simpa using h1), heap_setCell_other _ _ _ _ (by simpa using h1)]
  exact h.fr k hk h2
end Go.Proofs.YtllhnjpnkmjopaaGreatDoor
