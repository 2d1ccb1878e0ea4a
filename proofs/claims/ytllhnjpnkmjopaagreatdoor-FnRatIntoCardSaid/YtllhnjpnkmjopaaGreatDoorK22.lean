/-
Texts of this proof, joined: DlE GcD. No condition.
-/
import Derived.Test.YtllhnjpnkmjopaaGreatDoorK13
import Derived.Test.YtllhnjpnkmjopaaGreatDoorK14
import Derived.Test.YtllhnjpnkmjopaaGreatDoorK20
import Derived.Test.YtllhnjpnkmjopaaGreatDoorK21
namespace Go.Proofs.YtllhnjpnkmjopaaGreatDoor
open Go.RowKit

set_option maxRecDepth 100000 in
set_option maxHeartbeats 3200000 in
theorem div_stk (z z2 x y : Value) (zs z2s : List Value) (N D B s L : Nat) (o : Option (Nat × Value)) (w : World) (hst : StO w B s L o) (hL : L ≤ 90000) (hzS : 0 < sCap z → ¬ SBk s o (sBlk z)) (hz2S : 0 < sCap z2 → ¬ SBk s o (sBlk z2)) (hxS : ¬ SBk s o (sBlk x)) (hyS : ¬ SBk s o (sBlk y)) (hz : Own w B 116 z zs) (hz2 : Own w B 116 z2 z2s) (hx : RO w x (wds N)) (hy : RO w y (wds D)) (ax : Al z x) (hD : 0 < D) (hn40 : nw D < 40) (hlu : nw N ≤ 90000)
    (hzz : 0 < sCap z → 0 < sCap z2 → sBlk z ≠ sBlk z2) (hxz : Al z2 x) (hyz : 0 < sCap z2 → sBlk y ≠ sBlk z2) (hB : B ≤ w.heap.size) (hT : DivW w) (hg : 4 < B) :
    Calls Tryz.prog 165 #[z, .pointer (some ⟨s, 0, none⟩), z2, x, y] w fun e w' => ∃ q r, e = .returned (.tuple #[q, r]) ∧ (NdP z z2 q r N D B w w' ∨ ∃ k o', DlP z z2 q r N D B s L o o' (w.drewN k) w') := by
  have hSz := hz.isS
  have hSz2 := hz2.isS
  have hSx := hx.rw.isS
  have hSy := hy.rw.isS
  obtain ⟨n, hne⟩ : ∃ n, n = nw D := ⟨_, rfl⟩
  have hLy : sLen y = n := by rw [hy.rw.len, wds_length, hne]
  have hn0 : 0 < n := by rw [hne]; exact nw_pos hD
  have t0 : ((n : Int) == 0) = false := by rw [beq_eq_false_iff_ne]; omega
  by_cases h1 : n = 1
  · have t1 : ((n : Int) == 1) = true := by rw [beq_iff_eq]; omega
    have hDl : D < 18446744073709551616 := by
      have := lt_nw D
      rw [← hne, h1, Nat.pow_one] at this
      exact this
    have cy : w.cell? ⟨sBlk y, sOff y, none⟩ = some (.int .u64 (D : Int)) := by
      have := hy.rw.cell 0 (by rw [wds_length, ← hne]; exact hn0)
      rw [wds_getD, wdg_zero_eq, Nat.mod_eq_of_lt hDl, Nat.add_zero] at this
      exact this
    have HC1 := Lib.hid (divW_gen z x zs N D B w hz hx ax hD hDl (by omega) hB)
    have hml : N % D < 18446744073709551616 := Nat.lt_trans (Nat.mod_lt _ hD) hDl
    have HC2 : Hid (∀ q w1, NatR z q (N / D) B w w1 → Calls Tryz.prog 115 #[z2, .int .u64 ((N % D : Nat) : Int)] w1 fun e w' => ∃ r, e = .returned r ∧ IsS r ∧ NdP z z2 q r N D B w w') := Lib.hid (fun q w1 hq => by
      have h2 : Own w1 B 116 z2 z2s := hz2.frz hq.fr (fun a b he => hzz b a he.symm)
      refine (setWord_gen z2 z2s (N % D) B w1 h2 hml (Nat.le_trans hB hq.below.size)).mono ?_
      rintro _ w' ⟨r, rfl, hr⟩
      exact ⟨r, rfl, hr.own.isS, .of hz hz2 hzz hq hr⟩)
    obtain ⟨R, hR⟩ : ∃ R, R = N % D := ⟨_, rfl⟩
    rw [← hR] at HC1 HC2
    clear hst hzS hz2S hxS hyS hL hz hz2 hx hy ax hzz hxz hyz hB hT hg hne h1 hml hR hDl
    go_enter_defers Tryz.func165, Tryz.ntmps165
    go_wp2_with fail
    refine HC1.out.mono ?_
    rintro _ w1 ⟨q, rfl, hq⟩
    have hSq := hq.own.isS
    have HC := Lib.hid (HC2.out q w1 hq)
    clear hq
    go_wp2_with fail
    refine HC.out.mono ?_
    rintro _ w2 ⟨r, rfl, hSr, hnd⟩
    have Q := Lib.hid hnd
    clear hnd
    go_wp2
    simp [bodyPostD, Leaves, results, Tryz.results165, go_sem]
    exact ⟨q, r, ⟨rfl, rfl⟩, .inl Q.out⟩
  · have t1 : ((n : Int) == 1) = false := by rw [beq_eq_false_iff_ne]; omega
    have HCM := Lib.hid (cmp_any x y N D w hx.rw hy.rw (by omega) (by omega))
    obtain ⟨C, hC⟩ : ∃ C, C = cmpN N D := ⟨_, rfl⟩
    rw [← hC] at HCM
    by_cases hlt : N < D
    · have t2 : decide (C < 0) = true := by rw [hC, cmpN_lt hlt]; decide
      have HC : Hid (∀ k, Calls Tryz.prog 135 #[z2, x] (w.drewN k) fun e w' => ∃ r, e = .returned r ∧ IsS r ∧ NdP z z2 (subS z 0 0) r N D B w w') := Lib.hid (fun k => by
        have h1 : NatR z (subS z 0 0) (N / D) B w (w.drewN k) := by
          rw [Nat.div_eq_of_lt hlt]
          exact ⟨by have := (hz.drewN k).sub (l := 0) (n := 0) (Nat.le_refl _) (Nat.zero_le _); simpa [cellsW, wds_zero] using this, undrewN' (Below.refl _ _), fun _ _ _ => rfl, fun hc => .inl ⟨by rw [subS_cap hz.isS] at hc; exact hc, subS_blk hz.isS⟩⟩
        refine (set_at z2 x z2s (wds N) B (w.drewN k) (hz2.drewN k) (hx.rw.drewN k) (by rw [wds_length]; omega) hB).mono ?_
        rintro _ w' ⟨r, rfl, g1, g2, g3, g4⟩
        refine ⟨r, rfl, g1.isS, .of hz hz2 hzz h1 ⟨?_, g2, g3, g4⟩⟩
        rw [Nat.mod_eq_of_lt hlt]; exact g1)
      have hSq : IsS (subS z 0 0) := subS_isS hSz (Nat.zero_le _) (Nat.zero_le _)
      have hc0 : 0 ≤ sCap z := Nat.zero_le _
      clear hst hzS hz2S hxS hyS hL hz hz2 hx hy ax hzz hxz hyz hB hT hg hne h1 hC hlt
      go_enter_defers Tryz.func165, Tryz.ntmps165
      go_wp2_with fail
      refine HCM.out.mono ?_
      rintro _ _ ⟨rfl, k, rfl⟩
      go_wp2_with fail
      refine (HC.out k).mono ?_
      rintro _ w2 ⟨r, rfl, hSr, hnd⟩
      have Q := Lib.hid hnd
      clear hnd
      go_wp2
      simp [bodyPostD, Leaves, results, Tryz.results165, go_sem]
      exact ⟨_, r, ⟨rfl, rfl⟩, .inl Q.out⟩
    · have t2 : decide (C < 0) = false := by
        rw [hC]
        unfold cmpN
        rw [if_neg hlt]
        split <;> rfl
      have hnl : nw D ≤ nw N := nw_mono (by omega)
      have HDL : Hid (∀ k, Calls Tryz.prog 199 #[z, .pointer (some ⟨s, 0, none⟩), z2, x, y] (w.drewN k) fun e w' => ∃ q r, e = .returned (.tuple #[q, r]) ∧ ∃ o', DlP z z2 q r N D B s L o o' (w.drewN k) w') := Lib.hid (fun k => by
        have hb : Below w.heap.size w (w.drewN k) := undrewN' (Below.refl _ _)
        exact divLarge_any z z2 x y zs z2s N D B s L o _ (hz.drewN k) (hz2.drewN k) (hx.below hb) (hy.below hb) (by omega) hn40 hnl hlu (hst.below hb) hL hzS hz2S hxS hyS hzz hxz hyz hB (hT.drewN k) hg)
      clear hst hzS hz2S hxS hyS hL hz hz2 hx hy ax hzz hxz hyz hB hT hg hne h1 hC hlt hnl
      go_enter_defers Tryz.func165, Tryz.ntmps165
      go_wp2_with fail
      refine HCM.out.mono ?_
      rintro _ _ ⟨rfl, k, rfl⟩
      go_wp2_with fail
      refine (HDL.out k).mono ?_
      rintro _ w6 ⟨q, r, rfl, o', hdl⟩
      have hSq := hdl.oq.isS
      have hSr := hdl.or_.isS
      have Q := Lib.hid hdl
      clear hdl HDL
      go_wp2
      simp [bodyPostD, Leaves, results, Tryz.results165, go_sem]
      exact ⟨q, r, ⟨rfl, rfl⟩, .inr ⟨_, _, Q.out⟩⟩
set_option maxRecDepth 100000 in
set_option maxHeartbeats 800000 in
theorem mulAddWW_gen (z x : Value) (zs : List Value) (X y B : Nat) (w : World) (hz : Own w B 116 z zs) (hx : RO w x (wds X)) (ax : Al z x) (hy : y < 18446744073709551616) (hl : nw X ≤ 100000000) (hB : B ≤ w.heap.size) :
    Calls Tryz.prog 178 #[z, x, .int .u64 y, .int .u64 0] w fun e w' => ∃ q, e = .returned q ∧ NatR z q (X * y) B w w' := by
  have hS := hz.isS
  have hSx := hx.rw.isS
  by_cases h : 0 < X ∧ 0 < y
  · have := mulAddWW_any z x zs X y 0 B w hz hx ax h.1 h.2 hy (by decide) hl hB
    rw [Nat.add_zero] at this
    exact this
  · have hXY : X * y = 0 := by
      rcases Nat.eq_zero_or_pos X with h1 | h1
      · rw [h1, Nat.zero_mul]
      · rcases Nat.eq_zero_or_pos y with h2 | h2
        · rw [h2, Nat.mul_zero]
        · exact absurd ⟨h1, h2⟩ h
    have HS := Lib.hid (setWord_gen z zs 0 B w hz (by decide) hB)
    rw [hXY]
    obtain ⟨m, hm⟩ : ∃ m, m = nw X := ⟨_, rfl⟩
    have hLx : sLen x = m := by rw [hx.rw.len, wds_length, hm]
    rw [← hm] at hl
    rcases Nat.eq_zero_or_pos m with h1 | h1
    · subst h1
      clear hz hx ax hB hm hXY h
      go_enter Tryz.func178, Tryz.ntmps178
      go_wp2_with fail
      refine HS.out.mono ?_
      rintro _ w1 ⟨r, rfl, hr⟩
      have hSr := hr.own.isS
      have Q := Lib.hid hr
      clear hr
      go_wp2
      go_ret
      exact ⟨_, rfl, Q.out⟩
    · have hy0 : y = 0 := by
        have hX : 0 < X := by rcases Nat.eq_zero_or_pos X with h2 | h2; (rw [h2, nw_zero] at hm; omega); exact h2
        rcases Nat.eq_zero_or_pos y with h2 | h2
        · exact h2
        · exact absurd ⟨hX, h2⟩ h
      subst hy0
      have t1 : ((m : Int) == 0) = false := by rw [beq_eq_false_iff_ne]; omega
      clear hz hx ax hB hm hXY h
      go_enter Tryz.func178, Tryz.ntmps178
      go_wp2_with fail
      refine HS.out.mono ?_
      rintro _ w1 ⟨r, rfl, hr⟩
      have hSr := hr.own.isS
      have Q := Lib.hid hr
      clear hr
      go_wp2
      go_ret
      exact ⟨_, rfl, Q.out⟩
structure IntR (b : Nat) (vz : Value) (neg : Bool) (N B : Nat) (w w' : World) : Prop where
  row : ∃ r, w'.heap[b]? = some (.cells #[.bool neg, r] 110 (0, 0)) ∧ Own w' B 116 r (cellsW (wds N)) ∧ (0 < sCap r → (0 < sCap vz ∧ sBlk r = sBlk vz) ∨ w.heap.size ≤ sBlk r)
  below : Below B w w'
  fr : ∀ k, k < w.heap.size → k ≠ b → (0 < sCap vz → k ≠ sBlk vz) → w'.heap[k]? = w.heap[k]?
theorem Own.neRow {w : World} {B b T : Nat} {v : Value} {xs : List Value} {cs : Array Value} (h : Own w B 116 v xs) (hr : w.heap[b]? = some (.cells cs T (0, 0))) (hT : T ≠ 116) (hc : 0 < sCap v) : b ≠ sBlk v := fun he => by
  obtain ⟨cur, hg⟩ := h.rowOf hc
  rw [← he, hr] at hg
  have h7 := Option.some.inj hg
  injection h7 with _ h8
  exact hT h8
theorem IntR.of {b : Nat} {vz r : Value} {neg zneg : Bool} {v : Value} {N B : Nat} {w w1 : World} (hz : w.heap[b]? = some (.cells #[.bool zneg, v] 110 (0, 0))) (hb : B ≤ b) (hne : 0 < sCap vz → b ≠ sBlk vz) (h : NatR vz r N B w w1) :
    IntR b vz neg N B w ((w1.setCell ⟨b, 1, none⟩ r).setCell ⟨b, 0, none⟩ (.bool neg)) := by
  have hr1 := h.fr.row hz hne
  have r1 := rowset (i := 1) r hr1
  have r2 := rowset (i := 0) (.bool neg) r1
  refine ⟨⟨r, r2, (h.own.away hr1 (by decide) 1 r).away r1 (by decide) 0 (.bool neg), h.at'⟩, bset (bset h.below hb) hb, fun k hk h1 h2 => ?_⟩
  rw [heap_setCell_other _ _ _ _ (by simpa using h1), heap_setCell_other _ _ _ _ (by simpa using h1)]
  exact h.fr k hk h2
set_option maxRecDepth 100000 in
set_option maxHeartbeats 1600000 in
theorem mulW_any (b c : Nat) (zneg xneg neg : Bool) (vz vx : Value) (zs : List Value) (X y B : Nat) (w : World) (hz : w.heap[b]? = some (.cells #[.bool zneg, vz] 110 (0, 0))) (hx : w.heap[c]? = some (.cells #[.bool xneg, vx] 110 (0, 0)))
    (ho : Own w B 116 vz zs) (hox : RO w vx (wds X)) (ax : Al vz vx) (hy : y < 18446744073709551616) (hl : nw X ≤ 100000000) (hb : B ≤ b) :
    Calls Tryz.prog 194 #[.pointer (some ⟨b, 0, none⟩), .pointer (some ⟨c, 0, none⟩), .bool neg, .int .u64 y] w fun e w' => e = .returned (.tuple #[]) ∧ IntR b vz (xneg != neg) (X * y) B w w' := by
  have hSz := ho.isS
  have hSx := hox.rw.isS
  have hbs := get_lt hz
  have z1 : w.cell? ⟨b, 1, none⟩ = some vz := (row_at (i := 1) hz rfl).1
  have x1 : w.cell? ⟨c, 1, none⟩ = some vx := (row_at (i := 1) hx rfl).1
  have HM := Lib.hid (fun k => mulAddWW_gen vz vx zs X y B (w.drewN k) (ho.drewN k) (hox.below (undrewN' (Below.refl _ _))) ax hy hl (show B ≤ (w.drewN k).heap.size from Nat.le_trans hb (Nat.le_of_lt hbs)))
  have hneb : 0 < sCap vz → b ≠ sBlk vz := ho.neRow hz (by decide)
  have hnec : 0 < sCap vz → c ≠ sBlk vz := ho.neRow hx (by decide)
  have HF : Hid (∀ k r w1, NatR vz r (X * y) B (w.drewN k) w1 → (w1.heap[b]? = some (.cells #[.bool zneg, vz] 110 (0, 0)) ∧ w1.heap[c]? = some (.cells #[.bool xneg, vx] 110 (0, 0))) ∧ IntR b vz (xneg != neg) (X * y) B w ((w1.setCell ⟨b, 1, none⟩ r).setCell ⟨b, 0, none⟩ (.bool (xneg != neg)))) := Lib.hid (fun k r w1 h => by
    have h' : NatR vz r (X * y) B w w1 := ⟨h.own, undrewN h.below, fun t ht hn => h.fr t ht hn, h.at'⟩
    exact ⟨⟨h'.fr.row hz hneb, h'.fr.row hx hnec⟩, .of hz hb hneb h'⟩)
  by_cases hbc : b = c
  · subst hbc
    have hxz : xneg = zneg ∧ vx = vz := by
      rw [hz] at hx
      have h7 := Option.some.inj hx
      injection h7 with h8 _ _
      simp at h8
      exact ⟨h8.1.symm, h8.2.symm⟩
    obtain ⟨rfl, rfl⟩ := hxz
    clear hz hx ho hox ax hl hb hneb hnec
    go_enter Tryz.func194, Tryz.ntmps194
    go_wp2_with fail
    (refine wp_region_hoist 10 (by kernel_rfl) (by kernel_rfl) ⟨fun _ _ _ h => (by first | exact (hQp _ _ _ h).elim | cases h.2.1 | (obtain ⟨_, h3, _⟩ := h.2; cases h3)), fun _ _ h => (by first | exact (hQo _ _ h).elim | cases h.1 | (obtain ⟨_, h3, _⟩ := h; cases h3))⟩ ?_; simp only [List.take_succ_cons, List.take_zero, List.drop_succ_cons, List.drop_zero]; (repeat (go_big_quiet_step (fail))); refine wpQuiet_nil ?_; rintro _ ⟨nq, rfl⟩)
    go_wp2_with fail
    refine (HM.out _).mono ?_
    rintro _ w1 ⟨r, rfl, hr⟩
    obtain ⟨⟨g1, -⟩, g3⟩ := HF.out _ r w1 hr
    have hSr := hr.own.isS
    obtain ⟨a0, f0⟩ : w1.cell? ⟨b, 0, none⟩ = some (.bool xneg) ∧ w1.frozen? ⟨b, 0, none⟩ = false := ⟨(row_at (i := 0) g1 rfl).1, (row_at (i := 0) g1 rfl).2⟩
    obtain ⟨a1, f1⟩ : w1.cell? ⟨b, 1, none⟩ = some vx ∧ w1.frozen? ⟨b, 1, none⟩ = false := ⟨(row_at (i := 1) g1 rfl).1, (row_at (i := 1) g1 rfl).2⟩
    have Q := Lib.hid g3
    clear hr g1 g3
    go_wp2
    go_end0
    exact ⟨rfl, Q.out⟩
  · have hcb : ¬ c = b := fun h => hbc h.symm
    clear hz hx ho hox ax hl hb hneb hnec
    go_enter Tryz.func194, Tryz.ntmps194
    go_wp2_with fail
    (refine wp_region_hoist 10 (by kernel_rfl) (by kernel_rfl) ⟨fun _ _ _ h => (by first | exact (hQp _ _ _ h).elim | cases h.2.1 | (obtain ⟨_, h3, _⟩ := h.2; cases h3)), fun _ _ h => (by first | exact (hQo _ _ h).elim | cases h.1 | (obtain ⟨_, h3, _⟩ := h; cases h3))⟩ ?_; simp only [List.take_succ_cons, List.take_zero, List.drop_succ_cons, List.drop_zero]; (repeat (go_big_quiet_step (fail))); refine wpQuiet_nil ?_; rintro _ ⟨nq, rfl⟩)
    go_wp2_with fail
    refine (HM.out _).mono ?_
    rintro _ w1 ⟨r, rfl, hr⟩
    obtain ⟨⟨g1, g2⟩, g3⟩ := HF.out _ r w1 hr
    have hSr := hr.own.isS
    obtain ⟨a0, f0⟩ : w1.cell? ⟨b, 0, none⟩ = some (.bool zneg) ∧ w1.frozen? ⟨b, 0, none⟩ = false := ⟨(row_at (i := 0) g1 rfl).1, (row_at (i := 0) g1 rfl).2⟩
    obtain ⟨a1, f1⟩ : w1.cell? ⟨b, 1, none⟩ = some vz ∧ w1.frozen? ⟨b, 1, none⟩ = false := ⟨(row_at (i := 1) g1 rfl).1, (row_at (i := 1) g1 rfl).2⟩
    have c0 : w1.cell? ⟨c, 0, none⟩ = some (.bool xneg) := (row_at (i := 0) g2 rfl).1
    have Q := Lib.hid g3
    clear hr g1 g2 g3
    go_wp2
    go_end0
    exact ⟨rfl, Q.out⟩
end Go.Proofs.YtllhnjpnkmjopaaGreatDoor
