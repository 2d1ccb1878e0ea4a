/-
Texts of this proof, joined: DvD DvE DlC. No condition.
-/
import Derived.Test.YtllhnjpnkmjopaaGreatDoorK06
import Derived.Test.YtllhnjpnkmjopaaGreatDoorK08
import Derived.Test.YtllhnjpnkmjopaaGreatDoorK23
namespace Go.Proofs.YtllhnjpnkmjopaaGreatDoor
open Go.RowKit

theorem dv_step (X y j : Nat) (hy : 0 < y) (_hyb : y < 18446744073709551616) :
    X / 18446744073709551616 ^ (j + 1) % y < y ∧ (X / 18446744073709551616 ^ (j + 1) % y * 18446744073709551616 + wdg X j) / y = wdg (X / y) j ∧
    (X / 18446744073709551616 ^ (j + 1) % y * 18446744073709551616 + wdg X j) % y = X / 18446744073709551616 ^ j % y := by
  have hU : X / 18446744073709551616 ^ j = X / 18446744073709551616 ^ (j + 1) * 18446744073709551616 + wdg X j := by
    unfold wdg
    rw [Nat.pow_succ, ← Nat.div_div_eq_div_mul, Nat.mul_comm]
    exact (Nat.div_add_mod _ _).symm
  have hq : wdg (X / y) j = X / 18446744073709551616 ^ j / y % 18446744073709551616 := by
    unfold wdg
    rw [Nat.div_div_eq_div_mul, Nat.div_div_eq_div_mul, Nat.mul_comm y]
  have hx := wdg_lt X j
  obtain ⟨U, hUU⟩ : ∃ U, U = X / 18446744073709551616 ^ (j + 1) := ⟨_, rfl⟩
  obtain ⟨d, hd⟩ : ∃ d, d = wdg X j := ⟨_, rfl⟩
  rw [← hUU, ← hd] at hU
  rw [← hd] at hx
  rw [hq, hU, ← hUU, ← hd]
  have hm := Nat.mod_lt U hy
  have h1 := Nat.div_add_mod U y
  obtain ⟨a, ha⟩ : ∃ a, a = U / y := ⟨_, rfl⟩
  obtain ⟨r, hr⟩ : ∃ r, r = U % y := ⟨_, rfl⟩
  rw [← ha, ← hr] at h1
  rw [← hr] at hm
  rw [← hr]
  have e : U * 18446744073709551616 + d = y * (a * 18446744073709551616) + (r * 18446744073709551616 + d) := by
    rw [← Nat.mul_assoc, ← h1, Nat.add_mul]; exact Nat.add_assoc _ _ _
  have hb : (r * 18446744073709551616 + d) / y < 18446744073709551616 := by
    refine Nat.div_lt_of_lt_mul ?_
    have := Nat.mul_le_mul_right 18446744073709551616 (Nat.succ_le_of_lt hm)
    rw [Nat.succ_mul] at this
    omega
  refine ⟨hm, ?_, ?_⟩
  · rw [e, Nat.mul_add_div hy]
    generalize (r * 18446744073709551616 + d) / y = Q at *
    omega
  · rw [e, Nat.mul_add_mod]
set_option maxRecDepth 100000 in
set_option maxHeartbeats 3200000 in
theorem divWVW_any (z x : Value) (os : List Value) (xs : List Nat) (y B : Nat) (w : World) (ho : Own w B 116 z os) (hx : RW w x xs) (hlen : os.length = xs.length) (hal : sBlk x = sBlk z → sOff x ≤ sOff z)
    (hl0 : 0 < xs.length) (hl : xs.length ≤ 1000000000) (hy0 : 0 < y) (hy : y < 18446744073709551616) :
    Calls Tryz.prog 218 #[z, .int .u64 0, x, .int .u64 y] w fun e w' => e = .returned (.int .u64 ((wv xs % y : Nat) : Int)) ∧ VvP z xs.length B (wv xs / y) w w' := by
  have hS := ho.isS
  have hSx := hx.isS
  have hL : sLen z = os.length := ho.len
  have hLx : sLen x = xs.length := hx.len
  have hcap : 0 < sCap z := by have := hS.le; omega
  have hB := (ho.lt hcap).1
  obtain ⟨X, hX⟩ : ∃ X, X = wv xs := ⟨_, rfl⟩
  have hget : ∀ j, xs.getD j 0 = wdg X j := fun j => by rw [hX, wv_dig hx.lt]
  have hXl := wv_lt hx.lt
  rw [← hX] at hXl ⊢
  have R0 := Lib.hid (Vd.start (Y := X / y) ho hlen)
  obtain ⟨L, hLw⟩ : ∃ L, L = xs.length := ⟨_, rfl⟩
  have HXS : Hid (∀ j, j < L → j < xs.length) := Lib.hid (fun j hj => by omega)
  rw [← hLw] at R0 hlen hLx hl hl0 hXl ⊢
  rw [hlen] at hL
  have hmb : X % y < 18446744073709551616 := Nat.lt_trans (Nat.mod_lt _ hy0) hy
  by_cases h1 : L = 1
  · subst h1
    have c0 := hx.cell 0 (HXS.out 0 (by decide))
    rw [hget, Nat.add_zero, wdg_zero_eq] at c0
    rw [Nat.pow_one] at hXl
    rw [Nat.mod_eq_of_lt hXl] at c0
    have HD := Lib.hid (fun W => bitsDiv_any 0 X y W hy hy0 hXl)
    rw [show 0 * 18446744073709551616 + X = X by omega] at HD
    obtain ⟨u, cv⟩ : ∃ u, w.cell? ⟨sBlk z, sOff z, none⟩ = some u := by
      obtain ⟨u, hu⟩ := R0.out.own (k := 0) (by decide)
      rw [Nat.add_zero] at hu
      exact ⟨u, hu⟩
    have fz := R0.out.frozen hcap (sOff z)
    have hqb : X / y < 18446744073709551616 := Nat.lt_of_le_of_lt (Nat.div_le_self _ _) hXl
    have HPUT : Hid (∀ n, VvP z 1 B (X / y) w ((w.drewN n).setCell ⟨sBlk z, sOff z, none⟩ (.int .u64 ((X / y : Nat) : Int)))) := Lib.hid (fun n => by
      have hw : X / y = wdg (X / y) 0 := by rw [wdg_zero_eq, Nat.mod_eq_of_lt hqb]
      have := ((R0.out.drewN (k := n)).put (k := 0) (by decide) hB hw).done
      rw [Nat.add_zero] at this
      exact this)
    obtain ⟨N, hN⟩ : ∃ N, N = X / y := ⟨_, rfl⟩
    obtain ⟨M, hM⟩ : ∃ M, M = X % y := ⟨_, rfl⟩
    rw [← hN, ← hM] at HD
    rw [← hN] at HPUT hqb
    rw [← hM] at hmb
    rw [← hN, ← hM]
    clear ho hx hlen hal hl0 hl hX hget hLw R0 hN hM
    go_enter Tryz.func218, Tryz.ntmps218
    go_wp2_with fail
    refine (HD.out _).mono ?_
    rintro _ _ ⟨rfl, n, rfl⟩
    have cv' : (w.drewN n).cell? ⟨sBlk z, sOff z, none⟩ = some u := cv
    have fz' : (w.drewN n).frozen? ⟨sBlk z, sOff z, none⟩ = false := fz
    go_wp2
    go_ret
    exact ⟨rfl, HPUT.out n⟩
  · have t1 : ((L : Int) == 1) = false := by rw [beq_eq_false_iff_ne]; omega
    have HX := Lib.hid hx
    have HAL := Lib.hid hal
    have HG := Lib.hid hget
    have HRC := Lib.hid (fun W => recip_any y W hy hy0)
    have hrl := recW_lt hy hy0
    have HDW := Lib.hid (fun u1 u0 W h1 h2 => divWW_any u1 u0 y W hy h1 h2)
    obtain ⟨rc, hrc⟩ : ∃ r, r = recW y := ⟨_, rfl⟩
    rw [← hrc] at HRC HDW hrl
    have HXL := Lib.hid hXl
    clear ho hlen hX hget hLw h1 hx hal hXl hrc
    go_enter Tryz.func218, Tryz.ntmps218
    go_wp2_with fail
    refine (HRC.out _).mono ?_
    rintro _ _ ⟨rfl, n, rfl⟩
    have RN := Lib.hid (R0.out.drewN (k := n))
    go_wp2
    go_loopw [8, 12] (fun r i wr => ∃ k : Nat, k ≤ L ∧ i = .int .i64 ((k : Int) - 1) ∧ r = .int .u64 ((X / 18446744073709551616 ^ k % y : Nat) : Int) ∧ Vd z L B k (X / y) w wr) (fun _ i _ => (intOf i + 1).toNat)
    case atStart =>
      refine ⟨L, Nat.le_refl _, rfl, ?_, RN.out⟩
      rw [Nat.div_eq_of_lt HXL.out, Nat.zero_mod]; rfl
    case round =>
      obtain ⟨k, hk, rfl, rfl, hrel⟩ := hrel
      have HREL := Lib.hid hrel
      by_cases hk0 : 0 < k
      · obtain ⟨j, rfl⟩ : ∃ j, k = j + 1 := ⟨k - 1, by omega⟩
        obtain ⟨s1, s2, s3⟩ := dv_step X y j hy0 hy
        have c1 := hrel.src HX.out HAL.out (j := j) (by omega) (HXS.out j (by omega))
        obtain ⟨g, cv⟩ := hrel.own (k := j) (by omega)
        have fz := hrel.frozen hcap (sOff z + j)
        rw [HG.out] at c1
        obtain ⟨d, hd⟩ : ∃ d, d = wdg X j := ⟨_, rfl⟩
        have hdl : d < 18446744073709551616 := by rw [hd]; exact wdg_lt _ _
        obtain ⟨R, hR⟩ : ∃ R, R = X / 18446744073709551616 ^ (j + 1) % y := ⟨_, rfl⟩
        obtain ⟨R', hR'⟩ : ∃ R, R = X / 18446744073709551616 ^ j % y := ⟨_, rfl⟩
        obtain ⟨q, hq⟩ : ∃ q, q = wdg (X / y) j := ⟨_, rfl⟩
        rw [← hd] at c1
        rw [← hR, ← hd, ← hq] at s2
        rw [← hR, ← hd, ← hR'] at s3
        rw [← hR] at s1 ⊢
        have hql : q < 18446744073709551616 := by rw [hq]; exact wdg_lt _ _
        have hRl : R < 18446744073709551616 := by omega
        have hR'l : R' < 18446744073709551616 := by rw [hR']; exact Nat.lt_trans (Nat.mod_lt _ hy0) hy
        have HD := Lib.hid (fun W => HDW.out R d W s1 hdl)
        rw [s2, s3] at HD
        have PUT := Lib.hid (HREL.out.put (k := j) (by omega) hB hq)
        have HR' := Lib.hid hR'
        rw [show ((j + 1 : Nat) : Int) - 1 = (j : Int) by omega]
        have t3 : decide ((0:Int) ≤ (j : Int)) = true := by rw [decide_eq_true_iff]; omega
        have hjL : j < L := by omega
        clear hd hR hR' hq s1 s2 s3 hrel
        go_wp2_with fail
        refine (HD.out _).mono ?_
        rintro _ _ ⟨rfl, rfl⟩
        go_wp2
        exact ⟨⟨j, by omega, by go_num, by rw [HR'.out], PUT.out⟩, by simp [intOf]⟩
      · have hk1 : k = 0 := by omega
        subst hk1
        rw [Nat.pow_zero, Nat.div_one]
        have DN := Lib.hid hrel.done
        obtain ⟨M, hM⟩ : ∃ M, M = X % y := ⟨_, rfl⟩
        rw [← hM] at hmb
        have HM := Lib.hid hM
        rw [← hM]
        clear hrel hM
        go_wp2
        go_ret
        rw [HM.out]
        exact ⟨rfl, DN.out⟩
set_option maxRecDepth 100000 in
set_option maxHeartbeats 3200000 in
theorem divW_any (z x : Value) (zs : List Value) (xs : List Nat) (y B : Nat) (w : World) (hz : Own w B 116 z zs) (hx : RO w x xs) (ax : Al z x) (hy1 : 1 < y) (hy : y < 18446744073709551616) (h0 : 0 < xs.length) (hl : xs.length ≤ 100000000) (hB : B ≤ w.heap.size) :
    Calls Tryz.prog 198 #[z, x, .int .u64 y] w fun e w' => ∃ q, e = .returned (.tuple #[q, .int .u64 ((wv xs % y : Nat) : Int)]) ∧ NatR z q (wv xs / y) B w w' := by
  have hS := hz.isS
  have hSx := hx.rw.isS
  obtain ⟨m, hm⟩ : ∃ m, m = xs.length := ⟨_, rfl⟩
  have hLx : sLen x = m := by rw [hx.rw.len, hm]
  have hy0 : 0 < y := by omega
  have t1 : ((y : Int) == 0) = false := by rw [beq_eq_false_iff_ne]; omega
  have t2 : ((y : Int) == 1) = false := by rw [beq_eq_false_iff_ne]; omega
  have hmp : 0 < m := by omega
  have t3 : ((m : Int) == 0) = false := by rw [beq_eq_false_iff_ne]; omega
  have hml : m ≤ 100000000 := by omega
  have hMb : wv xs % y < 18446744073709551616 := Nat.lt_trans (Nat.mod_lt _ hy0) hy
  have HM := Lib.hid hm
  have HZ := Lib.hid hz
  have HX := Lib.hid hx
  have HAX := Lib.hid ax
  have HB := Lib.hid hB
  obtain ⟨S, hSS⟩ : ∃ S, S = wv xs / y := ⟨_, rfl⟩
  obtain ⟨R, hR⟩ : ∃ R, R = wv xs % y := ⟨_, rfl⟩
  have HSS := Lib.hid hSS
  have HRR := Lib.hid hR
  rw [← hR] at hMb
  rw [← hSS, ← hR]
  have HSL : Hid (S < 18446744073709551616 ^ m) := Lib.hid (by rw [hSS, hm]; exact Nat.lt_of_le_of_lt (Nat.div_le_self _ _) (wv_lt hx.rw.lt))
  clear hz hx ax hB hm hSS hR h0 hl
  go_enter Tryz.func198, Tryz.ntmps198
  go_wp2_with fail
  refine (make_any z zs m B w HZ.out (by omega) HB.out).mono ?_
  rintro _ w1 ⟨q, rfl, hmk⟩
  obtain ⟨os, hos, hor⟩ := hmk.own
  have hSr := hor.isS
  have hLr : sLen q = m := by rw [hor.len, hos]
  have hcr : m ≤ sCap q := by have := hSr.le; omega
  have hcr0 : 0 < sCap q := by omega
  have hX1 := HX.out.below hmk.below
  have aX := hmk.al hS hmp HAX.out HX.out.rw (by rw [← HM.out]; exact hmp)
  have HCALL : Hid (Calls Tryz.prog 218 #[q, .int .u64 0, x, .int .u64 y] w1 fun e w' => e = .returned (.int .u64 (R : Int)) ∧ VvP q m B S w1 w') := Lib.hid (by
    have := divWVW_any q x os xs y B w1 hor hX1.rw (by rw [hos, HM.out]) (fun h => by rw [aX h]; exact Nat.le_refl _) (by rw [← HM.out]; exact hmp) (by rw [← HM.out]; omega) hy0 hy
    rw [← HM.out, ← HSS.out, ← HRR.out] at this
    exact this)
  have HFIN : Hid (∀ w2, VvP q m B S w1 w2 → Calls Tryz.prog 117 #[q] w2 fun e w' => e = .returned (subS q 0 (nw S)) ∧ w2 = w' ∧ NatR z (subS q 0 (nw S)) S B w w2) := Lib.hid (fun w2 hvp => by
    obtain ⟨g1, g2, g3⟩ := hvp
    have hnum : wv (wdsN S m) = S := wv_wdsN_lt HSL.out
    have hN := norm_any q _ _ (g1.rw' wdsN_lt) (by rw [wdsN_length]; omega)
    have hT := g1.takeW wdsN_lt
    rw [hnum] at hN hT
    exact hN.mono (fun e w' h => ⟨h.1, h.2, hT, (hmk.below.mono HB.out).trans g2, hmk.fr hS hmp g2.size g3.only, fun hc => hmk.atS hS hSr hc⟩))
  clear hor hos hmk hX1 aX
  go_wp2_with fail
  refine HCALL.out.mono ?_
  rintro _ w2 ⟨rfl, hvp⟩
  have HQ := Lib.hid (HFIN.out w2 hvp)
  clear hvp
  go_wp2_with fail
  refine HQ.out.mono ?_
  rintro _ _ ⟨rfl, rfl, hn⟩
  have Q := Lib.hid hn
  have hSq := hn.own.isS
  clear hn
  go_wp2
  go_ret2
  exact ⟨_, rfl, Q.out⟩
theorem Own.frz {w w' : World} {B : Nat} {e : TypeId} {z v : Value} {xs : List Value} (h : Own w B e v xs) (f : Fr z w w') (hne : 0 < sCap v → 0 < sCap z → sBlk v ≠ sBlk z) : Own w' B e v xs :=
  h.same fun hc => f _ (h.lt hc).2 (fun hz => hne hc hz)
set_option maxRecDepth 100000 in
set_option maxHeartbeats 800000 in
theorem divW_gen (z x : Value) (zs : List Value) (N y B : Nat) (w : World) (hz : Own w B 116 z zs) (hx : RO w x (wds N)) (ax : Al z x) (hy0 : 0 < y) (hy : y < 18446744073709551616) (hl : nw N ≤ 100000000) (hB : B ≤ w.heap.size) :
    Calls Tryz.prog 198 #[z, x, .int .u64 y] w fun e w' => ∃ q, e = .returned (.tuple #[q, .int .u64 ((N % y : Nat) : Int)]) ∧ NatR z q (N / y) B w w' := by
  have hS := hz.isS
  have hSx := hx.rw.isS
  obtain ⟨m, hm⟩ : ∃ m, m = nw N := ⟨_, rfl⟩
  have hLx : sLen x = m := by rw [hx.rw.len, wds_length, hm]
  by_cases h1 : y = 1
  · subst h1
    rw [Nat.mod_one, Nat.div_one]
    have HS := Lib.hid (set_at z x zs (wds N) B w hz hx.rw (by rw [wds_length]; omega) hB)
    clear hz hx ax hB hm hl
    go_enter Tryz.func198, Tryz.ntmps198
    go_wp2_with fail
    refine HS.out.mono ?_
    rintro _ w1 ⟨q, rfl, h⟩
    have hSq := h.1.isS
    have Q : Hid (NatR z q N B w w1) := Lib.hid ⟨h.1, h.2.1, h.2.2.1, h.2.2.2⟩
    clear h
    go_wp2
    go_ret2
    exact ⟨_, rfl, Q.out⟩
  · rcases Nat.eq_zero_or_pos N with h0 | h0
    · have hm0 : m = 0 := by rw [hm, h0]; rfl
      subst hm0
      have t1 : ((y : Int) == 0) = false := by rw [beq_eq_false_iff_ne]; omega
      have t2 : ((y : Int) == 1) = false := by rw [beq_eq_false_iff_ne]; omega
      have Q : Hid (NatR z (subS z 0 0) (N / y) B w w) := Lib.hid (by
        rw [h0, Nat.zero_div]
        exact ⟨by have := hz.sub (l := 0) (n := 0) (Nat.le_refl _) (Nat.zero_le _); simpa [cellsW, wds_zero] using this, Below.refl _ _, Fr.refl _ _, fun hc => .inl ⟨by rw [subS_cap hz.isS] at hc; exact hc, subS_blk hz.isS⟩⟩)
      have hSq := Q.out.own.isS
      have hmod : N % y = 0 := by rw [h0, Nat.zero_mod]
      rw [hmod]
      have hc0 : 0 ≤ sCap z := Nat.zero_le _
      clear hz hx ax hB hm hl h0 hmod h1
      go_enter Tryz.func198, Tryz.ntmps198
      go_wp2
      go_ret2
      exact ⟨_, rfl, Q.out⟩
    · have := divW_any z x zs (wds N) y B w hz hx ax (by omega) hy (by rw [wds_length]; exact nw_pos h0) (by rw [wds_length]; exact hl) hB
      rw [wv_wds] at this
      exact this
set_option maxRecDepth 100000 in
set_option maxHeartbeats 800000 in
theorem setWord_gen (z : Value) (zs : List Value) (d B : Nat) (w : World) (hz : Own w B 116 z zs) (hd : d < 18446744073709551616) (hB : B ≤ w.heap.size) :
    Calls Tryz.prog 115 #[z, .int .u64 d] w fun e w' => ∃ r, e = .returned r ∧ NatR z r d B w w' := by
  have hS := hz.isS
  rcases Nat.eq_zero_or_pos d with h0 | h0
  · subst h0
    have Q : Hid (NatR z (subS z 0 0) 0 B w w) := Lib.hid ⟨by have := hz.sub (l := 0) (n := 0) (Nat.le_refl _) (Nat.zero_le _); simpa [cellsW, wds_zero] using this, Below.refl _ _, Fr.refl _ _, fun hc => .inl ⟨by rw [subS_cap hz.isS] at hc; exact hc, subS_blk hz.isS⟩⟩
    have hSq := Q.out.own.isS
    have hc0 : 0 ≤ sCap z := Nat.zero_le _
    clear hz hB
    go_enter Tryz.func115, Tryz.ntmps115
    go_wp2
    go_ret
    exact ⟨_, rfl, Q.out⟩
  · have t1 : ((d : Int) == 0) = false := by rw [beq_eq_false_iff_ne]; omega
    have HM := Lib.hid (make_any z zs 1 B w hz (by decide) hB)
    have HB := Lib.hid hB
    have HD : Hid (wds d = [d]) := Lib.hid (by
      have h1 := lt_nw d
      have h2 : nw d = 1 := by
        have h3 := nw_le (k := 1) (n := d) (by rw [Nat.pow_one]; exact hd)
        have h4 := nw_pos h0
        omega
      rw [← wdsN_nw, h2]
      simp [wdsN, wdg, Nat.mod_eq_of_lt hd])
    clear hz hB
    go_enter Tryz.func115, Tryz.ntmps115
    go_wp2_with fail
    refine HM.out.mono ?_
    rintro _ w1 ⟨r, rfl, hmk⟩
    obtain ⟨ys, hy, ho⟩ := hmk.own
    obtain ⟨t, rfl⟩ := List.length_eq_one_iff.1 hy
    have hSr := ho.isS
    have hLr : sLen r = 1 := by rw [ho.len]; rfl
    have hcap : 0 < sCap r := by have := hSr.le; omega
    have fz := ho.frozen hcap (sOff r)
    have ce := ho.cell (i := 0) (u := t) rfl
    have hset := ho.set (i := 0) (by simp) (.int .u64 (d : Int))
    rw [Nat.add_zero] at hset ce
    have hb3 : Below B w1 (w1.setCell ⟨sBlk r, sOff r, none⟩ (.int .u64 (d : Int))) := bset (Below.refl _ _) (ho.lt hcap).1
    have Q : Hid (NatR z r d B w (w1.setCell ⟨sBlk r, sOff r, none⟩ (.int .u64 (d : Int)))) := Lib.hid (by
      refine ⟨?_, (hmk.below.mono HB.out).trans hb3, hmk.fr hS (by decide) hb3.size (fun k _ hk => heap_setCell_other _ _ _ _ (by simp only; exact hk)), fun hc => hmk.at_ hS hc⟩
      rw [HD.out]; exact hset)
    clear hmk ho hy hset hb3
    go_wp2
    go_ret
    exact ⟨_, rfl, Q.out⟩
end Go.Proofs.YtllhnjpnkmjopaaGreatDoor
