/-
Texts of this proof, joined: DvD DvE DlC DdA DdB DdC SkA SkB SkC. No condition.
-/
import Derived.Test.YtkhhoamcnocjlaaGreatDoorK03
import Derived.Test.YtkhhoamcnocjlaaGreatDoorK05
import Derived.Test.YtkhhoamcnocjlaaGreatDoorK07
import Derived.Test.YtkhhoamcnocjlaaGreatDoorK08
import Derived.Test.YtkhhoamcnocjlaaGreatDoorK10
import Derived.Test.YtkhhoamcnocjlaaGreatDoorK11
import Derived.Test.YtkhhoamcnocjlaaGreatDoorK14
import Derived.Lib.AppendZeros
/-
A number by a word: divWVW. No condition.
-/
namespace Go.Proofs.YtkhhoamcnocjlaaGreatDoor
open Go.RowKit

/-- One digit of a quotient by a word, and what is left. -/
theorem dv_step (X y j : Nat) (hy : 0 < y) (_hyb : y < 18446744073709551616) :
    X / 18446744073709551616 ^ (j + 1) % y < y ∧ (X / 18446744073709551616 ^ (j + 1) % y * 18446744073709551616 + wdg X j) / y = wdg (X / y) j ∧
    (X / 18446744073709551616 ^ (j + 1) % y * 18446744073709551616 + wdg X j) % y = X / 18446744073709551616 ^ j % y := by
  have hU : X / 18446744073709551616 ^ j = X / 18446744073709551616 ^ (j + 1) * 18446744073709551616 + wdg X j := by
    unfold wdg
    rw [Nat.pow_succ, ← Nat.div_div_eq_div_mul, Nat.mul_comm]
    exact (Nat.div_add_mod _ _).symm
  have hq : wdg (X / y) j = X / 18446744073709551616 ^ j / y % 18446744073709551616 := by
    unfold wdg
    rw [Nat.div_div_eq_div_mul, Nat.div_div_eq_div_mul, Nat.mul_comm y]
  have hx := wdg_lt X j
  obtain ⟨U, hUU⟩ : ∃ U, U = X / 18446744073709551616 ^ (j + 1) := ⟨_, rfl⟩
  obtain ⟨d, hd⟩ : ∃ d, d = wdg X j := ⟨_, rfl⟩
  rw [← hUU, ← hd] at hU
  rw [← hd] at hx
  rw [hq, hU, ← hUU, ← hd]
  have hm := Nat.mod_lt U hy
  have h1 := Nat.div_add_mod U y
  obtain ⟨a, ha⟩ : ∃ a, a = U / y := ⟨_, rfl⟩
  obtain ⟨r, hr⟩ : ∃ r, r = U % y := ⟨_, rfl⟩
  rw [← ha, ← hr] at h1
  rw [← hr] at hm
  rw [← hr]
  have e : U * 18446744073709551616 + d = y * (a * 18446744073709551616) + (r * 18446744073709551616 + d) := by
    rw [← Nat.mul_assoc, ← h1, Nat.add_mul]; exact Nat.add_assoc _ _ _
  have hb : (r * 18446744073709551616 + d) / y < 18446744073709551616 := by
    refine Nat.div_lt_of_lt_mul ?_
    have := Nat.mul_le_mul_right 18446744073709551616 (Nat.succ_le_of_lt hm)
    rw [Nat.succ_mul] at this
    omega
  refine ⟨hm, ?_, ?_⟩
  · rw [e, Nat.mul_add_div hy]
    generalize (r * 18446744073709551616 + d) / y = Q at *
    omega
  · rw [e, Nat.mul_add_mod]
set_option maxRecDepth 100000 in
set_option maxHeartbeats 3200000 in
theorem divWVW_any (z x : Value) (os : List Value) (xs : List Nat) (y B : Nat) (w : World) (ho : Own w B 147 z os) (hx : RW w x xs) (hlen : os.length = xs.length) (hal : sBlk x = sBlk z → sOff x ≤ sOff z)
    (hl0 : 0 < xs.length) (hl : xs.length ≤ 1000000000) (hy0 : 0 < y) (hy : y < 18446744073709551616) :
    Calls Tryz.prog 182 #[z, .int .u64 0, x, .int .u64 y] w fun e w' => e = .returned (.int .u64 ((wv xs % y : Nat) : Int)) ∧ VvP z xs.length B (wv xs / y) w w' := by
  have hS := ho.isS
  have hSx := hx.isS
  have hL : sLen z = os.length := ho.len
  have hLx : sLen x = xs.length := hx.len
  have hcap : 0 < sCap z := by have := hS.le; omega
  have hB := (ho.lt hcap).1
  obtain ⟨X, hX⟩ : ∃ X, X = wv xs := ⟨_, rfl⟩
  have hget : ∀ j, xs.getD j 0 = wdg X j := fun j => by rw [hX, wv_dig hx.lt]
  have hXl := wv_lt hx.lt
  rw [← hX] at hXl ⊢
  have R0 := Lib.hid (Vd.start (Y := X / y) ho hlen)
  obtain ⟨L, hLw⟩ : ∃ L, L = xs.length := ⟨_, rfl⟩
  have HXS : Hid (∀ j, j < L → j < xs.length) := Lib.hid (fun j hj => by omega)
  rw [← hLw] at R0 hlen hLx hl hl0 hXl ⊢
  rw [hlen] at hL
  have hmb : X % y < 18446744073709551616 := Nat.lt_trans (Nat.mod_lt _ hy0) hy
  by_cases h1 : L = 1
  · subst h1
    have c0 := hx.cell 0 (HXS.out 0 (by decide))
    rw [hget, Nat.add_zero, wdg_zero_eq] at c0
    rw [Nat.pow_one] at hXl
    rw [Nat.mod_eq_of_lt hXl] at c0
    have HD := Lib.hid (fun W => bitsDiv_any 0 X y W hy hy0 hXl)
    rw [show 0 * 18446744073709551616 + X = X by omega] at HD
    obtain ⟨u, cv⟩ : ∃ u, w.cell? ⟨sBlk z, sOff z, none⟩ = some u := by
      obtain ⟨u, hu⟩ := R0.out.own (k := 0) (by decide)
      rw [Nat.add_zero] at hu
      exact ⟨u, hu⟩
    have fz := R0.out.frozen hcap (sOff z)
    have hqb : X / y < 18446744073709551616 := Nat.lt_of_le_of_lt (Nat.div_le_self _ _) hXl
    have HPUT : Hid (∀ n, VvP z 1 B (X / y) w ((w.drewN n).setCell ⟨sBlk z, sOff z, none⟩ (.int .u64 ((X / y : Nat) : Int)))) := Lib.hid (fun n => by
      have hw : X / y = wdg (X / y) 0 := by rw [wdg_zero_eq, Nat.mod_eq_of_lt hqb]
      have := ((R0.out.drewN (k := n)).put (k := 0) (by decide) hB hw).done
      rw [Nat.add_zero] at this
      exact this)
    obtain ⟨N, hN⟩ : ∃ N, N = X / y := ⟨_, rfl⟩
    obtain ⟨M, hM⟩ : ∃ M, M = X % y := ⟨_, rfl⟩
    rw [← hN, ← hM] at HD
    rw [← hN] at HPUT hqb
    rw [← hM] at hmb
    rw [← hN, ← hM]
    clear ho hx hlen hal hl0 hl hX hget hLw R0 hN hM
    go_enter Tryz.func182, Tryz.ntmps182
    go_wp2_with fail
    refine (HD.out _).mono ?_
    rintro _ _ ⟨rfl, n, rfl⟩
    have cv' : (w.drewN n).cell? ⟨sBlk z, sOff z, none⟩ = some u := cv
    have fz' : (w.drewN n).frozen? ⟨sBlk z, sOff z, none⟩ = false := fz
    go_wp2
    go_ret
    exact ⟨rfl, HPUT.out n⟩
  · have t1 : ((L : Int) == 1) = false := by rw [beq_eq_false_iff_ne]; omega
    have HX := Lib.hid hx
    have HAL := Lib.hid hal
    have HG := Lib.hid hget
    have HRC := Lib.hid (fun W => recip_any y W hy hy0)
    have hrl := recW_lt hy hy0
    have HDW := Lib.hid (fun u1 u0 W h1 h2 => divWW_any u1 u0 y W hy h1 h2)
    obtain ⟨rc, hrc⟩ : ∃ r, r = recW y := ⟨_, rfl⟩
    rw [← hrc] at HRC HDW hrl
    have HXL := Lib.hid hXl
    clear ho hlen hX hget hLw h1 hx hal hXl hrc
    go_enter Tryz.func182, Tryz.ntmps182
    go_wp2_with fail
    refine (HRC.out _).mono ?_
    rintro _ _ ⟨rfl, n, rfl⟩
    have RN := Lib.hid (R0.out.drewN (k := n))
    go_wp2
    go_loopw [8, 12] (fun r i wr => ∃ k : Nat, k ≤ L ∧ i = .int .i64 ((k : Int) - 1) ∧ r = .int .u64 ((X / 18446744073709551616 ^ k % y : Nat) : Int) ∧ Vd z L B k (X / y) w wr) (fun _ i _ => (intOf i + 1).toNat)
    case atStart =>
      refine ⟨L, Nat.le_refl _, rfl, ?_, RN.out⟩
      rw [Nat.div_eq_of_lt HXL.out, Nat.zero_mod]; rfl
    case round =>
      obtain ⟨k, hk, rfl, rfl, hrel⟩ := hrel
      have HREL := Lib.hid hrel
      by_cases hk0 : 0 < k
      · obtain ⟨j, rfl⟩ : ∃ j, k = j + 1 := ⟨k - 1, by omega⟩
        obtain ⟨s1, s2, s3⟩ := dv_step X y j hy0 hy
        have c1 := hrel.src HX.out HAL.out (j := j) (by omega) (HXS.out j (by omega))
        obtain ⟨g, cv⟩ := hrel.own (k := j) (by omega)
        have fz := hrel.frozen hcap (sOff z + j)
        rw [HG.out] at c1
        obtain ⟨d, hd⟩ : ∃ d, d = wdg X j := ⟨_, rfl⟩
        have hdl : d < 18446744073709551616 := by rw [hd]; exact wdg_lt _ _
        obtain ⟨R, hR⟩ : ∃ R, R = X / 18446744073709551616 ^ (j + 1) % y := ⟨_, rfl⟩
        obtain ⟨R', hR'⟩ : ∃ R, R = X / 18446744073709551616 ^ j % y := ⟨_, rfl⟩
        obtain ⟨q, hq⟩ : ∃ q, q = wdg (X / y) j := ⟨_, rfl⟩
        rw [← hd] at c1
        rw [← hR, ← hd, ← hq] at s2
        rw [← hR, ← hd, ← hR'] at s3
        rw [← hR] at s1 ⊢
        have hql : q < 18446744073709551616 := by rw [hq]; exact wdg_lt _ _
        have hRl : R < 18446744073709551616 := by omega
        have hR'l : R' < 18446744073709551616 := by rw [hR']; exact Nat.lt_trans (Nat.mod_lt _ hy0) hy
        have HD := Lib.hid (fun W => HDW.out R d W s1 hdl)
        rw [s2, s3] at HD
        have PUT := Lib.hid (HREL.out.put (k := j) (by omega) hB hq)
        have HR' := Lib.hid hR'
        rw [show ((j + 1 : Nat) : Int) - 1 = (j : Int) by omega]
        have t3 : decide ((0:Int) ≤ (j : Int)) = true := by rw [decide_eq_true_iff]; omega
        have hjL : j < L := by omega
        clear hd hR hR' hq s1 s2 s3 hrel
        go_wp2_with fail
        refine (HD.out _).mono ?_
        rintro _ _ ⟨rfl, rfl⟩
        go_wp2
        exact ⟨⟨j, by omega, by go_num, by rw [HR'.out], PUT.out⟩, by simp [intOf]⟩
      · have hk1 : k = 0 := by omega
        subst hk1
        rw [Nat.pow_zero, Nat.div_one]
        have DN := Lib.hid hrel.done
        obtain ⟨M, hM⟩ : ∃ M, M = X % y := ⟨_, rfl⟩
        rw [← hM] at hmb
        have HM := Lib.hid hM
        rw [← hM]
        clear hrel hM
        go_wp2
        go_ret
        rw [HM.out]
        exact ⟨rfl, DN.out⟩
end Go.Proofs.YtkhhoamcnocjlaaGreatDoor

/-
A number by a word: divW. No condition.
-/
namespace Go.Proofs.YtkhhoamcnocjlaaGreatDoor
open Go.RowKit

set_option maxRecDepth 100000 in
set_option maxHeartbeats 3200000 in
theorem divW_any (z x : Value) (zs : List Value) (xs : List Nat) (y B : Nat) (w : World) (hz : Own w B 147 z zs) (hx : RO w x xs) (ax : Al z x) (hy1 : 1 < y) (hy : y < 18446744073709551616) (h0 : 0 < xs.length) (hl : xs.length ≤ 100000000) (hB : B ≤ w.heap.size) :
    Calls Tryz.prog 161 #[z, x, .int .u64 y] w fun e w' => ∃ q, e = .returned (.tuple #[q, .int .u64 ((wv xs % y : Nat) : Int)]) ∧ NatR z q (wv xs / y) B w w' := by
  have hS := hz.isS
  have hSx := hx.rw.isS
  obtain ⟨m, hm⟩ : ∃ m, m = xs.length := ⟨_, rfl⟩
  have hLx : sLen x = m := by rw [hx.rw.len, hm]
  have hy0 : 0 < y := by omega
  have t1 : ((y : Int) == 0) = false := by rw [beq_eq_false_iff_ne]; omega
  have t2 : ((y : Int) == 1) = false := by rw [beq_eq_false_iff_ne]; omega
  have hmp : 0 < m := by omega
  have t3 : ((m : Int) == 0) = false := by rw [beq_eq_false_iff_ne]; omega
  have hml : m ≤ 100000000 := by omega
  have hMb : wv xs % y < 18446744073709551616 := Nat.lt_trans (Nat.mod_lt _ hy0) hy
  have HM := Lib.hid hm
  have HZ := Lib.hid hz
  have HX := Lib.hid hx
  have HAX := Lib.hid ax
  have HB := Lib.hid hB
  obtain ⟨S, hSS⟩ : ∃ S, S = wv xs / y := ⟨_, rfl⟩
  obtain ⟨R, hR⟩ : ∃ R, R = wv xs % y := ⟨_, rfl⟩
  have HSS := Lib.hid hSS
  have HRR := Lib.hid hR
  rw [← hR] at hMb
  rw [← hSS, ← hR]
  have HSL : Hid (S < 18446744073709551616 ^ m) := Lib.hid (by rw [hSS, hm]; exact Nat.lt_of_le_of_lt (Nat.div_le_self _ _) (wv_lt hx.rw.lt))
  clear hz hx ax hB hm hSS hR h0 hl
  go_enter Tryz.func161, Tryz.ntmps161
  go_wp2_with fail
  refine (make_any z zs m B w HZ.out (by omega) HB.out).mono ?_
  rintro _ w1 ⟨q, rfl, hmk⟩
  obtain ⟨os, hos, hor⟩ := hmk.own
  have hSr := hor.isS
  have hLr : sLen q = m := by rw [hor.len, hos]
  have hcr : m ≤ sCap q := by have := hSr.le; omega
  have hcr0 : 0 < sCap q := by omega
  have hX1 := HX.out.below hmk.below
  have aX := hmk.al hS hmp HAX.out HX.out.rw (by rw [← HM.out]; exact hmp)
  have HCALL : Hid (Calls Tryz.prog 182 #[q, .int .u64 0, x, .int .u64 y] w1 fun e w' => e = .returned (.int .u64 (R : Int)) ∧ VvP q m B S w1 w') := Lib.hid (by
    have := divWVW_any q x os xs y B w1 hor hX1.rw (by rw [hos, HM.out]) (fun h => by rw [aX h]; exact Nat.le_refl _) (by rw [← HM.out]; exact hmp) (by rw [← HM.out]; omega) hy0 hy
    rw [← HM.out, ← HSS.out, ← HRR.out] at this
    exact this)
  have HFIN : Hid (∀ w2, VvP q m B S w1 w2 → Calls Tryz.prog 116 #[q] w2 fun e w' => e = .returned (subS q 0 (nw S)) ∧ w2 = w' ∧ NatR z (subS q 0 (nw S)) S B w w2) := Lib.hid (fun w2 hvp => by
    obtain ⟨g1, g2, g3⟩ := hvp
    have hnum : wv (wdsN S m) = S := wv_wdsN_lt HSL.out
    have hN := norm_any q _ _ (g1.rw' wdsN_lt) (by rw [wdsN_length]; omega)
    have hT := g1.takeW wdsN_lt
    rw [hnum] at hN hT
    exact hN.mono (fun e w' h => ⟨h.1, h.2, hT, (hmk.below.mono HB.out).trans g2, hmk.fr hS hmp g2.size g3.only, fun hc => hmk.atS hS hSr hc⟩))
  clear hor hos hmk hX1 aX
  go_wp2_with fail
  refine HCALL.out.mono ?_
  rintro _ w2 ⟨rfl, hvp⟩
  have HQ := Lib.hid (HFIN.out w2 hvp)
  clear hvp
  go_wp2_with fail
  refine HQ.out.mono ?_
  rintro _ _ ⟨rfl, rfl, hn⟩
  have Q := Lib.hid hn
  have hSq := hn.own.isS
  clear hn
  go_wp2
  go_ret2
  exact ⟨_, rfl, Q.out⟩
end Go.Proofs.YtkhhoamcnocjlaaGreatDoor

/-
Short division and setWord of whatever receiver. No condition.
-/
namespace Go.Proofs.YtkhhoamcnocjlaaGreatDoor
open Go.RowKit

/-- Owned words that lie beside the receiver. -/
theorem Own.frz {w w' : World} {B : Nat} {e : TypeId} {z v : Value} {xs : List Value} (h : Own w B e v xs) (f : Fr z w w') (hne : 0 < sCap v → 0 < sCap z → sBlk v ≠ sBlk z) : Own w' B e v xs :=
  h.same fun hc => f _ (h.lt hc).2 (fun hz => hne hc hz)
set_option maxRecDepth 100000 in
set_option maxHeartbeats 800000 in
theorem divW_gen (z x : Value) (zs : List Value) (N y B : Nat) (w : World) (hz : Own w B 147 z zs) (hx : RO w x (wds N)) (ax : Al z x) (hy0 : 0 < y) (hy : y < 18446744073709551616) (hl : nw N ≤ 100000000) (hB : B ≤ w.heap.size) :
    Calls Tryz.prog 161 #[z, x, .int .u64 y] w fun e w' => ∃ q, e = .returned (.tuple #[q, .int .u64 ((N % y : Nat) : Int)]) ∧ NatR z q (N / y) B w w' := by
  have hS := hz.isS
  have hSx := hx.rw.isS
  obtain ⟨m, hm⟩ : ∃ m, m = nw N := ⟨_, rfl⟩
  have hLx : sLen x = m := by rw [hx.rw.len, wds_length, hm]
  by_cases h1 : y = 1
  · subst h1
    rw [Nat.mod_one, Nat.div_one]
    have HS := Lib.hid (set_at z x zs (wds N) B w hz hx.rw (by rw [wds_length]; omega) hB)
    clear hz hx ax hB hm hl
    go_enter Tryz.func161, Tryz.ntmps161
    go_wp2_with fail
    refine HS.out.mono ?_
    rintro _ w1 ⟨q, rfl, h⟩
    have hSq := h.1.isS
    have Q : Hid (NatR z q N B w w1) := Lib.hid ⟨h.1, h.2.1, h.2.2.1, h.2.2.2⟩
    clear h
    go_wp2
    go_ret2
    exact ⟨_, rfl, Q.out⟩
  · rcases Nat.eq_zero_or_pos N with h0 | h0
    · have hm0 : m = 0 := by rw [hm, h0]; rfl
      subst hm0
      have t1 : ((y : Int) == 0) = false := by rw [beq_eq_false_iff_ne]; omega
      have t2 : ((y : Int) == 1) = false := by rw [beq_eq_false_iff_ne]; omega
      have Q : Hid (NatR z (subS z 0 0) (N / y) B w w) := Lib.hid (by
        rw [h0, Nat.zero_div]
        exact ⟨by have := hz.sub (l := 0) (n := 0) (Nat.le_refl _) (Nat.zero_le _); simpa [cellsW, wds_zero] using this, Below.refl _ _, Fr.refl _ _, fun hc => .inl ⟨by rw [subS_cap hz.isS] at hc; exact hc, subS_blk hz.isS⟩⟩)
      have hSq := Q.out.own.isS
      have hmod : N % y = 0 := by rw [h0, Nat.zero_mod]
      rw [hmod]
      have hc0 : 0 ≤ sCap z := Nat.zero_le _
      clear hz hx ax hB hm hl h0 hmod h1
      go_enter Tryz.func161, Tryz.ntmps161
      go_wp2
      go_ret2
      exact ⟨_, rfl, Q.out⟩
    · have := divW_any z x zs (wds N) y B w hz hx ax (by omega) hy (by rw [wds_length]; exact nw_pos h0) (by rw [wds_length]; exact hl) hB
      rw [wv_wds] at this
      exact this
set_option maxRecDepth 100000 in
set_option maxHeartbeats 800000 in
theorem setWord_gen (z : Value) (zs : List Value) (d B : Nat) (w : World) (hz : Own w B 147 z zs) (hd : d < 18446744073709551616) (hB : B ≤ w.heap.size) :
    Calls Tryz.prog 127 #[z, .int .u64 d] w fun e w' => ∃ r, e = .returned r ∧ NatR z r d B w w' := by
  have hS := hz.isS
  rcases Nat.eq_zero_or_pos d with h0 | h0
  · subst h0
    have Q : Hid (NatR z (subS z 0 0) 0 B w w) := Lib.hid ⟨by have := hz.sub (l := 0) (n := 0) (Nat.le_refl _) (Nat.zero_le _); simpa [cellsW, wds_zero] using this, Below.refl _ _, Fr.refl _ _, fun hc => .inl ⟨by rw [subS_cap hz.isS] at hc; exact hc, subS_blk hz.isS⟩⟩
    have hSq := Q.out.own.isS
    have hc0 : 0 ≤ sCap z := Nat.zero_le _
    clear hz hB
    go_enter Tryz.func127, Tryz.ntmps127
    go_wp2
    go_ret
    exact ⟨_, rfl, Q.out⟩
  · have t1 : ((d : Int) == 0) = false := by rw [beq_eq_false_iff_ne]; omega
    have HM := Lib.hid (make_any z zs 1 B w hz (by decide) hB)
    have HB := Lib.hid hB
    have HD : Hid (wds d = [d]) := Lib.hid (by
      have h1 := lt_nw d
      have h2 : nw d = 1 := by
        have h3 := nw_le (k := 1) (n := d) (by rw [Nat.pow_one]; exact hd)
        have h4 := nw_pos h0
        omega
      rw [← wdsN_nw, h2]
      simp [wdsN, wdg, Nat.mod_eq_of_lt hd])
    clear hz hB
    go_enter Tryz.func127, Tryz.ntmps127
    go_wp2_with fail
    refine HM.out.mono ?_
    rintro _ w1 ⟨r, rfl, hmk⟩
    obtain ⟨ys, hy, ho⟩ := hmk.own
    obtain ⟨t, rfl⟩ := List.length_eq_one_iff.1 hy
    have hSr := ho.isS
    have hLr : sLen r = 1 := by rw [ho.len]; rfl
    have hcap : 0 < sCap r := by have := hSr.le; omega
    have fz := ho.frozen hcap (sOff r)
    have ce := ho.cell (i := 0) (u := t) rfl
    have hset := ho.set (i := 0) (by simp) (.int .u64 (d : Int))
    rw [Nat.add_zero] at hset ce
    have hb3 : Below B w1 (w1.setCell ⟨sBlk r, sOff r, none⟩ (.int .u64 (d : Int))) := bset (Below.refl _ _) (ho.lt hcap).1
    have Q : Hid (NatR z r d B w (w1.setCell ⟨sBlk r, sOff r, none⟩ (.int .u64 (d : Int)))) := Lib.hid (by
      refine ⟨?_, (hmk.below.mono HB.out).trans hb3, hmk.fr hS (by decide) hb3.size (fun k _ hk => heap_setCell_other _ _ _ _ (by simp only; exact hk)), fun hc => hmk.at_ hS hc⟩
      rw [HD.out]; exact hset)
    clear hmk ho hy hset hb3
    go_wp2
    go_ret
    exact ⟨_, rfl, Q.out⟩
end Go.Proofs.YtkhhoamcnocjlaaGreatDoor

/-
Long division of words: the guess of a digit, plain arithmetic. No condition.
-/
namespace Go.Proofs.YtkhhoamcnocjlaaGreatDoor
open Go.RowKit

theorem kd_le {D N T v r q V R : Nat} (hV : V = D * T + v) (hR : R = N * T + r) (hr : r < T) (hq : q * V ≤ R) : q * D ≤ N := by
  have h1 : q * D * T ≤ q * V := by rw [hV, Nat.mul_add, ← Nat.mul_assoc]; exact Nat.le_add_right _ _
  have h2 : q * D * T < (N + 1) * T := by rw [Nat.add_mul, Nat.one_mul]; omega
  have := Nat.lt_of_mul_lt_mul_right h2
  omega
theorem kd_ge {b D N T v r q V R : Nat} (hV : V = D * T + v) (hR : R = N * T + r) (hv : v < T) (hb : b * T ≤ V) (hVp : 0 < V) (h3 : q * D ≤ N) (hq : q ≤ b) : q * V < R + V := by
  have h1 : q * V = q * D * T + q * v := by rw [hV, Nat.mul_add, ← Nat.mul_assoc]
  have h2 : q * D * T ≤ N * T := Nat.mul_le_mul_right _ h3
  rcases Nat.eq_zero_or_pos q with h0 | h0
  · rw [h0, Nat.zero_mul]; omega
  · have h4 : q * v < q * T := (Nat.mul_lt_mul_left h0).2 hv
    have h5 : q * T ≤ b * T := Nat.mul_le_mul_right _ hq
    omega
theorem le_div_of {q V R : Nat} (hV : 0 < V) (h : q * V ≤ R) : q ≤ R / V := (Nat.le_div_iff_mul_le hV).2 h
theorem kd_near {q V R : Nat} (hV : 0 < V) (h : q * V < R + V) : q ≤ R / V + 1 := by
  have h1 : R < (R / V + 1) * V := by rw [Nat.add_mul, Nat.one_mul, Nat.mul_comm]; have := Nat.div_add_mod R V; have := Nat.mod_lt R hV; omega
  have h2 : q * V < (R / V + 2) * V := by rw [show R / V + 2 = R / V + 1 + 1 by omega, Nat.add_mul (R / V + 1), Nat.one_mul]; omega
  have := Nat.lt_of_mul_lt_mul_right h2
  omega
/-- The guess by three words by two. -/
theorem kd_guess {b T v1 v2 v u2 u1 u0 r V R qh rh : Nat} (hV : V = (v1 * b + v2) * T + v) (hR : R = ((u2 * b + u1) * b + u0) * T + r) (hv : v < T) (hr : r < T) (hv1 : 0 < v1) (hb : 0 < b)
    (inv : qh * v1 + rh = u2 * b + u1) (up : (u2 * b + u1) * b + u0 < (qh + 1) * (v1 * b + v2)) (stop : qh * v2 ≤ rh * b + u0) (hq : qh ≤ b) : R / V ≤ qh ∧ qh ≤ R / V + 1 := by
  have hbT : b * T ≤ V := by
    have h1 : b ≤ v1 * b := Nat.le_mul_of_pos_left _ hv1
    have h2 : b * T ≤ (v1 * b + v2) * T := Nat.mul_le_mul_right _ (by omega)
    omega
  have hVp : 0 < V := by have := Nat.mul_pos hb (show 0 < T by omega); omega
  constructor
  · have h1 := kd_le (q := R / V) hV hR hr (Nat.div_mul_le_self R V)
    have h2 : R / V * (v1 * b + v2) < (qh + 1) * (v1 * b + v2) := Nat.lt_of_le_of_lt h1 up
    have := Nat.lt_of_mul_lt_mul_right h2
    omega
  · refine kd_near hVp (kd_ge hV hR hv hbT hVp ?_ hq)
    have h1 : qh * (v1 * b + v2) = (qh * v1) * b + qh * v2 := by rw [Nat.mul_add, Nat.mul_assoc]
    have h2 : (u2 * b + u1) * b = qh * v1 * b + rh * b := by rw [← inv, Nat.add_mul]
    omega
theorem kd_start {b v1 v2 u0 N2 qh rh : Nat} (inv : qh * v1 + rh = N2) (hrh : rh < v1) (hu0 : u0 < b) : N2 * b + u0 < (qh + 1) * (v1 * b + v2) := by
  have h1 : (qh + 1) * (v1 * b + v2) = ((qh + 1) * v1) * b + (qh + 1) * v2 := by rw [Nat.mul_add, Nat.mul_assoc]
  have h2 : N2 + 1 ≤ (qh + 1) * v1 := by rw [Nat.add_mul, Nat.one_mul]; omega
  have h3 : (N2 + 1) * b ≤ (qh + 1) * v1 * b := Nat.mul_le_mul_right _ h2
  rw [Nat.add_mul, Nat.one_mul] at h3
  omega
theorem kd_step {b v1 v2 u0 N2 qh rh : Nat} (inv : (qh + 1) * v1 + rh = N2) (go : rh * b + u0 < (qh + 1) * v2) : N2 * b + u0 < (qh + 1) * (v1 * b + v2) ∧ qh * v1 + (rh + v1) = N2 := by
  have h1 : (qh + 1) * (v1 * b + v2) = ((qh + 1) * v1) * b + (qh + 1) * v2 := by rw [Nat.mul_add, Nat.mul_assoc]
  have h2 : N2 * b = (qh + 1) * v1 * b + rh * b := by rw [← inv, Nat.add_mul]
  refine ⟨by omega, ?_⟩
  rw [Nat.add_mul, Nat.one_mul] at inv
  omega
/-- The greatest digit where the top words are the same. -/
theorem kd_max {b T v1 v2 v u1 u0 r V R : Nat} (hV : V = (v1 * b + v2) * T + v) (hR : R = ((v1 * b + u1) * b + u0) * T + r) (hv : v < T) (hv2 : v2 < b) (hb : b ≤ 2 * v1 + 2) (hVp : 0 < V) (hRV : R < b * V) :
    R / V ≤ b - 1 ∧ b - 1 ≤ R / V + 1 := by
  have h0 : R / V < b := (Nat.div_lt_iff_lt_mul hVp).2 hRV
  refine ⟨by omega, ?_⟩
  have h1 : V ≤ (v1 + 1) * (b * T) := by
    have e1 : (v1 + 1) * (b * T) = v1 * b * T + b * T := by rw [Nat.add_mul, Nat.one_mul, Nat.mul_assoc]
    have e2 : (v1 * b + v2) * T = v1 * b * T + v2 * T := Nat.add_mul _ _ _
    have e3 : (v2 + 1) * T ≤ b * T := Nat.mul_le_mul_right _ hv2
    rw [Nat.add_mul, Nat.one_mul] at e3
    omega
  have h2 : v1 * b * (b * T) ≤ R := by
    have e1 : v1 * b * (b * T) = v1 * b * b * T := (Nat.mul_assoc _ _ _).symm
    have e2 : v1 * b * b * T ≤ ((v1 * b + u1) * b + u0) * T := Nat.mul_le_mul_right _ (by rw [Nat.add_mul]; omega)
    omega
  have h3 : (b - 2) * (v1 + 1) ≤ v1 * b := by
    rcases Nat.lt_or_ge b 2 with hlt | hge
    · rw [show b - 2 = 0 by omega, Nat.zero_mul]; exact Nat.zero_le _
    · obtain ⟨c, rfl⟩ : ∃ c, b = c + 2 := ⟨b - 2, by omega⟩
      rw [show c + 2 - 2 = c by omega, Nat.mul_add, Nat.mul_one, Nat.mul_add, Nat.mul_comm c]
      omega
  have h4 : (b - 2) * V ≤ R := by
    refine Nat.le_trans (Nat.mul_le_mul_left _ h1) (Nat.le_trans ?_ h2)
    rw [← Nat.mul_assoc]
    exact Nat.mul_le_mul_right _ h3
  have := le_div_of hVp h4
  omega
theorem kd_sub0 {V R qh Z : Nat} (hVp : 0 < V) (h1 : R / V ≤ qh) (h : R = qh * V + Z) (_h2 : qh ≤ R / V + 1) : qh = R / V ∧ Z = R % V := by
  have h3 : qh ≤ R / V := le_div_of hVp (by omega)
  have h4 : qh = R / V := by omega
  refine ⟨h4, ?_⟩
  have := Nat.div_add_mod R V
  rw [h4, Nat.mul_comm] at h
  omega
theorem kd_sub1 {V R qh Z bn b Zl Zh L c : Nat} (hVp : 0 < V) (_h1 : R / V ≤ qh) (h2 : qh ≤ R / V + 1) (h : R + bn * b = qh * V + Z) (hZ : Z = Zl + bn * Zh) (hZl : Zl < bn) (hZh : Zh < b) (ha : Zl + V = L + bn * c) (hL : L < bn) (hV : V ≤ bn) :
    0 < qh ∧ qh - 1 = R / V ∧ L = R % V ∧ Zh + c = b := by
  have hlt : R < qh * V := by
    have : bn * (Zh + 1) ≤ bn * b := Nat.mul_le_mul_left _ hZh
    rw [Nat.mul_add, Nat.mul_one] at this
    omega
  have h3 : R / V < qh := (Nat.div_lt_iff_lt_mul hVp).2 hlt
  have h4 : qh = R / V + 1 := by omega
  have hm := Nat.mod_lt R hVp
  have hd := Nat.div_add_mod R V
  generalize hQ : R / V = Q at *
  generalize hM : R % V = M at *
  have h5 : qh * V = V * Q + V := by rw [h4, Nat.add_mul, Nat.one_mul, Nat.mul_comm]
  have h6 : M + bn * b = L + bn * (Zh + c) := by rw [Nat.mul_add]; omega
  have h7 : M < bn := Nat.lt_of_lt_of_le hm hV
  have h8 : L = M := by
    have e1 := congrArg (· % bn) h6
    simp only [Nat.add_mul_mod_self_left, Nat.mod_eq_of_lt h7, Nat.mod_eq_of_lt hL] at e1
    exact e1.symm
  refine ⟨by omega, by omega, h8, ?_⟩
  have h9 : bn * (Zh + c) = bn * b := by omega
  exact Nat.eq_of_mul_eq_mul_left (by omega) h9
end Go.Proofs.YtkhhoamcnocjlaaGreatDoor

/-
Long division of words: one digit after the other, plain arithmetic on the words of numbers. No condition.
-/
namespace Go.Proofs.YtkhhoamcnocjlaaGreatDoor
open Go.RowKit

theorem wdg_div (X j i : Nat) : wdg (X / 18446744073709551616 ^ j) i = wdg X (j + i) := by
  unfold wdg; rw [Nat.div_div_eq_div_mul, ← Nat.pow_add]
/-- What is left behind the digits from j on: one digit more. -/
theorem dd_step {U V j : Nat} (hV : 0 < V) :
    U % (V * 18446744073709551616 ^ (j + 1)) / 18446744073709551616 ^ j < 18446744073709551616 * V ∧
    U % (V * 18446744073709551616 ^ (j + 1)) / 18446744073709551616 ^ j / V = wdg (U / V) j ∧
    U % (V * 18446744073709551616 ^ j) = U % (V * 18446744073709551616 ^ (j + 1)) % 18446744073709551616 ^ j + 18446744073709551616 ^ j * (U % (V * 18446744073709551616 ^ (j + 1)) / 18446744073709551616 ^ j % V) := by
  have hP : 0 < 18446744073709551616 ^ j := wpow_pos j
  have hM : 0 < V * 18446744073709551616 ^ (j + 1) := Nat.mul_pos hV (wpow_pos _)
  have e1 : V * 18446744073709551616 ^ (j + 1) = 18446744073709551616 ^ j * V * 18446744073709551616 := by
    rw [Nat.pow_succ, Nat.mul_comm V, Nat.mul_assoc, Nat.mul_assoc, Nat.mul_comm 18446744073709551616 V]
  refine ⟨?_, ?_, ?_⟩
  · refine Nat.div_lt_of_lt_mul ?_
    have := Nat.mod_lt U hM
    have e2 : V * 18446744073709551616 ^ (j + 1) = 18446744073709551616 ^ j * (18446744073709551616 * V) := by rw [e1, Nat.mul_assoc, Nat.mul_comm V]
    omega
  · rw [Nat.div_div_eq_div_mul, e1, Nat.mod_mul_right_div_self]
    unfold wdg
    rw [Nat.div_div_eq_div_mul, Nat.mul_comm V]
  · have e3 : U % (V * 18446744073709551616 ^ (j + 1)) % (18446744073709551616 ^ j * V) = U % (18446744073709551616 ^ j * V) := by
      rw [e1, Nat.mod_mod_of_dvd _ (Nat.dvd_mul_right _ _)]
    rw [Nat.mul_comm V (18446744073709551616 ^ j), ← e3, Nat.mod_mul]
theorem dd_start {U V m : Nat} (h : U < V * 18446744073709551616 ^ m) : U % (V * 18446744073709551616 ^ m) = U ∧ U % (V * 18446744073709551616 ^ (m + 1)) = U ∧ U / V < 18446744073709551616 ^ m ∧ wdg (U / V) m = 0 := by
  have h1 : V * 18446744073709551616 ^ m ≤ V * 18446744073709551616 ^ (m + 1) := Nat.mul_le_mul_left _ (Nat.pow_le_pow_right (by decide) (Nat.le_succ m))
  have h2 : U / V < 18446744073709551616 ^ m := Nat.div_lt_of_lt_mul h
  refine ⟨Nat.mod_eq_of_lt h, Nat.mod_eq_of_lt (by omega), h2, ?_⟩
  unfold wdg
  rw [Nat.div_eq_of_lt h2]
theorem wdsN_window (X L : Nat) {j n : Nat} (h : j + n ≤ L) : ((wdsN X L).take (j + n)).drop j = wdsN (X / 18446744073709551616 ^ j) n := by
  refine wdsN_of (by rw [List.length_drop, List.length_take, wdsN_length]; omega) fun i hi => ?_
  rw [List.getD_eq_getElem?_getD, List.getElem?_drop, List.getElem?_take, if_pos (by omega), ← List.getD_eq_getElem?_getD, wdsN_getD (by omega), wdg_div]
theorem wdg_join {A R j : Nat} (hA : A < 18446744073709551616 ^ j) (i : Nat) : wdg (A + 18446744073709551616 ^ j * R) i = if i < j then wdg A i else wdg R (i - j) := by
  split
  · rename_i h
    unfold wdg
    obtain ⟨k, rfl⟩ : ∃ k, j = i + (k + 1) := ⟨j - i - 1, by omega⟩
    rw [Nat.pow_add, Nat.mul_assoc, Nat.add_mul_div_left _ _ (wpow_pos i), Nat.pow_succ, Nat.mul_comm _ 18446744073709551616, Nat.mul_assoc, Nat.add_mul_mod_self_left]
  · rename_i h
    obtain ⟨k, rfl⟩ : ∃ k, i = j + k := ⟨i - j, by omega⟩
    rw [← wdg_div, Nat.add_mul_div_left _ _ (wpow_pos j), Nat.div_eq_of_lt hA, Nat.zero_add, show j + k - j = k by omega]
theorem wdg_lowmod (X j i : Nat) (h : i < j) : wdg (X % 18446744073709551616 ^ j) i = wdg X i := by
  unfold wdg
  obtain ⟨k, rfl⟩ : ∃ k, j = i + (k + 1) := ⟨j - i - 1, by omega⟩
  rw [Nat.pow_add, Nat.mod_mul_right_div_self, Nat.pow_succ, Nat.mod_mod_of_dvd _ (Nat.dvd_mul_left _ _)]
theorem wdg_small {X i k : Nat} (h : X < 18446744073709551616 ^ k) (hk : k ≤ i) : wdg X i = 0 := by
  unfold wdg
  rw [Nat.div_eq_of_lt (Nat.lt_of_lt_of_le h (Nat.pow_le_pow_right (by decide) hk))]
/-- The words behind a window that was written anew. -/
theorem wdsN_patch {X L j n R : Nat} (h : j + n ≤ L) (hX : X < 18446744073709551616 ^ (j + n)) (hR : R < 18446744073709551616 ^ n) :
    (wdsN X L).take j ++ (wdsN R n ++ (wdsN X L).drop (j + n)) = wdsN (X % 18446744073709551616 ^ j + 18446744073709551616 ^ j * R) L := by
  have l1 : ((wdsN X L).take j).length = j := by rw [List.length_take, wdsN_length]; omega
  refine wdsN_of (by simp [wdsN_length]; omega) fun i hi => ?_
  rw [wdg_join (Nat.mod_lt _ (wpow_pos j)), List.getD_eq_getElem?_getD]
  by_cases h1 : i < j
  · rw [if_pos h1, List.getElem?_append_left (by omega), List.getElem?_take, if_pos h1, ← List.getD_eq_getElem?_getD, wdsN_getD hi, wdg_lowmod _ _ _ h1]
  · rw [if_neg h1, List.getElem?_append_right (by omega), l1]
    by_cases h2 : i - j < n
    · rw [List.getElem?_append_left (by rw [wdsN_length]; exact h2), ← List.getD_eq_getElem?_getD, wdsN_getD h2]
    · rw [List.getElem?_append_right (by rw [wdsN_length]; omega), wdsN_length, List.getElem?_drop, ← List.getD_eq_getElem?_getD, show j + n + (i - j - n) = i by omega, wdsN_getD hi, wdg_small hX (by omega), wdg_small hR (by omega)]
theorem wtop2 {V k : Nat} (h : V < 18446744073709551616 ^ (k + 2)) : V = (wdg V (k + 1) * 18446744073709551616 + wdg V k) * 18446744073709551616 ^ k + V % 18446744073709551616 ^ k := by
  have h1 := wmod_succ V (k + 1)
  have h2 := wmod_succ V k
  rw [show k + 1 + 1 = k + 2 by omega, Nat.mod_eq_of_lt h] at h1
  have e1 : 18446744073709551616 ^ (k + 1) * wdg V (k + 1) = wdg V (k + 1) * 18446744073709551616 * 18446744073709551616 ^ k := by
    rw [Nat.mul_comm (18446744073709551616 ^ (k + 1)), Nat.pow_succ, Nat.mul_comm (18446744073709551616 ^ k), ← Nat.mul_assoc]
  rw [Nat.add_mul, ← e1, Nat.mul_comm (wdg V k)]
  rw [h2] at h1
  exact h1.trans (by rw [Nat.add_comm, Nat.add_comm (V % _), ← Nat.add_assoc])
theorem wtop3 {R k : Nat} (h : R < 18446744073709551616 ^ (k + 3)) : R = ((wdg R (k + 2) * 18446744073709551616 + wdg R (k + 1)) * 18446744073709551616 + wdg R k) * 18446744073709551616 ^ k + R % 18446744073709551616 ^ k := by
  have h1 := wmod_succ R (k + 2)
  rw [show k + 2 + 1 = k + 3 by omega, Nat.mod_eq_of_lt h] at h1
  have h2 := wtop2 (V := R % 18446744073709551616 ^ (k + 2)) (k := k) (Nat.mod_lt _ (wpow_pos _))
  rw [wdg_lowmod _ _ _ (by omega), wdg_lowmod _ _ _ (by omega), Nat.mod_mod_of_dvd _ (Nat.pow_dvd_pow _ (by omega : k ≤ k + 2))] at h2
  have e1 : 18446744073709551616 ^ (k + 2) * wdg R (k + 2) = wdg R (k + 2) * 18446744073709551616 * 18446744073709551616 * 18446744073709551616 ^ k := by
    rw [Nat.pow_succ, Nat.pow_succ]; grind
  have e2 : ((wdg R (k + 2) * 18446744073709551616 + wdg R (k + 1)) * 18446744073709551616 + wdg R k) * 18446744073709551616 ^ k =
      wdg R (k + 2) * 18446744073709551616 * 18446744073709551616 * 18446744073709551616 ^ k + (wdg R (k + 1) * 18446744073709551616 + wdg R k) * 18446744073709551616 ^ k := by
    rw [Nat.add_mul (wdg R (k + 2) * 18446744073709551616), Nat.add_assoc, Nat.add_mul]
  rw [e2, ← e1]
  rw [h2] at h1
  exact h1.trans (by rw [Nat.add_comm, ← Nat.add_assoc])
end Go.Proofs.YtkhhoamcnocjlaaGreatDoor

/-
Long division of words: greaterThan, mulWW. No condition.
-/
namespace Go.Proofs.YtkhhoamcnocjlaaGreatDoor
open Go.RowKit

set_option maxRecDepth 100000 in
theorem mulWW_any (x y : Nat) (w : World) (hx : x < 18446744073709551616) (hy : y < 18446744073709551616) :
    Calls Tryz.prog 201 #[.int .u64 x, .int .u64 y] w fun e w' => e = .returned (.tuple #[.int .u64 ((x * y / 18446744073709551616 : Nat) : Int), .int .u64 ((x * y % 18446744073709551616 : Nat) : Int)]) ∧ w' = w := by
  have HM := Lib.hid (Tryz.bits_Mul x y hx hy w)
  obtain ⟨hi, hhi⟩ : ∃ hi, hi = x * y / 18446744073709551616 := ⟨_, rfl⟩
  obtain ⟨lo, hlo⟩ : ∃ lo, lo = x * y % 18446744073709551616 := ⟨_, rfl⟩
  rw [← hhi, ← hlo] at HM
  rw [← hhi, ← hlo]
  clear hhi hlo
  go_enter Tryz.func201, Tryz.ntmps201
  go_wp2_with fail
  refine HM.out.mono ?_
  rintro _ _ ⟨rfl, rfl⟩
  go_wp2
  go_ret2
  exact ⟨rfl, rfl⟩
set_option maxRecDepth 100000 in
theorem gt_any (x1 x2 y1 y2 : Nat) (b : Bool) (w : World) (hx : x2 < 18446744073709551616) (hy : y2 < 18446744073709551616) (hb : b = decide (y1 * 18446744073709551616 + y2 < x1 * 18446744073709551616 + x2)) :
    Calls Tryz.prog 202 #[.int .u64 x1, .int .u64 x2, .int .u64 y1, .int .u64 y2] w fun e w' => e = .returned (.bool b) ∧ w' = w := by
  rcases Nat.lt_trichotomy y1 x1 with h | h | h
  · have hbt : b = true := by rw [hb]; exact decide_eq_true (by omega)
    subst hbt
    have t1 : decide (y1 < x1) = true := decide_eq_true h
    clear hb hx hy h
    go_enter Tryz.func202, Tryz.ntmps202
    go_wp2
    go_ret
    exact ⟨rfl, rfl⟩
  · subst h
    have t1 : decide (y1 < y1) = false := decide_eq_false (by omega)
    by_cases h2 : y2 < x2
    · have hbt : b = true := by rw [hb]; exact decide_eq_true (by omega)
      subst hbt
      have t2 : decide (y2 < x2) = true := decide_eq_true h2
      clear hb hx hy h2
      go_enter Tryz.func202, Tryz.ntmps202
      go_wp2
      go_ret
      exact ⟨rfl, rfl⟩
    · have hbt : b = false := by rw [hb]; exact decide_eq_false (by omega)
      subst hbt
      have t2 : decide (y2 < x2) = false := decide_eq_false h2
      clear hb hx hy h2
      go_enter Tryz.func202, Tryz.ntmps202
      go_wp2
      go_ret
      exact ⟨rfl, rfl⟩
  · have hbt : b = false := by rw [hb]; exact decide_eq_false (by omega)
    subst hbt
    have t1 : decide (y1 < x1) = false := decide_eq_false (by omega)
    have t2 : ((x1 : Int) == (y1 : Int)) = false := by rw [beq_eq_false_iff_ne]; omega
    have t3 : (x1 == y1) = false := by rw [beq_eq_false_iff_ne]; omega
    clear hb hx hy h
    go_enter Tryz.func202, Tryz.ntmps202
    go_wp2
    go_ret
    exact ⟨rfl, rfl⟩
end Go.Proofs.YtkhhoamcnocjlaaGreatDoor

/-
append of a made slice, slices.Grow of words. No condition.
-/
namespace Go.Proofs.YtkhhoamcnocjlaaGreatDoor
open Go.RowKit

theorem run_append_more {P : Program} (w : World) (t tn ty e : TypeId) (i : TypeInfo) (z : Value) (kn : IntKind) (ht : P.underlying t = some (.slice e)) (htn : P.underlying tn = some (.int kn)) (hi : P.info? e = some i) (hz : i.zero = some z)
    (base : Option Addr) (c : Nat) (olds : List Value) (hold : (Builtin.firstCells i.size c (.slice base c c)).run P w.drew = .ok olds.toArray w.drew) (n : Nat) (h0 : 0 < n) (hs : i.size = 1)
    (h63 : ((c + n : Nat) : Int) ≤ 9223372036854775807) (h48 : n * i.bytes ≤ 281474976710656) (hfit : Builtin.nextslicecap (c + n) c * i.bytes ≤ 281474976710656) :
    (Builtin.append_ #[t, tn] ty #[.slice base c c, .int .i64 n]).run P w =
      .ok (.slice (some ⟨w.heap.size, 0, none⟩) (c + n) (grownCap w (c + n) c e)) (w.drew.alloc (.cells ((olds.toArray ++ Builtin.zeroCells z.cells n) ++ Builtin.zeroCells z.cells (grownCap w (c + n) c e - (c + n))) e)) := by
  have hn : n ≠ 0 := by omega
  have hw : IntKind.i64.wrap (n : Int) = n := by rw [IntKind.wrap_i64]; omega
  have h63' : ¬ (9223372036854775807 < ((c : Int) + (n : Int))) := by omega
  have h48' : ¬ (281474976710656 < Builtin.nextslicecap (c + n) c * i.bytes) := by omega
  have h48i : ¬ (281474976710656 < (n : Int) * (i.bytes : Int)) := by
    rw [← Int.natCast_mul]
    omega
  have hneg : ¬ ((n : Int) < 0) := by omega
  have hns : ¬ (n * i.size = 0) := Nat.mul_ne_zero hn (by omega)
  have hcn : ¬ (c + n ≤ c) := by omega
  have hold' := hold
  rw [hs] at hold'
  simp [Builtin.append_, run_underlying ht, run_underlying htn, sizeOf, typeInfo, zeroValue, hi, hz, asInt, asIntOf, hw, hn, hneg, hcn, h63', h48', h48i, Question.forced, hs, hold', newRow, grownCap]
theorem zeroCells_rep (z : Value) (n : Nat) : (Builtin.zeroCells #[z] n).toList = List.replicate n z := by
  apply List.ext_getElem
  · simp [Builtin.zeroCells]
  · intro j h1 h2
    simp [Builtin.zeroCells, Nat.mod_one]
/-- append of a made slice onto a slice that is full. -/
theorem wpList_appendN_O {P : Program} {ops : Array Oper} {rest : List Oper} {o : Oper} {a : Act} {Q : Exit → Act → World → Prop} {w : World} (hgd : o.guard = none) (s x : Operand) (t tn : TypeId)
    (ho : o.op = .call { callee := .builtin .append, args := #[s, x], argTypes := #[t, tn] }) {e : TypeId} {bytes : Nat} {z : Value} (E : ElemT P t e bytes z) {kn : IntKind} (htn : P.underlying tn = some (.int kn)) (hby : bytes ≤ 8)
    (B : Nat) (v : Value) (xs : List Value) (hs : a.eval s = v) (hown : Own w B e v xs) (hfull : sCap v = xs.length) (n : Nat) (hx : a.eval x = .int .i64 n) (h0 : 0 < n) (hb : xs.length + n ≤ 1000000000)
    (h : ∀ v' w', Own w' w.heap.size e v' (xs ++ List.replicate n z) → Below w.heap.size w w' → sOff v' = 0 → sBlk v' = w.heap.size → 0 < sCap v' → wpList P ops Q rest (a.put o.dst v') w') : wpList P ops Q (o :: rest) a w := by
  obtain ⟨i, hi, hz, hsz, hbb, hzc⟩ := E.info
  have hl := hown.len
  have hcap := hown.isS.le
  have hxl : sLen v = sCap v := by omega
  have hvv : ∃ b, v = .slice b xs.length xs.length := by
    match v, hown.isS, hl, hfull with
    | .slice b n c, _, h1, h2 => exact ⟨b, by rw [show n = xs.length from h1, show c = xs.length from h2]⟩
  obtain ⟨b, hv⟩ := hvv
  have hold : (Builtin.firstCells i.size xs.length (.slice b xs.length xs.length)).run P w.drew = .ok xs.toArray w.drew := by
    rw [← hv]
    by_cases hc0 : sCap v = 0
    · obtain ⟨a', ha⟩ := hown.isS.out0 hc0
      have hx0 : xs = [] := List.eq_nil_of_length_eq_zero (by omega)
      rw [ha, hx0]
      cases a' <;> simp [Builtin.firstCells, loadCells, loadCellsFrom]
    · have hv2 := hown.isS.out (by omega)
      conv => lhs; rw [hv2]
      rw [hsz, hl]
      rw [show sCap v = xs.length from hfull]
      exact run_firstCells_some w.drew 1 xs.length _ _ _ xs (by simp) (fun j u hj => by rw [Addr.add_mk]; exact hown.cell hj)
  have hfit : Builtin.nextslicecap (xs.length + n) xs.length * i.bytes ≤ 281474976710656 := growslice_fits (by omega) (by rw [hbb]; have := Nat.mul_le_mul_left (xs.length + n) hby; omega)
  have hr := run_append_more (P := P) w t tn o.type e i z kn E.ht htn hi hz b xs.length xs hold n h0 hsz (by omega) (by rw [hbb]; have := Nat.mul_le_mul_left n hby; omega) hfit
  have hge := grownCap_ge w (xs.length + n) xs.length e
  have hcm := grownCap_le_maxLen w (xs.length + n) xs.length e (by unfold maxLen; omega)
  refine wpList_plain hgd fun K hK => ?_
  unfold Oper.wp execOp
  simp only [ho, resolve, invoke, builtin, Sem.run_bind, Sem.run_pure, Result.andThen_ok, List.map_toArray, List.map_cons, List.map_nil, hs, hx, hv, hr]
  refine hK _ _ (h _ _ ⟨IsS.mk hge, by simp, hcm, .inr ⟨Nat.le_refl _, _, heap_alloc_new w.drew _, ?_, ?_⟩⟩ ((Below.refl _ _).drew.alloc (Nat.le_refl _) _) rfl rfl (by rw [sCap_mk]; omega))
  · simp only [sOff_mk, sCap_mk, Array.size_append, List.size_toArray, size_zeroCells, hzc]; simp; omega
  · simp only [sOff_mk, Array.toList_append, List.drop_zero, hzc, zeroCells_rep]
    rw [List.take_left' (by simp)]
theorem intI : Tryz.prog.underlying 3 = some (.int .i64) := Tryz.underlying3
/-- What Grow gives: the slice itself, or a new one. -/
structure GrP (s r : Value) (n B : Nat) (L : Nat) (w w' : World) : Prop where
  own : ∃ ys : List Value, ys.length = L ∧ Own w' B 147 r ys
  room : L + n ≤ sCap r
  how : (w' = w ∧ r = s) ∨ (w.heap.size ≤ sBlk r ∧ sOff r = 0 ∧ Below w.heap.size w w')
set_option maxRecDepth 100000 in
set_option maxHeartbeats 800000 in
theorem growW_any (s : Value) (xs : List Value) (n B : Nat) (w : World) (hs : Own w B 147 s xs) (hn : n ≤ 100000000) (hl : xs.length ≤ 100000000) (hB : B ≤ w.heap.size) :
    Calls Tryz.prog 206 #[s, .int .i64 n] w fun e w' => ∃ r, e = .returned r ∧ GrP s r n B xs.length w w' := by
  have hS := hs.isS
  have hle := hS.le
  have hL := hs.len
  obtain ⟨L, hLL⟩ : ∃ L, L = xs.length := ⟨_, rfl⟩
  rw [← hLL] at hL ⊢
  obtain ⟨c, hcc⟩ : ∃ c, c = sCap s := ⟨_, rfl⟩
  have hcm := hs.cap
  unfold maxLen at hcm
  rw [← hcc] at hle hcm
  rw [← hLL] at hl
  by_cases hr : L + n ≤ c
  · have Q : Hid (GrP s s n B L w w) := Lib.hid ⟨⟨xs, hLL.symm, hs⟩, by omega, .inl ⟨rfl, rfl⟩⟩
    have t1 : decide ((n : Int) < 0) = false := decide_eq_false (by omega)
    have t2 : decide ((n : Int) - ((c : Int) - (L : Int)) > 0) = false := decide_eq_false (by omega)
    have t2' : decide (0 < (n : Int) - ((c : Int) - (L : Int))) = false := decide_eq_false (by omega)
    have hcap : sCap s = c := hcc.symm
    clear hs hcc hLL
    go_enter Tryz.func206, Tryz.ntmps206
    go_wp2
    go_ret
    exact ⟨_, rfl, Q.out⟩
  · obtain ⟨m, hm⟩ : ∃ m, L + n = c + m := ⟨L + n - c, by omega⟩
    have e1 : (n : Int) - ((c : Int) - (L : Int)) = (m : Int) := by omega
    have hmp : 0 < m := by omega
    have t1 : decide ((n : Int) < 0) = false := decide_eq_false (by omega)
    have t2 : decide ((m : Int) > 0) = true := decide_eq_true (by omega)
    have t2' : decide (0 < m) = true := decide_eq_true hmp
    obtain ⟨ys, hy, ho⟩ := hs.grow (n := c) (by omega)
    have hSo := ho.isS
    have hco : sCap (subS s 0 c) = ys.length := by rw [subS_cap hS, hy]; omega
    have hcap : sCap s = c := hcc.symm
    have HO := Lib.hid ho
    have HCO := Lib.hid hco
    have HY := Lib.hid hy
    have HM := Lib.hid hm
    have HB := Lib.hid hB
    have hmb : m ≤ 200000000 := by omega
    clear hs hcc hLL ho hco hy hm hr hB
    go_enter Tryz.func206, Tryz.ntmps206
    go_wp2_with (at_builtin; refine wpList_appendN_O rfl _ _ _ _ rfl elemW intI (by decide) B _ ys rfl HO.out HCO.out m rfl hmp ?c1 ?_)
    case c1 => rw [HY.out]; omega
    intro v' w1 ho1 hb1 hof hbl hcp
    have hS1 := ho1.isS
    have hl1 : sLen v' = c + m := by rw [ho1.len, List.length_append, List.length_replicate, HY.out]
    have hc1 := hS1.le
    have hsub := ho1.sub (l := 0) (n := L) (Nat.zero_le _) (by rw [List.length_append, List.length_replicate, HY.out]; omega)
    have Q : Hid (GrP s (subS v' 0 L) n B L w w1) := Lib.hid ⟨⟨_, by rw [List.length_drop, List.length_take, List.length_append, List.length_replicate, HY.out]; omega, hsub.mono HB.out⟩, by rw [subS_cap hS1]; have := HM.out; omega, .inr ⟨by rw [subS_blk hS1, hbl]; exact Nat.le_refl _, by rw [subS_off0 hS1]; exact hof, hb1⟩⟩
    have hSq := hsub.isS
    clear ho1 hb1 hof hbl hsub
    go_wp2
    go_ret
    exact ⟨_, rfl, Q.out⟩
set_option maxRecDepth 100000 in
set_option maxHeartbeats 800000 in
theorem growN_any (s : Value) (xs : List Value) (n B : Nat) (w : World) (hs : Own w B 147 s xs) (hn : n ≤ 100000000) (hl : xs.length ≤ 100000000) (hB : B ≤ w.heap.size) :
    Calls Tryz.prog 189 #[s, .int .i64 n] w fun e w' => ∃ r, e = .returned r ∧ GrP s r n B xs.length w w' := by
  have hS := hs.isS
  have hle := hS.le
  have hL := hs.len
  obtain ⟨L, hLL⟩ : ∃ L, L = xs.length := ⟨_, rfl⟩
  rw [← hLL] at hL ⊢
  obtain ⟨c, hcc⟩ : ∃ c, c = sCap s := ⟨_, rfl⟩
  have hcm := hs.cap
  unfold maxLen at hcm
  rw [← hcc] at hle hcm
  rw [← hLL] at hl
  by_cases hr : L + n ≤ c
  · have Q : Hid (GrP s s n B L w w) := Lib.hid ⟨⟨xs, hLL.symm, hs⟩, by omega, .inl ⟨rfl, rfl⟩⟩
    have t1 : decide ((n : Int) < 0) = false := decide_eq_false (by omega)
    have t2 : decide ((n : Int) - ((c : Int) - (L : Int)) > 0) = false := decide_eq_false (by omega)
    have t2' : decide (0 < (n : Int) - ((c : Int) - (L : Int))) = false := decide_eq_false (by omega)
    have hcap : sCap s = c := hcc.symm
    clear hs hcc hLL
    go_enter Tryz.func189, Tryz.ntmps189
    go_wp2
    go_ret
    exact ⟨_, rfl, Q.out⟩
  · obtain ⟨m, hm⟩ : ∃ m, L + n = c + m := ⟨L + n - c, by omega⟩
    have e1 : (n : Int) - ((c : Int) - (L : Int)) = (m : Int) := by omega
    have hmp : 0 < m := by omega
    have t1 : decide ((n : Int) < 0) = false := decide_eq_false (by omega)
    have t2 : decide ((m : Int) > 0) = true := decide_eq_true (by omega)
    have t2' : decide (0 < m) = true := decide_eq_true hmp
    obtain ⟨ys, hy, ho⟩ := hs.grow (n := c) (by omega)
    have hSo := ho.isS
    have hco : sCap (subS s 0 c) = ys.length := by rw [subS_cap hS, hy]; omega
    have hcap : sCap s = c := hcc.symm
    have HO := Lib.hid ho
    have HCO := Lib.hid hco
    have HY := Lib.hid hy
    have HM := Lib.hid hm
    have HB := Lib.hid hB
    have hmb : m ≤ 200000000 := by omega
    clear hs hcc hLL ho hco hy hm hr hB
    go_enter Tryz.func189, Tryz.ntmps189
    go_wp2_with (at_builtin; refine wpList_appendN_O rfl _ _ _ _ rfl elemT intI (by decide) B _ ys rfl HO.out HCO.out m rfl hmp ?c1 ?_)
    case c1 => rw [HY.out]; omega
    intro v' w1 ho1 hb1 hof hbl hcp
    have hS1 := ho1.isS
    have hl1 : sLen v' = c + m := by rw [ho1.len, List.length_append, List.length_replicate, HY.out]
    have hc1 := hS1.le
    have hsub := ho1.sub (l := 0) (n := L) (Nat.zero_le _) (by rw [List.length_append, List.length_replicate, HY.out]; omega)
    have Q : Hid (GrP s (subS v' 0 L) n B L w w1) := Lib.hid ⟨⟨_, by rw [List.length_drop, List.length_take, List.length_append, List.length_replicate, HY.out]; omega, hsub.mono HB.out⟩, by rw [subS_cap hS1]; have := HM.out; omega, .inr ⟨by rw [subS_blk hS1, hbl]; exact Nat.le_refl _, by rw [subS_off0 hS1]; exact hof, hb1⟩⟩
    have hSq := hsub.isS
    clear ho1 hb1 hof hbl hsub
    go_wp2
    go_ret
    exact ⟨_, rfl, Q.out⟩
end Go.Proofs.YtkhhoamcnocjlaaGreatDoor

/-
The stack of the numbers: its words. No condition.
-/
namespace Go.Proofs.YtkhhoamcnocjlaaGreatDoor
open Go.RowKit

theorem i64_up4 {a : Nat} (ha : a < 4611686018427387904) : bits .andNot .i64 (a : Int) 3 = ((a / 4 * 4 : Nat) : Int) := by
  have h := andNot_clear (d := a) (t := 2) (by decide) (by omega)
  have h' : IntKind.u64.wrap (((BitVec.ofInt 64 (a : Int) &&& ~~~BitVec.ofInt 64 3).toNat : Nat) : Int) = ((a / 4 * 4 : Nat) : Int) := h
  have hlt := (BitVec.ofInt 64 (a : Int) &&& ~~~BitVec.ofInt 64 3).isLt
  show IntKind.i64.wrap (((BitVec.ofInt 64 (a : Int) &&& ~~~BitVec.ofInt 64 3).toNat : Nat) : Int) = _
  generalize (BitVec.ofInt 64 (a : Int) &&& ~~~BitVec.ofInt 64 3).toNat = N at *
  rw [IntKind.wrap_u64] at h'
  rw [IntKind.wrap_i64]
  omega
/-- A store behind an owned slice. -/
theorem Own.beside {w : World} {B : Nat} {e : TypeId} {y : Value} {ys : List Value} (h : Own w B e y ys) {i : Nat} (u : Value) (hi : sOff y + ys.length ≤ i) : Own (w.setCell ⟨sBlk y, i, none⟩ u) B e y ys := by
  refine ⟨h.isS, h.len, h.cap, ?_⟩
  rcases h.row with h0 | ⟨hb, cur, hg, hsz, ht⟩
  · exact .inl h0
  · refine .inr ⟨hb, _, heap_setCell_same w _ _ _ _ _ hg, by simpa using hsz, ?_⟩
    conv => rhs; rw [← ht]
    apply List.ext_getElem?
    intro k
    rw [Array.toList_setIfInBounds, List.getElem?_take, List.getElem?_take]
    split
    · rw [List.getElem?_drop, List.getElem?_drop, List.getElem?_set, if_neg (by omega)]
    · rfl
/-- v[l:h:h]. -/
def subM (v : Value) (l h : Nat) : Value :=
  match v with
  | .slice a _ _ => sliced a l h h 1
  | v => v
theorem subM_eq {v : Value} {l h : Nat} (hv : IsS v) (hlh : l < h) (hc : h ≤ sCap v) : subM v l h = .slice (some ⟨sBlk v, sOff v + l, none⟩) (h - l) (h - l) := by
  have hv2 := hv.out (by omega)
  rw [hv2]
  simp only [subM, sliced, sBlk_mk, sOff_mk, if_neg (show ¬ h = l by omega), Option.map_some, Nat.mul_one, Addr.add_mk]
@[go_sem] theorem run_slice_S_lhm {P : Program} {w : World} (t : TypeId) (v : Value) (kl kh km : IntKind) (l h : Int) (hv : IsS v) (ht : P.underlying t = some (.slice (P.elem t))) (hsz : (sizeOf (P.elem t)).run P w = .ok 1 w) :
    (Instr.slice t v (some (.int kl l)) (some (.int kh h)) (some (.int km h))).run P w = if 0 ≤ l ∧ l ≤ h ∧ h ≤ sCap v then .ok (subM v l.toNat h.toNat) w else (Instr.slice t v (some (.int kl l)) (some (.int kh h)) (some (.int km h))).run P w := by
  split
  · rename_i hb
    match v, hv with
    | .slice a n c, hv => exact (run_slice_lhm (P := P) w t a n c ht kl kh km l h h hb.1 hb.2.1 (Int.le_refl _) hb.2.2).trans (by simp only [hsz, Result.andThen_ok]; rfl)
  · rfl
theorem Own.subM {w : World} {B : Nat} {e : TypeId} {v : Value} {xs : List Value} (h : Own w B e v xs) {l n : Nat} (h1 : l < n) (h2 : n ≤ xs.length) :
    Own w B e (subM v l n) ((xs.take n).drop l) := by
  have hl := h.len
  have hcap := h.isS.le
  have hc2 := h.cap
  rw [subM_eq h.isS h1 (by omega)]
  refine ⟨IsS.mk (Nat.le_refl _), by simp; omega, by rw [sCap_mk]; omega, ?_⟩
  rcases h.row with h0 | ⟨hb, cur, hg, hsz, ht⟩
  · omega
  · refine .inr ⟨hb, cur, hg, ?_, ?_⟩
    · show sOff v + l + (n - l) ≤ cur.size
      omega
    · show (cur.toList.drop (sOff v + l)).take _ = _
      have e1 : ((xs.take n).drop l).length = n - l := by simp; omega
      rw [e1]
      conv => rhs; rw [← ht]
      rw [List.take_take, List.drop_take, List.drop_drop, show min n xs.length = n by omega]
/-- What stackInner.nat leaves. -/
structure SiP (q n B L : Nat) (v x v' : Value) (w w' : World) : Prop where
  row : w'.heap[q]? = some (.cells #[v'] 205 (0, 0))
  own : ∃ ys : List Value, L ≤ ys.length ∧ ys.length ≤ L + n + 3 ∧ Own w' B 147 v' ys
  ownx : ∃ zs : List Value, zs.length = n ∧ Own w' B 147 x zs
  pos : sBlk x = sBlk v' ∧ sOff x = sOff v' + L ∧ sCap x = n ∧ L + n ≤ sLen v'
  at' : (sBlk v' = sBlk v ∧ sOff v' = sOff v ∧ 0 < sCap v) ∨ w.heap.size ≤ sBlk v'
  below : Below B w w'
  frame : ∀ k, k < w.heap.size → k ≠ q → (0 < sCap v → k ≠ sBlk v) → w'.heap[k]? = w.heap[k]?
  live : ∀ y ys, Own w B 147 y ys → (0 < sCap v → sBlk y = sBlk v → sOff y + sCap y ≤ sOff v + L) → Own w' B 147 y ys
set_option maxRecDepth 100000 in
set_option maxHeartbeats 1600000 in
theorem sinat_any (q n B L : Nat) (v : Value) (xs : List Value) (w : World) (hrow : w.heap[q]? = some (.cells #[v] 205 (0, 0))) (ho : Own w B 147 v xs) (hL : xs.length = L) (hB : B ≤ w.heap.size) (hBq : B ≤ q) (hn0 : 0 < n) (hn : n ≤ 1000000) (hl : L ≤ 1000000) :
    Calls Tryz.prog 190 #[.pointer (some ⟨q, 0, none⟩), .int .i64 n] w fun e w' => ∃ x v', e = .returned x ∧ SiP q n B L v x v' w w' := by
  have hS := ho.isS
  have hLv : sLen v = L := by rw [ho.len, hL]
  have hC := hS.le
  obtain ⟨m, hm⟩ : ∃ m, m = (n + 3) / 4 * 4 := ⟨_, rfl⟩
  have hm1 : n ≤ m ∧ m ≤ n + 3 := by omega
  have e1 : bits .andNot .i64 ((n : Int) + 3) 3 = (m : Int) := by rw [hm]; exact i64_up4 (a := n + 3) (by omega)
  obtain ⟨hm2, hm3⟩ := hm1
  obtain ⟨c0, f0⟩ := row_at (i := 0) hrow rfl
  have hql := get_lt hrow
  have HR := Lib.hid hrow
  have HO := Lib.hid ho
  have HL := Lib.hid hL
  have HB := Lib.hid hB
  have HGR := Lib.hid (growW_any v xs m B w ho (by omega) (by omega) hB)
  rw [hL] at HGR
  clear hrow ho hL hm hB
  go_enter Tryz.func190, Tryz.ntmps190
  go_wp2_with fail
  refine HGR.out.mono ?_
  rintro _ w1 ⟨r, rfl, hgr⟩
  obtain ⟨ys, hys, hor⟩ := hgr.own
  have hroom := hgr.room
  have hSr := hor.isS
  have hLr : sLen r = L := by rw [hor.len, hys]
  have hb1 : Below w.heap.size w w1 := by
    rcases hgr.how with ⟨rfl, -⟩ | ⟨-, -, h⟩
    · exact Below.refl _ _
    · exact h
  have rq1 := keep_row hb1 HR.out
  obtain ⟨c1, f1⟩ := row_at (i := 0) rq1 rfl
  have rq2 := rowset (i := 0) r rq1
  obtain ⟨zs, hzs, hoz⟩ := hor.grow (n := L + m) hroom
  have hSz := hoz.isS
  have hLz : sLen (subS r 0 (L + m)) = L + m := by rw [hoz.len, hzs]
  have hCz : sCap (subS r 0 (L + m)) = sCap r := subS_cap hSr
  have rq3 := rowset (i := 0) (subS r 0 (L + m)) rq2
  have hoz2 := ((hoz.away rq1 (by decide) 0 r).away rq2 (by decide) 0 (subS r 0 (L + m)))
  have hx := hoz2.subM (l := L) (n := L + n) (by omega) (by omega)
  have hxe := subM_eq (l := L) (h := L + n) hSz (by omega) (by omega)
  rw [(sub0 hSr).1, (sub0 hSr).2, Nat.add_sub_cancel_left] at hxe
  have hbk : sBlk (subM (subS r 0 (L + m)) L (L + n)) = sBlk r := by rw [hxe]; rfl
  have hof : sOff (subM (subS r 0 (L + m)) L (L + n)) = sOff r + L := by rw [hxe]; rfl
  have hcp : sCap (subM (subS r 0 (L + m)) L (L + n)) = n := by rw [hxe]; rfl
  have hln : sLen (subM (subS r 0 (L + m)) L (L + n)) = n := by rw [hxe]; simp
  obtain ⟨X, hX⟩ : ∃ X, subM (subS r 0 (L + m)) L (L + n) = X := ⟨_, rfl⟩
  rw [hX] at hx hbk hof hcp hln
  have hSx : IsS X := hx.isS
  have hxl : (((zs.take (L + n)).drop L)).length = n := by simp; omega
  obtain ⟨u0, hu0⟩ : ∃ u, ((zs.take (L + n)).drop L)[0]? = some u := ⟨_, List.getElem?_eq_getElem (by omega)⟩
  have cx := hx.cell hu0
  have hcx : 0 < sCap X := by omega
  have fx := hx.frozen hcx (sOff X)
  have hxs := hx.set (i := 0) (by omega) (.int .u64 1043915)
  have hBx := (hx.lt hcx).1
  rw [Nat.add_zero] at cx hxs
  have Q : Hid (SiP q n B L v X (subS r 0 (L + m)) w (((w1.setCell ⟨q, 0, none⟩ r).setCell ⟨q, 0, none⟩ (subS r 0 (L + m))).setCell ⟨sBlk X, sOff X, none⟩ (.int .u64 1043915))) := Lib.hid (by
    have hqr : q ≠ sBlk r := by
      intro he
      rcases hor.row with h0 | ⟨-, cur, hg, -⟩
      · omega
      · rw [← he, rq1] at hg
        have h5 := Option.some.inj hg
        injection h5 with h6 h7
        exact absurd h7 (by decide)
    have hb3 : Below B w (((w1.setCell ⟨q, 0, none⟩ r).setCell ⟨q, 0, none⟩ (subS r 0 (L + m))).setCell ⟨sBlk X, sOff X, none⟩ (.int .u64 1043915)) :=
      bset (bset (bset (hb1.mono HB.out) hBq) hBq) hBx
    refine ⟨?_, ⟨_, ?_, ?_, hoz2.set (i := L) (by omega) (.int .u64 1043915) |> fun h => by rw [(sub0 hSr).1, (sub0 hSr).2] at h; rw [hbk, hof]; exact h⟩, ⟨_, by rw [List.length_set]; exact hxl, hxs⟩, ⟨by rw [hbk, (sub0 hSr).1], by rw [hof, (sub0 hSr).2], hcp, by omega⟩, ?_, hb3, ?_, ?_⟩
    · rw [heap_setCell_other _ _ _ _ (by simp only; rw [hbk]; exact hqr)]; exact rq3
    · rw [List.length_set]; omega
    · rw [List.length_set]; omega
    · rw [(sub0 hSr).1, (sub0 hSr).2]
      rcases hgr.how with ⟨-, rfl⟩ | ⟨h, -, -⟩
      · exact .inl ⟨rfl, rfl, by omega⟩
      · exact .inr h
    · intro k hk hkq hkv
      have hkr : k ≠ sBlk r := by
        rcases hgr.how with ⟨-, rfl⟩ | ⟨h, -, -⟩
        · exact hkv (by omega)
        · omega
      rw [heap_setCell_other _ _ _ _ (by simp only; rw [hbk]; exact hkr), heap_setCell_other _ _ _ _ (by simp only; exact hkq), heap_setCell_other _ _ _ _ (by simp only; exact hkq)]
      exact hb1.block k hk
    · intro y ys' hy hlive
      have hy2 : Own ((w1.setCell ⟨q, 0, none⟩ r).setCell ⟨q, 0, none⟩ (subS r 0 (L + m))) B 147 y ys' := ((hy.below hb1).away rq1 (by decide) 0 r).away rq2 (by decide) 0 (subS r 0 (L + m))
      rw [hbk, hof]
      by_cases hyb : sBlk y = sBlk r
      · rw [← hyb]
        by_cases hyc0 : sCap y = 0
        · exact hy2.same fun h => by omega
        · refine hy2.beside _ ?_
          have hyl := hy.len
          have hyc := hy.isS.le
          rcases hgr.how with ⟨-, rfl⟩ | ⟨h, -, -⟩
          · have := hlive (by omega) hyb; omega
          · have := (hy.lt (by omega)).2; omega
      · exact hy2.same fun _ => heap_setCell_other _ _ _ _ (by simp only; exact hyb))
  clear hor hgr rq1 rq2 rq3 hoz hoz2 hx hu0 hxs hb1 hxe hxl hbk hof hcp
  go_wp2
  go_ret
  exact ⟨X, _, by rw [← hX]; rfl, Q.out⟩
end Go.Proofs.YtkhhoamcnocjlaaGreatDoor

/-
The stack of the numbers: save, restore, nat. No condition.
-/
namespace Go.Proofs.YtkhhoamcnocjlaaGreatDoor
open Go.RowKit

/-- The stack at block s: without words yet, or with the words' box and the words. -/
def StO (w : World) (B s L : Nat) : Option (Nat × Value) → Prop
  | none => B ≤ s ∧ w.heap[s]? = some (.cells #[.pointer none] 184 (0, 0)) ∧ L = 0
  | some qv => B ≤ s ∧ B ≤ qv.1 ∧ w.heap[s]? = some (.cells #[.pointer (some ⟨qv.1, 0, none⟩)] 184 (0, 0)) ∧ w.heap[qv.1]? = some (.cells #[qv.2] 205 (0, 0)) ∧ ∃ xs : List Value, Own w B 147 qv.2 xs ∧ xs.length = L
/-- The stack's blocks. -/
def SBk (s : Nat) (o : Option (Nat × Value)) (k : Nat) : Prop := k = s ∨ ∃ qv, o = some qv ∧ (k = qv.1 ∨ (0 < sCap qv.2 ∧ k = sBlk qv.2))
/-- y does not lie where the stack's free words are. -/
def Cl (o : Option (Nat × Value)) (L : Nat) (y : Value) : Prop := ∀ qv, o = some qv → 0 < sCap qv.2 → 0 < sCap y → sBlk y = sBlk qv.2 → sOff y + sCap y ≤ sOff qv.2 + L
theorem StO.below {w w' : World} {B s L : Nat} {o : Option (Nat × Value)} (h : StO w B s L o) (hb : Below w.heap.size w w') : StO w' B s L o := by
  match o, h with
  | none, ⟨h0, h1, h2⟩ => exact ⟨h0, keep_row hb h1, h2⟩
  | some qv, ⟨h0, h1, h2, h3, xs, h4, h5⟩ => exact ⟨h0, h1, keep_row hb h2, keep_row hb h3, xs, h4.below hb, h5⟩
theorem StO.base {w : World} {B s L : Nat} {o : Option (Nat × Value)} (h : StO w B s L o) {k : Nat} (hk : SBk s o k) : B ≤ k ∧ k < w.heap.size := by
  match o, h with
  | none, ⟨h0, h1, h2⟩ =>
    rcases hk with rfl | ⟨_, h, _⟩
    · exact ⟨h0, get_lt h1⟩
    · cases h
  | some qv, ⟨h0, h1, h2, h3, xs, h4, h5⟩ =>
    rcases hk with rfl | ⟨_, h, h6 | ⟨h6, h7⟩⟩
    · exact ⟨h0, get_lt h2⟩
    · cases h; rw [h6]; exact ⟨h1, get_lt h3⟩
    · cases h; rw [h7]; exact h4.lt h6
set_option maxRecDepth 100000 in
theorem save_any (s B L : Nat) (o : Option (Nat × Value)) (w : World) (h : StO w B s L o) :
    Calls Tryz.prog 167 #[.pointer (some ⟨s, 0, none⟩)] w fun e w' => e = .returned (.int .i64 (L : Int)) ∧ w = w' := by
  match o, h with
  | none, ⟨h0, h1, h2⟩ =>
    subst h2
    obtain ⟨c0, -⟩ := row_at (i := 0) h1 rfl
    clear h1
    go_enter Tryz.func167, Tryz.ntmps167
    go_wp2
    go_ret
    exact ⟨rfl, rfl⟩
  | some (q, v), ⟨h0, h1, h2, h3, xs, h4, h5⟩ =>
    have c0 : w.cell? ⟨s, 0, none⟩ = some (.pointer (some ⟨q, 0, none⟩)) := (row_at (i := 0) h2 rfl).1
    have c1 : w.cell? ⟨q, 0, none⟩ = some v := (row_at (i := 0) h3 rfl).1
    have hS : IsS v := h4.isS
    have hL : sLen v = L := by rw [h4.len, h5]
    have HI : Hid (Calls Tryz.prog 188 #[.pointer (some ⟨q, 0, none⟩)] w fun e w' => e = .returned (.int .i64 (L : Int)) ∧ w = w') := Lib.hid (by
      clear h1 h2 h3 h4 h5 c0
      go_enter Tryz.func188, Tryz.ntmps188
      go_wp2
      go_ret
      exact ⟨rfl, rfl⟩)
    clear h1 h2 h3 h4 h5 c1 hL
    go_enter Tryz.func167, Tryz.ntmps167
    go_wp2_with fail
    refine HI.out.mono ?_
    rintro _ _ ⟨rfl, rfl⟩
    go_wp2
    go_ret
    exact ⟨rfl, rfl⟩
set_option maxRecDepth 100000 in
theorem restore_none (s n : Nat) (u : FrameMode) (w : World) (hs : w.heap[s]? = some (.cells #[.pointer none] 184 (0, 0))) :
    CallsD Tryz.prog 166 #[.pointer (some ⟨s, 0, none⟩), .int .i64 (n : Int)] u w fun e u' w' => u' = u ∧ (e = .returned (.tuple #[]) ∧ w' = w) := by
  obtain ⟨c0, -⟩ := row_at (i := 0) hs rfl
  clear hs
  go_enter_d Tryz.func166, Tryz.ntmps166
  go_wp2
  refine bodyPost_ret (results_none rfl _ _ _) rfl ?_
  exact ⟨rfl, rfl⟩
set_option maxRecDepth 100000 in
theorem restore_some (s q n : Nat) (v : Value) (u : FrameMode) (w : World) (hs : w.heap[s]? = some (.cells #[.pointer (some ⟨q, 0, none⟩)] 184 (0, 0))) (hq : w.heap[q]? = some (.cells #[v] 205 (0, 0))) (hv : IsS v) (hn : n ≤ sCap v) (_hn2 : n ≤ 100000000) :
    CallsD Tryz.prog 166 #[.pointer (some ⟨s, 0, none⟩), .int .i64 (n : Int)] u w fun e u' w' => u' = u ∧ (e = .returned (.tuple #[]) ∧ w' = w.setCell ⟨q, 0, none⟩ (subS v 0 n)) := by
  have c0 : w.cell? ⟨s, 0, none⟩ = some (.pointer (some ⟨q, 0, none⟩)) := (row_at (i := 0) hs rfl).1
  obtain ⟨c1, f1⟩ : w.cell? ⟨q, 0, none⟩ = some v ∧ w.frozen? ⟨q, 0, none⟩ = false := ⟨(row_at (i := 0) hq rfl).1, (row_at (i := 0) hq rfl).2⟩
  have hS0 : IsS (subS v 0 n) := subS_isS hv (Nat.zero_le _) hn
  have HI : Hid (Calls Tryz.prog 187 #[.pointer (some ⟨q, 0, none⟩), .int .i64 (n : Int)] w fun e w' => e = .returned (.tuple #[]) ∧ w' = w.setCell ⟨q, 0, none⟩ (subS v 0 n)) := Lib.hid (by
    clear hs hq c0
    go_enter Tryz.func187, Tryz.ntmps187
    go_wp2
    go_end0
    exact ⟨rfl, rfl⟩)
  clear hs hq c1 f1
  go_enter_d Tryz.func166, Tryz.ntmps166
  go_wp2_with fail
  refine HI.out.mono ?_
  rintro _ _ ⟨rfl, rfl⟩
  go_wp2
  go_end0
  exact ⟨rfl, rfl⟩
set_option maxRecDepth 100000 in
theorem free_some (s q : Nat) (v : Value) (u : FrameMode) (w : World) (hs : w.heap[s]? = some (.cells #[.pointer (some ⟨q, 0, none⟩)] 184 (0, 0))) (hq : w.heap[q]? = some (.cells #[v] 205 (0, 0))) (hv : IsS v) :
    CallsD Tryz.prog 103 #[.pointer (some ⟨s, 0, none⟩)] u w fun e u' w' => u' = u ∧ (e = .returned (.tuple #[]) ∧ w' = w.setCell ⟨q, 0, none⟩ (subS v 0 0)) := by
  have c0 : w.cell? ⟨s, 0, none⟩ = some (.pointer (some ⟨q, 0, none⟩)) := (row_at (i := 0) hs rfl).1
  obtain ⟨c1, f1⟩ : w.cell? ⟨q, 0, none⟩ = some v ∧ w.frozen? ⟨q, 0, none⟩ = false := ⟨(row_at (i := 0) hq rfl).1, (row_at (i := 0) hq rfl).2⟩
  have hS0 : IsS (subS v 0 0) := subS_isS hv (Nat.zero_le _) (Nat.zero_le _)
  have HI : Hid (Calls Tryz.prog 135 #[.pointer (some ⟨q, 0, none⟩)] w fun e w' => e = .returned (.tuple #[]) ∧ w' = w.setCell ⟨q, 0, none⟩ (subS v 0 0)) := Lib.hid (by
    clear hs hq c0
    go_enter Tryz.func135, Tryz.ntmps135
    go_wp2
    go_end0
    exact ⟨rfl, rfl⟩)
  clear hs hq c1 f1
  go_enter_d Tryz.func103, Tryz.ntmps103
  go_wp2_with fail
  refine HI.out.mono ?_
  rintro _ _ ⟨rfl, rfl⟩
  go_wp2
  go_end0
  exact ⟨rfl, rfl⟩
/-- What nat leaves. -/
structure NtP (s n B L : Nat) (o : Option (Nat × Value)) (x : Value) (o' : Option (Nat × Value)) (L' : Nat) (w w' : World) : Prop where
  st : StO w' B s L' o'
  le : L ≤ L' ∧ L' ≤ L + n + 3
  sb : ∀ k, SBk s o' k → SBk s o k ∨ w.heap.size ≤ k
  own : ∃ zs : List Value, zs.length = n ∧ Own w' B 147 x zs
  cl : Cl o' L' x
  below : Below B w w'
  frame : ∀ k, k < w.heap.size → ¬ SBk s o k → w'.heap[k]? = w.heap[k]?
  live : ∀ y ys, Own w B 147 y ys → Cl o L y → Own w' B 147 y ys ∧ Cl o' L' y ∧ (0 < sCap y → sBlk x = sBlk y → sOff y + sCap y ≤ sOff x)
  at' : 0 < sCap x → SBk s o' (sBlk x) ∨ w.heap.size ≤ sBlk x
set_option maxRecDepth 100000 in
set_option maxHeartbeats 800000 in
theorem nat_some (s n B L q : Nat) (v : Value) (w : World) (h : StO w B s L (some (q, v))) (hB : B ≤ w.heap.size) (hn0 : 0 < n) (hn : n ≤ 1000000) (hl : L ≤ 1000000) :
    Calls Tryz.prog 168 #[.pointer (some ⟨s, 0, none⟩), .int .i64 n] w fun e w' => ∃ x o' L', e = .returned x ∧ NtP s n B L (some (q, v)) x o' L' w w' := by
  obtain ⟨h0, h1, h2, h3, xs, h4, h5⟩ := h
  simp only at h1 h2 h3 h4
  have c0 : w.cell? ⟨s, 0, none⟩ = some (.pointer (some ⟨q, 0, none⟩)) := (row_at (i := 0) h2 rfl).1
  have HS := Lib.hid (sinat_any q n B L v xs w h3 h4 h5 hB h1 hn0 hn hl)
  have HF : Hid (∀ x v' w', SiP q n B L v x v' w w' → NtP s n B L (some (q, v)) x (some (q, v')) (sLen v') w w') := Lib.hid (fun x v' w' p => by
    obtain ⟨ys, hy1, hy2, hyo⟩ := p.own
    have hlv : sLen v' = ys.length := hyo.len
    obtain ⟨p1, p2, p3, p4⟩ := p.pos
    have hsq : s ≠ q := fun he => by
      rw [he, h3] at h2
      have h7 := Option.some.inj h2
      injection h7 with _ h8
      exact absurd h8 (by decide)
    have hsv : 0 < sCap v → s ≠ sBlk v := fun hc he => by
      rcases h4.row with h | ⟨-, cur, hg, -⟩
      · omega
      · rw [← he, h2] at hg
        have h7 := Option.some.inj hg
        injection h7 with _ h8
        exact absurd h8 (by decide)
    have hrs : w'.heap[s]? = some (.cells #[.pointer (some ⟨q, 0, none⟩)] 184 (0, 0)) := (p.frame s (get_lt h2) hsq hsv).trans h2
    refine ⟨⟨h0, h1, hrs, p.row, ys, hyo, hlv.symm⟩, ⟨by omega, by omega⟩, ?_, p.ownx, ?_, p.below, ?_, ?_, fun _ => .inl (.inr ⟨_, rfl, .inr ⟨?_, p1⟩⟩)⟩
    · rintro k (rfl | ⟨qv, hqv, hk⟩)
      · exact .inl (.inl rfl)
      · cases hqv
        rcases hk with hk | ⟨hk1, hk2⟩
        · exact .inl (.inr ⟨_, rfl, .inl hk⟩)
        · rcases p.at' with ⟨a1, a2, a3⟩ | a1
          · exact .inl (.inr ⟨_, rfl, .inr ⟨a3, hk2.trans a1⟩⟩)
          · exact .inr (by rw [hk2]; exact a1)
    · rintro qv hqv - - -
      cases hqv
      simp only
      omega
    · intro k hk hnk
      exact p.frame k hk (fun he => hnk (.inr ⟨_, rfl, .inl he⟩)) (fun hc he => hnk (.inr ⟨_, rfl, .inr ⟨hc, he⟩⟩))
    · intro y ys' hy hcl
      have hcl' := hcl (q, v) rfl
      simp only at hcl'
      have hyc : 0 < sCap y → sBlk y = sBlk v' → sOff y + sCap y ≤ sOff v' + L := fun hc he => by
        rcases p.at' with ⟨a1, a2, a3⟩ | a1
        · rw [a2]; exact hcl' a3 hc (he.trans a1)
        · have := (hy.lt hc).2; omega
      by_cases hc0 : 0 < sCap y
      · refine ⟨p.live y ys' hy (fun a b => hcl' a hc0 b), ?_, fun hc he => ?_⟩
        · rintro qv hqv - hc he
          cases hqv
          have := hyc hc he
          simp only; omega
        · have := hyc hc (by rw [← he]; exact p1); omega
      · refine ⟨?_, fun _ _ _ h => absurd h hc0, fun h => absurd h hc0⟩
        refine ⟨hy.isS, hy.len, hy.cap, .inl (by omega)⟩
    · show 0 < sCap v'
      have := hyo.isS.le; omega)
  clear h2 h3 h4 h5
  go_enter Tryz.func168, Tryz.ntmps168
  go_wp2_with fail
  refine HS.out.mono ?_
  rintro _ w1 ⟨x, v', rfl, p⟩
  obtain ⟨zs, -, hzo⟩ := p.ownx
  have hSx := hzo.isS
  have Q := Lib.hid (HF.out x v' w1 p)
  clear p hzo
  go_wp2
  go_ret
  exact ⟨_, _, _, rfl, Q.out⟩
end Go.Proofs.YtkhhoamcnocjlaaGreatDoor
