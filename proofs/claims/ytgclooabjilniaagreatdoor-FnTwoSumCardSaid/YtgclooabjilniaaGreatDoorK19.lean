/-
Texts of this proof, joined: MuB MuC StA StB FlR StC TzC TzD InF. No condition.
-/
import Derived.Test.YtgclooabjilniaaGreatDoorK05
import Derived.Test.YtgclooabjilniaaGreatDoorK15
import Derived.Test.YtgclooabjilniaaGreatDoorK16
import Derived.Test.YtgclooabjilniaaGreatDoorK18
/-
Products of words: basicMul. No condition.
-/
namespace Go.Proofs.YtgclooabjilniaaGreatDoor
open Go.RowKit

theorem wdsN_sub {Z L k m : Nat} (h : k + m ≤ L) : ((wdsN Z L).take (k + m)).drop k = wdsN (Z / 18446744073709551616 ^ k) m := by
  refine wdsN_of ?_ fun j hj => ?_
  · rw [List.length_drop, List.length_take, wdsN_length]; omega
  · rw [List.getD_eq_getElem?_getD, List.getElem?_drop, List.getElem?_take, if_pos (by omega), ← List.getD_eq_getElem?_getD, wdsN_getD (by omega)]
    unfold wdg
    rw [Nat.div_div_eq_div_mul, ← Nat.pow_add]
theorem wdsN_take {Z L k : Nat} (h : k ≤ L) : (wdsN Z L).take k = wdsN Z k := by
  have := wdsN_sub (Z := Z) (L := L) (k := 0) (m := k) (by omega)
  rw [Nat.zero_add, List.drop_zero, Nat.pow_zero, Nat.div_one] at this
  exact this
theorem bm_words {Z V m k n S c : Nat} (hk : k < n) (hZ : Z < 18446744073709551616 ^ (m + k)) (hS : S = Z / 18446744073709551616 ^ k + V) (hc : S = wv (wdsN S m) + 18446744073709551616 ^ m * c) (hcl : c < 18446744073709551616) :
    ((wdsN Z (m + n)).take k ++ (wdsN S m ++ (wdsN Z (m + n)).drop (k + m))).set (m + k) c = wdsN (Z + 18446744073709551616 ^ k * V) (m + n) := by
  have hlt : ((wdsN Z (m + n)).take k).length = k := by rw [List.length_take, wdsN_length]; omega
  have hll : ((wdsN Z (m + n)).take k ++ (wdsN S m ++ (wdsN Z (m + n)).drop (k + m))).length = m + n := by
    rw [List.length_append, hlt, List.length_append, wdsN_length, List.length_drop, wdsN_length]; omega
  refine wdsN_eq (by rw [List.length_set, hll]) ?_ ⟨0, ?_⟩
  · refine set_lt ?_ hcl
    intro d hd
    rcases List.mem_append.1 hd with h | h
    · exact wdsN_lt d (List.mem_of_mem_take h)
    · rcases List.mem_append.1 h with h | h
      · exact wdsN_lt d h
      · exact wdsN_lt d (List.mem_of_mem_drop h)
  · have hw := wset (ws := (wdsN Z (m + n)).take k ++ (wdsN S m ++ (wdsN Z (m + n)).drop (k + m))) (i := m + k) (by rw [hll]; omega) c
    have hg : ((wdsN Z (m + n)).take k ++ (wdsN S m ++ (wdsN Z (m + n)).drop (k + m))).getD (m + k) 0 = 0 := by
      rw [List.getD_eq_getElem?_getD, List.getElem?_append_right (by omega), hlt, List.getElem?_append_right (by rw [wdsN_length]; omega), wdsN_length, List.getElem?_drop, ← List.getD_eq_getElem?_getD, wdsN_getD (by omega)]
      unfold wdg
      rw [show k + m + (m + k - k - m) = m + k by omega, Nat.div_eq_of_lt hZ]
    have hD : wv ((wdsN Z (m + n)).drop (k + m)) = 0 := by
      have h1 := wv_split (wdsN Z (m + n)) (k + m) (by rw [wdsN_length]; omega)
      rw [wdsN_take (by omega), wdsN_wv, wdsN_wv, Nat.mod_eq_of_lt (Nat.lt_of_lt_of_le hZ (Nat.pow_le_pow_right (by decide) (by omega))), Nat.add_comm k m, Nat.mod_eq_of_lt hZ] at h1
      have h2 : 18446744073709551616 ^ (m + k) * wv ((wdsN Z (m + n)).drop (m + k)) = 0 := by omega
      rcases Nat.mul_eq_zero.1 h2 with h3 | h3
      · exact absurd h3 (Nat.ne_of_gt (wpow_pos _))
      · rw [Nat.add_comm k m]; exact h3
    obtain ⟨W, hW⟩ : ∃ W, W = wv (((wdsN Z (m + n)).take k ++ (wdsN S m ++ (wdsN Z (m + n)).drop (k + m))).set (m + k) c) := ⟨_, rfl⟩
    rw [← hW] at hw ⊢
    rw [hg, wv_append, hlt, wv_append, wdsN_length, hD, wdsN_take (by omega), wdsN_wv] at hw
    have e1 : 18446744073709551616 ^ (m + k) * c = 18446744073709551616 ^ k * (18446744073709551616 ^ m * c) := by rw [Nat.pow_add, Nat.mul_comm (18446744073709551616 ^ m), Nat.mul_assoc]
    have e2 : 18446744073709551616 ^ k * S = 18446744073709551616 ^ k * wv (wdsN S m) + 18446744073709551616 ^ k * (18446744073709551616 ^ m * c) := by rw [← Nat.mul_add, ← hc]
    have e3 : 18446744073709551616 ^ k * S = 18446744073709551616 ^ k * (Z / 18446744073709551616 ^ k) + 18446744073709551616 ^ k * V := by rw [hS, Nat.mul_add]
    have e4 := Nat.div_add_mod Z (18446744073709551616 ^ k)
    rw [Nat.mul_zero, Nat.mul_zero, Nat.add_zero, Nat.add_zero] at hw
    rw [Nat.mul_zero, Nat.add_zero, hw, e1]
    omega
/-- Behind k words of the second factor. -/
def BmRel (z : Value) (xs ys : List Nat) (N B k : Nat) (w wr : World) : Prop :=
  Own wr B 128 z (cellsW (wdsN (wv xs * wv (ys.take k)) N)) ∧ Below B w wr ∧ FrB (sBlk z) (sOff z) (sOff z + N) w wr
set_option maxRecDepth 100000 in
set_option maxHeartbeats 6400000 in
theorem basicMul_any (z x y : Value) (os : List Value) (xs ys : List Nat) (B : Nat) (w : World) (hz : Own w B 128 z os) (hx : RW w x xs) (hy : RW w y ys) (hos : os.length = xs.length + ys.length) (hnx : sBlk x ≠ sBlk z) (hny : sBlk y ≠ sBlk z) (h0 : 0 < xs.length) (hl : os.length ≤ 1000000000) :
    Calls Tryz.prog 123 #[z, x, y] w fun e w' => e = .returned (.tuple #[]) ∧ Own w' B 128 z (cellsW (wdsN (wv xs * wv ys) os.length)) ∧ Below B w w' ∧ FrB (sBlk z) (sOff z) (sOff z + os.length) w w' := by
  have hS := hz.isS
  have hSx := hx.isS
  have hSy := hy.isS
  obtain ⟨m, hm⟩ : ∃ m, m = xs.length := ⟨_, rfl⟩
  obtain ⟨n, hn⟩ : ∃ n, n = ys.length := ⟨_, rfl⟩
  obtain ⟨N, hN⟩ : ∃ N, N = os.length := ⟨_, rfl⟩
  have hLz : sLen z = N := by rw [hz.len, hN]
  have hLx : sLen x = m := by rw [hx.len, hm]
  have hLy : sLen y = n := by rw [hy.len, hn]
  have hNm : N = m + n := by omega
  have hcz : N ≤ sCap z := by have := hS.le; omega
  have hcz0 : 0 < sCap z := by omega
  have hBz := (hz.lt hcz0).1
  have hS0 : IsS (subS z 0 N) := subS_isS hS (Nat.zero_le _) hcz
  have hsub := hz.sub (l := 0) (n := N) (Nat.zero_le _) (by omega)
  have hsl : ((os.take N).drop 0).length = N := by simp; omega
  have e1 : (m : Int) + (n : Int) = (N : Int) := by omega
  rw [← hN] at hl ⊢
  rw [← hm] at h0
  have HZ := Lib.hid hz
  have HX := Lib.hid hx
  have HY := Lib.hid hy
  have HNX := Lib.hid hnx
  have HNY := Lib.hid hny
  have HM := Lib.hid hm
  have HN := Lib.hid hn
  have HNN := Lib.hid hN
  have HNM := Lib.hid hNm
  have HSUB := Lib.hid hsub
  have HSL := Lib.hid hsl
  have hmb : m ≤ N := by omega
  clear hz hx hy hnx hny hm hn hN hos hNm hsub hsl
  go_enter Tryz.func123, Tryz.ntmps123
  go_wp2_with (refine wpList_clear_O (o := ⟨none, _, _, _, _, _⟩) rfl (.tmp 14) 72 rfl elemT rfl (subS z 0 N) rfl B _ HSUB.out ?_)
  intro w1 ho1 hb1 hf1
  have hmn : min N os.length = N := by rw [← HNN.out]; exact Nat.min_self _
  rw [hmn] at ho1 hf1
  rw [(sub0 hS).1, (sub0 hS).2] at hf1
  have hp1 := HZ.out.patch (l := 0) (n := N) (Nat.zero_le _) (by rw [← HNN.out]; exact Nat.le_refl _) (by simp) ho1 (by rw [Nat.add_zero]; exact hf1)
  rw [List.take_zero, List.nil_append, List.drop_of_length_le (by rw [← HNN.out]; exact Nat.le_refl _), List.append_nil, cellsW_zeros] at hp1
  have hz0 : List.replicate N 0 = wdsN 0 N := wdsN_of (by simp) (fun j hj => by
    rw [List.getD_eq_getElem?_getD, List.getElem?_replicate, if_pos hj]; simp [wdg])
  have R0 : Hid (BmRel z xs ys N B 0 w w1) := Lib.hid ⟨by rw [List.take_zero, show wv [] = 0 from rfl, Nat.mul_zero, ← hz0]; exact hp1, hb1, hf1⟩
  clear ho1 hb1 hf1 hp1 hz0 HSUB HSL
  go_wp2
  go_loopw [17] (fun i wr => ∃ k : Nat, k ≤ n ∧ i = .int .i64 k ∧ BmRel z xs ys N B k w wr) (fun i _ => n - (intOf i).toNat)
  case atStart => exact ⟨0, Nat.zero_le _, rfl, R0.out⟩
  case round =>
    obtain ⟨k, hk, rfl, hrel⟩ := hrel
    obtain ⟨wo, hwo⟩ : ∃ wo : World, wo = wr := ⟨_, rfl⟩
    subst hwo
    have HREL := Lib.hid hrel
    have HYo := Lib.hid (hrel.2.2.rw HY.out (fun h => absurd h HNY.out))
    have HXo := Lib.hid (hrel.2.2.rw HX.out (fun h => absurd h HNX.out))
    by_cases hkn : k < n
    · have cy := HYo.out.cell k (by rw [← HN.out]; exact hkn)
      have hyl := getD_ltW HY.out.lt k
      have e2 := wv_take_succ (ws := ys) (i := k) (by rw [← HN.out]; exact hkn)
      obtain ⟨d, hd⟩ : ∃ d, d = ys.getD k 0 := ⟨_, rfl⟩
      rw [← hd] at cy hyl e2
      by_cases hd0 : d = 0
      · have t1 : ((d : Int) == 0) = true := by rw [hd0]; rfl
        have HR : Hid (BmRel z xs ys N B (k + 1) w wo) := Lib.hid (by
          unfold BmRel; rw [e2, hd0, Nat.mul_zero, Nat.add_zero]; exact hrel)
        clear hrel e2 hd hd0 HREL
        go_wp2
        exact ⟨⟨k + 1, by omega, by go_num, HR.out⟩, by simp [intOf]; omega⟩
      · have t1 : ((d : Int) == 0) = false := by rw [beq_eq_false_iff_ne]; omega
        obtain ⟨Z, hZ⟩ : ∃ Z, Z = wv xs * wv (ys.take k) := ⟨_, rfl⟩
        have hZl : Z < 18446744073709551616 ^ (m + k) := by
          have h1 := wv_lt HX.out.lt
          have h2 := wv_lt (a := ys.take k) (fun d hd => HY.out.lt d (List.mem_of_mem_take hd))
          rw [List.length_take, show min k ys.length = k by have := HN.out; omega] at h2
          rw [← HM.out] at h1
          rw [hZ, Nat.pow_add]
          exact Nat.mul_lt_mul'' h1 h2
        obtain ⟨S, hSS⟩ : ∃ S, S = Z / 18446744073709551616 ^ k + wv xs * d := ⟨_, rfl⟩
        have hrel' := hrel
        obtain ⟨r1, r2, r3⟩ := hrel'
        rw [← hZ] at r1
        have hkm : k + m ≤ N := by have := HNM.out; omega
        have hSk : IsS (subS z k (k + m)) := subS_isS hS (Nat.le_add_right _ _) (by omega)
        have rs := r1.sub (l := k) (n := k + m) (Nat.le_add_right _ _) (by rw [cellsW_length, wdsN_length]; exact hkm)
        have es : ((cellsW (wdsN Z N)).take (k + m)).drop k = cellsW (wdsN (Z / 18446744073709551616 ^ k) m) := by
          rw [← wdsN_sub hkm]; simp [cellsW]
        rw [es] at rs
        have hq : Z / 18446744073709551616 ^ k < 18446744073709551616 ^ m := by
          refine Nat.div_lt_of_lt_mul ?_
          rw [← Nat.pow_add, Nat.add_comm]; exact hZl
        have HCALL : Hid (∀ j, Calls Tryz.prog 153 #[subS z k (k + m), subS z k (k + m), x, .int .u64 d, .int .u64 0] (wo.drewN j) fun e w' => ∃ c : Nat, e = .returned (.int .u64 c) ∧ (c < 18446744073709551616 ∧ S = wv (wdsN S m) + 18446744073709551616 ^ m * c) ∧ VvP (subS z k (k + m)) m B S wo w') := Lib.hid (fun j => by
          have := addMulVVWW_any (subS z k (k + m)) (subS z k (k + m)) x _ (wdsN (Z / 18446744073709551616 ^ k) m) xs d 0 B (wo.drewN j) (rs.drewN j) ((rs.rw' wdsN_lt).below (undrewN' (Below.refl _ _))) (HXo.out.below (undrewN' (Below.refl _ _)))
            (by rw [cellsW_length]) (by rw [cellsW_length, wdsN_length]; exact HM.out.symm) (fun _ => Nat.le_refl _) (by rw [subS_blk hS]; intro h; exact absurd h HNX.out) hyl (by decide) (by rw [cellsW_length, wdsN_length]; omega)
          rw [cellsW_length, wdsN_length, wv_wdsN_lt hq, Nat.add_zero, ← hSS] at this
          refine this.mono ?_
          rintro _ w' ⟨c, rfl, h1, h2, h3, h4⟩
          exact ⟨c, rfl, h1, h2, undrewN h3, h4.undrewN⟩)
        have HFIN : Hid (∀ c w2, c < 18446744073709551616 → S = wv (wdsN S m) + 18446744073709551616 ^ m * c → VvP (subS z k (k + m)) m B S wo w2 →
            (w2.frozen? ⟨sBlk z, sOff z + (m + k), none⟩ = false ∧ ∃ u, w2.cell? ⟨sBlk z, sOff z + (m + k), none⟩ = some u) ∧ BmRel z xs ys N B (k + 1) w (w2.setCell ⟨sBlk z, sOff z + (m + k), none⟩ (.int .u64 (c : Int)))) := Lib.hid (fun c w2 hc hcS hvp => by
          have hpt := VvP.patch (l := k) (n := k + m) r1 (Nat.le_add_right _ _) (by rw [cellsW_length, wdsN_length]; exact hkm) (by rw [Nat.add_sub_cancel_left]; exact hvp)
          rw [Nat.add_sub_cancel_left] at hpt
          obtain ⟨g1, g2, g3⟩ := hpt
          have ec : (cellsW (wdsN Z N)).take k ++ (cellsW (wdsN S m) ++ (cellsW (wdsN Z N)).drop (k + m)) = cellsW ((wdsN Z N).take k ++ (wdsN S m ++ (wdsN Z N).drop (k + m))) := by simp [cellsW]
          rw [ec] at g1
          have hll : ((wdsN Z N).take k ++ (wdsN S m ++ (wdsN Z N).drop (k + m))).length = N := by
            rw [List.length_append, List.length_take, wdsN_length, List.length_append, wdsN_length, List.length_drop, wdsN_length]; omega
          have hmk : m + k < N := by have := HNM.out; omega
          have gs := g1.set (i := m + k) (by rw [cellsW_length, hll]; exact hmk) (.int .u64 (c : Int))
          have hbw := bm_words (V := wv xs * d) hkn hZl hSS hcS hc
          rw [← HNM.out] at hbw
          rw [cellsW_set, hbw, show Z + 18446744073709551616 ^ k * (wv xs * d) = wv xs * wv (ys.take (k + 1)) by rw [e2, Nat.mul_add, hZ]; congr 1; rw [Nat.mul_left_comm]] at gs
          refine ⟨⟨g1.frozen hcz0 _, _, g1.cell (List.getElem?_eq_getElem (by rw [cellsW_length, hll]; exact hmk))⟩, gs, bset (r2.trans g2) hBz, ?_⟩
          refine r3.trans r2.size ?_
          refine (g3.mono (by omega) (by omega)).set (by omega) (by omega) _)
        have e3 : (k : Int) + (m : Int) = ((k + m : Nat) : Int) := by omega
        have e4 : (m : Int) + (k : Int) = ((m + k : Nat) : Int) := by omega
        obtain ⟨km, hkmE⟩ : ∃ km, km = k + m := ⟨_, rfl⟩
        obtain ⟨mk, hmkE⟩ : ∃ mk, mk = m + k := ⟨_, rfl⟩
        rw [← hkmE] at hSk HCALL HFIN e3 hkm
        rw [← hmkE] at HFIN e4
        have hmkN : mk < N := by have := HNM.out; omega
        have hkkm : k ≤ km := by omega
        have hkc : km ≤ sCap z := by omega
        have hkkm' : (k : Int) ≤ (km : Int) := by omega
        have hkc' : (km : Int) ≤ (sCap z : Int) := by omega
        have hk0 : (0 : Int) ≤ (k : Int) := by omega
        have hw1 : IntKind.i64.wrap (km : Int) = (km : Int) := by rw [IntKind.wrap_i64]; omega
        have hw2 : IntKind.i64.wrap (mk : Int) = (mk : Int) := by rw [IntKind.wrap_i64]; omega
        clear hrel e2 hd hd0 HREL hZ hZl hSS r1 r2 r3 rs es hq hkmE hmkE
        go_upto_region 5 with fail
        first
          | (go_region_held3 (fun _ => True)
              ((exact True.intro))
              (first
                | (go_at_call 153; refine (HCALL.out 1).mono ?_; rintro _ w2 ⟨c, rfl, ⟨hc, hcS⟩, hvp⟩; obtain ⟨⟨fz, u, cu⟩, hq⟩ := HFIN.out c w2 hc hcS hvp; have HQ := Lib.hid hq; clear hcS hvp hq)))
          | fail
        all_goals
          go_wp2
          exact ⟨⟨k + 1, by omega, by go_num, HQ.out⟩, by simp [intOf]; omega⟩
    · have hkk : k = n := by omega
      have HD : Hid (Own wo B 128 z (cellsW (wdsN (wv xs * wv ys) N)) ∧ Below B w wo ∧ FrB (sBlk z) (sOff z) (sOff z + N) w wo) := Lib.hid (by
        have h1 := hrel
        unfold BmRel at h1
        rw [hkk, List.take_of_length_le (by rw [HN.out]; exact Nat.le_refl _)] at h1
        exact h1)
      clear hrel HREL hkk
      go_wp2
      go_end0
      exact ⟨rfl, HD.out⟩
end Go.Proofs.YtgclooabjilniaaGreatDoor

/-
The package's numbers: mulAddWW, mul into a new slice. No condition.
-/
namespace Go.Proofs.YtgclooabjilniaaGreatDoor
open Go.RowKit

set_option maxRecDepth 100000 in
set_option maxHeartbeats 3200000 in
theorem mulAddWW_any (z x : Value) (zs : List Value) (X y r B : Nat) (w : World) (hz : Own w B 128 z zs) (hx : RO w x (wds X)) (ax : Al z x) (h0 : 0 < X) (hy0 : 0 < y) (hy : y < 18446744073709551616) (hr : r < 18446744073709551616) (hl : nw X ≤ 100000000) (hB : B ≤ w.heap.size) :
    Calls Tryz.prog 126 #[z, x, .int .u64 y, .int .u64 r] w fun e w' => ∃ q, e = .returned q ∧ NatR z q (X * y + r) B w w' := by
  have hS := hz.isS
  have hSx := hx.rw.isS
  obtain ⟨m, hm⟩ : ∃ m, m = nw X := ⟨_, rfl⟩
  have hLx : sLen x = m := by rw [hx.rw.len, wds_length, hm]
  have hmp : 0 < m := by rw [hm]; exact nw_pos h0
  have hcx : m ≤ sCap x := by have := hSx.le; omega
  rw [← hm] at hl
  have t1 : ((m : Int) == 0) = false := by rw [beq_eq_false_iff_ne]; omega
  have t2 : ((y : Int) == 0) = false := by rw [beq_eq_false_iff_ne]; omega
  have e1 : (m : Int) + 1 = ((m + 1 : Nat) : Int) := by omega
  obtain ⟨m1, hm1⟩ : ∃ m1, m1 = m + 1 := ⟨_, rfl⟩
  rw [← hm1] at e1
  have HM := Lib.hid hm
  have HM1 := Lib.hid hm1
  have HZ := Lib.hid hz
  have HX := Lib.hid hx
  have HAX := Lib.hid ax
  have HB := Lib.hid hB
  have hm1b : m1 ≤ 1000000000 := by omega
  have hm1p : 0 < m1 := by omega
  have hmm1 : m < m1 := by omega
  obtain ⟨S, hSS⟩ : ∃ S, S = X * y + r := ⟨_, rfl⟩
  have HSS := Lib.hid hSS
  rw [← hSS]
  clear hz hx ax hB hm hm1 hSS h0
  go_enter Tryz.func126, Tryz.ntmps126
  go_wp2_with fail
  refine (make_any z zs m1 B w HZ.out hm1b HB.out).mono ?_
  rintro _ w1 ⟨q, rfl, hmk⟩
  obtain ⟨os, hos, hor⟩ := hmk.own
  have hSr := hor.isS
  have hLr : sLen q = m1 := by rw [hor.len, hos]
  have hcr : m1 ≤ sCap q := by have := hSr.le; omega
  have hcr0 : 0 < sCap q := by omega
  have hBr := (hor.lt hcr0).1
  have hX1 := HX.out.below hmk.below
  have aX := hmk.al hS hm1p HAX.out HX.out.rw (by rw [wds_length, ← HM.out]; omega)
  have hSr0 : IsS (subS q 0 m) := subS_isS hSr (Nat.zero_le _) (by omega)
  have hsub := hor.sub (l := 0) (n := m) (Nat.zero_le _) (by omega)
  have hsl : ((os.take m).drop 0).length = m := by simp; omega
  have HCALL : Hid (Calls Tryz.prog 156 #[subS q 0 m, x, .int .u64 y, .int .u64 r] w1 fun e w' => ∃ c : Nat, e = .returned (.int .u64 c) ∧ (c < 18446744073709551616 ∧ S = wv (wdsN S m) + 18446744073709551616 ^ m * c) ∧ VvP (subS q 0 m) m B S w1 w') := Lib.hid (by
    have := mulAddVWW_any (subS q 0 m) x ((os.take m).drop 0) (wds X) y r B w1 hsub hX1.rw (by rw [hsl, wds_length, HM.out]) (by rw [(sub0 hSr).1, (sub0 hSr).2]; intro h; rw [aX h]; exact Nat.le_refl _) hy hr (by rw [hsl]; omega)
    rw [hsl, wv_wds, ← HSS.out] at this
    refine this.mono ?_
    rintro _ w' ⟨c, rfl, h1, h2⟩
    exact ⟨c, rfl, h1, h2⟩)
  have HFIN : Hid (∀ c w2, c < 18446744073709551616 → S = wv (wdsN S m) + 18446744073709551616 ^ m * c → VvP (subS q 0 m) m B S w1 w2 →
      (w2.frozen? ⟨sBlk q, sOff q + m, none⟩ = false ∧ ∃ u, w2.cell? ⟨sBlk q, sOff q + m, none⟩ = some u) ∧
      Calls Tryz.prog 122 #[q] (w2.setCell ⟨sBlk q, sOff q + m, none⟩ (.int .u64 (c : Int))) fun e w' => e = .returned (subS q 0 (nw S)) ∧ w2.setCell ⟨sBlk q, sOff q + m, none⟩ (.int .u64 (c : Int)) = w' ∧ NatR z (subS q 0 (nw S)) S B w (w2.setCell ⟨sBlk q, sOff q + m, none⟩ (.int .u64 (c : Int)))) := Lib.hid (fun c w2 hc hcS hvp => by
    have hpt := VvP.patch (l := 0) (n := m) hor (Nat.zero_le _) (by omega) (by rw [Nat.sub_zero]; exact hvp)
    rw [List.take_zero, List.nil_append, Nat.sub_zero, Nat.add_zero] at hpt
    obtain ⟨g1, g2, g3⟩ := hpt
    have hmm : m1 = m + 1 := HM1.out
    have hll : (cellsW (wdsN S m) ++ os.drop m).length = m1 := by rw [List.length_append, cellsW_length, wdsN_length, List.length_drop]; omega
    have gs := g1.set (i := m) (by rw [hll]; exact hmm1) (.int .u64 (c : Int))
    have es : (cellsW (wdsN S m) ++ os.drop m).set m (.int .u64 (c : Int)) = cellsW (wdsN S m ++ [c]) := by
      obtain ⟨u, hu⟩ : ∃ u, os.drop m = [u] := List.length_eq_one_iff.1 (by rw [List.length_drop]; omega)
      rw [hu, List.set_append_right _ _ (by rw [cellsW_length, wdsN_length]; exact Nat.le_refl _), cellsW_length, wdsN_length, Nat.sub_self, ← cellsW_append]
      rfl
    rw [es] at gs
    have hlt : ∀ e ∈ wdsN S m ++ [c], e < 18446744073709551616 := by
      intro e he
      rcases List.mem_append.1 he with h | h
      · exact wdsN_lt e h
      · rw [List.mem_singleton] at h; omega
    have hnum : wv (wdsN S m ++ [c]) = S := by rw [wv_snoc, wdsN_length, ← hcS]
    have hN := norm_any q _ _ (gs.rw' hlt) (by simp [wdsN_length]; omega)
    have hT := gs.takeW hlt
    rw [hnum] at hN hT
    have hb3 : Below B w1 (w2.setCell ⟨sBlk q, sOff q + m, none⟩ (.int .u64 (c : Int))) := bset g2 hBr
    have hf3 : Only (sBlk q) w1 (w2.setCell ⟨sBlk q, sOff q + m, none⟩ (.int .u64 (c : Int))) := ((g3.mono (Nat.le_refl _) (Nat.le_succ _)).set (lo := sOff q) (hi := sOff q + m + 1) (i := sOff q + m) (by omega) (by omega) _).only
    refine ⟨⟨g1.frozen hcr0 _, _, g1.cell (List.getElem?_eq_getElem (by rw [hll]; exact hmm1))⟩, hN.mono (fun e w' h => ⟨h.1, h.2, hT, (hmk.below.mono HB.out).trans hb3, hmk.fr hS hm1p hb3.size hf3⟩)⟩)
  clear hor hos hmk hX1 aX hsub hsl
  go_wp2_with fail
  refine HCALL.out.mono ?_
  rintro _ w2 ⟨c, rfl, ⟨hc, hcS⟩, hvp⟩
  obtain ⟨⟨fz, u, cu⟩, hq⟩ := HFIN.out c w2 hc hcS hvp
  have HQ := Lib.hid hq
  clear hcS hvp hq
  go_wp2_with fail
  refine HQ.out.mono ?_
  rintro _ _ ⟨rfl, rfl, hn⟩
  have Q := Lib.hid hn
  have hSq := hn.own.isS
  clear hn
  go_wp2
  go_ret
  exact ⟨_, rfl, Q.out⟩
/-- The variable that says from where on mul parts its factors. -/
def KarW (w : World) : Prop := w.cell? ⟨2, 0, none⟩ = some (.int .i64 40)
theorem KarW.below {w w' : World} (h : KarW w) (hb : Below w.heap.size w w') : KarW w' := by
  have hlt := World.block_lt_of_cell? w _ h
  unfold KarW
  rw [hb.cell (p := ⟨2, 0, none⟩) hlt]; exact h
theorem KarW.drewN {w : World} (h : KarW w) (n : Nat) : KarW (w.drewN n) := h
set_option maxRecDepth 100000 in
set_option maxHeartbeats 3200000 in
theorem nmul_ge (x y : Value) (X Y : Nat) (w : World) (hx : RO w x (wds X)) (hy : RO w y (wds Y)) (hnm : nw Y ≤ nw X) (hk : nw Y < 40) (hl : nw X ≤ 100000000) (hK : KarW w) :
    Calls Tryz.prog 90 #[.slice none 0 0, .pointer none, x, y] w fun e w' => ∃ r, e = .returned r ∧ Own w' w.heap.size 128 r (cellsW (wds (X * Y))) ∧ Below w.heap.size w w' := by
  have hSx := hx.rw.isS
  have hSy := hy.rw.isS
  have hSn := IsS.nil
  obtain ⟨m, hm⟩ : ∃ m, m = nw X := ⟨_, rfl⟩
  obtain ⟨n, hn⟩ : ∃ n, n = nw Y := ⟨_, rfl⟩
  have hLx : sLen x = m := by rw [hx.rw.len, wds_length, hm]
  have hLy : sLen y = n := by rw [hy.rw.len, wds_length, hn]
  rw [← hm] at hnm hl
  rw [← hn] at hnm hk
  have t1 : decide ((m : Int) < (n : Int)) = false := decide_eq_false (by omega)
  rcases Nat.eq_zero_or_pos n with hn0 | hn0
  · have hY0 : Y = 0 := nw_eq_zero.1 (by omega)
    have Q : Hid (Own w w.heap.size 128 (.slice none 0 0) (cellsW (wds (X * Y))) ∧ Below w.heap.size w w) := Lib.hid (by
      rw [hY0, Nat.mul_zero]; exact ⟨.nil _ _ _, Below.refl _ _⟩)
    subst hn0
    clear hx hy hm hn hY0 hK hnm
    by_cases hm0 : m = 0
    · subst hm0
      go_enter Tryz.func90, Tryz.ntmps90
      go_wp2
      go_ret
      exact ⟨_, rfl, Q.out⟩
    · have t2 : ((m : Int) == 0) = false := by rw [beq_eq_false_iff_ne]; omega
      have t3 : decide ((m : Int) < 0) = false := decide_eq_false (by omega)
      clear hm0
      go_enter Tryz.func90, Tryz.ntmps90
      go_wp2
      go_ret
      exact ⟨_, rfl, Q.out⟩
  have t2 : ((m : Int) == 0) = false := by rw [beq_eq_false_iff_ne]; omega
  have t3 : ((n : Int) == 0) = false := by rw [beq_eq_false_iff_ne]; omega
  have hX0 : 0 < X := by rcases Nat.eq_zero_or_pos X with h | h; (rw [h, nw_zero] at hm; omega); exact h
  have hY0 : 0 < Y := by rcases Nat.eq_zero_or_pos Y with h | h; (rw [h, nw_zero] at hn; omega); exact h
  by_cases hn1 : n = 1
  · have hYl : Y < 18446744073709551616 := by have := lt_nw Y; rw [← hn, hn1, Nat.pow_one] at this; exact this
    have cy := hy.rw.cell 0 (by rw [wds_length, ← hn, hn1]; decide)
    rw [wds_getD, wdg_zero_eq, Nat.mod_eq_of_lt hYl, Nat.add_zero] at cy
    have HC := Lib.hid (mulAddWW_any (.slice none 0 0) x [] X Y 0 w.heap.size w (.nil _ _ _) hx (Al.nil x) hX0 hY0 hYl (by decide) (by rw [← hm]; exact hl) (Nat.le_refl _))
    rw [Nat.add_zero] at HC
    subst hn1
    clear hx hy hm hn hK hX0 hY0 hnm
    have t1 : decide ((m : Int) < 1) = false := t1
    go_enter Tryz.func90, Tryz.ntmps90
    go_wp2_with fail
    refine HC.out.mono ?_
    rintro _ w1 ⟨q, rfl, h1, h2, -⟩
    have Q := Lib.hid (And.intro h1 h2)
    have hSq := h1.isS
    clear h1 h2
    go_wp2
    go_ret
    exact ⟨_, rfl, Q.out⟩
  · have t4 : ((n : Int) == 1) = false := by rw [beq_eq_false_iff_ne]; omega
    obtain ⟨N, hN⟩ : ∃ N, N = m + n := ⟨_, rfl⟩
    have e1 : (m : Int) + (n : Int) = (N : Int) := by omega
    have t5 : decide ((n : Int) < 40) = true := decide_eq_true (by omega)
    have t5' : decide (n < 40) = true := decide_eq_true (by omega)
    have kc : w.cell? ⟨2, 0, none⟩ = some (.int .i64 40) := hK
    have HX := Lib.hid hx
    have HY := Lib.hid hy
    have HM := Lib.hid hm
    have HN := Lib.hid hn
    have HNN := Lib.hid hN
    have HK := Lib.hid hK
    have HMP : Hid (0 < m) := Lib.hid (by omega)
    have HAX := Lib.hid (fun W => alias_nil x W hSx)
    have HAY := Lib.hid (fun W => alias_nil y W hSy)
    have hNb : N ≤ 1000000000 := by omega
    have hNp : 0 < N := by omega
    clear hx hy hm hn hK hn1 hN
    go_enter Tryz.func90, Tryz.ntmps90
    go_wp2_with fail
    refine (HAX.out _).mono ?_
    rintro _ _ ⟨rfl, n1, rfl⟩
    go_wp2_with fail
    refine (HAY.out _).mono ?_
    rintro _ _ ⟨rfl, n2, rfl⟩
    go_wp2_with fail
    refine (make_nil N _ hNb).mono ?_
    rintro _ w1 ⟨z, rfl, ho, hb, hcz⟩
    have hb1 : Below w.heap.size w w1 := undrewN (n := n1 + n2) hb
    have hSz := ho.isS
    have hLz : sLen z = N := by rw [ho.len]; simp
    have hX1 := HX.out.below hb1
    have hY1 := HY.out.below hb1
    have hK1 : KarW w1 := HK.out.below hb1
    have kc1 : w1.cell? ⟨2, 0, none⟩ = some (.int .i64 40) := hK1
    have hcz0 : 0 < sCap z := by have := hSz.le; omega
    have hzB : w.heap.size ≤ sBlk z := (ho.lt hcz0).1
    have hnx : sBlk x ≠ sBlk z := by
      have := HX.out.rw.ri.lt (by rw [ints_length, wds_length, ← HM.out]; exact HMP.out)
      omega
    have hny : sBlk y ≠ sBlk z := by
      have := HY.out.rw.ri.lt (by rw [ints_length, wds_length, ← HN.out]; exact hn0)
      omega
    have HB := Lib.hid (basicMul_any z x y _ (wds X) (wds Y) w.heap.size w1 ho hX1.rw hY1.rw (by rw [wds_length, wds_length, ← HM.out, ← HN.out, ← HNN.out]; simp) hnx hny (by rw [wds_length, ← HM.out]; exact HMP.out) (by simp; exact hNb))
    rw [List.length_replicate, wv_wds, wv_wds] at HB
    have HB1 := Lib.hid hb1
    have hXY : X * Y < 18446744073709551616 ^ N := by
      rw [HNN.out, Nat.pow_add, HM.out, HN.out]
      exact Nat.mul_lt_mul'' (lt_nw X) (lt_nw Y)
    have HXY := Lib.hid hXY
    clear ho hb hb1 hX1 hY1 hK1 hcz hnx hny hXY kc
    go_wp2_with fail
    refine HB.out.mono ?_
    rintro _ w2 ⟨rfl, ho2, hb2, -⟩
    have HNM := Lib.hid (norm_any z _ w2 (ho2.rw' wdsN_lt) (by rw [wdsN_length]; exact hNb))
    have hT := ho2.takeW wdsN_lt
    rw [wv_wdsN_lt HXY.out] at HNM hT
    have Q := Lib.hid (And.intro hT (HB1.out.trans hb2))
    have hSq := hT.isS
    clear ho2 hb2 hT
    go_wp2_with fail
    refine HNM.out.mono ?_
    rintro _ _ ⟨rfl, rfl⟩
    go_wp2
    go_ret
    exact ⟨_, rfl, Q.out⟩
set_option maxRecDepth 100000 in
theorem nmul_any (x y : Value) (X Y : Nat) (w : World) (hx : RO w x (wds X)) (hy : RO w y (wds Y)) (hk : nw X < 40 ∨ nw Y < 40) (hl : nw X ≤ 100000000) (hl2 : nw Y ≤ 100000000) (hK : KarW w) :
    Calls Tryz.prog 90 #[.slice none 0 0, .pointer none, x, y] w fun e w' => ∃ r, e = .returned r ∧ Own w' w.heap.size 128 r (cellsW (wds (X * Y))) ∧ Below w.heap.size w w' := by
  by_cases h : nw Y ≤ nw X
  · exact nmul_ge x y X Y w hx hy h (by omega) hl hK
  · have HR := Lib.hid (nmul_ge y x Y X w hy hx (by omega) (by omega) hl2 hK)
    have hSx := hx.rw.isS
    have hSy := hy.rw.isS
    have hLx : sLen x = nw X := by rw [hx.rw.len, wds_length]
    have hLy : sLen y = nw Y := by rw [hy.rw.len, wds_length]
    obtain ⟨m, hm⟩ : ∃ m, m = nw X := ⟨_, rfl⟩
    obtain ⟨n, hn⟩ : ∃ n, n = nw Y := ⟨_, rfl⟩
    rw [← hm] at hLx h
    rw [← hn] at hLy h
    rw [Nat.mul_comm] at HR
    have t1 : decide ((m : Int) < (n : Int)) = true := decide_eq_true (by omega)
    have t1' : decide (m < n) = true := decide_eq_true (by omega)
    clear hx hy hm hn h hK
    go_enter Tryz.func90, Tryz.ntmps90
    go_wp2_with fail
    refine HR.out.mono ?_
    rintro _ w1 ⟨r, rfl, h⟩
    have Q := Lib.hid h
    have hSq := h.1.isS
    clear h
    go_wp2
    go_ret
    exact ⟨_, rfl, Q.out⟩
end Go.Proofs.YtgclooabjilniaaGreatDoor

/-
Floats: Set of a new receiver from another Float. No condition.
-/
namespace Go.Proofs.YtgclooabjilniaaGreatDoor
open Go.RowKit

theorem rQ_pos {p m M : Nat} (neg : Bool) (s : Nat) (hp : 0 < p) (hM : 0 < M) : 0 < rQ p m neg s M := by
  have h : 0 < M / 2 ^ rk p M := by
    rcases Nat.lt_or_ge p (bl M) with h | h
    · have := (rQ_bound (m := m) neg s hp h).1
      have := Nat.two_pow_pos (p - 1)
      omega
    · have h0 : rk p M = 0 := by unfold rk; omega
      rw [h0, Nat.pow_zero, Nat.div_one]; exact hM
  unfold rQ; omega
theorem Good.wide {ws : List Nat} {p q : Nat} (h : Good ws p) (hpq : p ≤ q) : Good ws q := by
  obtain ⟨h1, h2, h3, h4, h5⟩ := h
  refine ⟨h1, h2, h3, h4, ?_⟩
  rcases h5 with h5 | ⟨h5, h6, h7⟩
  · exact .inl (by omega)
  · by_cases hq : 64 * ws.length ≤ q
    · exact .inl hq
    · refine .inr ⟨by omega, ?_, by omega⟩
      rw [show 64 * ws.length - p = (64 * ws.length - q) + (q - p) by omega, Nat.pow_add] at h6
      have h8 := Nat.mod_mul_right_mod (wv ws) (2 ^ (64 * ws.length - q)) (2 ^ (q - p))
      rw [h6] at h8; exact h8.symm.trans (Nat.zero_mod _) |>.symm ▸ rfl
/-- The precision of a result. -/
def pOf (p0 p : Nat) : Nat := if p0 = 0 then p else p0
/-- What holds of a Float that holds a value of N times 2 to X, rounded. -/
theorem fval_rnd {w : World} {B b p m : Nat} {neg : Bool} {v : Value} {e : Int} {ws : List Nat} (h : FltR w b p m 0 1 neg v e) (ho : Own w B 128 v (cellsW ws)) (hg : Good ws p) (hp : 0 < p) :
    FVal w B b p m (rA p m neg 0 (wv ws)) 1 neg (rQ p m neg 0 (wv ws)) (e - 64 * (ws.length : Int) + rk p (wv ws)) := by
  obtain ⟨k1, k2⟩ := rnd_fits (m := m) neg hg (e - 64 * (ws.length : Int))
  have hN : 0 < wv ws := Nat.lt_of_lt_of_le (Nat.two_pow_pos _) hg.2.2.2.1
  exact ⟨v, e, by rw [k1]; exact h, fun _ => ⟨rQ_pos neg 0 hp hN, ws, ho, hg, k2.symm⟩⟩
set_option maxRecDepth 100000 in
set_option maxHeartbeats 1600000 in
theorem setF_one (b B c p0 m0 f0' p m : Nat) (a0 e0 a e : Int) (n0 neg : Bool) (v : Value) (ws : List Nat) (w : World) (h : FltR w b p0 m0 a0 f0' n0 (.slice none 0 0) e0) (hB : B ≤ b) (hx : FltR w c p m a 1 neg v e) (hbc : b ≠ c)
    {Bx : Nat} (ho : Own w Bx 128 v (cellsW ws)) (hg : Good ws p) (hp0 : 0 < p) (hp : p ≤ 64000000) (hq : p0 ≤ 64000000) (hm : m0 ≤ 5) (he1 : -2147483648 ≤ e) (he2 : e < 2147483647) :
    Calls Tryz.prog 82 #[.pointer (some ⟨b, 0, none⟩), .pointer (some ⟨c, 0, none⟩)] w fun e' w' => e' = .returned (.pointer (some ⟨b, 0, none⟩)) ∧
      FVal w' B b (pOf p0 p) m0 (rA (pOf p0 p) m0 neg 0 (wv ws)) 1 neg (rQ (pOf p0 p) m0 neg 0 (wv ws)) (e - 64 * (ws.length : Int) + rk (pOf p0 p) (wv ws)) ∧ Below B w w' := by
  obtain ⟨c0, c1, c2, c3, c4, c5, c6⟩ := h.cells
  obtain ⟨f0, f1, f2, f3, f4, f5, f6⟩ := h.free
  obtain ⟨d0, d1, d2, d3, d4, d5, d6⟩ := hx.cells
  have d3' : w.cell? ⟨c, 3, none⟩ = some (.int .u8 1) := d3
  have hS := ho.isS
  have hne : ¬ b = c := hbc
  have hne' : ¬ c = b := fun h => hne h.symm
  have r1 := h.s2 0
  have r2 := r1.s3 1
  have r3 := r2.s4 neg
  have R4 := Lib.hid (r3.s6 e)
  have o4 := r3.own (r2.own (r1.own (h.own ho 2 (.int .i8 0)) 3 (.int .u8 (1 : Int))) 4 (.bool neg)) 6 (.int .i32 e)
  have V4 := Lib.hid (o4.rw' hg.2.2.1)
  have B4 := Lib.hid (bset (i := 6) (u := .int .i32 e) (bset (i := 4) (u := .bool neg) (bset (i := 3) (u := .int .u8 (1 : Int)) (bset (i := 2) (u := .int .i8 0) (Below.refl B w) hB) hB) hB) hB)
  have hoth : ∀ (W : World) (i : Nat) (u : Value), (W.setCell ⟨b, i, none⟩ u).heap[c]? = W.heap[c]? := fun W i u => heap_setCell_other _ _ _ _ (by simpa using hne')
  have X1 : FltR (w.setCell ⟨b, 2, none⟩ (.int .i8 0)) c p m a 1 neg v e := (hoth _ _ _).trans hx
  have X4 : Hid (FltR ((((w.setCell ⟨b, 2, none⟩ (.int .i8 0)).setCell ⟨b, 3, none⟩ (.int .u8 (1 : Int))).setCell ⟨b, 4, none⟩ (.bool neg)).setCell ⟨b, 6, none⟩ (.int .i32 e)) c p m a 1 neg v e) := Lib.hid (by
    unfold FltR; rw [hoth, hoth, hoth, hoth]; exact hx)
  have hcmp := neqF (w.setCell ⟨b, 2, none⟩ (.int .i8 0)) hbc r1 X1
  have HG := Lib.hid hg
  have hbB : b < w.heap.size := h.lt
  have hl := hg.2.1
  have HL := Lib.hid hl
  clear h hx ho d3 r1 r2 r3 o4 hoth X1 hg hl
  go_enter Tryz.func82, Tryz.ntmps82
  go_wp2
  (refine wp_region_hoist 9 (by kernel_rfl) (by kernel_rfl) ⟨fun _ _ _ h => (by first | exact (hQp _ _ _ h).elim | cases h.2.1 | (obtain ⟨_, h3, _⟩ := h.2; cases h3)), fun _ _ h => (by first | exact (hQo _ _ h).elim | cases h.1 | (obtain ⟨_, h3, _⟩ := h; cases h3))⟩ ?_; simp only [List.take_succ_cons, List.take_zero, List.drop_succ_cons, List.drop_zero]; (repeat (go_big_quiet_step (fail))); refine wpQuiet_nil ?_; rintro _ ⟨nq, rfl⟩)
  go_wp2_with fail
  refine (set_nil v ws _ (V4.out.drewN _) (by have := HL.out; omega)).mono ?_
  rintro _ w6 ⟨r, rfl, ho, hb⟩
  have hSr := ho.isS
  have hb' := undrewN hb
  have R6 := R4.out.below hb'
  have X6 := X4.out.below hb'
  have B6 := B4.out.trans (hb'.mono (by simp; omega))
  have O6 : Own w6 B 128 r (cellsW ws) := ho.mono (show B ≤ _ by simp; omega)
  obtain ⟨g0, g1, g2, g3, g4, g5, g6⟩ := R6.cells
  obtain ⟨k0, k1, k2, k3, k4, k5, k6⟩ := R6.free
  obtain ⟨x0, x1, x2, x3, x4, x5, x6⟩ := X6.cells
  have R7 := R6.s5 r
  have O7 := R6.own O6 5 r
  have B7 := bset (i := 5) (u := r) B6 hB
  have HR7 := Lib.hid R7
  have HO7 := Lib.hid O7
  have HB7 := Lib.hid B7
  clear ho hb hb' R6 X6 B6 O6 R7 O7 B7 c0 c1 c2 c3 c4 c5 c6 f0 f1 f2 f3 f4 f5 f6 d0 d1 d2 d3' d4 d5 d6 hcmp
  by_cases hz : p0 = 0
  · have t0 : ((p0 : Int) == 0) = true := by rw [hz]; rfl
    have HP : Hid (pOf p0 p = p) := Lib.hid (by unfold pOf; rw [if_pos hz])
    have R8 := Lib.hid (HR7.out.s0 p)
    have O8 := Lib.hid (HR7.out.own HO7.out 0 (.int .u32 (p : Int)))
    have B8 := Lib.hid (bset (i := 0) (u := .int .u32 (p : Int)) HB7.out hB)
    clear hz
    go_wp2
    go_ret
    rw [HP.out]
    exact ⟨rfl, fval_rnd R8.out O8.out HG.out hp0, B8.out⟩
  · have t0 : ((p0 : Int) == 0) = false := by rw [beq_eq_false_iff_ne]; omega
    have HP : Hid (pOf p0 p = p0) := Lib.hid (by unfold pOf; rw [if_neg hz])
    by_cases hpp : p0 < p
    · have t1 : decide (p0 < p) = true := decide_eq_true hpp
      have HZ := Lib.hid (show 0 < p0 by omega)
      clear hz hpp
      go_wp2_with fail
      go_quiet (fail)
      go_wp2_with fail
      have hG := HG.out
      have hr := round_any b B p0 m0 0 0 e neg r ws ((w6.setCell ⟨b, 5, none⟩ r).drewN nq) HR7.out hB (HO7.out.drewN nq) hG.2.2.1 hG.1 hG.2.2.2.1 hG.2.1 HZ.out hq hm (by decide) (.inl rfl) he1 he2
      rw [show ((0 : Nat) : Int) = 0 from rfl] at hr
      refine hr.mono ?_
      rintro _ w8 ⟨rfl, hR⟩
      have F : FVal w8 B b p0 m0 (rA p0 m0 neg 0 (wv ws)) 1 neg (rQ p0 m0 neg 0 (wv ws)) (e - 64 * (ws.length : Int) + rk p0 (wv ws)) :=
        hR.val (rQ_pos neg 0 HZ.out (Nat.lt_of_lt_of_le (Nat.two_pow_pos _) hG.2.2.2.1))
      obtain ⟨_, _, _, -, -, -, -, hb8⟩ := hR
      have HF := Lib.hid F
      have HB8 := Lib.hid (HB7.out.trans (undrewN hb8))
      clear hr hG F hb8
      go_wp2
      go_ret
      rw [HP.out]
      exact ⟨rfl, HF.out, HB8.out⟩
    · have t1 : decide (p0 < p) = false := decide_eq_false hpp
      have HPP := Lib.hid (show p ≤ p0 by omega)
      clear hz hpp
      go_wp2_with fail
      go_quiet (fail)
      go_wp2
      go_ret
      rw [HP.out]
      refine ⟨rfl, fval_rnd (v := r) HR7.out (HO7.out.drewN _) (HG.out.wide HPP.out) (by have := HPP.out; omega), undrewN' HB7.out⟩
end Go.Proofs.YtgclooabjilniaaGreatDoor

/-
Floats: Set, Neg, Abs of a new receiver by values. No condition.
-/
namespace Go.Proofs.YtgclooabjilniaaGreatDoor
open Go.RowKit

set_option maxRecDepth 100000 in
set_option maxHeartbeats 800000 in
theorem setF_other (b B c p0 m0 f0' p m f : Nat) (a0 e0 a e : Int) (n0 neg : Bool) (u v : Value) (w : World) (h : FltR w b p0 m0 a0 f0' n0 u e0) (hB : B ≤ b) (hx : FltR w c p m a f neg v e) (hbc : b ≠ c) (hf : f = 0 ∨ f = 2) (_hp : p ≤ 64000000) (_hq : p0 ≤ 64000000) :
    Calls Tryz.prog 82 #[.pointer (some ⟨b, 0, none⟩), .pointer (some ⟨c, 0, none⟩)] w fun e' w' => e' = .returned (.pointer (some ⟨b, 0, none⟩)) ∧ FltR w' b (pOf p0 p) m0 0 f neg u e0 ∧ Below B w w' := by
  obtain ⟨c0, c1, c2, c3, c4, c5, c6⟩ := h.cells
  obtain ⟨f0, f1, f2, f3, f4, f5, f6⟩ := h.free
  obtain ⟨d0, d1, d2, d3, d4, d5, d6⟩ := hx.cells
  have hne : ¬ b = c := hbc
  have hne' : ¬ c = b := fun h => hne h.symm
  have r1 := h.s2 0
  have r2 := r1.s3 f
  have R3 := Lib.hid (r2.s4 neg)
  have B3 := Lib.hid (bset (i := 4) (u := .bool neg) (bset (i := 3) (u := .int .u8 (f : Int)) (bset (i := 2) (u := .int .i8 0) (Below.refl B w) hB) hB) hB)
  have hoth : ∀ (W : World) (i : Nat) (u : Value), (W.setCell ⟨b, i, none⟩ u).heap[c]? = W.heap[c]? := fun W i u => heap_setCell_other _ _ _ _ (by simpa using hne')
  have X1 : FltR (w.setCell ⟨b, 2, none⟩ (.int .i8 0)) c p m a f neg v e := (hoth _ _ _).trans hx
  have hcmp := neqF (w.setCell ⟨b, 2, none⟩ (.int .i8 0)) hbc r1 X1
  have t1 : ((f : Int) == 1) = false := by rw [beq_eq_false_iff_ne]; omega
  have hround : ∀ (W : World), FltR W b p0 m0 0 f neg u e0 → Calls Tryz.prog 88 #[.pointer (some ⟨b, 0, none⟩), .int .u64 0] W fun e' w' => e' = .returned (.tuple #[]) ∧ FltR w' b p0 m0 0 f neg u e0 ∧ Below B W w' := fun W hW => by
    obtain ⟨c0, c1, c2, c3, c4, c5, c6⟩ := hW.cells
    obtain ⟨f0, f1, f2, f3, f4, f5, f6⟩ := hW.free
    have t2 : ((f : Int) != 1) = true := by rw [bne_iff_ne]; omega
    have R := Lib.hid (hW.s2 0)
    have BB := Lib.hid (bset (i := 2) (u := .int .i8 0) (Below.refl B W) hB)
    go_enter Tryz.func88, Tryz.ntmps88
    go_wp2
    refine bodyPost_ret (results_none rfl _ _ _) rfl ?_
    exact ⟨rfl, R.out, BB.out⟩
  have HRo := Lib.hid hround
  clear h hx r1 r2 hoth X1 hf hround
  by_cases hz : p0 = 0
  · have t0 : ((p0 : Int) == 0) = true := by rw [hz]; rfl
    have HP : Hid (pOf p0 p = p) := Lib.hid (by unfold pOf; rw [if_pos hz])
    have R8 := Lib.hid (R3.out.s0 p)
    have B8 := Lib.hid (bset (i := 0) (u := .int .u32 (p : Int)) B3.out hB)
    clear hz
    go_enter Tryz.func82, Tryz.ntmps82
    go_wp2
    go_ret
    rw [HP.out]
    exact ⟨rfl, R8.out, B8.out⟩
  · have t0 : ((p0 : Int) == 0) = false := by rw [beq_eq_false_iff_ne]; omega
    have HP : Hid (pOf p0 p = p0) := Lib.hid (by unfold pOf; rw [if_neg hz])
    clear hz
    by_cases hpp : p0 < p
    · have t3 : decide (p0 < p) = true := decide_eq_true hpp
      clear hpp
      go_enter Tryz.func82, Tryz.ntmps82
      go_wp2_with fail
      go_quiet (fail)
      go_wp2_with fail
      refine (HRo.out _ (R3.out.drewN _)).mono ?_
      rintro _ w8 ⟨rfl, r8, b8⟩
      have R8 := Lib.hid r8
      have B8 := Lib.hid (B3.out.trans (undrewN b8))
      clear r8 b8
      go_wp2
      go_ret
      rw [HP.out]
      exact ⟨rfl, R8.out, B8.out⟩
    · have t3 : decide (p0 < p) = false := decide_eq_false hpp
      clear hpp
      go_enter Tryz.func82, Tryz.ntmps82
      go_wp2_with fail
      go_quiet (fail)
      go_wp2
      go_ret
      rw [HP.out]
      exact ⟨rfl, R3.out, undrewN' B3.out⟩
/-- The value that Set gives. -/
def stA (f p m : Nat) (neg : Bool) (M : Nat) : Int := if f = 1 then rA p m neg 0 M else 0
theorem setF_val (b B c Bx p0 m0 f0' p m f : Nat) (a0 e0 a : Int) (n0 neg : Bool) (M : Nat) (X : Int) (w : World) (h : FltR w b p0 m0 a0 f0' n0 (.slice none 0 0) e0) (hB : B ≤ b) (hx : FVal w Bx c p m a f neg M X) (hbc : b ≠ c) (hf : f ≤ 2)
    (hp0 : 0 < p) (hp : p ≤ 64000000) (hq : p0 ≤ 64000000) (hm : m0 ≤ 5) (hX : f = 1 → -900000000 ≤ X ∧ X + bl M ≤ 900000000) :
    Calls Tryz.prog 82 #[.pointer (some ⟨b, 0, none⟩), .pointer (some ⟨c, 0, none⟩)] w fun e' w' => e' = .returned (.pointer (some ⟨b, 0, none⟩)) ∧
      FVal w' B b (pOf p0 p) m0 (stA f (pOf p0 p) m0 neg M) f neg (rQ (pOf p0 p) m0 neg 0 M) (X + rk (pOf p0 p) M) ∧ Below B w w' := by
  obtain ⟨v, e, h1, h2⟩ := hx
  by_cases h3 : f = 1
  · subst h3
    obtain ⟨hM, ws, ho, hg, hd⟩ := h2 rfl
    have h0 := hd.symm.pos hM
    have hb := hd.bl h0
    rw [hg.bl] at hb
    have hx2 := hX rfl
    refine (setF_one b B c p0 m0 f0' p m a0 e0 a e n0 neg v ws w h hB h1 hbc ho hg hp0 hp hq hm (by omega) (by omega)).mono ?_
    rintro _ w' ⟨rfl, ⟨v', e', k1, k2⟩, k3⟩
    obtain ⟨l1, l2⟩ := rnd_deq (p := pOf p0 p) (m := m0) neg h0 hd
    refine ⟨rfl, ⟨v', e', ?_, fun _ => ?_⟩, k3⟩
    · unfold stA; rw [if_pos rfl, ← l2]; exact k1
    · obtain ⟨n1, ws', n2, n3, n4⟩ := k2 rfl
      exact ⟨l1.pos n1, ws', n2, n3, n4.trans l1⟩
  · refine (setF_other b B c p0 m0 f0' p m f a0 e0 a e n0 neg _ v w h hB h1 hbc (by omega) hp hq).mono ?_
    rintro _ w' ⟨rfl, k1, k2⟩
    exact ⟨rfl, ⟨_, _, by unfold stA; rw [if_neg h3]; exact k1, fun hc => absurd hc h3⟩, k2⟩
theorem FVal.setNeg {w : World} {B b p m f M : Nat} {a : Int} {neg : Bool} {X : Int} (h : FVal w B b p m a f neg M X) (x : Bool) : FVal (w.setCell ⟨b, 4, none⟩ (.bool x)) B b p m a f x M X := by
  obtain ⟨v, e, h1, h2⟩ := h
  refine ⟨v, e, h1.s4 x, fun hf => ?_⟩
  obtain ⟨n1, ws, n2, n3, n4⟩ := h2 hf
  exact ⟨n1, ws, h1.own n2 4 _, n3, n4⟩
set_option maxRecDepth 100000 in
theorem negF_val (b B c Bx p0 m0 f0' p m f : Nat) (a0 e0 a : Int) (n0 neg : Bool) (M : Nat) (X : Int) (w : World) (h : FltR w b p0 m0 a0 f0' n0 (.slice none 0 0) e0) (hB : B ≤ b) (hx : FVal w Bx c p m a f neg M X) (hbc : b ≠ c) (hf : f ≤ 2)
    (hp0 : 0 < p) (hp : p ≤ 64000000) (hq : p0 ≤ 64000000) (hm : m0 ≤ 5) (hX : f = 1 → -900000000 ≤ X ∧ X + bl M ≤ 900000000) :
    Calls Tryz.prog 74 #[.pointer (some ⟨b, 0, none⟩), .pointer (some ⟨c, 0, none⟩)] w fun e' w' => e' = .returned (.pointer (some ⟨b, 0, none⟩)) ∧
      FVal w' B b (pOf p0 p) m0 (stA f (pOf p0 p) m0 neg M) f (!neg) (rQ (pOf p0 p) m0 neg 0 M) (X + rk (pOf p0 p) M) ∧ Below B w w' := by
  have HS := Lib.hid (setF_val b B c Bx p0 m0 f0' p m f a0 e0 a n0 neg M X w h hB hx hbc hf hp0 hp hq hm hX)
  clear h hx hX
  go_enter Tryz.func74, Tryz.ntmps74
  go_wp2_with fail
  refine HS.out.mono ?_
  rintro _ w1 ⟨rfl, hF, hb⟩
  obtain ⟨v, e, hR⟩ : ∃ v e, FltR w1 b (pOf p0 p) m0 (stA f (pOf p0 p) m0 neg M) f neg v e := by obtain ⟨v, e, h, -⟩ := hF; exact ⟨v, e, h⟩
  obtain ⟨c0, c1, c2, c3, c4, c5, c6⟩ := hR.cells
  obtain ⟨f0, f1, f2, f3, f4, f5, f6⟩ := hR.free
  have HF := Lib.hid (hF.setNeg (!neg))
  have HB := Lib.hid (bset (i := 4) (u := .bool (!neg)) hb hB)
  clear hF hb hR
  go_wp2
  go_ret
  exact ⟨rfl, HF.out, HB.out⟩
end Go.Proofs.YtgclooabjilniaaGreatDoor

/-
The statement on a float's sign. No condition.
-/
namespace Go.Proofs.YtgclooabjilniaaGreatDoor
open Go.RowKit

theorem ks12 {W X : World} {k : Nat} {a b c d e f : Value} {T : TypeId} (hr : W.heap[k]? = some (.cells #[a, b, c, d, e, f] T (0, 0))) (h : Below W.heap.size W X) :
    Below W.heap.size W X ∧ X.cell? ⟨k, 0, none⟩ = some a ∧ X.cell? ⟨k, 1, none⟩ = some b ∧ X.cell? ⟨k, 2, none⟩ = some c ∧ X.cell? ⟨k, 3, none⟩ = some d ∧ X.cell? ⟨k, 4, none⟩ = some e ∧ X.cell? ⟨k, 5, none⟩ = some f :=
  ⟨h, (row_at (keep_row h hr) rfl).1, (row_at (keep_row h hr) rfl).1, (row_at (keep_row h hr) rfl).1, (row_at (keep_row h hr) rfl).1, (row_at (keep_row h hr) rfl).1, (row_at (keep_row h hr) rfl).1⟩
end Go.Proofs.YtgclooabjilniaaGreatDoor

/-
A new Float of any precision; the statements' number, target, chosen. No condition.
-/
namespace Go.Proofs.YtgclooabjilniaaGreatDoor
open Go.RowKit

set_option maxRecDepth 100000 in
theorem setPrec0_new (b B m : Nat) (a e : Int) (neg : Bool) (v : Value) (w : World) (h : FltR w b 0 m a 0 neg v e) (hB : B ≤ b) :
    Calls Tryz.prog 62 #[.pointer (some ⟨b, 0, none⟩), .int .u64 0] w fun e' w' => e' = .returned (.pointer (some ⟨b, 0, none⟩)) ∧ FltR w' b 0 m 0 0 neg v e ∧ Below B w w' := by
  obtain ⟨c0, c1, c2, c3, c4, c5, c6⟩ := h.cells
  obtain ⟨f0, f1, f2, f3, f4, f5, f6⟩ := h.free
  have c3' : w.cell? ⟨b, 3, none⟩ = some (.int .u8 0) := c3
  have F := Lib.hid ((h.s2 0).s0 0)
  have FB := Lib.hid (bset (i := 0) (u := .int .u32 (0 : Int)) (bset (i := 2) (u := .int .i8 0) (Below.refl B w) hB) hB)
  clear h c3
  go_enter Tryz.func62, Tryz.ntmps62
  go_wp2
  go_ret
  exact ⟨rfl, F.out, FB.out⟩
set_option maxRecDepth 100000 in
theorem fresh_zero (m : Nat) (w : World) (hm : m ≤ 255) :
    Calls Tryz.prog 37 #[.int .u64 0, .int .i64 m] w fun e' w' => e' = .returned (.pointer (some ⟨w.heap.size, 0, none⟩)) ∧ FltR w' w.heap.size 0 m 0 0 false (.slice none 0 0) 0 ∧ Below w.heap.size w w' := by
  go_enter Tryz.func37, Tryz.ntmps37
  go_wp2_with fail
  refine (setPrec0_new w.heap.size w.heap.size 0 0 0 false (.slice none 0 0) _ (newF_row w) (Nat.le_refl _)).mono ?_
  rintro _ w1 ⟨rfl, h1, hb1⟩
  have hb1' := (fbone (W := w) newF).trans hb1
  have H1 := Lib.hid h1
  have HB1 := Lib.hid hb1'
  clear h1 hb1 hb1'
  go_wp2_with fail
  refine (setMode_any w.heap.size w.heap.size 0 0 m 0 0 0 false _ w1 H1.out (Nat.le_refl _)).mono ?_
  rintro _ w2 ⟨rfl, h2, hb2⟩
  have H2 := Lib.hid h2
  have HB2 := Lib.hid (HB1.out.trans hb2)
  clear h2 hb2
  go_wp2
  go_ret
  exact ⟨rfl, H2.out, HB2.out⟩
theorem fresh_all (p m : Nat) (w : World) (hp : p ≤ 64000000) (hm : m ≤ 255) :
    Calls Tryz.prog 37 #[.int .u64 p, .int .i64 m] w fun e' w' => ∃ g, e' = .returned (.pointer (some ⟨g, 0, none⟩)) ∧ (g = w.heap.size ∧ FltR w' g p m 0 0 false (.slice none 0 0) 0) ∧ Below w.heap.size w w' := by
  rcases Nat.eq_zero_or_pos p with rfl | h
  · refine (fresh_zero m w hm).mono ?_
    rintro _ w' ⟨rfl, h1, h2⟩
    exact ⟨_, rfl, ⟨rfl, h1⟩, h2⟩
  · refine (fresh_any p m w h hp hm).mono ?_
    rintro _ w' ⟨rfl, h1, h2⟩
    exact ⟨_, rfl, ⟨rfl, h1⟩, h2⟩
set_option maxRecDepth 100000 in
theorem target_any (p m : Nat) (w : World) (hp : p ≤ 65535) (hm : m ≤ 255) :
    Calls Tryz.prog 20 #[.int .u16 p, .int .u8 m] w fun e w' => e = .returned (.tuple #[.int .u64 ((p % 301 : Nat) : Int), .int .i64 ((m % 6 : Nat) : Int)]) ∧ w = w' := by
  have e1 : (p : Int) % 301 = ((p % 301 : Nat) : Int) := by omega
  have e2 : (m : Int) % 6 = ((m % 6 : Nat) : Int) := by omega
  obtain ⟨q, hq⟩ : ∃ q, q = p % 301 := ⟨_, rfl⟩
  obtain ⟨n, hn⟩ : ∃ n, n = m % 6 := ⟨_, rfl⟩
  rw [← hq] at e1 ⊢
  rw [← hn] at e2 ⊢
  have hql : q ≤ 300 := by omega
  have hnl : n ≤ 5 := by omega
  clear hq hn
  go_enter Tryz.func20, Tryz.ntmps20
  go_wp2
  go_ret2
  exact ⟨rfl, rfl⟩
set_option maxRecDepth 100000 in
theorem chosen_any (k p1 p2 m1 m2 f1 f2 : Nat) (n1 n2 : Bool) (v1 v2 : Value) (e1 e2 : Int) (w : World) (_hS1 : IsS v1) (_hS2 : IsS v2) :
    Calls Tryz.prog 24 #[.int .u64 k, .agg #[.int .u64 p1, .int .i64 m1, .int .i64 f1, .bool n1, v1, .int .i64 e1], .agg #[.int .u64 p2, .int .i64 m2, .int .i64 f2, .bool n2, v2, .int .i64 e2]] w fun e' w' => e' = .returned (.int .u64 (pOf k (max p1 p2) : Nat)) ∧ Below w.heap.size w w' := by
  have hab := (Below.refl w.heap.size w).alloc (Nat.le_refl _) (.cells #[.int .u64 p1, .int .i64 m1, .int .i64 f1, .bool n1, v1, .int .i64 e1] 39)
  have hac := hab.alloc hab.size (.cells #[.int .u64 p2, .int .i64 m2, .int .i64 f2, .bool n2, v2, .int .i64 e2] 39)
  have em : max (p1 : Int) (p2 : Int) = ((max p1 p2 : Nat) : Int) := by omega
  by_cases hk : k = 0
  · have t : ((k : Int) == 0) = true := by rw [hk]; rfl
    have H : Hid (pOf k (max p1 p2) = max p1 p2) := Lib.hid (by unfold pOf; rw [if_pos hk])
    obtain ⟨M, hM⟩ : ∃ M, M = max p1 p2 := ⟨_, rfl⟩
    rw [← hM] at em H ⊢
    clear hk hM
    go_enter Tryz.func24, Tryz.ntmps24
    go_wp2
    go_ret
    rw [H.out]
    exact ⟨rfl, hac⟩
  · have t : ((k : Int) == 0) = false := by rw [beq_eq_false_iff_ne]; omega
    have H : Hid (pOf k (max p1 p2) = k) := Lib.hid (by unfold pOf; rw [if_neg hk])
    clear hk em
    go_enter Tryz.func24, Tryz.ntmps24
    go_wp2
    go_ret
    rw [H.out]
    exact ⟨rfl, hac⟩
/-- What number says of a Real. -/
def NumIs (p m f : Int) (ws : List Nat) (e : Int) : Prop := f ≠ 2 ∧ RealIs 300 1000 p m f ws e
set_option maxRecDepth 100000 in
set_option maxHeartbeats 800000 in
theorem number_any (p : Nat) (m f e : Int) (neg : Bool) (v : Value) (ws : List Nat) (w : World) (hv : RW w v ws) :
    Calls Tryz.prog 19 #[.agg #[.int .u64 p, .int .i64 m, .int .i64 f, .bool neg, v, .int .i64 e]] w fun e' w' => ∃ ok, e' = .returned (.bool ok) ∧ (ok = true → NumIs p m f ws e) ∧ Below w.heap.size w w' := by
  have hS := hv.isS
  have hab := (Below.refl w.heap.size w).alloc (Nat.le_refl _) (.cells #[.int .u64 p, .int .i64 m, .int .i64 f, .bool neg, v, .int .i64 e] 39)
  obtain ⟨W, hW⟩ : ∃ W, W = w.alloc (.cells #[.int .u64 p, .int .i64 m, .int .i64 f, .bool neg, v, .int .i64 e] 39) := ⟨_, rfl⟩
  have hrow : W.heap[w.heap.size]? = some (.cells #[.int .u64 p, .int .i64 m, .int .i64 f, .bool neg, v, .int .i64 e] 39 (0, 0)) := by rw [hW]; exact box_row (Below.refl _ _)
  rw [← hW] at hab
  obtain ⟨-, x0, x1, x2, x3, x4, x5⟩ := ks12 hrow (Below.refl _ _)
  have HV := Lib.hid (hv.below hab)
  have HAB := Lib.hid hab
  clear hrow hv hab
  by_cases f2 : f = 2
  · have t : (f != 2) = false := by rw [f2]; rfl
    clear f2
    go_enter Tryz.func19, Tryz.ntmps19
    go_upto_region 1 with fail
    rw [← hW]
    clear hW
    go_wp2
    go_ret
    exact ⟨_, rfl, fun h => by simp at h, HAB.out⟩
  · have t : (f != 2) = true := by rw [bne_iff_ne]; exact f2
    have HF := Lib.hid f2
    clear f2
    go_enter Tryz.func19, Tryz.ntmps19
    go_upto_region 1 with fail
    rw [← hW]
    clear hW
    go_wp2_with fail
    refine (real_any 300 1000 p m f e neg v ws W HV.out (by decide) (by decide)).mono ?_
    rintro _ w1 ⟨ok, rfl, hok, hb⟩
    have HOK := Lib.hid hok
    have HB := Lib.hid (HAB.out.trans (hb.mono HAB.out.size))
    clear hok hb
    go_wp2
    go_ret
    exact ⟨_, rfl, fun h => ⟨HF.out, HOK.out h⟩, HB.out⟩
end Go.Proofs.YtgclooabjilniaaGreatDoor

/-
Floats: the least precision; a Float as an integer. No condition.
-/
namespace Go.Proofs.YtgclooabjilniaaGreatDoor
open Go.RowKit

set_option maxRecDepth 100000 in
set_option maxHeartbeats 800000 in
theorem minPrec_one (b p m : Nat) (a e : Int) (neg : Bool) (v : Value) (ws : List Nat) (w : World) (h : FltR w b p m a 1 neg v e) (hv : RW w v ws) (h0 : 0 < wv ws) (hl : ws.length ≤ 1000000) (htop : bl (wv ws) = 64 * ws.length) (hT : TabW w) :
    Calls Tryz.prog 68 #[.pointer (some ⟨b, 0, none⟩)] w fun e' w' => e' = .returned (.int .u64 (bl (od (wv ws)) : Nat)) ∧ ∃ n, w' = w.drewN n := by
  obtain ⟨c0, c1, c2, c3, c4, c5, c6⟩ := h.cells
  have hS := hv.isS
  have hL := hv.len
  have hb := bl_od h0
  obtain ⟨t, ht⟩ : ∃ t, t = tz (wv ws) := ⟨_, rfl⟩
  obtain ⟨q, hq⟩ : ∃ q, q = bl (od (wv ws)) := ⟨_, rfl⟩
  obtain ⟨L, hLL⟩ : ∃ L, L = ws.length := ⟨_, rfl⟩
  have hTz : ∀ k, Calls Tryz.prog 95 #[v] (w.drewN k) fun e' w' => e' = .returned (.int .u64 (t : Nat)) ∧ w' = w.drewN k := fun k => by
    rw [ht]
    refine (tzb_any v ws (w.drewN k) (hv.below (undrewN' (Below.refl _ _))) h0 (by omega) (hT.drewN k)).mono ?_
    rintro _ _ ⟨rfl, rfl⟩
    exact ⟨rfl, rfl⟩
  have HTz := Lib.hid hTz
  have e1 : (L : Int) * 64 - (t : Int) = (q : Int) := by rw [htop, ← hq, ← ht, ← hLL] at hb; omega
  rw [← hq]
  rw [← hLL] at hL hl
  have hqb : q ≤ 64000000 := by omega
  have htb : t ≤ 64000000 := by omega
  clear h hv h0 htop hT hTz ht hq hLL hb
  go_enter Tryz.func68, Tryz.ntmps68
  go_wp2_with fail
  go_quiet ((go_at_call 95; exact Calls.quiet_of_same (HTz.out _)))
  go_wp2
  go_ret
  exact ⟨rfl, _, rfl⟩
/-- An integer's cells lie new. -/
theorem intP_of {w : World} {B g n : Nat} {neg : Bool} {v : Value} (hB : B ≤ g) (h : w.heap[g]? = some (.cells #[.bool neg, v] 136 (0, 0))) (ho : Own w B 128 v (cellsW (wds n))) : IntP w B g neg n := ⟨v, hB, h, ho⟩
def accI (neg ex : Bool) : Int := if ex then 0 else if neg then 1 else -1
set_option maxRecDepth 100000 in
set_option maxHeartbeats 3200000 in
theorem floatInt_le (b p m k : Nat) (a : Int) (neg : Bool) (v : Value) (ws : List Nat) (w : World) (h : FltR w b p m a 1 neg v (k : Int)) (hv : RW w v ws) (h0 : 0 < wv ws) (hl : ws.length ≤ 1000000) (htop : bl (wv ws) = 64 * ws.length) (hT : TabW w)
    (hk0 : 0 < k) (hk : k ≤ 64 * ws.length) :
    Calls Tryz.prog 102 #[.pointer (some ⟨b, 0, none⟩), .pointer none] w fun e' w' => ∃ g, e' = .returned (.tuple #[.pointer (some ⟨g, 0, none⟩), .int .i8 (accI neg (decide (bl (od (wv ws)) ≤ k)))]) ∧ IntP w' w.heap.size g neg (wv ws / 2 ^ (64 * ws.length - k)) ∧ Below w.heap.size w w' := by
  have hS := hv.isS
  have hL := hv.len
  have hrow : (w.alloc (.cells #[.bool false, .slice none 0 0] 136)).heap[w.heap.size]? = some (.cells #[.bool false, .slice none 0 0] 136 (0, 0)) := box_row (Below.refl _ _)
  obtain ⟨X, hX⟩ : ∃ X, X = w.alloc (.cells #[.bool false, .slice none 0 0] 136) := ⟨_, rfl⟩
  have hab := (Below.refl w.heap.size w).alloc (Nat.le_refl _) (.cells #[.bool false, .slice none 0 0] 136)
  rw [← hX] at hrow hab
  have hF := h.below hab
  obtain ⟨c0, c1, c2, c3, c4, c5, c6⟩ := h.cells
  have hR := hrow
  obtain ⟨L, hLL⟩ : ∃ L, L = ws.length := ⟨_, rfl⟩
  obtain ⟨P, hP⟩ : ∃ P, P = bl (od (wv ws)) := ⟨_, rfl⟩
  have HF := Lib.hid hF
  have HV := Lib.hid hv
  have HWS : Hid (cellsW ws = cellsW (wds (wv ws))) := Lib.hid (congrArg cellsW (wds_of hv.lt (by rw [nw_bl h0, htop]; omega)))
  have HMP := Lib.hid (fun (W : World) (hb : Below w.heap.size w W) => minPrec_one b p m a (k : Int) neg v ws W (h.below hb) (hv.below hb) h0 hl htop (hT.below hb))
  rw [← hP] at HMP ⊢
  have HAB := Lib.hid hab
  have HR := Lib.hid hR
  rw [← hLL] at hL hk hl ⊢
  have hne : ¬ b = w.heap.size := fun hc => by have := h.lt; omega
  have hne' : ¬ w.heap.size = b := fun hc => hne hc.symm
  have hPb : P ≤ 64000000 := by
    have h1 := bl_od h0
    rw [hP]; rw [htop, ← hLL] at h1; omega
  have t1 : decide ((k : Int) ≤ 0) = false := decide_eq_false (by omega)
  have hXs := hab.size
  have HLL := Lib.hid hLL
  clear h hv h0 htop hT hab hrow hF hR hP hLL
  go_enter Tryz.func102, Tryz.ntmps102
  go_upto_region 3 with fail
  rw [← hX]
  clear hX c0 c1 c2 c3 c4 c5 c6
  obtain ⟨c0, c1, c2, c3, c4, c5, c6⟩ := HF.out.cells
  have c3' : X.cell? ⟨b, 3, none⟩ = some (.int .u8 1) := c3
  clear c3
  go_wp2_with fail
  refine (makeAcc_any neg X).mono ?_
  rintro _ _ ⟨rfl, rfl⟩
  obtain ⟨ac, hac⟩ : ∃ ac : Int, ac = (if neg then 1 else -1) := ⟨_, rfl⟩
  rw [← hac]
  have HAC := Lib.hid hac
  clear hac
  go_wp2_with fail
  refine (HMP.out X HAB.out).mono ?_
  rintro _ _ ⟨rfl, n1, rfl⟩
  go_upto_if 53 with fail
  go_cut [6] (fun x wx => x = .int .i8 (accI neg (decide (P ≤ k))) ∧ X.drewN n1 = wx)
  case first =>
    by_cases hPk : P ≤ k
    · have q1 : decide (P ≤ k) = true := decide_eq_true hPk
      go_wp2_with fail
      go_meet
      exact ⟨by rw [q1]; rfl, rfl⟩
    · have q1 : decide (P ≤ k) = false := decide_eq_false hPk
      go_wp2_with fail
      go_meet
      exact ⟨by rw [q1, HAC.out]; rfl, rfl⟩
  case rest =>
    obtain ⟨rfl, rfl⟩ := hcut
    obtain ⟨A, hA⟩ : ∃ A, A = accI neg (decide (P ≤ k)) := ⟨_, rfl⟩
    rw [← hA]
    have HAA := Lib.hid hA
    clear hA HAC
    have hR : (X.drewN n1).heap[w.heap.size]? = some (.cells #[.bool false, .slice none 0 0] 136 (0, 0)) := HR.out
    have hF : FltR (X.drewN n1) b p m a 1 neg v (k : Int) := HF.out
    have hB1 : Below w.heap.size w (X.drewN n1) := undrewN' HAB.out
    obtain ⟨W, hW⟩ : ∃ W, W = X.drewN n1 := ⟨_, rfl⟩
    rw [← hW] at hR hF hB1 ⊢
    clear hW HR HF HMP HAB c0 c1 c2 c3' c4 c5 c6
    have r0 : W.cell? ⟨w.heap.size, 0, none⟩ = some (.bool false) := (row_at (i := 0) hR rfl).1
    have r1 : W.cell? ⟨w.heap.size, 1, none⟩ = some (.slice none 0 0) := (row_at (i := 1) hR rfl).1
    have z0 := frozen_of_row W w.heap.size 0 _ _ hR
    have z1 := frozen_of_row W w.heap.size 1 _ _ hR
    obtain ⟨c0, c1, c2, c3, c4, c5, c6⟩ := hF.cells
    have hWs := hB1.size
    have R1 := rowset (i := 0) (.bool neg) hR
    have hB2 := bset (i := 0) (u := .bool neg) hB1 (Nat.le_refl _)
    have R1c : (W.setCell ⟨w.heap.size, 0, none⟩ (.bool neg)).heap[w.heap.size]? = some (.cells #[.bool neg, .slice none 0 0] 136 (0, 0)) := R1
    have F1 : FltR (W.setCell ⟨w.heap.size, 0, none⟩ (.bool neg)) b p m a 1 neg v (k : Int) := (heap_setCell_other _ _ _ _ (by simpa using hne)).trans hF
    have s1 : (W.setCell ⟨w.heap.size, 0, none⟩ (.bool neg)).cell? ⟨w.heap.size, 1, none⟩ = some (.slice none 0 0) := (row_at (i := 1) R1c rfl).1
    obtain ⟨d0, d1, d2, d3, d4, d5, d6⟩ := F1.cells
    have HR1 := Lib.hid R1c
    have HB2 := Lib.hid hB2
    have hsz : w.heap.size ≤ (W.setCell ⟨w.heap.size, 0, none⟩ (.bool neg)).heap.size := hB2.size
    have fin : ∀ (nq : Nat) (w2 : World) (r : Value) (N : Nat), Own w2 (W.setCell ⟨w.heap.size, 0, none⟩ (.bool neg)).heap.size 128 r (cellsW (wds N)) → Below (W.setCell ⟨w.heap.size, 0, none⟩ (.bool neg)).heap.size ((W.setCell ⟨w.heap.size, 0, none⟩ (.bool neg)).drewN nq) w2 →
        w2.frozen? ⟨w.heap.size, 1, none⟩ = false ∧ w2.cell? ⟨w.heap.size, 1, none⟩ = some (.slice none 0 0) ∧ IntP (w2.setCell ⟨w.heap.size, 1, none⟩ r) w.heap.size w.heap.size neg N ∧ Below w.heap.size w (w2.setCell ⟨w.heap.size, 1, none⟩ r) := fun nq w2 r N ho hb => by
      have hrow2 : w2.heap[w.heap.size]? = some (.cells #[.bool neg, .slice none 0 0] 136 (0, 0)) := keep_row (undrewN hb) HR1.out
      refine ⟨frozen_of_row w2 _ 1 _ _ hrow2, (row_at (i := 1) hrow2 rfl).1, intP_of (v := r) (Nat.le_refl _) (rowset (i := 1) r hrow2) ((ho.mono hsz).away hrow2 (by decide) 1 r), bset (HB2.out.trans ((undrewN hb).mono hsz)) (Nat.le_refl _)⟩
    have FIN := Lib.hid fin
    have tk : decide (L * 64 < k) = false := decide_eq_false (by omega)
    have tk' : decide ((L : Int) * 64 < (k : Int)) = false := decide_eq_false (by omega)
    clear fin R1 R1c hB2 hB1 hR hF F1
    by_cases hkL : k < L * 64
    · have t2 : decide (k < L * 64) = true := decide_eq_true hkL
      have t2' : decide ((k : Int) < (L : Int) * 64) = true := decide_eq_true (by omega)
      have es : (L : Int) * 64 - (k : Int) = ((L * 64 - k : Nat) : Int) := by omega
      obtain ⟨s, hs⟩ : ∃ s, s = L * 64 - k := ⟨_, rfl⟩
      rw [← hs] at es
      have hs0 : 0 < s := by omega
      have hsl : s < 64 * L := by omega
      have HS := Lib.hid (show s = 64 * L - k by omega)
      clear hs hkL
      go_wp2_with fail
      (refine wp_region_hoist 12 (by kernel_rfl) (by kernel_rfl) ⟨fun _ _ _ h => (by first | exact (hQp _ _ _ h).elim | cases h.2.1 | (obtain ⟨_, h3, _⟩ := h.2; cases h3)), fun _ _ h => (by first | exact (hQo _ _ h).elim | cases h.1 | (obtain ⟨_, h3, _⟩ := h; cases h3))⟩ ?_; simp only [List.take_succ_cons, List.take_zero, List.drop_succ_cons, List.drop_zero]; (repeat (go_big_quiet_step (fail))); refine wpQuiet_nil ?_; rintro _ ⟨nq, rfl⟩)
      go_wp2_with fail
      refine (rsh_nil v ws s _ ((HV.out.below HB2.out).below (undrewN' (Below.refl _ _))) (by rw [← HLL.out]; exact hl) hs0 (by rw [← HLL.out]; exact hsl)).mono ?_
      rintro _ w2 ⟨r, rfl, ho, hb⟩
      have hSr := ho.isS
      obtain ⟨g1, g2, g3, g4⟩ := FIN.out nq w2 r _ ho hb
      have G3 := Lib.hid g3
      have G4 := Lib.hid g4
      clear g3 g4 ho hb
      go_wp2
      go_ret2
      refine ⟨w.heap.size, by rw [← HAA.out]; rfl, ?_, G4.out⟩
      rw [← HS.out]; exact G3.out
    · have t2 : decide (k < L * 64) = false := decide_eq_false hkL
      have t2' : decide ((k : Int) < (L : Int) * 64) = false := decide_eq_false (by omega)
      have HKE := Lib.hid (show 64 * L - k = 0 by omega)
      clear hkL
      go_wp2_with fail
      (refine wp_region_hoist 9 (by kernel_rfl) (by kernel_rfl) ⟨fun _ _ _ h => (by first | exact (hQp _ _ _ h).elim | cases h.2.1 | (obtain ⟨_, h3, _⟩ := h.2; cases h3)), fun _ _ h => (by first | exact (hQo _ _ h).elim | cases h.1 | (obtain ⟨_, h3, _⟩ := h; cases h3))⟩ ?_; simp only [List.take_succ_cons, List.take_zero, List.drop_succ_cons, List.drop_zero]; (repeat (go_big_quiet_step (fail))); refine wpQuiet_nil ?_; rintro _ ⟨nq, rfl⟩)
      go_wp2_with fail
      refine (set_nil v ws _ ((HV.out.below HB2.out).below (undrewN' (Below.refl _ _))) (by rw [← HLL.out]; omega)).mono ?_
      rintro _ w2 ⟨r, rfl, ho, hb⟩
      have hSr := ho.isS
      rw [HWS.out] at ho
      obtain ⟨g1, g2, g3, g4⟩ := FIN.out nq w2 r _ ho hb
      have G3 := Lib.hid g3
      have G4 := Lib.hid g4
      clear g3 g4 ho hb
      go_wp2
      go_ret2
      refine ⟨w.heap.size, by rw [← HAA.out]; rfl, ?_, G4.out⟩
      rw [HKE.out, Nat.pow_zero, Nat.div_one]; exact G3.out
end Go.Proofs.YtgclooabjilniaaGreatDoor

/-
Floats: what is told of one; MantExp. No condition.
-/
namespace Go.Proofs.YtgclooabjilniaaGreatDoor
open Go.RowKit

section
variable {b p m f : Nat} {a e : Int} {neg : Bool} {v : Value} {w : World}
set_option maxRecDepth 100000 in
theorem fPrec (h : FltR w b p m a f neg v e) (hp : p ≤ 64000000) : Calls Tryz.prog 96 #[.pointer (some ⟨b, 0, none⟩)] w fun e' w' => e' = .returned (.int .u64 p) ∧ w = w' := by
  obtain ⟨c0, c1, c2, c3, c4, c5, c6⟩ := h.cells
  clear h
  go_enter Tryz.func96, Tryz.ntmps96
  go_wp2
  go_ret
  exact ⟨rfl, rfl⟩
set_option maxRecDepth 100000 in
theorem fMode (h : FltR w b p m a f neg v e) : Calls Tryz.prog 97 #[.pointer (some ⟨b, 0, none⟩)] w fun e' w' => e' = .returned (.int .u8 m) ∧ w = w' := by
  obtain ⟨c0, c1, c2, c3, c4, c5, c6⟩ := h.cells
  clear h
  go_enter Tryz.func97, Tryz.ntmps97
  go_wp2
  go_ret
  exact ⟨rfl, rfl⟩
set_option maxRecDepth 100000 in
theorem fAcc (h : FltR w b p m a f neg v e) : Calls Tryz.prog 41 #[.pointer (some ⟨b, 0, none⟩)] w fun e' w' => e' = .returned (.int .i8 a) ∧ w = w' := by
  obtain ⟨c0, c1, c2, c3, c4, c5, c6⟩ := h.cells
  clear h
  go_enter Tryz.func41, Tryz.ntmps41
  go_wp2
  go_ret
  exact ⟨rfl, rfl⟩
set_option maxRecDepth 100000 in
theorem fIsInf (h : FltR w b p m a f neg v e) : Calls Tryz.prog 99 #[.pointer (some ⟨b, 0, none⟩)] w fun e' w' => e' = .returned (.bool (decide (f = 2))) ∧ w = w' := by
  obtain ⟨c0, c1, c2, c3, c4, c5, c6⟩ := h.cells
  have t : ((f : Int) == 2) = decide (f = 2) := by
    by_cases hf : f = 2
    · rw [hf]; rfl
    · rw [decide_eq_false hf, beq_eq_false_iff_ne]; omega
  obtain ⟨B, hB⟩ : ∃ B, B = decide (f = 2) := ⟨_, rfl⟩
  rw [← hB] at t ⊢
  clear h hB
  go_enter Tryz.func99, Tryz.ntmps99
  go_wp2
  go_ret
  exact ⟨rfl, rfl⟩
end
set_option maxRecDepth 100000 in
set_option maxHeartbeats 1600000 in
theorem mantExp_one (b B c p0 m0 f0' p m : Nat) (a0 e0 a e : Int) (n0 neg : Bool) (v : Value) (ws : List Nat) (w : World) (h : FltR w b p0 m0 a0 f0' n0 (.slice none 0 0) e0) (hB : B ≤ b) (hx : FltR w c p m a 1 neg v e) (hbc : b ≠ c)
    {Bx : Nat} (ho : Own w Bx 128 v (cellsW ws)) (hd : ∀ d ∈ ws, d < 18446744073709551616) (hl : ws.length ≤ 1000000) (he1 : -2147483648 ≤ e) (he2 : e ≤ 2147483647) :
    Calls Tryz.prog 101 #[.pointer (some ⟨c, 0, none⟩), .pointer (some ⟨b, 0, none⟩)] w fun e' w' => e' = .returned (.int .i64 e) ∧ ∃ r, FltR w' b p m a 1 neg r 0 ∧ Own w' B 128 r (cellsW ws) ∧ Below B w w' := by
  obtain ⟨c0, c1, c2, c3, c4, c5, c6⟩ := hx.cells
  have c3' : w.cell? ⟨c, 3, none⟩ = some (.int .u8 1) := c3
  have HC := Lib.hid (copyF b B c p0 m0 f0' p m a0 e0 a e n0 neg v ws w h hB hx hbc ho hd hl)
  clear h hx ho hd c3
  go_enter Tryz.func101, Tryz.ntmps101
  go_wp2_with fail
  refine HC.out.mono ?_
  rintro _ w1 ⟨rfl, r, h1, h2, h3⟩
  obtain ⟨d0, d1, d2, d3, d4, d5, d6⟩ := h1.cells
  have d3' : w1.cell? ⟨b, 3, none⟩ = some (.int .u8 1) := d3
  obtain ⟨f0, f1, f2, f3, f4, f5, f6⟩ := h1.free
  have R := Lib.hid (h1.s6 0)
  have O := Lib.hid (h1.own h2 6 (.int .i32 (0 : Int)))
  have BB := Lib.hid (bset (i := 6) (u := .int .i32 (0 : Int)) h3 hB)
  clear h1 h2 h3 d3
  go_wp2
  go_ret
  exact ⟨rfl, r, R.out, O.out, BB.out⟩
/-- A Real that a Float has. -/
def RealV (w : World) (z : Value) (p m f : Nat) (neg : Bool) (M : Nat) (X : Int) : Prop :=
  ∃ (v : Value) (E : Int) (zs : List Nat) (B : Nat), z = .agg #[.int .u64 p, .int .i64 m, .int .i64 f, .bool neg, v, .int .i64 E] ∧ Own w B 22 v (cellsW zs) ∧ (∀ d ∈ zs, d < 18446744073709551616) ∧ (f ≠ 1 → zs = [] ∧ E = 0) ∧ (f = 1 → zs = wds (od M) ∧ E = X + (tz M : Nat))
end Go.Proofs.YtgclooabjilniaaGreatDoor

/-
The thin package's integers: wordsOf, told. No condition.
-/
namespace Go.Proofs.YtgclooabjilniaaGreatDoor
open Go.RowKit

def WoU (ws : List Nat) (B k : Nat) (w : World) (v : Value) (wr : World) : Prop := Own wr B 22 v (cellsW (ws.take k)) ∧ Below B w wr
theorem WoU.step {ws : List Nat} {B k : Nat} {w w1 : World} {v1 : Value} (hk : k < ws.length) (h : Own w1 B 22 v1 (cellsW (ws.take k) ++ [.int .u64 ((ws.getD k 0 : Nat) : Int)])) (hb : Below B w w1) : WoU ws B (k + 1) w v1 w1 := by
  refine ⟨?_, hb⟩
  rw [cellsW_snoc] at h
  rw [List.take_succ_eq_append_getElem hk]
  simpa [List.getD_eq_getElem?_getD, List.getElem?_eq_getElem hk] using h
set_option maxRecDepth 100000 in
set_option maxHeartbeats 800000 in
theorem wordsOf_any (b o : Nat) (v : Value) (ws : List Nat) (w : World) (hc : w.cell? ⟨b, o + 1, none⟩ = some v) (hv : RW w v ws) (hl : ws.length ≤ 100000000) :
    Calls Tryz.prog 103 #[.pointer (some ⟨b, o, none⟩)] w fun e w' => ∃ r, e = .returned r ∧ Own w' w.heap.size 22 r (cellsW ws) ∧ Below w.heap.size w w' := by
  have hSv := hv.isS
  have hLv := hv.len
  obtain ⟨la, hla⟩ : ∃ la, la = ws.length := ⟨_, rfl⟩
  rw [← hla] at hLv hl
  have Hla := Lib.hid hla
  have Hv := Lib.hid hv
  clear hla hv
  go_enter Tryz.func103, Tryz.ntmps103
  go_wp2_with fail
  refine (intBits b o v w hc hSv).mono ?_
  rintro _ _ ⟨rfl, rfl⟩
  go_wp2
  go_loopw [3, 9] (fun v i wr => ∃ k : Nat, k ≤ la ∧ i = .int .i64 k ∧ WoU ws w.heap.size k w v wr) (fun _ i _ => la - (intOf i).toNat)
  case atStart => exact ⟨0, Nat.zero_le _, rfl, Own.nil _ _ _, Below.refl _ _⟩
  case round =>
    obtain ⟨i, hi, rfl, hO, hbl⟩ := hrel
    have hbz := hbl.size
    have hSo : IsS u3 := hO.isS
    have HO := Lib.hid hO
    clear hO
    by_cases hia : i < la
    · have ca := (Hv.out.below hbl).cell i (by rw [← Hla.out]; exact hia)
      obtain ⟨d, hd⟩ : ∃ d, d = ws.getD i 0 := ⟨_, rfl⟩
      rw [← hd] at ca
      have Hd := Lib.hid hd
      clear hd
      have hlk : (cellsW (ws.take i)).length = i := by rw [cellsW_length]; have := Hla.out; simp; omega
      have Hlk := Lib.hid hlk
      clear hlk
      go_wp2_with (at_builtin; refine wpList_append_O rfl _ _ _ _ rfl elemU w.heap.size _ _ rfl (HO.out.alloc _) _ rfl 1 [.int .u64 (d : Int)] (srcOne Tryz.underlying37 wr _ _) ?c3 ?c4 ?c5 ?_)
      case c3 => rw [Hlk.out]; unfold maxLen; omega
      case c4 => rw [Hlk.out]; omega
      case c5 => simp; omega
      rintro v1 w1 ho1 hb1 - - -
      have hs := WoU.step (by rw [← Hla.out]; exact hia) (by rw [← Hd.out]; exact ho1) ((hbl.alloc hbz _).trans hb1)
      have Hs := Lib.hid hs
      clear hs ho1
      go_wp2
      go_roundw
      case rel => exact ⟨i + 1, by omega, by go_num, Hs.out⟩
      case measure => simp [intOf]; omega
    · have hil : i = la := by omega
      subst hil
      have hfull : ws.take i = ws := List.take_of_length_le (by rw [Hla.out]; exact Nat.le_refl _)
      have ho := HO.out
      rw [hfull] at ho
      have Ho := Lib.hid ho
      clear hfull ho
      go_wp2
      go_ret
      exact ⟨_, rfl, Ho.out, hbl⟩
theorem sgn_lt (neg : Bool) (n : Nat) : decide (sgnI neg (nw n) < 0) = (neg && decide (0 < n)) := by
  rcases Nat.eq_zero_or_pos n with h | h
  · subst h; cases neg <;> rfl
  · have := nw_pos h
    unfold sgnI
    rw [if_neg (by omega)]
    cases neg
    · rfl
    · simp [h]
end Go.Proofs.YtgclooabjilniaaGreatDoor
