/-
Texts of this proof, joined: MuB MuC VvH DvA. No condition.
-/
import Derived.Test.YtllhnjpnkmjopaaGreatDoorK04
import Derived.Test.YtllhnjpnkmjopaaGreatDoorK08
import Derived.Test.YtllhnjpnkmjopaaGreatDoorK15
import Derived.Test.YtllhnjpnkmjopaaGreatDoorK20
namespace Go.Proofs.YtllhnjpnkmjopaaGreatDoor
open Go.RowKit

theorem wdsN_sub {Z L k m : Nat} (h : k + m ≤ L) : ((wdsN Z L).take (k + m)).drop k = wdsN (Z / 18446744073709551616 ^ k) m := by
  refine wdsN_of ?_ fun j hj => ?_
  · rw [List.length_drop, List.length_take, wdsN_length]; omega
  · rw [List.getD_eq_getElem?_getD, List.getElem?_drop, List.getElem?_take, if_pos (by omega), ← List.getD_eq_getElem?_getD, wdsN_getD (by omega)]
    unfold wdg
    rw [Nat.div_div_eq_div_mul, ← Nat.pow_add]
theorem wdsN_take {Z L k : Nat} (h : k ≤ L) : (wdsN Z L).take k = wdsN Z k := by
  have := wdsN_sub (Z := Z) (L := L) (k := 0) (m := k) (by omega)
  rw [Nat.zero_add, List.drop_zero, Nat.pow_zero, Nat.div_one] at this
  exact this
theorem bm_words {Z V m k n S c : Nat} (hk : k < n) (hZ : Z < 18446744073709551616 ^ (m + k)) (hS : S = Z / 18446744073709551616 ^ k + V) (hc : S = wv (wdsN S m) + 18446744073709551616 ^ m * c) (hcl : c < 18446744073709551616) :
    ((wdsN Z (m + n)).take k ++ (wdsN S m ++ (wdsN Z (m + n)).drop (k + m))).set (m + k) c = wdsN (Z + 18446744073709551616 ^ k * V) (m + n) := by
  have hlt : ((wdsN Z (m + n)).take k).length = k := by rw [List.length_take, wdsN_length]; omega
  have hll : ((wdsN Z (m + n)).take k ++ (wdsN S m ++ (wdsN Z (m + n)).drop (k + m))).length = m + n := by
    rw [List.length_append, hlt, List.length_append, wdsN_length, List.length_drop, wdsN_length]; omega
  refine wdsN_eq (by rw [List.length_set, hll]) ?_ ⟨0, ?_⟩
  · refine set_lt ?_ hcl
    intro d hd
    rcases List.mem_append.1 hd with h | h
    · exact wdsN_lt d (List.mem_of_mem_take h)
    · rcases List.mem_append.1 h with h | h
      · exact wdsN_lt d h
      · exact wdsN_lt d (List.mem_of_mem_drop h)
  · have hw := wset (ws := (wdsN Z (m + n)).take k ++ (wdsN S m ++ (wdsN Z (m + n)).drop (k + m))) (i := m + k) (by rw [hll]; omega) c
    have hg : ((wdsN Z (m + n)).take k ++ (wdsN S m ++ (wdsN Z (m + n)).drop (k + m))).getD (m + k) 0 = 0 := by
      rw [List.getD_eq_getElem?_getD, List.getElem?_append_right (by omega), hlt, List.getElem?_append_right (by rw [wdsN_length]; omega), wdsN_length, List.getElem?_drop, ← List.getD_eq_getElem?_getD, wdsN_getD (by omega)]
      unfold wdg
      rw [show k + m + (m + k - k - m) = m + k by omega, Nat.div_eq_of_lt hZ]
    have hD : wv ((wdsN Z (m + n)).drop (k + m)) = 0 := by
      have h1 := wv_split (wdsN Z (m + n)) (k + m) (by rw [wdsN_length]; omega)
      rw [wdsN_take (by omega), wdsN_wv, wdsN_wv, Nat.mod_eq_of_lt (Nat.lt_of_lt_of_le hZ (Nat.pow_le_pow_right (by decide) (by omega))), Nat.add_comm k m, Nat.mod_eq_of_lt hZ] at h1
      have h2 : 18446744073709551616 ^ (m + k) * wv ((wdsN Z (m + n)).drop (m + k)) = 0 := by omega
      rcases Nat.mul_eq_zero.1 h2 with h3 | h3
      · exact absurd h3 (Nat.ne_of_gt (wpow_pos _))
      · rw [Nat.add_comm k m]; exact h3
    obtain ⟨W, hW⟩ : ∃ W, W = wv (((wdsN Z (m + n)).take k ++ (wdsN S m ++ (wdsN Z (m + n)).drop (k + m))).set (m + k) c) := ⟨_, rfl⟩
    rw [← hW] at hw ⊢
    rw [hg, wv_append, hlt, wv_append, wdsN_length, hD, wdsN_take (by omega), wdsN_wv] at hw
    have e1 : 18446744073709551616 ^ (m + k) * c = 18446744073709551616 ^ k * (18446744073709551616 ^ m * c) := by rw [Nat.pow_add, Nat.mul_comm (18446744073709551616 ^ m), Nat.mul_assoc]
    have e2 : 18446744073709551616 ^ k * S = 18446744073709551616 ^ k * wv (wdsN S m) + 18446744073709551616 ^ k * (18446744073709551616 ^ m * c) := by rw [← Nat.mul_add, ← hc]
    have e3 : 18446744073709551616 ^ k * S = 18446744073709551616 ^ k * (Z / 18446744073709551616 ^ k) + 18446744073709551616 ^ k * V := by rw [hS, Nat.mul_add]
    have e4 := Nat.div_add_mod Z (18446744073709551616 ^ k)
    rw [Nat.mul_zero, Nat.mul_zero, Nat.add_zero, Nat.add_zero] at hw
    rw [Nat.mul_zero, Nat.add_zero, hw, e1]
    omega
def BmRel (z : Value) (xs ys : List Nat) (N B k : Nat) (w wr : World) : Prop :=
  Own wr B 116 z (cellsW (wdsN (wv xs * wv (ys.take k)) N)) ∧ Below B w wr ∧ FrB (sBlk z) (sOff z) (sOff z + N) w wr
set_option maxRecDepth 100000 in
set_option maxHeartbeats 6400000 in
theorem basicMul_any (z x y : Value) (os : List Value) (xs ys : List Nat) (B : Nat) (w : World) (hz : Own w B 116 z os) (hx : RW w x xs) (hy : RW w y ys) (hos : os.length = xs.length + ys.length) (hnx : sBlk x ≠ sBlk z) (hny : sBlk y ≠ sBlk z) (h0 : 0 < xs.length) (hl : os.length ≤ 1000000000) :
    Calls Tryz.prog 168 #[z, x, y] w fun e w' => e = .returned (.tuple #[]) ∧ Own w' B 116 z (cellsW (wdsN (wv xs * wv ys) os.length)) ∧ Below B w w' ∧ FrB (sBlk z) (sOff z) (sOff z + os.length) w w' := by
  have hS := hz.isS
  have hSx := hx.isS
  have hSy := hy.isS
  obtain ⟨m, hm⟩ : ∃ m, m = xs.length := ⟨_, rfl⟩
  obtain ⟨n, hn⟩ : ∃ n, n = ys.length := ⟨_, rfl⟩
  obtain ⟨N, hN⟩ : ∃ N, N = os.length := ⟨_, rfl⟩
  have hLz : sLen z = N := by rw [hz.len, hN]
  have hLx : sLen x = m := by rw [hx.len, hm]
  have hLy : sLen y = n := by rw [hy.len, hn]
  have hNm : N = m + n := by omega
  have hcz : N ≤ sCap z := by have := hS.le; omega
  have hcz0 : 0 < sCap z := by omega
  have hBz := (hz.lt hcz0).1
  have hS0 : IsS (subS z 0 N) := subS_isS hS (Nat.zero_le _) hcz
  have hsub := hz.sub (l := 0) (n := N) (Nat.zero_le _) (by omega)
  have hsl : ((os.take N).drop 0).length = N := by simp; omega
  have e1 : (m : Int) + (n : Int) = (N : Int) := by omega
  rw [← hN] at hl ⊢
  rw [← hm] at h0
  have HZ := Lib.hid hz
  have HX := Lib.hid hx
  have HY := Lib.hid hy
  have HNX := Lib.hid hnx
  have HNY := Lib.hid hny
  have HM := Lib.hid hm
  have HN := Lib.hid hn
  have HNN := Lib.hid hN
  have HNM := Lib.hid hNm
  have HSUB := Lib.hid hsub
  have HSL := Lib.hid hsl
  have hmb : m ≤ N := by omega
  clear hz hx hy hnx hny hm hn hN hos hNm hsub hsl
  go_enter Tryz.func168, Tryz.ntmps168
  go_wp2_with (refine wpList_clear_O (o := ⟨none, _, _, _, _, _⟩) rfl (.tmp 14) 108 rfl elemT rfl (subS z 0 N) rfl B _ HSUB.out ?_)
  intro w1 ho1 hb1 hf1
  have hmn : min N os.length = N := by rw [← HNN.out]; exact Nat.min_self _
  rw [hmn] at ho1 hf1
  rw [(sub0 hS).1, (sub0 hS).2] at hf1
  have hp1 := HZ.out.patch (l := 0) (n := N) (Nat.zero_le _) (by rw [← HNN.out]; exact Nat.le_refl _) (by simp) ho1 (by rw [Nat.add_zero]; exact hf1)
  rw [List.take_zero, List.nil_append, List.drop_of_length_le (by rw [← HNN.out]; exact Nat.le_refl _), List.append_nil, cellsW_zeros] at hp1
  have hz0 : List.replicate N 0 = wdsN 0 N := wdsN_of (by simp) (fun j hj => by
    rw [List.getD_eq_getElem?_getD, List.getElem?_replicate, if_pos hj]; simp [wdg])
  have R0 : Hid (BmRel z xs ys N B 0 w w1) := Lib.hid ⟨by rw [List.take_zero, show wv [] = 0 from rfl, Nat.mul_zero, ← hz0]; exact hp1, hb1, hf1⟩
  clear ho1 hb1 hf1 hp1 hz0 HSUB HSL
  go_wp2
  go_loopw [17] (fun i wr => ∃ k : Nat, k ≤ n ∧ i = .int .i64 k ∧ BmRel z xs ys N B k w wr) (fun i _ => n - (intOf i).toNat)
  case atStart => exact ⟨0, Nat.zero_le _, rfl, R0.out⟩
  case round =>
    obtain ⟨k, hk, rfl, hrel⟩ := hrel
    obtain ⟨wo, hwo⟩ : ∃ wo : World, wo = wr := ⟨_, rfl⟩
    subst hwo
    have HREL := Lib.hid hrel
    have HYo := Lib.hid (hrel.2.2.rw HY.out (fun h => absurd h HNY.out))
    have HXo := Lib.hid (hrel.2.2.rw HX.out (fun h => absurd h HNX.out))
    by_cases hkn : k < n
    · have cy := HYo.out.cell k (by rw [← HN.out]; exact hkn)
      have hyl := getD_ltW HY.out.lt k
      have e2 := wv_take_succ (ws := ys) (i := k) (by rw [← HN.out]; exact hkn)
      obtain ⟨d, hd⟩ : ∃ d, d = ys.getD k 0 := ⟨_, rfl⟩
      rw [← hd] at cy hyl e2
      by_cases hd0 : d = 0
      · have t1 : ((d : Int) == 0) = true := by rw [hd0]; rfl
        have HR : Hid (BmRel z xs ys N B (k + 1) w wo) := Lib.hid (by
          unfold BmRel; rw [e2, hd0, Nat.mul_zero, Nat.add_zero]; exact hrel)
        clear hrel e2 hd hd0 HREL
        go_wp2
        exact ⟨⟨k + 1, by omega, by go_num, HR.out⟩, by simp [intOf]; omega⟩
      · have t1 : ((d : Int) == 0) = false := by rw [beq_eq_false_iff_ne]; omega
        obtain ⟨Z, hZ⟩ : ∃ Z, Z = wv xs * wv (ys.take k) := ⟨_, rfl⟩
        have hZl : Z < 18446744073709551616 ^ (m + k) := by
          have h1 := wv_lt HX.out.lt
          have h2 := wv_lt (a := ys.take k) (fun d hd => HY.out.lt d (List.mem_of_mem_take hd))
          rw [List.length_take, show min k ys.length = k by have := HN.out; omega] at h2
          rw [← HM.out] at h1
          rw [hZ, Nat.pow_add]
          exact Nat.mul_lt_mul'' h1 h2
        obtain ⟨S, hSS⟩ : ∃ S, S = Z / 18446744073709551616 ^ k + wv xs * d := ⟨_, rfl⟩
        have hrel' := hrel
        obtain ⟨r1, r2, r3⟩ := hrel'
        rw [← hZ] at r1
        have hkm : k + m ≤ N := by have := HNM.out; omega
        have hSk : IsS (subS z k (k + m)) := subS_isS hS (Nat.le_add_right _ _) (by omega)
        have rs := r1.sub (l := k) (n := k + m) (Nat.le_add_right _ _) (by rw [cellsW_length, wdsN_length]; exact hkm)
        have es : ((cellsW (wdsN Z N)).take (k + m)).drop k = cellsW (wdsN (Z / 18446744073709551616 ^ k) m) := by
          rw [← wdsN_sub hkm]; simp [cellsW]
        rw [es] at rs
        have hq : Z / 18446744073709551616 ^ k < 18446744073709551616 ^ m := by
          refine Nat.div_lt_of_lt_mul ?_
          rw [← Nat.pow_add, Nat.add_comm]; exact hZl
        have HCALL : Hid (∀ j, Calls Tryz.prog 201 #[subS z k (k + m), subS z k (k + m), x, .int .u64 d, .int .u64 0] (wo.drewN j) fun e w' => ∃ c : Nat, e = .returned (.int .u64 c) ∧ (c < 18446744073709551616 ∧ S = wv (wdsN S m) + 18446744073709551616 ^ m * c) ∧ VvP (subS z k (k + m)) m B S wo w') := Lib.hid (fun j => by
          have := addMulVVWW_any (subS z k (k + m)) (subS z k (k + m)) x _ (wdsN (Z / 18446744073709551616 ^ k) m) xs d 0 B (wo.drewN j) (rs.drewN j) ((rs.rw' wdsN_lt).below (undrewN' (Below.refl _ _))) (HXo.out.below (undrewN' (Below.refl _ _)))
            (by rw [cellsW_length]) (by rw [cellsW_length, wdsN_length]; exact HM.out.symm) (fun _ => Nat.le_refl _) (by rw [subS_blk hS]; intro h; exact absurd h HNX.out) hyl (by decide) (by rw [cellsW_length, wdsN_length]; omega)
          rw [cellsW_length, wdsN_length, wv_wdsN_lt hq, Nat.add_zero, ← hSS] at this
          refine this.mono ?_
          rintro _ w' ⟨c, rfl, h1, h2, h3, h4⟩
          exact ⟨c, rfl, h1, h2, undrewN h3, h4.undrewN⟩)
        have HFIN : Hid (∀ c w2, c < 18446744073709551616 → S = wv (wdsN S m) + 18446744073709551616 ^ m * c → VvP (subS z k (k + m)) m B S wo w2 →
            (w2.frozen? ⟨sBlk z, sOff z + (m + k), none⟩ = false ∧ ∃ u, w2.cell? ⟨sBlk z, sOff z + (m + k), none⟩ = some u) ∧ BmRel z xs ys N B (k + 1) w (w2.setCell ⟨sBlk z, sOff z + (m + k), none⟩ (.int .u64 (c : Int)))) := Lib.hid (fun c w2 hc hcS hvp => by
          have hpt := VvP.patch (l := k) (n := k + m) r1 (Nat.le_add_right _ _) (by rw [cellsW_length, wdsN_length]; exact hkm) (by rw [Nat.add_sub_cancel_left]; exact hvp)
          rw [Nat.add_sub_cancel_left] at hpt
          obtain ⟨g1, g2, g3⟩ := hpt
          have ec : (cellsW (wdsN Z N)).take k ++ (cellsW (wdsN S m) ++ (cellsW (wdsN Z N)).drop (k + m)) = cellsW ((wdsN Z N).take k ++ (wdsN S m ++ (wdsN Z N).drop (k + m))) := by simp [cellsW]
          rw [ec] at g1
          have hll : ((wdsN Z N).take k ++ (wdsN S m ++ (wdsN Z N).drop (k + m))).length = N := by
            rw [List.length_append, List.length_take, wdsN_length, List.length_append, wdsN_length, List.length_drop, wdsN_length]; omega
          have hmk : m + k < N := by have := HNM.out; omega
          have gs := g1.set (i := m + k) (by rw [cellsW_length, hll]; exact hmk) (.int .u64 (c : Int))
          have hbw := bm_words (V := wv xs * d) hkn hZl hSS hcS hc
          rw [← HNM.out] at hbw
          rw [cellsW_set, hbw, show Z + 18446744073709551616 ^ k * (wv xs * d) = wv xs * wv (ys.take (k + 1)) by rw [e2, Nat.mul_add, hZ]; congr 1; rw [Nat.mul_left_comm]] at gs
          refine ⟨⟨g1.frozen hcz0 _, _, g1.cell (List.getElem?_eq_getElem (by rw [cellsW_length, hll]; exact hmk))⟩, gs, bset (r2.trans g2) hBz, ?_⟩
          refine r3.trans r2.size ?_
          refine (g3.mono (by omega) (by omega)).set (by omega) (by omega) _)
        have e3 : (k : Int) + (m : Int) = ((k + m : Nat) : Int) := by omega
        have e4 : (m : Int) + (k : Int) = ((m + k : Nat) : Int) := by omega
        obtain ⟨km, hkmE⟩ : ∃ km, km = k + m := ⟨_, rfl⟩
        obtain ⟨mk, hmkE⟩ : ∃ mk, mk = m + k := ⟨_, rfl⟩
        rw [← hkmE] at hSk HCALL HFIN e3 hkm
        rw [← hmkE] at HFIN e4
        have hmkN : mk < N := by have := HNM.out; omega
        have hkkm : k ≤ km := by omega
        have hkc : km ≤ sCap z := by omega
        have hkkm' : (k : Int) ≤ (km : Int) := by omega
        have hkc' : (km : Int) ≤ (sCap z : Int) := by omega
        have hk0 : (0 : Int) ≤ (k : Int) := by omega
        have hw1 : IntKind.i64.wrap (km : Int) = (km : Int) := by rw [IntKind.wrap_i64]; omega
        have hw2 : IntKind.i64.wrap (mk : Int) = (mk : Int) := by rw [IntKind.wrap_i64]; omega
        clear hrel e2 hd hd0 HREL hZ hZl hSS r1 r2 r3 rs es hq hkmE hmkE
        go_upto_region 5 with fail
        first
          | (go_region_held3 (fun _ => True)
              ((exact True.intro))
              (first
                | (go_at_call 201; refine (HCALL.out 1).mono ?_; rintro _ w2 ⟨c, rfl, ⟨hc, hcS⟩, hvp⟩; obtain ⟨⟨fz, u, cu⟩, hq⟩ := HFIN.out c w2 hc hcS hvp; have HQ := Lib.hid hq; clear hcS hvp hq)))
          | fail
        all_goals
          go_wp2
          exact ⟨⟨k + 1, by omega, by go_num, HQ.out⟩, by simp [intOf]; omega⟩
    · have hkk : k = n := by omega
      have HD : Hid (Own wo B 116 z (cellsW (wdsN (wv xs * wv ys) N)) ∧ Below B w wo ∧ FrB (sBlk z) (sOff z) (sOff z + N) w wo) := Lib.hid (by
        have h1 := hrel
        unfold BmRel at h1
        rw [hkk, List.take_of_length_le (by rw [HN.out]; exact Nat.le_refl _)] at h1
        exact h1)
      clear hrel HREL hkk
      go_wp2
      go_end0
      exact ⟨rfl, HD.out⟩
set_option maxRecDepth 100000 in
set_option maxHeartbeats 3200000 in
theorem mulAddWW_any (z x : Value) (zs : List Value) (X y r B : Nat) (w : World) (hz : Own w B 116 z zs) (hx : RO w x (wds X)) (ax : Al z x) (h0 : 0 < X) (hy0 : 0 < y) (hy : y < 18446744073709551616) (hr : r < 18446744073709551616) (hl : nw X ≤ 100000000) (hB : B ≤ w.heap.size) :
    Calls Tryz.prog 178 #[z, x, .int .u64 y, .int .u64 r] w fun e w' => ∃ q, e = .returned q ∧ NatR z q (X * y + r) B w w' := by
  have hS := hz.isS
  have hSx := hx.rw.isS
  obtain ⟨m, hm⟩ : ∃ m, m = nw X := ⟨_, rfl⟩
  have hLx : sLen x = m := by rw [hx.rw.len, wds_length, hm]
  have hmp : 0 < m := by rw [hm]; exact nw_pos h0
  have hcx : m ≤ sCap x := by have := hSx.le; omega
  rw [← hm] at hl
  have t1 : ((m : Int) == 0) = false := by rw [beq_eq_false_iff_ne]; omega
  have t2 : ((y : Int) == 0) = false := by rw [beq_eq_false_iff_ne]; omega
  have e1 : (m : Int) + 1 = ((m + 1 : Nat) : Int) := by omega
  obtain ⟨m1, hm1⟩ : ∃ m1, m1 = m + 1 := ⟨_, rfl⟩
  rw [← hm1] at e1
  have HM := Lib.hid hm
  have HM1 := Lib.hid hm1
  have HZ := Lib.hid hz
  have HX := Lib.hid hx
  have HAX := Lib.hid ax
  have HB := Lib.hid hB
  have hm1b : m1 ≤ 1000000000 := by omega
  have hm1p : 0 < m1 := by omega
  have hmm1 : m < m1 := by omega
  obtain ⟨S, hSS⟩ : ∃ S, S = X * y + r := ⟨_, rfl⟩
  have HSS := Lib.hid hSS
  rw [← hSS]
  clear hz hx ax hB hm hm1 hSS h0
  go_enter Tryz.func178, Tryz.ntmps178
  go_wp2_with fail
  refine (make_any z zs m1 B w HZ.out hm1b HB.out).mono ?_
  rintro _ w1 ⟨q, rfl, hmk⟩
  obtain ⟨os, hos, hor⟩ := hmk.own
  have hSr := hor.isS
  have hLr : sLen q = m1 := by rw [hor.len, hos]
  have hcr : m1 ≤ sCap q := by have := hSr.le; omega
  have hcr0 : 0 < sCap q := by omega
  have hBr := (hor.lt hcr0).1
  have hX1 := HX.out.below hmk.below
  have aX := hmk.al hS hm1p HAX.out HX.out.rw (by rw [wds_length, ← HM.out]; omega)
  have hSr0 : IsS (subS q 0 m) := subS_isS hSr (Nat.zero_le _) (by omega)
  have hsub := hor.sub (l := 0) (n := m) (Nat.zero_le _) (by omega)
  have hsl : ((os.take m).drop 0).length = m := by simp; omega
  have HCALL : Hid (Calls Tryz.prog 207 #[subS q 0 m, x, .int .u64 y, .int .u64 r] w1 fun e w' => ∃ c : Nat, e = .returned (.int .u64 c) ∧ (c < 18446744073709551616 ∧ S = wv (wdsN S m) + 18446744073709551616 ^ m * c) ∧ VvP (subS q 0 m) m B S w1 w') := Lib.hid (by
    have := mulAddVWW_any (subS q 0 m) x ((os.take m).drop 0) (wds X) y r B w1 hsub hX1.rw (by rw [hsl, wds_length, HM.out]) (by rw [(sub0 hSr).1, (sub0 hSr).2]; intro h; rw [aX h]; exact Nat.le_refl _) hy hr (by rw [hsl]; omega)
    rw [hsl, wv_wds, ← HSS.out] at this
    refine this.mono ?_
    rintro _ w' ⟨c, rfl, h1, h2⟩
    exact ⟨c, rfl, h1, h2⟩)
  have HFIN : Hid (∀ c w2, c < 18446744073709551616 → S = wv (wdsN S m) + 18446744073709551616 ^ m * c → VvP (subS q 0 m) m B S w1 w2 →
      (w2.frozen? ⟨sBlk q, sOff q + m, none⟩ = false ∧ ∃ u, w2.cell? ⟨sBlk q, sOff q + m, none⟩ = some u) ∧
      Calls Tryz.prog 117 #[q] (w2.setCell ⟨sBlk q, sOff q + m, none⟩ (.int .u64 (c : Int))) fun e w' => e = .returned (subS q 0 (nw S)) ∧ w2.setCell ⟨sBlk q, sOff q + m, none⟩ (.int .u64 (c : Int)) = w' ∧ NatR z (subS q 0 (nw S)) S B w (w2.setCell ⟨sBlk q, sOff q + m, none⟩ (.int .u64 (c : Int)))) := Lib.hid (fun c w2 hc hcS hvp => by
    have hpt := VvP.patch (l := 0) (n := m) hor (Nat.zero_le _) (by omega) (by rw [Nat.sub_zero]; exact hvp)
    rw [List.take_zero, List.nil_append, Nat.sub_zero, Nat.add_zero] at hpt
    obtain ⟨g1, g2, g3⟩ := hpt
    have hmm : m1 = m + 1 := HM1.out
    have hll : (cellsW (wdsN S m) ++ os.drop m).length = m1 := by rw [List.length_append, cellsW_length, wdsN_length, List.length_drop]; omega
    have gs := g1.set (i := m) (by rw [hll]; exact hmm1) (.int .u64 (c : Int))
    have es : (cellsW (wdsN S m) ++ os.drop m).set m (.int .u64 (c : Int)) = cellsW (wdsN S m ++ [c]) := by
      obtain ⟨u, hu⟩ : ∃ u, os.drop m = [u] := List.length_eq_one_iff.1 (by rw [List.length_drop]; omega)
      rw [hu, List.set_append_right _ _ (by rw [cellsW_length, wdsN_length]; exact Nat.le_refl _), cellsW_length, wdsN_length, Nat.sub_self, ← cellsW_append]
      rfl
    rw [es] at gs
    have hlt : ∀ e ∈ wdsN S m ++ [c], e < 18446744073709551616 := by
      intro e he
      rcases List.mem_append.1 he with h | h
      · exact wdsN_lt e h
      · rw [List.mem_singleton] at h; omega
    have hnum : wv (wdsN S m ++ [c]) = S := by rw [wv_snoc, wdsN_length, ← hcS]
    have hN := norm_any q _ _ (gs.rw' hlt) (by simp [wdsN_length]; omega)
    have hT := gs.takeW hlt
    rw [hnum] at hN hT
    have hb3 : Below B w1 (w2.setCell ⟨sBlk q, sOff q + m, none⟩ (.int .u64 (c : Int))) := bset g2 hBr
    have hf3 : Only (sBlk q) w1 (w2.setCell ⟨sBlk q, sOff q + m, none⟩ (.int .u64 (c : Int))) := ((g3.mono (Nat.le_refl _) (Nat.le_succ _)).set (lo := sOff q) (hi := sOff q + m + 1) (i := sOff q + m) (by omega) (by omega) _).only
    refine ⟨⟨g1.frozen hcr0 _, _, g1.cell (List.getElem?_eq_getElem (by rw [hll]; exact hmm1))⟩, hN.mono (fun e w' h => ⟨h.1, h.2, hT, (hmk.below.mono HB.out).trans hb3, hmk.fr hS hm1p hb3.size hf3, fun hc => hmk.atS hS hSr hc⟩)⟩)
  clear hor hos hmk hX1 aX hsub hsl
  go_wp2_with fail
  refine HCALL.out.mono ?_
  rintro _ w2 ⟨c, rfl, ⟨hc, hcS⟩, hvp⟩
  obtain ⟨⟨fz, u, cu⟩, hq⟩ := HFIN.out c w2 hc hcS hvp
  have HQ := Lib.hid hq
  clear hcS hvp hq
  go_wp2_with fail
  refine HQ.out.mono ?_
  rintro _ _ ⟨rfl, rfl, hn⟩
  have Q := Lib.hid hn
  have hSq := hn.own.isS
  clear hn
  go_wp2
  go_ret
  exact ⟨_, rfl, Q.out⟩
def KarW (w : World) : Prop := w.cell? ⟨3, 0, none⟩ = some (.int .i64 40)
theorem KarW.below {w w' : World} (h : KarW w) (hb : Below w.heap.size w w') : KarW w' := by
  have hlt := World.block_lt_of_cell? w _ h
  unfold KarW
  rw [hb.cell (p := ⟨3, 0, none⟩) hlt]; exact h
theorem KarW.drewN {w : World} (h : KarW w) (n : Nat) : KarW (w.drewN n) := h
set_option maxRecDepth 100000 in
set_option maxHeartbeats 3200000 in
theorem nmul_ge {pk : Option Addr} (x y : Value) (X Y : Nat) (w : World) (hx : RO w x (wds X)) (hy : RO w y (wds Y)) (hnm : nw Y ≤ nw X) (hk : nw Y < 40) (hl : nw X ≤ 100000000) (hK : KarW w) :
    Calls Tryz.prog 144 #[.slice none 0 0, .pointer pk, x, y] w fun e w' => ∃ r, e = .returned r ∧ Own w' w.heap.size 116 r (cellsW (wds (X * Y))) ∧ Below w.heap.size w w' := by
  have hSx := hx.rw.isS
  have hSy := hy.rw.isS
  have hSn := IsS.nil
  obtain ⟨m, hm⟩ : ∃ m, m = nw X := ⟨_, rfl⟩
  obtain ⟨n, hn⟩ : ∃ n, n = nw Y := ⟨_, rfl⟩
  have hLx : sLen x = m := by rw [hx.rw.len, wds_length, hm]
  have hLy : sLen y = n := by rw [hy.rw.len, wds_length, hn]
  rw [← hm] at hnm hl
  rw [← hn] at hnm hk
  have t1 : decide ((m : Int) < (n : Int)) = false := decide_eq_false (by omega)
  rcases Nat.eq_zero_or_pos n with hn0 | hn0
  · have hY0 : Y = 0 := nw_eq_zero.1 (by omega)
    have Q : Hid (Own w w.heap.size 116 (.slice none 0 0) (cellsW (wds (X * Y))) ∧ Below w.heap.size w w) := Lib.hid (by
      rw [hY0, Nat.mul_zero]; exact ⟨.nil _ _ _, Below.refl _ _⟩)
    subst hn0
    clear hx hy hm hn hY0 hK hnm
    by_cases hm0 : m = 0
    · subst hm0
      go_enter Tryz.func144, Tryz.ntmps144
      go_wp2
      go_ret
      exact ⟨_, rfl, Q.out⟩
    · have t2 : ((m : Int) == 0) = false := by rw [beq_eq_false_iff_ne]; omega
      have t3 : decide ((m : Int) < 0) = false := decide_eq_false (by omega)
      clear hm0
      go_enter Tryz.func144, Tryz.ntmps144
      go_wp2
      go_ret
      exact ⟨_, rfl, Q.out⟩
  have t2 : ((m : Int) == 0) = false := by rw [beq_eq_false_iff_ne]; omega
  have t3 : ((n : Int) == 0) = false := by rw [beq_eq_false_iff_ne]; omega
  have hX0 : 0 < X := by rcases Nat.eq_zero_or_pos X with h | h; (rw [h, nw_zero] at hm; omega); exact h
  have hY0 : 0 < Y := by rcases Nat.eq_zero_or_pos Y with h | h; (rw [h, nw_zero] at hn; omega); exact h
  by_cases hn1 : n = 1
  · have hYl : Y < 18446744073709551616 := by have := lt_nw Y; rw [← hn, hn1, Nat.pow_one] at this; exact this
    have cy := hy.rw.cell 0 (by rw [wds_length, ← hn, hn1]; decide)
    rw [wds_getD, wdg_zero_eq, Nat.mod_eq_of_lt hYl, Nat.add_zero] at cy
    have HC := Lib.hid (mulAddWW_any (.slice none 0 0) x [] X Y 0 w.heap.size w (.nil _ _ _) hx (Al.nil x) hX0 hY0 hYl (by decide) (by rw [← hm]; exact hl) (Nat.le_refl _))
    rw [Nat.add_zero] at HC
    subst hn1
    clear hx hy hm hn hK hX0 hY0 hnm
    have t1 : decide ((m : Int) < 1) = false := t1
    go_enter Tryz.func144, Tryz.ntmps144
    go_wp2_with fail
    refine HC.out.mono ?_
    rintro _ w1 ⟨q, rfl, h1, h2, -⟩
    have Q := Lib.hid (And.intro h1 h2)
    have hSq := h1.isS
    clear h1 h2
    go_wp2
    go_ret
    exact ⟨_, rfl, Q.out⟩
  · have t4 : ((n : Int) == 1) = false := by rw [beq_eq_false_iff_ne]; omega
    obtain ⟨N, hN⟩ : ∃ N, N = m + n := ⟨_, rfl⟩
    have e1 : (m : Int) + (n : Int) = (N : Int) := by omega
    have t5 : decide ((n : Int) < 40) = true := decide_eq_true (by omega)
    have t5' : decide (n < 40) = true := decide_eq_true (by omega)
    have kc : w.cell? ⟨3, 0, none⟩ = some (.int .i64 40) := hK
    have HX := Lib.hid hx
    have HY := Lib.hid hy
    have HM := Lib.hid hm
    have HN := Lib.hid hn
    have HNN := Lib.hid hN
    have HK := Lib.hid hK
    have HMP : Hid (0 < m) := Lib.hid (by omega)
    have HAX := Lib.hid (fun W => alias_nil x W hSx)
    have HAY := Lib.hid (fun W => alias_nil y W hSy)
    have hNb : N ≤ 1000000000 := by omega
    have hNp : 0 < N := by omega
    clear hx hy hm hn hK hn1 hN
    go_enter Tryz.func144, Tryz.ntmps144
    go_wp2_with fail
    refine (HAX.out _).mono ?_
    rintro _ _ ⟨rfl, n1, rfl⟩
    go_wp2_with fail
    refine (HAY.out _).mono ?_
    rintro _ _ ⟨rfl, n2, rfl⟩
    go_wp2_with fail
    refine (make_nil N _ hNb).mono ?_
    rintro _ w1 ⟨z, rfl, ho, hb, hcz⟩
    have hb1 : Below w.heap.size w w1 := undrewN (n := n1 + n2) hb
    have hSz := ho.isS
    have hLz : sLen z = N := by rw [ho.len]; simp
    have hX1 := HX.out.below hb1
    have hY1 := HY.out.below hb1
    have hK1 : KarW w1 := HK.out.below hb1
    have kc1 : w1.cell? ⟨3, 0, none⟩ = some (.int .i64 40) := hK1
    have hcz0 : 0 < sCap z := by have := hSz.le; omega
    have hzB : w.heap.size ≤ sBlk z := (ho.lt hcz0).1
    have hnx : sBlk x ≠ sBlk z := by
      have := HX.out.rw.ri.lt (by rw [ints_length, wds_length, ← HM.out]; exact HMP.out)
      omega
    have hny : sBlk y ≠ sBlk z := by
      have := HY.out.rw.ri.lt (by rw [ints_length, wds_length, ← HN.out]; exact hn0)
      omega
    have HB := Lib.hid (basicMul_any z x y _ (wds X) (wds Y) w.heap.size w1 ho hX1.rw hY1.rw (by rw [wds_length, wds_length, ← HM.out, ← HN.out, ← HNN.out]; simp) hnx hny (by rw [wds_length, ← HM.out]; exact HMP.out) (by simp; exact hNb))
    rw [List.length_replicate, wv_wds, wv_wds] at HB
    have HB1 := Lib.hid hb1
    have hXY : X * Y < 18446744073709551616 ^ N := by
      rw [HNN.out, Nat.pow_add, HM.out, HN.out]
      exact Nat.mul_lt_mul'' (lt_nw X) (lt_nw Y)
    have HXY := Lib.hid hXY
    clear ho hb hb1 hX1 hY1 hK1 hcz hnx hny hXY kc
    go_wp2_with fail
    refine HB.out.mono ?_
    rintro _ w2 ⟨rfl, ho2, hb2, -⟩
    have HNM := Lib.hid (norm_any z _ w2 (ho2.rw' wdsN_lt) (by rw [wdsN_length]; exact hNb))
    have hT := ho2.takeW wdsN_lt
    rw [wv_wdsN_lt HXY.out] at HNM hT
    have Q := Lib.hid (And.intro hT (HB1.out.trans hb2))
    have hSq := hT.isS
    clear ho2 hb2 hT
    go_wp2_with fail
    refine HNM.out.mono ?_
    rintro _ _ ⟨rfl, rfl⟩
    go_wp2
    go_ret
    exact ⟨_, rfl, Q.out⟩
set_option maxRecDepth 100000 in
theorem nmul_any {pk : Option Addr} (x y : Value) (X Y : Nat) (w : World) (hx : RO w x (wds X)) (hy : RO w y (wds Y)) (hk : nw X < 40 ∨ nw Y < 40) (hl : nw X ≤ 100000000) (hl2 : nw Y ≤ 100000000) (hK : KarW w) :
    Calls Tryz.prog 144 #[.slice none 0 0, .pointer pk, x, y] w fun e w' => ∃ r, e = .returned r ∧ Own w' w.heap.size 116 r (cellsW (wds (X * Y))) ∧ Below w.heap.size w w' := by
  by_cases h : nw Y ≤ nw X
  · exact nmul_ge x y X Y w hx hy h (by omega) hl hK
  · have HR := Lib.hid (nmul_ge (pk := pk) y x Y X w hy hx (by omega) (by omega) hl2 hK)
    have hSx := hx.rw.isS
    have hSy := hy.rw.isS
    have hLx : sLen x = nw X := by rw [hx.rw.len, wds_length]
    have hLy : sLen y = nw Y := by rw [hy.rw.len, wds_length]
    obtain ⟨m, hm⟩ : ∃ m, m = nw X := ⟨_, rfl⟩
    obtain ⟨n, hn⟩ : ∃ n, n = nw Y := ⟨_, rfl⟩
    rw [← hm] at hLx h
    rw [← hn] at hLy h
    rw [Nat.mul_comm] at HR
    have t1 : decide ((m : Int) < (n : Int)) = true := decide_eq_true (by omega)
    have t1' : decide (m < n) = true := decide_eq_true (by omega)
    clear hx hy hm hn h hK
    go_enter Tryz.func144, Tryz.ntmps144
    go_wp2_with fail
    refine HR.out.mono ?_
    rintro _ w1 ⟨r, rfl, h⟩
    have Q := Lib.hid h
    have hSq := h.1.isS
    clear h
    go_wp2
    go_ret
    exact ⟨_, rfl, Q.out⟩
set_option maxRecDepth 100000 in
set_option maxHeartbeats 800000 in
theorem fnorm_val (v : Value) (M B : Nat) (w : World) (ho : Own w B 116 v (cellsW (wds M))) (h0 : 0 < M) (hl : nw M ≤ 1000000000) :
    Calls Tryz.prog 143 #[v] w fun e w' => e = .returned (.int .i64 ((64 * nw M - bl M : Nat) : Int)) ∧ Own w' B 116 v (cellsW (topN M)) ∧ Below B w w' ∧ Only (sBlk v) w w' := by
  have hS := ho.isS
  have hL : sLen v = nw M := by rw [ho.len, cellsW_length, wds_length]
  have hp := nw_pos h0
  have e := bl_words h0
  have hc := (ho.rw' (wds_all M)).cell (nw M - 1) (by rw [wds_length]; omega)
  rw [wds_getD] at hc
  have ht := wdg_lt M (nw M - 1)
  have htp : 0 < wdg M (nw M - 1) := Nat.pos_of_ne_zero (wdg_last h0)
  have HTN : Hid (topN M = wdsN (M * 2 ^ (64 * nw M - bl M)) (nw M)) := Lib.hid rfl
  obtain ⟨j, hj⟩ : ∃ j, nw M = j + 1 := ⟨nw M - 1, by omega⟩
  obtain ⟨t, htt⟩ : ∃ t, t = wdg M (nw M - 1) := ⟨_, rfl⟩
  rw [← htt] at e hc ht htp
  have hbt := bl_le64 ht
  have hbp := bl_pos htp
  have es : 64 * nw M - bl M = 64 - bl t := by rw [e]; omega
  rw [es] at HTN ⊢
  obtain ⟨s, hs⟩ : ∃ s, s = 64 - bl t := ⟨_, rfl⟩
  rw [← hs] at HTN ⊢
  have hs64 : s < 64 := by omega
  rw [hj, Nat.add_sub_cancel] at hc
  rw [hj] at hL hl
  have HO := Lib.hid ho
  have HJ := Lib.hid hj
  have HS := Lib.hid hs
  have HT := Lib.hid ht
  clear ho h0 hp e htp hbt hbp es hs hj ht htt
  rcases Nat.eq_zero_or_pos s with hs0 | hs0
  · subst hs0
    go_enter Tryz.func143, Tryz.ntmps143
    go_wp2_with fail
    refine (nlz_any t w HT.out).mono ?_
    rintro _ _ ⟨rfl, rfl⟩
    rw [← HS.out]
    go_wp2
    go_ret
    refine ⟨rfl, ?_, Below.refl _ _, Only.refl _ _⟩
    rw [HTN.out, Nat.pow_zero, Nat.mul_one, wdsN_nw]
    exact HO.out
  · have t1 : decide (0 < s) = true := decide_eq_true hs0
    go_enter Tryz.func143, Tryz.ntmps143
    go_wp2_with fail
    refine (nlz_any t w HT.out).mono ?_
    rintro _ _ ⟨rfl, rfl⟩
    rw [← HS.out]
    go_wp2_with fail
    refine (lshVU_any v (wds M) M s B w HO.out (wds_all M) (wv_wds M) (by rw [wds_length, HJ.out]; omega) (by rw [wds_length, HJ.out]; exact hl) hs0 hs64).mono ?_
    rintro _ w1 ⟨rfl, h1, h2, h3⟩
    rw [wds_length, ← HTN.out] at h1
    have H1 := Lib.hid h1
    clear h1
    go_wp2
    go_ret
    exact ⟨rfl, H1.out, h2, h3⟩
theorem dw_est {d v u1 u0 Q : Nat} (hd : d < 18446744073709551616) (hu1 : u1 < d) (hu0 : u0 < 18446744073709551616)
    (hv1 : v * d ≤ 340282366920938463463374607431768211455) (hv2 : 340282366920938463463374607431768211456 ≤ v * d + d)
    (hQ1 : Q * 18446744073709551616 ≤ v * u1 + u0) (hQ2 : v * u1 + u0 < Q * 18446744073709551616 + 18446744073709551616) :
    Q * d ≤ u1 * 18446744073709551616 + u0 ∧ u1 * 18446744073709551616 + u0 < Q * d + 18446744073709551616 + d := by
  have a1 := Nat.mul_le_mul_right d hQ1
  have a2 := Nat.mul_le_mul_right d (Nat.succ_le_of_lt hQ2)
  have b1 := Nat.mul_le_mul_right u1 hv1
  have b2 := Nat.mul_le_mul_right u1 hv2
  have e1 : Q * 18446744073709551616 * d = Q * d * 18446744073709551616 := by rw [Nat.mul_right_comm]
  have e2 : (v * u1 + u0) * d = v * d * u1 + u0 * d := by rw [Nat.add_mul, Nat.mul_right_comm]
  have e3 : (v * u1 + u0 + 1) * d = v * d * u1 + u0 * d + d := by rw [Nat.add_mul, e2, Nat.one_mul]
  have e4 : (Q * 18446744073709551616 + 18446744073709551616) * d = Q * d * 18446744073709551616 + 18446744073709551616 * d := by rw [Nat.add_mul, e1]
  have e5 : (v * d + d) * u1 = v * d * u1 + d * u1 := Nat.add_mul _ _ _
  rw [e1, e2] at a1
  rw [Nat.succ_eq_add_one, e3, e4] at a2
  rw [e5] at b2
  have c1 : u0 * d ≤ u0 * 18446744073709551616 := Nat.mul_le_mul_left _ (Nat.le_of_lt hd)
  obtain ⟨e, he⟩ : ∃ e, e + d = 18446744073709551616 := ⟨18446744073709551616 - d, by omega⟩
  have c2 : u0 * e ≤ 18446744073709551615 * e := Nat.mul_le_mul_right _ (by omega)
  have c3 : u0 * e + u0 * d = u0 * 18446744073709551616 := by rw [← Nat.mul_add, he]
  have c4 : d * u1 + d ≤ d * d := by
    have := Nat.mul_le_mul_left d (Nat.succ_le_of_lt hu1)
    rw [Nat.mul_succ] at this; exact this
  have c5 : d * d ≤ d * 18446744073709551616 := Nat.mul_le_mul_left _ (Nat.le_of_lt hd)
  generalize v * d * u1 = A at *
  generalize Q * d = C at *
  generalize u0 * d = D at *
  generalize u0 * e = F at *
  generalize d * u1 = G at *
  generalize d * d = H at *
  constructor <;> omega
theorem dw_fix {d v u1 u0 Q : Nat} (hd0 : 9223372036854775808 ≤ d) (hd : d < 18446744073709551616) (hu1 : u1 < d) (hu0 : u0 < 18446744073709551616)
    (hv1 : v * d ≤ 340282366920938463463374607431768211455) (hv2 : 340282366920938463463374607431768211456 ≤ v * d + d)
    (hQ : Q = (v * u1 + u0) / 18446744073709551616) : ∃ R, u1 * 18446744073709551616 + u0 = Q * d + R ∧ R < 18446744073709551616 + d ∧ Q < 18446744073709551616 ∧
      (18446744073709551616 ≤ R → (R - d < d → (u1 * 18446744073709551616 + u0) / d = Q + 1 ∧ (u1 * 18446744073709551616 + u0) % d = R - d) ∧ (d ≤ R - d → (u1 * 18446744073709551616 + u0) / d = Q + 2 ∧ (u1 * 18446744073709551616 + u0) % d = R - d - d)) ∧
      (R < 18446744073709551616 → (R < d → (u1 * 18446744073709551616 + u0) / d = Q ∧ (u1 * 18446744073709551616 + u0) % d = R) ∧ (d ≤ R → (u1 * 18446744073709551616 + u0) / d = Q + 1 ∧ (u1 * 18446744073709551616 + u0) % d = R - d)) ∧
      (u1 * 18446744073709551616 + u0) / d < 18446744073709551616 := by
  obtain ⟨h1, h2⟩ := dw_est (Q := Q) hd hu1 hu0 hv1 hv2 (by omega) (by omega)
  have dm : ∀ q r, r < d → u1 * 18446744073709551616 + u0 = q * d + r → (u1 * 18446744073709551616 + u0) / d = q ∧ (u1 * 18446744073709551616 + u0) % d = r := fun q r hr h => by
    rw [h, Nat.mul_comm q, Nat.mul_add_div (by omega), Nat.mul_add_mod, Nat.div_eq_of_lt hr, Nat.mod_eq_of_lt hr]
    exact ⟨rfl, rfl⟩
  have hqb : (u1 * 18446744073709551616 + u0) / d < 18446744073709551616 := by
    refine Nat.div_lt_of_lt_mul ?_
    have := Nat.mul_le_mul_right 18446744073709551616 (Nat.succ_le_of_lt hu1)
    rw [Nat.succ_mul] at this
    omega
  have hQle : Q ≤ (u1 * 18446744073709551616 + u0) / d := (Nat.le_div_iff_mul_le (by omega)).2 h1
  refine ⟨u1 * 18446744073709551616 + u0 - Q * d, by omega, by omega, by omega, fun h => ⟨fun h' => ?_, fun h' => ?_⟩, fun h => ⟨fun h' => ?_, fun h' => ?_⟩, hqb⟩
  · exact dm _ _ h' (by rw [Nat.add_mul, Nat.one_mul]; omega)
  · exact dm _ _ (by omega) (by rw [Nat.add_mul]; omega)
  · exact dm _ _ h' (by omega)
  · exact dm _ _ (by omega) (by rw [Nat.add_mul, Nat.one_mul]; omega)
theorem kn_low {b y1 y0 q r u un : Nat} (h : q * y1 + r = u) (hc : b * r + un < q * y0) : u * b + un < q * (y1 * b + y0) := by
  have e : q * (y1 * b + y0) = q * y1 * b + q * y0 := by rw [Nat.mul_add, Nat.mul_assoc]
  have e2 : u * b = q * y1 * b + b * r := by rw [← h, Nat.add_mul, Nat.mul_comm b r]
  rw [e, e2]; omega
theorem kn_ok {b y1 y0 q r u un : Nat} (h : q * y1 + r = u) (hc : q * y0 ≤ b * r + un) : q * (y1 * b + y0) ≤ u * b + un := by
  have e : q * (y1 * b + y0) = q * y1 * b + q * y0 := by rw [Nat.mul_add, Nat.mul_assoc]
  have e2 : u * b = q * y1 * b + b * r := by rw [← h, Nat.add_mul, Nat.mul_comm b r]
  rw [e, e2]; omega
set_option maxRecDepth 100000 in
theorem kn_start {y1 y0 u : Nat} (hy1 : 2147483648 ≤ y1) (hy0 : y0 < 4294967296) (hu : u < y1 * 4294967296 + y0) : u / y1 ≤ 4294967297 := by
  have e : y1 * 4294967298 = y1 * 4294967296 + y1 * 2 := by rw [← Nat.mul_add]
  have h2 : u < y1 * 4294967298 := by
    rw [e]
    obtain ⟨z, hz⟩ : ∃ z, z = y1 * 4294967296 := ⟨_, rfl⟩
    rw [← hz] at hu ⊢
    clear hz e
    omega
  exact Nat.le_of_lt_succ (Nat.div_lt_of_lt_mul h2)
theorem rec_ok {u : Nat} (hu : 9223372036854775808 ≤ u) (hu2 : u < 18446744073709551616) :
    18446744073709551615 - u < u ∧ ∃ v, v * u ≤ 340282366920938463463374607431768211455 ∧ 340282366920938463463374607431768211456 ≤ v * u + u ∧ v = 18446744073709551616 + ((18446744073709551615 - u) * 18446744073709551616 + 18446744073709551615) / u := by
  refine ⟨by omega, _, ?_, ?_, rfl⟩
  · rw [Nat.add_mul]
    have := Nat.div_mul_le_self ((18446744073709551615 - u) * 18446744073709551616 + 18446744073709551615) u
    omega
  · rw [Nat.add_mul]
    have := Nat.lt_div_mul_add (a := (18446744073709551615 - u) * 18446744073709551616 + 18446744073709551615) (b := u) (by omega)
    omega
end Go.Proofs.YtllhnjpnkmjopaaGreatDoor
