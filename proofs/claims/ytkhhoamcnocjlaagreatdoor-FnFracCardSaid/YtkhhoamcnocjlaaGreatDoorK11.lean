/-
Texts of this proof, joined: MuB MuC RcA RcB RcC RcD RcF RcG. No condition.
-/
import Derived.Test.YtkhhoamcnocjlaaGreatDoorK02
import Derived.Test.YtkhhoamcnocjlaaGreatDoorK06
import Derived.Test.YtkhhoamcnocjlaaGreatDoorK10
import Derived.Deep.RegionHeld3
/-
Products of words: basicMul. No condition.
-/
namespace Go.Proofs.YtkhhoamcnocjlaaGreatDoor
open Go.RowKit

theorem wdsN_sub {Z L k m : Nat} (h : k + m ≤ L) : ((wdsN Z L).take (k + m)).drop k = wdsN (Z / 18446744073709551616 ^ k) m := by
  refine wdsN_of ?_ fun j hj => ?_
  · rw [List.length_drop, List.length_take, wdsN_length]; omega
  · rw [List.getD_eq_getElem?_getD, List.getElem?_drop, List.getElem?_take, if_pos (by omega), ← List.getD_eq_getElem?_getD, wdsN_getD (by omega)]
    unfold wdg
    rw [Nat.div_div_eq_div_mul, ← Nat.pow_add]
theorem wdsN_take {Z L k : Nat} (h : k ≤ L) : (wdsN Z L).take k = wdsN Z k := by
  have := wdsN_sub (Z := Z) (L := L) (k := 0) (m := k) (by omega)
  rw [Nat.zero_add, List.drop_zero, Nat.pow_zero, Nat.div_one] at this
  exact this
theorem bm_words {Z V m k n S c : Nat} (hk : k < n) (hZ : Z < 18446744073709551616 ^ (m + k)) (hS : S = Z / 18446744073709551616 ^ k + V) (hc : S = wv (wdsN S m) + 18446744073709551616 ^ m * c) (hcl : c < 18446744073709551616) :
    ((wdsN Z (m + n)).take k ++ (wdsN S m ++ (wdsN Z (m + n)).drop (k + m))).set (m + k) c = wdsN (Z + 18446744073709551616 ^ k * V) (m + n) := by
  have hlt : ((wdsN Z (m + n)).take k).length = k := by rw [List.length_take, wdsN_length]; omega
  have hll : ((wdsN Z (m + n)).take k ++ (wdsN S m ++ (wdsN Z (m + n)).drop (k + m))).length = m + n := by
    rw [List.length_append, hlt, List.length_append, wdsN_length, List.length_drop, wdsN_length]; omega
  refine wdsN_eq (by rw [List.length_set, hll]) ?_ ⟨0, ?_⟩
  · refine set_lt ?_ hcl
    intro d hd
    rcases List.mem_append.1 hd with h | h
    · exact wdsN_lt d (List.mem_of_mem_take h)
    · rcases List.mem_append.1 h with h | h
      · exact wdsN_lt d h
      · exact wdsN_lt d (List.mem_of_mem_drop h)
  · have hw := wset (ws := (wdsN Z (m + n)).take k ++ (wdsN S m ++ (wdsN Z (m + n)).drop (k + m))) (i := m + k) (by rw [hll]; omega) c
    have hg : ((wdsN Z (m + n)).take k ++ (wdsN S m ++ (wdsN Z (m + n)).drop (k + m))).getD (m + k) 0 = 0 := by
      rw [List.getD_eq_getElem?_getD, List.getElem?_append_right (by omega), hlt, List.getElem?_append_right (by rw [wdsN_length]; omega), wdsN_length, List.getElem?_drop, ← List.getD_eq_getElem?_getD, wdsN_getD (by omega)]
      unfold wdg
      rw [show k + m + (m + k - k - m) = m + k by omega, Nat.div_eq_of_lt hZ]
    have hD : wv ((wdsN Z (m + n)).drop (k + m)) = 0 := by
      have h1 := wv_split (wdsN Z (m + n)) (k + m) (by rw [wdsN_length]; omega)
      rw [wdsN_take (by omega), wdsN_wv, wdsN_wv, Nat.mod_eq_of_lt (Nat.lt_of_lt_of_le hZ (Nat.pow_le_pow_right (by decide) (by omega))), Nat.add_comm k m, Nat.mod_eq_of_lt hZ] at h1
      have h2 : 18446744073709551616 ^ (m + k) * wv ((wdsN Z (m + n)).drop (m + k)) = 0 := by omega
      rcases Nat.mul_eq_zero.1 h2 with h3 | h3
      · exact absurd h3 (Nat.ne_of_gt (wpow_pos _))
      · rw [Nat.add_comm k m]; exact h3
    obtain ⟨W, hW⟩ : ∃ W, W = wv (((wdsN Z (m + n)).take k ++ (wdsN S m ++ (wdsN Z (m + n)).drop (k + m))).set (m + k) c) := ⟨_, rfl⟩
    rw [← hW] at hw ⊢
    rw [hg, wv_append, hlt, wv_append, wdsN_length, hD, wdsN_take (by omega), wdsN_wv] at hw
    have e1 : 18446744073709551616 ^ (m + k) * c = 18446744073709551616 ^ k * (18446744073709551616 ^ m * c) := by rw [Nat.pow_add, Nat.mul_comm (18446744073709551616 ^ m), Nat.mul_assoc]
    have e2 : 18446744073709551616 ^ k * S = 18446744073709551616 ^ k * wv (wdsN S m) + 18446744073709551616 ^ k * (18446744073709551616 ^ m * c) := by rw [← Nat.mul_add, ← hc]
    have e3 : 18446744073709551616 ^ k * S = 18446744073709551616 ^ k * (Z / 18446744073709551616 ^ k) + 18446744073709551616 ^ k * V := by rw [hS, Nat.mul_add]
    have e4 := Nat.div_add_mod Z (18446744073709551616 ^ k)
    rw [Nat.mul_zero, Nat.mul_zero, Nat.add_zero, Nat.add_zero] at hw
    rw [Nat.mul_zero, Nat.add_zero, hw, e1]
    omega
/-- Behind k words of the second factor. -/
def BmRel (z : Value) (xs ys : List Nat) (N B k : Nat) (w wr : World) : Prop :=
  Own wr B 147 z (cellsW (wdsN (wv xs * wv (ys.take k)) N)) ∧ Below B w wr ∧ FrB (sBlk z) (sOff z) (sOff z + N) w wr
set_option maxRecDepth 100000 in
set_option maxHeartbeats 6400000 in
theorem basicMul_any (z x y : Value) (os : List Value) (xs ys : List Nat) (B : Nat) (w : World) (hz : Own w B 147 z os) (hx : RW w x xs) (hy : RW w y ys) (hos : os.length = xs.length + ys.length) (hnx : sBlk x ≠ sBlk z) (hny : sBlk y ≠ sBlk z) (h0 : 0 < xs.length) (hl : os.length ≤ 1000000000) :
    Calls Tryz.prog 164 #[z, x, y] w fun e w' => e = .returned (.tuple #[]) ∧ Own w' B 147 z (cellsW (wdsN (wv xs * wv ys) os.length)) ∧ Below B w w' ∧ FrB (sBlk z) (sOff z) (sOff z + os.length) w w' := by
  have hS := hz.isS
  have hSx := hx.isS
  have hSy := hy.isS
  obtain ⟨m, hm⟩ : ∃ m, m = xs.length := ⟨_, rfl⟩
  obtain ⟨n, hn⟩ : ∃ n, n = ys.length := ⟨_, rfl⟩
  obtain ⟨N, hN⟩ : ∃ N, N = os.length := ⟨_, rfl⟩
  have hLz : sLen z = N := by rw [hz.len, hN]
  have hLx : sLen x = m := by rw [hx.len, hm]
  have hLy : sLen y = n := by rw [hy.len, hn]
  have hNm : N = m + n := by omega
  have hcz : N ≤ sCap z := by have := hS.le; omega
  have hcz0 : 0 < sCap z := by omega
  have hBz := (hz.lt hcz0).1
  have hS0 : IsS (subS z 0 N) := subS_isS hS (Nat.zero_le _) hcz
  have hsub := hz.sub (l := 0) (n := N) (Nat.zero_le _) (by omega)
  have hsl : ((os.take N).drop 0).length = N := by simp; omega
  have e1 : (m : Int) + (n : Int) = (N : Int) := by omega
  rw [← hN] at hl ⊢
  rw [← hm] at h0
  have HZ := Lib.hid hz
  have HX := Lib.hid hx
  have HY := Lib.hid hy
  have HNX := Lib.hid hnx
  have HNY := Lib.hid hny
  have HM := Lib.hid hm
  have HN := Lib.hid hn
  have HNN := Lib.hid hN
  have HNM := Lib.hid hNm
  have HSUB := Lib.hid hsub
  have HSL := Lib.hid hsl
  have hmb : m ≤ N := by omega
  clear hz hx hy hnx hny hm hn hN hos hNm hsub hsl
  go_enter Tryz.func164, Tryz.ntmps164
  go_wp2_with (refine wpList_clear_O (o := ⟨none, _, _, _, _, _⟩) rfl (.tmp 14) 94 rfl elemT rfl (subS z 0 N) rfl B _ HSUB.out ?_)
  intro w1 ho1 hb1 hf1
  have hmn : min N os.length = N := by rw [← HNN.out]; exact Nat.min_self _
  rw [hmn] at ho1 hf1
  rw [(sub0 hS).1, (sub0 hS).2] at hf1
  have hp1 := HZ.out.patch (l := 0) (n := N) (Nat.zero_le _) (by rw [← HNN.out]; exact Nat.le_refl _) (by simp) ho1 (by rw [Nat.add_zero]; exact hf1)
  rw [List.take_zero, List.nil_append, List.drop_of_length_le (by rw [← HNN.out]; exact Nat.le_refl _), List.append_nil, cellsW_zeros] at hp1
  have hz0 : List.replicate N 0 = wdsN 0 N := wdsN_of (by simp) (fun j hj => by
    rw [List.getD_eq_getElem?_getD, List.getElem?_replicate, if_pos hj]; simp [wdg])
  have R0 : Hid (BmRel z xs ys N B 0 w w1) := Lib.hid ⟨by rw [List.take_zero, show wv [] = 0 from rfl, Nat.mul_zero, ← hz0]; exact hp1, hb1, hf1⟩
  clear ho1 hb1 hf1 hp1 hz0 HSUB HSL
  go_wp2
  go_loopw [17] (fun i wr => ∃ k : Nat, k ≤ n ∧ i = .int .i64 k ∧ BmRel z xs ys N B k w wr) (fun i _ => n - (intOf i).toNat)
  case atStart => exact ⟨0, Nat.zero_le _, rfl, R0.out⟩
  case round =>
    obtain ⟨k, hk, rfl, hrel⟩ := hrel
    obtain ⟨wo, hwo⟩ : ∃ wo : World, wo = wr := ⟨_, rfl⟩
    subst hwo
    have HREL := Lib.hid hrel
    have HYo := Lib.hid (hrel.2.2.rw HY.out (fun h => absurd h HNY.out))
    have HXo := Lib.hid (hrel.2.2.rw HX.out (fun h => absurd h HNX.out))
    by_cases hkn : k < n
    · have cy := HYo.out.cell k (by rw [← HN.out]; exact hkn)
      have hyl := getD_ltW HY.out.lt k
      have e2 := wv_take_succ (ws := ys) (i := k) (by rw [← HN.out]; exact hkn)
      obtain ⟨d, hd⟩ : ∃ d, d = ys.getD k 0 := ⟨_, rfl⟩
      rw [← hd] at cy hyl e2
      by_cases hd0 : d = 0
      · have t1 : ((d : Int) == 0) = true := by rw [hd0]; rfl
        have HR : Hid (BmRel z xs ys N B (k + 1) w wo) := Lib.hid (by
          unfold BmRel; rw [e2, hd0, Nat.mul_zero, Nat.add_zero]; exact hrel)
        clear hrel e2 hd hd0 HREL
        go_wp2
        exact ⟨⟨k + 1, by omega, by go_num, HR.out⟩, by simp [intOf]; omega⟩
      · have t1 : ((d : Int) == 0) = false := by rw [beq_eq_false_iff_ne]; omega
        obtain ⟨Z, hZ⟩ : ∃ Z, Z = wv xs * wv (ys.take k) := ⟨_, rfl⟩
        have hZl : Z < 18446744073709551616 ^ (m + k) := by
          have h1 := wv_lt HX.out.lt
          have h2 := wv_lt (a := ys.take k) (fun d hd => HY.out.lt d (List.mem_of_mem_take hd))
          rw [List.length_take, show min k ys.length = k by have := HN.out; omega] at h2
          rw [← HM.out] at h1
          rw [hZ, Nat.pow_add]
          exact Nat.mul_lt_mul'' h1 h2
        obtain ⟨S, hSS⟩ : ∃ S, S = Z / 18446744073709551616 ^ k + wv xs * d := ⟨_, rfl⟩
        have hrel' := hrel
        obtain ⟨r1, r2, r3⟩ := hrel'
        rw [← hZ] at r1
        have hkm : k + m ≤ N := by have := HNM.out; omega
        have hSk : IsS (subS z k (k + m)) := subS_isS hS (Nat.le_add_right _ _) (by omega)
        have rs := r1.sub (l := k) (n := k + m) (Nat.le_add_right _ _) (by rw [cellsW_length, wdsN_length]; exact hkm)
        have es : ((cellsW (wdsN Z N)).take (k + m)).drop k = cellsW (wdsN (Z / 18446744073709551616 ^ k) m) := by
          rw [← wdsN_sub hkm]; simp [cellsW]
        rw [es] at rs
        have hq : Z / 18446744073709551616 ^ k < 18446744073709551616 ^ m := by
          refine Nat.div_lt_of_lt_mul ?_
          rw [← Nat.pow_add, Nat.add_comm]; exact hZl
        have HCALL : Hid (∀ j, Calls Tryz.prog 186 #[subS z k (k + m), subS z k (k + m), x, .int .u64 d, .int .u64 0] (wo.drewN j) fun e w' => ∃ c : Nat, e = .returned (.int .u64 c) ∧ (c < 18446744073709551616 ∧ S = wv (wdsN S m) + 18446744073709551616 ^ m * c) ∧ VvP (subS z k (k + m)) m B S wo w') := Lib.hid (fun j => by
          have := addMulVVWW_any (subS z k (k + m)) (subS z k (k + m)) x _ (wdsN (Z / 18446744073709551616 ^ k) m) xs d 0 B (wo.drewN j) (rs.drewN j) ((rs.rw' wdsN_lt).below (undrewN' (Below.refl _ _))) (HXo.out.below (undrewN' (Below.refl _ _)))
            (by rw [cellsW_length]) (by rw [cellsW_length, wdsN_length]; exact HM.out.symm) (fun _ => Nat.le_refl _) (by rw [subS_blk hS]; intro h; exact absurd h HNX.out) hyl (by decide) (by rw [cellsW_length, wdsN_length]; omega)
          rw [cellsW_length, wdsN_length, wv_wdsN_lt hq, Nat.add_zero, ← hSS] at this
          refine this.mono ?_
          rintro _ w' ⟨c, rfl, h1, h2, h3, h4⟩
          exact ⟨c, rfl, h1, h2, undrewN h3, h4.undrewN⟩)
        have HFIN : Hid (∀ c w2, c < 18446744073709551616 → S = wv (wdsN S m) + 18446744073709551616 ^ m * c → VvP (subS z k (k + m)) m B S wo w2 →
            (w2.frozen? ⟨sBlk z, sOff z + (m + k), none⟩ = false ∧ ∃ u, w2.cell? ⟨sBlk z, sOff z + (m + k), none⟩ = some u) ∧ BmRel z xs ys N B (k + 1) w (w2.setCell ⟨sBlk z, sOff z + (m + k), none⟩ (.int .u64 (c : Int)))) := Lib.hid (fun c w2 hc hcS hvp => by
          have hpt := VvP.patch (l := k) (n := k + m) r1 (Nat.le_add_right _ _) (by rw [cellsW_length, wdsN_length]; exact hkm) (by rw [Nat.add_sub_cancel_left]; exact hvp)
          rw [Nat.add_sub_cancel_left] at hpt
          obtain ⟨g1, g2, g3⟩ := hpt
          have ec : (cellsW (wdsN Z N)).take k ++ (cellsW (wdsN S m) ++ (cellsW (wdsN Z N)).drop (k + m)) = cellsW ((wdsN Z N).take k ++ (wdsN S m ++ (wdsN Z N).drop (k + m))) := by simp [cellsW]
          rw [ec] at g1
          have hll : ((wdsN Z N).take k ++ (wdsN S m ++ (wdsN Z N).drop (k + m))).length = N := by
            rw [List.length_append, List.length_take, wdsN_length, List.length_append, wdsN_length, List.length_drop, wdsN_length]; omega
          have hmk : m + k < N := by have := HNM.out; omega
          have gs := g1.set (i := m + k) (by rw [cellsW_length, hll]; exact hmk) (.int .u64 (c : Int))
          have hbw := bm_words (V := wv xs * d) hkn hZl hSS hcS hc
          rw [← HNM.out] at hbw
          rw [cellsW_set, hbw, show Z + 18446744073709551616 ^ k * (wv xs * d) = wv xs * wv (ys.take (k + 1)) by rw [e2, Nat.mul_add, hZ]; congr 1; rw [Nat.mul_left_comm]] at gs
          refine ⟨⟨g1.frozen hcz0 _, _, g1.cell (List.getElem?_eq_getElem (by rw [cellsW_length, hll]; exact hmk))⟩, gs, bset (r2.trans g2) hBz, ?_⟩
          refine r3.trans r2.size ?_
          refine (g3.mono (by omega) (by omega)).set (by omega) (by omega) _)
        have e3 : (k : Int) + (m : Int) = ((k + m : Nat) : Int) := by omega
        have e4 : (m : Int) + (k : Int) = ((m + k : Nat) : Int) := by omega
        obtain ⟨km, hkmE⟩ : ∃ km, km = k + m := ⟨_, rfl⟩
        obtain ⟨mk, hmkE⟩ : ∃ mk, mk = m + k := ⟨_, rfl⟩
        rw [← hkmE] at hSk HCALL HFIN e3 hkm
        rw [← hmkE] at HFIN e4
        have hmkN : mk < N := by have := HNM.out; omega
        have hkkm : k ≤ km := by omega
        have hkc : km ≤ sCap z := by omega
        have hkkm' : (k : Int) ≤ (km : Int) := by omega
        have hkc' : (km : Int) ≤ (sCap z : Int) := by omega
        have hk0 : (0 : Int) ≤ (k : Int) := by omega
        have hw1 : IntKind.i64.wrap (km : Int) = (km : Int) := by rw [IntKind.wrap_i64]; omega
        have hw2 : IntKind.i64.wrap (mk : Int) = (mk : Int) := by rw [IntKind.wrap_i64]; omega
        clear hrel e2 hd hd0 HREL hZ hZl hSS r1 r2 r3 rs es hq hkmE hmkE
        go_upto_region 5 with fail
        first
          | (go_region_held3 (fun _ => True)
              ((exact True.intro))
              (first
                | (go_at_call 186; refine (HCALL.out 1).mono ?_; rintro _ w2 ⟨c, rfl, ⟨hc, hcS⟩, hvp⟩; obtain ⟨⟨fz, u, cu⟩, hq⟩ := HFIN.out c w2 hc hcS hvp; have HQ := Lib.hid hq; clear hcS hvp hq)))
          | fail
        all_goals
          go_wp2
          exact ⟨⟨k + 1, by omega, by go_num, HQ.out⟩, by simp [intOf]; omega⟩
    · have hkk : k = n := by omega
      have HD : Hid (Own wo B 147 z (cellsW (wdsN (wv xs * wv ys) N)) ∧ Below B w wo ∧ FrB (sBlk z) (sOff z) (sOff z + N) w wo) := Lib.hid (by
        have h1 := hrel
        unfold BmRel at h1
        rw [hkk, List.take_of_length_le (by rw [HN.out]; exact Nat.le_refl _)] at h1
        exact h1)
      clear hrel HREL hkk
      go_wp2
      go_end0
      exact ⟨rfl, HD.out⟩
end Go.Proofs.YtkhhoamcnocjlaaGreatDoor

/-
The package's numbers: mulAddWW, mul into a new slice. No condition.
-/
namespace Go.Proofs.YtkhhoamcnocjlaaGreatDoor
open Go.RowKit

set_option maxRecDepth 100000 in
set_option maxHeartbeats 3200000 in
theorem mulAddWW_any (z x : Value) (zs : List Value) (X y r B : Nat) (w : World) (hz : Own w B 147 z zs) (hx : RO w x (wds X)) (ax : Al z x) (h0 : 0 < X) (hy0 : 0 < y) (hy : y < 18446744073709551616) (hr : r < 18446744073709551616) (hl : nw X ≤ 100000000) (hB : B ≤ w.heap.size) :
    Calls Tryz.prog 163 #[z, x, .int .u64 y, .int .u64 r] w fun e w' => ∃ q, e = .returned q ∧ NatR z q (X * y + r) B w w' := by
  have hS := hz.isS
  have hSx := hx.rw.isS
  obtain ⟨m, hm⟩ : ∃ m, m = nw X := ⟨_, rfl⟩
  have hLx : sLen x = m := by rw [hx.rw.len, wds_length, hm]
  have hmp : 0 < m := by rw [hm]; exact nw_pos h0
  have hcx : m ≤ sCap x := by have := hSx.le; omega
  rw [← hm] at hl
  have t1 : ((m : Int) == 0) = false := by rw [beq_eq_false_iff_ne]; omega
  have t2 : ((y : Int) == 0) = false := by rw [beq_eq_false_iff_ne]; omega
  have e1 : (m : Int) + 1 = ((m + 1 : Nat) : Int) := by omega
  obtain ⟨m1, hm1⟩ : ∃ m1, m1 = m + 1 := ⟨_, rfl⟩
  rw [← hm1] at e1
  have HM := Lib.hid hm
  have HM1 := Lib.hid hm1
  have HZ := Lib.hid hz
  have HX := Lib.hid hx
  have HAX := Lib.hid ax
  have HB := Lib.hid hB
  have hm1b : m1 ≤ 1000000000 := by omega
  have hm1p : 0 < m1 := by omega
  have hmm1 : m < m1 := by omega
  obtain ⟨S, hSS⟩ : ∃ S, S = X * y + r := ⟨_, rfl⟩
  have HSS := Lib.hid hSS
  rw [← hSS]
  clear hz hx ax hB hm hm1 hSS h0
  go_enter Tryz.func163, Tryz.ntmps163
  go_wp2_with fail
  refine (make_any z zs m1 B w HZ.out hm1b HB.out).mono ?_
  rintro _ w1 ⟨q, rfl, hmk⟩
  obtain ⟨os, hos, hor⟩ := hmk.own
  have hSr := hor.isS
  have hLr : sLen q = m1 := by rw [hor.len, hos]
  have hcr : m1 ≤ sCap q := by have := hSr.le; omega
  have hcr0 : 0 < sCap q := by omega
  have hBr := (hor.lt hcr0).1
  have hX1 := HX.out.below hmk.below
  have aX := hmk.al hS hm1p HAX.out HX.out.rw (by rw [wds_length, ← HM.out]; omega)
  have hSr0 : IsS (subS q 0 m) := subS_isS hSr (Nat.zero_le _) (by omega)
  have hsub := hor.sub (l := 0) (n := m) (Nat.zero_le _) (by omega)
  have hsl : ((os.take m).drop 0).length = m := by simp; omega
  have HCALL : Hid (Calls Tryz.prog 185 #[subS q 0 m, x, .int .u64 y, .int .u64 r] w1 fun e w' => ∃ c : Nat, e = .returned (.int .u64 c) ∧ (c < 18446744073709551616 ∧ S = wv (wdsN S m) + 18446744073709551616 ^ m * c) ∧ VvP (subS q 0 m) m B S w1 w') := Lib.hid (by
    have := mulAddVWW_any (subS q 0 m) x ((os.take m).drop 0) (wds X) y r B w1 hsub hX1.rw (by rw [hsl, wds_length, HM.out]) (by rw [(sub0 hSr).1, (sub0 hSr).2]; intro h; rw [aX h]; exact Nat.le_refl _) hy hr (by rw [hsl]; omega)
    rw [hsl, wv_wds, ← HSS.out] at this
    refine this.mono ?_
    rintro _ w' ⟨c, rfl, h1, h2⟩
    exact ⟨c, rfl, h1, h2⟩)
  have HFIN : Hid (∀ c w2, c < 18446744073709551616 → S = wv (wdsN S m) + 18446744073709551616 ^ m * c → VvP (subS q 0 m) m B S w1 w2 →
      (w2.frozen? ⟨sBlk q, sOff q + m, none⟩ = false ∧ ∃ u, w2.cell? ⟨sBlk q, sOff q + m, none⟩ = some u) ∧
      Calls Tryz.prog 116 #[q] (w2.setCell ⟨sBlk q, sOff q + m, none⟩ (.int .u64 (c : Int))) fun e w' => e = .returned (subS q 0 (nw S)) ∧ w2.setCell ⟨sBlk q, sOff q + m, none⟩ (.int .u64 (c : Int)) = w' ∧ NatR z (subS q 0 (nw S)) S B w (w2.setCell ⟨sBlk q, sOff q + m, none⟩ (.int .u64 (c : Int)))) := Lib.hid (fun c w2 hc hcS hvp => by
    have hpt := VvP.patch (l := 0) (n := m) hor (Nat.zero_le _) (by omega) (by rw [Nat.sub_zero]; exact hvp)
    rw [List.take_zero, List.nil_append, Nat.sub_zero, Nat.add_zero] at hpt
    obtain ⟨g1, g2, g3⟩ := hpt
    have hmm : m1 = m + 1 := HM1.out
    have hll : (cellsW (wdsN S m) ++ os.drop m).length = m1 := by rw [List.length_append, cellsW_length, wdsN_length, List.length_drop]; omega
    have gs := g1.set (i := m) (by rw [hll]; exact hmm1) (.int .u64 (c : Int))
    have es : (cellsW (wdsN S m) ++ os.drop m).set m (.int .u64 (c : Int)) = cellsW (wdsN S m ++ [c]) := by
      obtain ⟨u, hu⟩ : ∃ u, os.drop m = [u] := List.length_eq_one_iff.1 (by rw [List.length_drop]; omega)
      rw [hu, List.set_append_right _ _ (by rw [cellsW_length, wdsN_length]; exact Nat.le_refl _), cellsW_length, wdsN_length, Nat.sub_self, ← cellsW_append]
      rfl
    rw [es] at gs
    have hlt : ∀ e ∈ wdsN S m ++ [c], e < 18446744073709551616 := by
      intro e he
      rcases List.mem_append.1 he with h | h
      · exact wdsN_lt e h
      · rw [List.mem_singleton] at h; omega
    have hnum : wv (wdsN S m ++ [c]) = S := by rw [wv_snoc, wdsN_length, ← hcS]
    have hN := norm_any q _ _ (gs.rw' hlt) (by simp [wdsN_length]; omega)
    have hT := gs.takeW hlt
    rw [hnum] at hN hT
    have hb3 : Below B w1 (w2.setCell ⟨sBlk q, sOff q + m, none⟩ (.int .u64 (c : Int))) := bset g2 hBr
    have hf3 : Only (sBlk q) w1 (w2.setCell ⟨sBlk q, sOff q + m, none⟩ (.int .u64 (c : Int))) := ((g3.mono (Nat.le_refl _) (Nat.le_succ _)).set (lo := sOff q) (hi := sOff q + m + 1) (i := sOff q + m) (by omega) (by omega) _).only
    refine ⟨⟨g1.frozen hcr0 _, _, g1.cell (List.getElem?_eq_getElem (by rw [hll]; exact hmm1))⟩, hN.mono (fun e w' h => ⟨h.1, h.2, hT, (hmk.below.mono HB.out).trans hb3, hmk.fr hS hm1p hb3.size hf3, fun hc => hmk.atS hS hSr hc⟩)⟩)
  clear hor hos hmk hX1 aX hsub hsl
  go_wp2_with fail
  refine HCALL.out.mono ?_
  rintro _ w2 ⟨c, rfl, ⟨hc, hcS⟩, hvp⟩
  obtain ⟨⟨fz, u, cu⟩, hq⟩ := HFIN.out c w2 hc hcS hvp
  have HQ := Lib.hid hq
  clear hcS hvp hq
  go_wp2_with fail
  refine HQ.out.mono ?_
  rintro _ _ ⟨rfl, rfl, hn⟩
  have Q := Lib.hid hn
  have hSq := hn.own.isS
  clear hn
  go_wp2
  go_ret
  exact ⟨_, rfl, Q.out⟩
/-- The variable that says from where on mul parts its factors. -/
def KarW (w : World) : Prop := w.cell? ⟨0, 0, none⟩ = some (.int .i64 40)
theorem KarW.below {w w' : World} (h : KarW w) (hb : Below w.heap.size w w') : KarW w' := by
  have hlt := World.block_lt_of_cell? w _ h
  unfold KarW
  rw [hb.cell (p := ⟨0, 0, none⟩) hlt]; exact h
theorem KarW.drewN {w : World} (h : KarW w) (n : Nat) : KarW (w.drewN n) := h
set_option maxRecDepth 100000 in
set_option maxHeartbeats 3200000 in
theorem nmul_ge {pk : Option Addr} (x y : Value) (X Y : Nat) (w : World) (hx : RO w x (wds X)) (hy : RO w y (wds Y)) (hnm : nw Y ≤ nw X) (hk : nw Y < 40) (hl : nw X ≤ 100000000) (hK : KarW w) :
    Calls Tryz.prog 136 #[.slice none 0 0, .pointer pk, x, y] w fun e w' => ∃ r, e = .returned r ∧ Own w' w.heap.size 147 r (cellsW (wds (X * Y))) ∧ Below w.heap.size w w' := by
  have hSx := hx.rw.isS
  have hSy := hy.rw.isS
  have hSn := IsS.nil
  obtain ⟨m, hm⟩ : ∃ m, m = nw X := ⟨_, rfl⟩
  obtain ⟨n, hn⟩ : ∃ n, n = nw Y := ⟨_, rfl⟩
  have hLx : sLen x = m := by rw [hx.rw.len, wds_length, hm]
  have hLy : sLen y = n := by rw [hy.rw.len, wds_length, hn]
  rw [← hm] at hnm hl
  rw [← hn] at hnm hk
  have t1 : decide ((m : Int) < (n : Int)) = false := decide_eq_false (by omega)
  rcases Nat.eq_zero_or_pos n with hn0 | hn0
  · have hY0 : Y = 0 := nw_eq_zero.1 (by omega)
    have Q : Hid (Own w w.heap.size 147 (.slice none 0 0) (cellsW (wds (X * Y))) ∧ Below w.heap.size w w) := Lib.hid (by
      rw [hY0, Nat.mul_zero]; exact ⟨.nil _ _ _, Below.refl _ _⟩)
    subst hn0
    clear hx hy hm hn hY0 hK hnm
    by_cases hm0 : m = 0
    · subst hm0
      go_enter Tryz.func136, Tryz.ntmps136
      go_wp2
      go_ret
      exact ⟨_, rfl, Q.out⟩
    · have t2 : ((m : Int) == 0) = false := by rw [beq_eq_false_iff_ne]; omega
      have t3 : decide ((m : Int) < 0) = false := decide_eq_false (by omega)
      clear hm0
      go_enter Tryz.func136, Tryz.ntmps136
      go_wp2
      go_ret
      exact ⟨_, rfl, Q.out⟩
  have t2 : ((m : Int) == 0) = false := by rw [beq_eq_false_iff_ne]; omega
  have t3 : ((n : Int) == 0) = false := by rw [beq_eq_false_iff_ne]; omega
  have hX0 : 0 < X := by rcases Nat.eq_zero_or_pos X with h | h; (rw [h, nw_zero] at hm; omega); exact h
  have hY0 : 0 < Y := by rcases Nat.eq_zero_or_pos Y with h | h; (rw [h, nw_zero] at hn; omega); exact h
  by_cases hn1 : n = 1
  · have hYl : Y < 18446744073709551616 := by have := lt_nw Y; rw [← hn, hn1, Nat.pow_one] at this; exact this
    have cy := hy.rw.cell 0 (by rw [wds_length, ← hn, hn1]; decide)
    rw [wds_getD, wdg_zero_eq, Nat.mod_eq_of_lt hYl, Nat.add_zero] at cy
    have HC := Lib.hid (mulAddWW_any (.slice none 0 0) x [] X Y 0 w.heap.size w (.nil _ _ _) hx (Al.nil x) hX0 hY0 hYl (by decide) (by rw [← hm]; exact hl) (Nat.le_refl _))
    rw [Nat.add_zero] at HC
    subst hn1
    clear hx hy hm hn hK hX0 hY0 hnm
    have t1 : decide ((m : Int) < 1) = false := t1
    go_enter Tryz.func136, Tryz.ntmps136
    go_wp2_with fail
    refine HC.out.mono ?_
    rintro _ w1 ⟨q, rfl, h1, h2, -⟩
    have Q := Lib.hid (And.intro h1 h2)
    have hSq := h1.isS
    clear h1 h2
    go_wp2
    go_ret
    exact ⟨_, rfl, Q.out⟩
  · have t4 : ((n : Int) == 1) = false := by rw [beq_eq_false_iff_ne]; omega
    obtain ⟨N, hN⟩ : ∃ N, N = m + n := ⟨_, rfl⟩
    have e1 : (m : Int) + (n : Int) = (N : Int) := by omega
    have t5 : decide ((n : Int) < 40) = true := decide_eq_true (by omega)
    have t5' : decide (n < 40) = true := decide_eq_true (by omega)
    have kc : w.cell? ⟨0, 0, none⟩ = some (.int .i64 40) := hK
    have HX := Lib.hid hx
    have HY := Lib.hid hy
    have HM := Lib.hid hm
    have HN := Lib.hid hn
    have HNN := Lib.hid hN
    have HK := Lib.hid hK
    have HMP : Hid (0 < m) := Lib.hid (by omega)
    have HAX := Lib.hid (fun W => alias_nil x W hSx)
    have HAY := Lib.hid (fun W => alias_nil y W hSy)
    have hNb : N ≤ 1000000000 := by omega
    have hNp : 0 < N := by omega
    clear hx hy hm hn hK hn1 hN
    go_enter Tryz.func136, Tryz.ntmps136
    go_wp2_with fail
    refine (HAX.out _).mono ?_
    rintro _ _ ⟨rfl, n1, rfl⟩
    go_wp2_with fail
    refine (HAY.out _).mono ?_
    rintro _ _ ⟨rfl, n2, rfl⟩
    go_wp2_with fail
    refine (make_nil N _ hNb).mono ?_
    rintro _ w1 ⟨z, rfl, ho, hb, hcz⟩
    have hb1 : Below w.heap.size w w1 := undrewN (n := n1 + n2) hb
    have hSz := ho.isS
    have hLz : sLen z = N := by rw [ho.len]; simp
    have hX1 := HX.out.below hb1
    have hY1 := HY.out.below hb1
    have hK1 : KarW w1 := HK.out.below hb1
    have kc1 : w1.cell? ⟨0, 0, none⟩ = some (.int .i64 40) := hK1
    have hcz0 : 0 < sCap z := by have := hSz.le; omega
    have hzB : w.heap.size ≤ sBlk z := (ho.lt hcz0).1
    have hnx : sBlk x ≠ sBlk z := by
      have := HX.out.rw.ri.lt (by rw [ints_length, wds_length, ← HM.out]; exact HMP.out)
      omega
    have hny : sBlk y ≠ sBlk z := by
      have := HY.out.rw.ri.lt (by rw [ints_length, wds_length, ← HN.out]; exact hn0)
      omega
    have HB := Lib.hid (basicMul_any z x y _ (wds X) (wds Y) w.heap.size w1 ho hX1.rw hY1.rw (by rw [wds_length, wds_length, ← HM.out, ← HN.out, ← HNN.out]; simp) hnx hny (by rw [wds_length, ← HM.out]; exact HMP.out) (by simp; exact hNb))
    rw [List.length_replicate, wv_wds, wv_wds] at HB
    have HB1 := Lib.hid hb1
    have hXY : X * Y < 18446744073709551616 ^ N := by
      rw [HNN.out, Nat.pow_add, HM.out, HN.out]
      exact Nat.mul_lt_mul'' (lt_nw X) (lt_nw Y)
    have HXY := Lib.hid hXY
    clear ho hb hb1 hX1 hY1 hK1 hcz hnx hny hXY kc
    go_wp2_with fail
    refine HB.out.mono ?_
    rintro _ w2 ⟨rfl, ho2, hb2, -⟩
    have HNM := Lib.hid (norm_any z _ w2 (ho2.rw' wdsN_lt) (by rw [wdsN_length]; exact hNb))
    have hT := ho2.takeW wdsN_lt
    rw [wv_wdsN_lt HXY.out] at HNM hT
    have Q := Lib.hid (And.intro hT (HB1.out.trans hb2))
    have hSq := hT.isS
    clear ho2 hb2 hT
    go_wp2_with fail
    refine HNM.out.mono ?_
    rintro _ _ ⟨rfl, rfl⟩
    go_wp2
    go_ret
    exact ⟨_, rfl, Q.out⟩
set_option maxRecDepth 100000 in
theorem nmul_any {pk : Option Addr} (x y : Value) (X Y : Nat) (w : World) (hx : RO w x (wds X)) (hy : RO w y (wds Y)) (hk : nw X < 40 ∨ nw Y < 40) (hl : nw X ≤ 100000000) (hl2 : nw Y ≤ 100000000) (hK : KarW w) :
    Calls Tryz.prog 136 #[.slice none 0 0, .pointer pk, x, y] w fun e w' => ∃ r, e = .returned r ∧ Own w' w.heap.size 147 r (cellsW (wds (X * Y))) ∧ Below w.heap.size w w' := by
  by_cases h : nw Y ≤ nw X
  · exact nmul_ge x y X Y w hx hy h (by omega) hl hK
  · have HR := Lib.hid (nmul_ge (pk := pk) y x Y X w hy hx (by omega) (by omega) hl2 hK)
    have hSx := hx.rw.isS
    have hSy := hy.rw.isS
    have hLx : sLen x = nw X := by rw [hx.rw.len, wds_length]
    have hLy : sLen y = nw Y := by rw [hy.rw.len, wds_length]
    obtain ⟨m, hm⟩ : ∃ m, m = nw X := ⟨_, rfl⟩
    obtain ⟨n, hn⟩ : ∃ n, n = nw Y := ⟨_, rfl⟩
    rw [← hm] at hLx h
    rw [← hn] at hLy h
    rw [Nat.mul_comm] at HR
    have t1 : decide ((m : Int) < (n : Int)) = true := decide_eq_true (by omega)
    have t1' : decide (m < n) = true := decide_eq_true (by omega)
    clear hx hy hm hn h hK
    go_enter Tryz.func136, Tryz.ntmps136
    go_wp2_with fail
    refine HR.out.mono ?_
    rintro _ w1 ⟨r, rfl, h⟩
    have Q := Lib.hid h
    have hSq := h.1.isS
    clear h
    go_wp2
    go_ret
    exact ⟨_, rfl, Q.out⟩
end Go.Proofs.YtkhhoamcnocjlaaGreatDoor

/-
A number scaled by a denominator: scaleDenom. No condition but the threshold of Karatsuba.
-/
namespace Go.Proofs.YtkhhoamcnocjlaaGreatDoor
open Go.RowKit

/-- What scaleDenom leaves in its receiver's box. -/
structure ScP (b : Nat) (neg : Bool) (N : Nat) (w w' : World) : Prop where
  row : ∃ r, w'.heap[b]? = some (.cells #[.bool neg, r] 96 (0, 0)) ∧ Own w' w.heap.size 147 r (cellsW (wds N))
  below : Below b w w'
  only : Only b w w'
set_option maxRecDepth 100000 in
set_option maxHeartbeats 1600000 in
theorem scale_any {pk : Option Addr} (b g : Nat) (neg : Bool) (v f : Value) (X Y : Nat) (cg : Array Value) (tg : TypeId) (w : World)
    (hb : w.heap[b]? = some (.cells #[.bool false, .slice none 0 0] 96 (0, 0))) (hg : w.heap[g]? = some (.cells cg tg (0, 0))) (h0 : cg[0]? = some (.bool neg)) (h1 : cg[1]? = some v) (hne : g ≠ b)
    (hx : RO w v (wds X)) (hy : RO w f (wds Y)) (hY : 0 < Y) (hk : nw X < 40) (hk2 : nw Y < 40) (hK : KarW w) :
    Calls Tryz.prog 104 #[.pointer (some ⟨b, 0, none⟩), .pointer pk, .pointer (some ⟨g, 0, none⟩), f] w fun e w' => e = .returned (.tuple #[]) ∧ ScP b neg (X * Y) w w' := by
  have hSf := hy.rw.isS
  have hSv := hx.rw.isS
  have hSn := IsS.nil
  obtain ⟨n, hn⟩ : ∃ n, n = nw Y := ⟨_, rfl⟩
  have hLf : sLen f = n := by rw [hy.rw.len, wds_length, hn]
  have hnp : 0 < n := by rw [hn]; exact nw_pos hY
  have t1 : ((n : Int) == 0) = false := by rw [beq_eq_false_iff_ne]; omega
  obtain ⟨c0, f0⟩ := row_at (i := 0) hb rfl
  obtain ⟨c1, f1⟩ := row_at (i := 1) hb rfl
  obtain ⟨d0, -⟩ := row_at (i := 0) hg h0
  obtain ⟨d1, -⟩ := row_at (i := 1) hg h1
  have hblt : b < w.heap.size := (heap_alloc_lt (o := .cells #[] 0) hb).2
  have HM : Hid (∀ W : World, Below w.heap.size w W → KarW W → Calls Tryz.prog 136 #[.slice none 0 0, .pointer pk, v, f] W fun e w' => ∃ r, e = .returned r ∧ Own w' W.heap.size 147 r (cellsW (wds (X * Y))) ∧ Below W.heap.size W w') :=
    Lib.hid (fun W hW hKW => nmul_any v f X Y W (hx.below hW) (hy.below hW) (.inl hk) (by omega) (by omega) hKW)
  have HB := Lib.hid hb
  have HG := Lib.hid hg
  have H0 := Lib.hid h0
  have HK := Lib.hid hK
  clear hx hy hb hg hn h1 h0 hK
  go_enter Tryz.func104, Tryz.ntmps104
  go_wp2_with fail
  (refine wp_region_hoist 11 (by kernel_rfl) (by kernel_rfl) ⟨fun _ _ _ h => (by first | exact (hQp _ _ _ h).elim | cases h.2.1 | (obtain ⟨_, h3, _⟩ := h.2; cases h3)), fun _ _ h => (by first | exact (hQo _ _ h).elim | cases h.1 | (obtain ⟨_, h3, _⟩ := h; cases h3))⟩ ?_; simp only [List.take_succ_cons, List.take_zero, List.drop_succ_cons, List.drop_zero]; (repeat (go_big_quiet_step (fail))); refine wpQuiet_nil ?_; rintro _ ⟨nq, rfl⟩)
  go_wp2_with fail
  refine (HM.out _ (undrewN' (Below.refl _ _)) (HK.out.drewN _)).mono ?_
  rintro _ w1 ⟨r, rfl, ho, hb1⟩
  have hSr := ho.isS
  have rb1 := keep_row hb1 HB.out
  have rg1 := keep_row hb1 HG.out
  have hb2 := undrewN hb1
  have k0 := (row_at (i := 0) rb1 rfl).1
  have k1 := (row_at (i := 1) rb1 rfl).1
  have k2 := (row_at (i := 0) rg1 H0.out).1
  have f0 := frozen_of_row w1 b 0 _ _ rb1
  have f1 := frozen_of_row w1 b 1 _ _ rb1
  have hne' : ¬ b = g := fun h => hne h.symm
  have r1 := rowset (i := 1) r rb1
  have r2 := rowset (i := 0) (.bool neg) r1
  have o1 := (ho.away rb1 (by decide) 1 r).away r1 (by decide) 0 (.bool neg)
  have Q : Hid (ScP b neg (X * Y) w ((w1.setCell ⟨b, 1, none⟩ r).setCell ⟨b, 0, none⟩ (.bool neg))) := Lib.hid ⟨⟨r, r2, o1⟩, bset (bset (hb2.mono (Nat.le_of_lt hblt)) (Nat.le_refl _)) (Nat.le_refl _), fun j hj hjb => by
    rw [heap_setCell_other _ _ _ _ (by simp only; omega), heap_setCell_other _ _ _ _ (by simp only; omega)]
    exact hb2.block j hj⟩
  clear ho hb1 rb1 rg1 r1 r2 o1
  go_wp2
  go_end0
  exact ⟨rfl, Q.out⟩
end Go.Proofs.YtkhhoamcnocjlaaGreatDoor

/-
Int.Cmp of two boxes, the stack of the numbers. No condition.
-/
namespace Go.Proofs.YtkhhoamcnocjlaaGreatDoor
open Go.RowKit

theorem run_eql_ptr_other {P : Program} (w : World) {tp te : TypeId} {j : TypeInfo} {a b : Addr} {ca cb : Array Value} {ta tb : TypeId} (hp : P.underlying tp = some (.pointer te)) (hte : P.info? te = some j) (hsz : j.size ≠ 0)
    (hne : a ≠ b) (ha : w.heap[a.block]? = some (.cells ca ta (0, 0))) (hb : w.heap[b.block]? = some (.cells cb tb (0, 0))) :
    (binOp .eql tp (.pointer (some a)) (.pointer (some b))).run P w = .ok (.bool false) w := by
  have h : ∀ d : Nat, (Op.equalIn (d + 1) tp (.pointer (some a)) (.pointer (some b))).run P w = .ok false w := fun d => by
    simp [Op.equalIn, run_underlying hp, sizeOf, typeInfo, hte, hsz, run_sameAddr_other w hne ha hb]
  simp only [binOp]
  simp [Op.equal, Op.maxDepth, h 9999]
theorem eqlI (w : World) {b o c q : Nat} {cb cc : Array Value} {tb tc : TypeId} (hne : b ≠ c) (hb : w.heap[b]? = some (.cells cb tb (0, 0))) (hc : w.heap[c]? = some (.cells cc tc (0, 0))) :
    (binOp .eql 100 (.pointer (some ⟨b, o, none⟩)) (.pointer (some ⟨c, q, none⟩))).run Tryz.prog w = .ok (.bool false) w := by
  obtain ⟨j, hj, hz⟩ := info_size sizeI
  exact run_eql_ptr_other w Tryz.underlying100 hj (by omega) (by simp) hb hc
/-- The order of two integers told by sign and size. -/
def cmpS (m : Bool) (X : Nat) (n : Bool) (Y : Nat) : Int := if m = n then (if m then -cmpN X Y else cmpN X Y) else if m then -1 else 1
set_option maxRecDepth 100000 in
set_option maxHeartbeats 1600000 in
theorem intCmp (b c : Nat) (m n : Bool) (v u : Value) (X Y : Nat) (w : World) (hne : b ≠ c)
    (hb : w.heap[b]? = some (.cells #[.bool m, v] 96 (0, 0))) (hc : w.heap[c]? = some (.cells #[.bool n, u] 96 (0, 0)))
    (hv : RW w v (wds X)) (hu : RW w u (wds Y)) (hx : nw X ≤ 1000000) (hy : nw Y ≤ 1000000) :
    Calls Tryz.prog 130 #[.pointer (some ⟨b, 0, none⟩), .pointer (some ⟨c, 0, none⟩)] w fun e w' => e = .returned (.int .i64 (cmpS m X n Y)) ∧ ∃ k, w' = w.drewN k := by
  have hSv := hv.isS
  have hSu := hu.isS
  have heq := eqlI w (o := 0) (q := 0) hne hb hc
  obtain ⟨c0, -⟩ := row_at (i := 0) hb rfl
  obtain ⟨c1, -⟩ := row_at (i := 1) hb rfl
  obtain ⟨d0, -⟩ := row_at (i := 0) hc rfl
  obtain ⟨d1, -⟩ := row_at (i := 1) hc rfl
  obtain ⟨C, hC⟩ : ∃ C, C = cmpN X Y := ⟨_, rfl⟩
  have hCb := cmpN_bd X Y
  rw [← hC] at hCb
  obtain ⟨hC1, hC2⟩ := hCb
  have HM := Lib.hid (show ∀ W, (∃ k, W = w.drewN k) → Calls Tryz.prog 137 #[v, u] W fun e w' => e = .returned (.int .i64 C) ∧ ∃ k, w' = W.drewN k from fun W ⟨k, hk⟩ => by
    rw [hk, hC]; exact cmp_any v u X Y _ (hv.drewN k) (hu.drewN k) (by omega) (by omega))
  have E : cmpS m X n Y = if m = n then (if m then -C else C) else if m then -1 else 1 := by rw [hC]; rfl
  rw [E]
  clear hb hc hv hu hC E
  cases m <;> cases n
  · go_enter Tryz.func130, Tryz.ntmps130
    go_wp2
    go_quiet (fail)
    go_wp2_with fail
    (refine wp_region_hoist 8 (by kernel_rfl) (by kernel_rfl) ⟨fun _ _ _ h => (by first | exact (hQp _ _ _ h).elim | cases h.2.1 | (obtain ⟨_, h3, _⟩ := h.2; cases h3)), fun _ _ h => (by first | exact (hQo _ _ h).elim | cases h.1 | (obtain ⟨_, h3, _⟩ := h; cases h3))⟩ ?_; simp only [List.take_succ_cons, List.take_zero, List.drop_succ_cons, List.drop_zero]; (repeat (go_big_quiet_step (fail))); refine wpQuiet_nil ?_; rintro _ ⟨nq, rfl⟩)
    go_wp2_with fail
    refine (HM.out _ (by first | exact ⟨_, rfl⟩ | exact ⟨_, World.drewN_drewN _ _ _⟩)).mono ?_
    rintro _ _ ⟨rfl, k, rfl⟩
    go_wp2
    go_ret
    exact ⟨rfl, by first | exact ⟨_, rfl⟩ | simp⟩
  · go_enter Tryz.func130, Tryz.ntmps130
    go_wp2
    go_quiet (fail)
    go_wp2
    go_ret
    exact ⟨rfl, by first | exact ⟨_, rfl⟩ | simp⟩
  · go_enter Tryz.func130, Tryz.ntmps130
    go_wp2
    go_quiet (fail)
    go_wp2
    go_ret
    exact ⟨rfl, by first | exact ⟨_, rfl⟩ | simp⟩
  · go_enter Tryz.func130, Tryz.ntmps130
    go_wp2
    go_quiet (fail)
    go_wp2_with fail
    (refine wp_region_hoist 8 (by kernel_rfl) (by kernel_rfl) ⟨fun _ _ _ h => (by first | exact (hQp _ _ _ h).elim | cases h.2.1 | (obtain ⟨_, h3, _⟩ := h.2; cases h3)), fun _ _ h => (by first | exact (hQo _ _ h).elim | cases h.1 | (obtain ⟨_, h3, _⟩ := h; cases h3))⟩ ?_; simp only [List.take_succ_cons, List.take_zero, List.drop_succ_cons, List.drop_zero]; (repeat (go_big_quiet_step (fail))); refine wpQuiet_nil ?_; rintro _ ⟨nq, rfl⟩)
    go_wp2_with fail
    refine (HM.out _ (by first | exact ⟨_, rfl⟩ | exact ⟨_, World.drewN_drewN _ _ _⟩)).mono ?_
    rintro _ _ ⟨rfl, k, rfl⟩
    go_wp2
    go_ret
    exact ⟨rfl, by first | exact ⟨_, rfl⟩ | simp⟩
set_option maxRecDepth 100000 in
theorem getStack_any (w : World) :
    Calls Tryz.prog 102 #[] w fun e w' => e = .returned (.pointer (some ⟨w.heap.size, 0, none⟩)) ∧ w' = w.alloc (.cells #[.pointer none] 184) := by
  go_enter Tryz.func102, Tryz.ntmps102
  go_wp2
  go_ret
  exact ⟨rfl, rfl⟩
set_option maxRecDepth 100000 in
theorem free_d (b : Nat) (u : FrameMode) (w : World) (hb : w.cell? ⟨b, 0, none⟩ = some (.pointer none)) :
    CallsD Tryz.prog 103 #[.pointer (some ⟨b, 0, none⟩)] u w fun e u' w' => u' = u ∧ (e = .returned (.tuple #[]) ∧ w' = w) := by
  go_enter_d Tryz.func103, Tryz.ntmps103
  go_wp2
  go_end0
  exact ⟨rfl, rfl⟩
end Go.Proofs.YtkhhoamcnocjlaaGreatDoor

/-
Rat.Cmp. No condition but the threshold of Karatsuba.
-/
namespace Go.Proofs.YtkhhoamcnocjlaaGreatDoor
open Go.RowKit

theorem nw_mul_le (a b : Nat) : nw (a * b) ≤ nw a + nw b := nw_le (by rw [Nat.pow_add]; exact Nat.mul_lt_mul'' (lt_nw a) (lt_nw b))
theorem ScP.pre {b N : Nat} {neg : Bool} {w w0 w1 : World} (hw : Below w.heap.size w w0) (hb : b < w.heap.size) (h : ScP b neg N w0 w1) : ScP b neg N w w1 := by
  obtain ⟨⟨r, h1, h2⟩, h3, h4⟩ := h
  exact ⟨⟨r, h1, h2.mono hw.size⟩, (hw.mono (Nat.le_of_lt hb)).trans h3, fun j hj hne => (h4 j (Nat.lt_of_lt_of_le hj hw.size) hne).trans (hw.block j hj)⟩
end Go.Proofs.YtkhhoamcnocjlaaGreatDoor

/-
The thin package's RatCmp. No condition but the threshold of Karatsuba.
-/
namespace Go.Proofs.YtkhhoamcnocjlaaGreatDoor
open Go.RowKit

theorem ks6F {W X : World} {k g T U : Nat} {a b c d e f : Value} (h1 : W.heap[k]? = some (.cells #[a, b, c] T (0, 0))) (h2 : W.heap[g]? = some (.cells #[d, e, f] U (0, 0))) (h : Below W.heap.size W X) :
    Below W.heap.size W X ∧ X.cell? ⟨k, 0, none⟩ = some a ∧ X.cell? ⟨k, 1, none⟩ = some b ∧ X.cell? ⟨k, 2, none⟩ = some c ∧ X.cell? ⟨g, 0, none⟩ = some d ∧ X.cell? ⟨g, 1, none⟩ = some e ∧ X.cell? ⟨g, 2, none⟩ = some f :=
  ⟨h, ks6 (row3 h1).1 (row3 h1).2.1 (row3 h1).2.2.1 (row3 h2).1 (row3 h2).2.1 (row3 h2).2.2.1 h⟩
end Go.Proofs.YtkhhoamcnocjlaaGreatDoor

/-
The sum of two fractions, as the reference tells it, and their order: Plus, Compare. No condition.
-/
namespace Go.Proofs.YtkhhoamcnocjlaaGreatDoor
open Go.RowKit

theorem ks2 {W X : World} {k g T U : Nat} {a b c d e f : Value} (h1 : W.heap[k]? = some (.cells #[a, b, c] T (0, 0))) (h2 : W.heap[g]? = some (.cells #[d, e, f] U (0, 0))) (h : Below W.heap.size W X) :
    X.cell? ⟨k, 0, none⟩ = some a ∧ X.cell? ⟨g, 0, none⟩ = some d := ⟨(row3 (keep_row h h1)).1, (row3 (keep_row h h2)).1⟩
theorem ks2_set {X : World} {k i : Nat} {a d u : Value} (h : X.cell? ⟨k, 0, none⟩ = some a ∧ X.cell? ⟨k + 1, 0, none⟩ = some d) :
    (X.setCell ⟨k + 1 + 1, i, none⟩ u).cell? ⟨k, 0, none⟩ = some a ∧ (X.setCell ⟨k + 1 + 1, i, none⟩ u).cell? ⟨k + 1, 0, none⟩ = some d :=
  ⟨(cell_other (by simp only; omega)).trans h.1, (cell_other (by simp only; omega)).trans h.2⟩
theorem nl_mul_le (a b : Nat) : nl (a * b) ≤ nl a + nl b := nl_le (by rw [Nat.pow_add]; exact Nat.mul_lt_mul'' (lt_nl a) (lt_nl b))
theorem nl_add_le (a b : Nat) : nl (a + b) ≤ nl a + nl b + 1 := by
  have h1 := lt_nl a
  have h2 := lt_nl b
  refine nl_le ?_
  have e1 : 65536 ^ nl a ≤ 65536 ^ (nl a + nl b) := Nat.pow_le_pow_right (by decide) (by omega)
  have e2 : 65536 ^ nl b ≤ 65536 ^ (nl a + nl b) := Nat.pow_le_pow_right (by decide) (by omega)
  rw [Nat.pow_succ]
  omega
/-- Sign and size of a sum of two told by sign and size. -/
def plS (m : Bool) (X : Nat) (n : Bool) (Y : Nat) : Bool := if m = n then m else if Y ≤ X then m else n
def plN (m : Bool) (X : Nat) (n : Bool) (Y : Nat) : Nat := if m = n then X + Y else if Y ≤ X then X - Y else Y - X
/-- A fraction of the reference that stands for sign, numerator and denominator. -/
def RtV (w : World) (v : Value) (neg : Bool) (X Y : Nat) : Prop := ∃ q r, v = .agg #[.bool (neg && decide (0 < X)), q, r] ∧ NatV w q (X / Nat.gcd X Y) ∧ NatV w r (Y / Nat.gcd X Y)
set_option maxRecDepth 100000 in
set_option maxHeartbeats 3200000 in
theorem plus_any (m n : Bool) (a1 a2 c1 c2 : Value) (X1 X2 Y1 Y2 : Nat) (w : World) (ha1 : NatV w a1 X1) (ha2 : NatV w a2 X2) (hc1 : NatV w c1 Y1) (hc2 : NatV w c2 Y2)
    (l1 : nl X1 ≤ 1000000) (l2 : nl X2 ≤ 1000000) (l3 : nl Y1 ≤ 1000000) (l4 : nl Y2 ≤ 1000000) (p1 : 0 < X2) (p2 : 0 < Y2) :
    Calls Tryz.prog 27 #[.agg #[.bool m, a1, a2], .agg #[.bool n, c1, c2]] w fun e w' => ∃ v, e = .returned v ∧ RtV w' v (plS m (X1 * Y2) n (Y1 * X2)) (plN m (X1 * Y2) n (Y1 * X2)) (X2 * Y2) ∧ Below w.heap.size w w' := by
  have hS1 := ha1.isS
  have hS2 := ha2.isS
  have hS3 := hc1.isS
  have hS4 := hc2.isS
  obtain ⟨W, hW⟩ : ∃ W, W = ((w.alloc (.cells #[.bool m, a1, a2] 57)).alloc (.cells #[.bool n, c1, c2] 57)).alloc (.cells #[.bool false, .slice none 0 0, .slice none 0 0] 57) := ⟨_, rfl⟩
  have hab : Below w.heap.size w W := by rw [hW]; exact (((Below.refl _ w).alloc (Nat.le_refl _) _).alloc (by simp) _).alloc (by simp; omega) _
  have hr1 : W.heap[w.heap.size]? = some (.cells #[.bool m, a1, a2] 57 (0, 0)) := by rw [hW]; exact keep_row (fbone _) (keep_row (fbone _) (box_row (Below.refl _ _)))
  have hr2 : W.heap[w.heap.size + 1]? = some (.cells #[.bool n, c1, c2] 57 (0, 0)) := by
    have h := box_row (cs := #[.bool n, c1, c2]) (T := 57) (Below.refl _ ((w.alloc (.cells #[.bool m, a1, a2] 57)).alloc (.cells #[.bool n, c1, c2] 57)))
    have e : (w.alloc (.cells #[.bool m, a1, a2] 57)).heap.size = w.heap.size + 1 := by simp
    rw [e] at h
    rw [hW]; exact keep_row (fbone _) h
  have hr3 : W.heap[w.heap.size + 1 + 1]? = some (.cells #[.bool false, .slice none 0 0, .slice none 0 0] 57 (0, 0)) := by
    have h := box_row (cs := #[.bool false, .slice none 0 0, .slice none 0 0]) (T := 57) (Below.refl _ (((w.alloc (.cells #[.bool m, a1, a2] 57)).alloc (.cells #[.bool n, c1, c2] 57)).alloc (.cells #[.bool false, .slice none 0 0, .slice none 0 0] 57)))
    have e : ((w.alloc (.cells #[.bool m, a1, a2] 57)).alloc (.cells #[.bool n, c1, c2] 57)).heap.size = w.heap.size + 1 + 1 := by simp
    rw [e] at h
    rw [hW]; exact h
  have HR1 := Lib.hid hr1
  have HR2 := Lib.hid hr2
  have HR3 := Lib.hid hr3
  have HM1 : Hid (∀ w', Below W.heap.size W w' → Calls Tryz.prog 57 #[a1, c2] w' fun e w3 => ∃ r, e = .returned r ∧ NatV w3 r (X1 * Y2) ∧ Below w'.heap.size w' w3) := Lib.hid (fun w' h => (spMul a1 c2 X1 Y2 w' ((ha1.below hab).below h) ((hc2.below hab).below h) (by omega) (by omega)).mono (by rintro e w3 ⟨r, h1, h2, h3⟩; exact ⟨r, h1, h2, h3⟩))
  have HM2 : Hid (∀ w', Below W.heap.size W w' → Calls Tryz.prog 57 #[c1, a2] w' fun e w3 => ∃ r, e = .returned r ∧ NatV w3 r (Y1 * X2) ∧ Below w'.heap.size w' w3) := Lib.hid (fun w' h => (spMul c1 a2 Y1 X2 w' ((hc1.below hab).below h) ((ha2.below hab).below h) (by omega) (by omega)).mono (by rintro e w3 ⟨r, h1, h2, h3⟩; exact ⟨r, h1, h2, h3⟩))
  have HM3 : Hid (∀ w', Below W.heap.size W w' → Calls Tryz.prog 57 #[a2, c2] w' fun e w3 => ∃ r, e = .returned r ∧ NatV w3 r (X2 * Y2) ∧ Below w'.heap.size w' w3) := Lib.hid (fun w' h => (spMul a2 c2 X2 Y2 w' ((ha2.below hab).below h) ((hc2.below hab).below h) (by omega) (by omega)).mono (by rintro e w3 ⟨r, h1, h2, h3⟩; exact ⟨r, h1, h2, h3⟩))
  have HD0 : Hid (0 < X2 * Y2) := Lib.hid (Nat.mul_pos p1 p2)
  have HL3 : Hid (nl (X2 * Y2) ≤ 100000000 ∧ nl (X1 * Y2) ≤ 2000000 ∧ nl (Y1 * X2) ≤ 2000000) := Lib.hid ⟨Nat.le_trans (nl_mul_le _ _) (by omega), Nat.le_trans (nl_mul_le _ _) (by omega), Nat.le_trans (nl_mul_le _ _) (by omega)⟩
  have hcc := Below.refl W.heap.size W
  have HAB := Lib.hid hab
  clear hr1 hr2 hr3 ha1 ha2 hc1 hc2 hab
  go_enter Tryz.func27, Tryz.ntmps27
  go_upto_region 1 with fail
  rw [← hW]
  clear hW
  first
    | (go_region_held3 (fun w' => Below W.heap.size W w' ∧ w'.cell? ⟨w.heap.size, 0, none⟩ = some (.bool m) ∧ w'.cell? ⟨w.heap.size, 1, none⟩ = some a1 ∧ w'.cell? ⟨w.heap.size, 2, none⟩ = some a2 ∧ w'.cell? ⟨w.heap.size + 1, 0, none⟩ = some (.bool n) ∧ w'.cell? ⟨w.heap.size + 1, 1, none⟩ = some c1 ∧ w'.cell? ⟨w.heap.size + 1, 2, none⟩ = some c2)
        ((refine ks6F HR1.out HR2.out ?_; first | assumption | exact Below.drew hcc))
        (first
          | (go_at_call 57; with_reducible refine (HM3.out _ hb4).mono ?_; rintro _ w5 ⟨k3, rfl, hN3, hb5⟩; have N1 := Lib.hid (hN1.below hb5); have N2 := Lib.hid (hN2.below hb5); have N3 := Lib.hid hN3; have hS7 := hN3.isS; have hb5 := bthen hb4 hb5; clear hN1 hN2 hN3)
          | (go_at_call 57; with_reducible refine (HM2.out _ hb3).mono ?_; rintro _ w4 ⟨k2, rfl, hN2, hb4⟩; have hS6 := hN2.isS; have hN1 := hN1.below hb4; have hb4 := bthen hb3 hb4)
          | (go_at_call 57; with_reducible refine (HM1.out _ (And.left (by assumption))).mono ?_; rintro _ w3 ⟨k1, rfl, hN1, hb3⟩; have hS5 := hN1.isS; have hb3 := bthenL hb3 (by assumption))))
    | fail
  have HRa := Lib.hid (keep_row hb5 HR1.out)
  have HRb := Lib.hid (keep_row hb5 HR2.out)
  have HRc := Lib.hid (keep_row hb5 HR3.out)
  have hwB : Below w.heap.size w w5 := HAB.out.trans (hb5.mono HAB.out.size)
  obtain ⟨z0, -⟩ := row3 HRa.out
  obtain ⟨z1, -⟩ := row3 HRb.out
  obtain ⟨A, hA⟩ : ∃ A, A = X1 * Y2 := ⟨_, rfl⟩
  obtain ⟨C, hC⟩ : ∃ C, C = Y1 * X2 := ⟨_, rfl⟩
  obtain ⟨D, hD⟩ : ∃ D, D = X2 * Y2 := ⟨_, rfl⟩
  have HX1 := Lib.hid hA
  have HX2 := Lib.hid hC
  have HX3 := Lib.hid hD
  rw [← hA] at N1 HL3
  rw [← hC] at N2 HL3
  rw [← hD] at N3 HL3 HD0
  clear hA hC hD HM1 HM2 HM3 HR1 HR2 HR3
  have hqq := Below.refl w5.heap.size w5
  have HO : Hid (∀ (ng : Bool) (num : Nat) (w' : World) (k : Value), nl num ≤ 100000000 → NatV w' k num → Below w5.heap.size w5 w' → Calls Tryz.prog 23 #[.bool ng, k, k3] w' fun e w7 => ∃ z q r, e = .returned (.agg #[.bool z, q, r]) ∧ Hid (z = (ng && decide (0 < num))) ∧ NatV w7 q (num / Nat.gcd num D) ∧ NatV w7 r (D / Nat.gcd num D) ∧ Below w5.heap.size w5 w7) := Lib.hid (fun ng num w' k h1 h2 h3 => by
    refine (over_any ng k k3 num D w' h2 (N3.out.below h3) h1 HL3.out.1 HD0.out).mono ?_
    rintro e w7 ⟨q, r, g1, g2, g3, g4⟩
    exact ⟨_, q, r, g1, Lib.hid rfl, g2, g3, bthen h3 g4⟩)
  have HADD : Hid (∀ w', Below w5.heap.size w5 w' → Calls Tryz.prog 40 #[k1, k2] w' fun e w6 => ∃ r, e = .returned r ∧ NatV w6 r (A + C) ∧ Below w5.heap.size w5 w6) := Lib.hid (fun w' h => (spAdd k1 k2 A C w' (N1.out.below h) (N2.out.below h) (by have := HL3.out; omega) (by have := HL3.out; omega)).mono (by rintro e w6 ⟨r, g1, g2, g3⟩; exact ⟨r, g1, g2, bthen h g3⟩))
  have HSUB : Hid (C ≤ A → ∀ w', Below w5.heap.size w5 w' → Calls Tryz.prog 42 #[k1, k2] w' fun e w6 => ∃ r, e = .returned r ∧ NatV w6 r (A - C) ∧ Below w5.heap.size w5 w6) := Lib.hid (fun hle w' h => (spSub k1 k2 A C w' (N1.out.below h) (N2.out.below h) (by have := HL3.out; omega) hle).mono (by rintro e w6 ⟨r, g1, g2, g3⟩; exact ⟨r, g1, g2, bthen h g3⟩))
  have HBUS : Hid (A ≤ C → ∀ w', Below w5.heap.size w5 w' → Calls Tryz.prog 42 #[k2, k1] w' fun e w6 => ∃ r, e = .returned r ∧ NatV w6 r (C - A) ∧ Below w5.heap.size w5 w6) := Lib.hid (fun hle w' h => (spSub k2 k1 C A w' (N2.out.below h) (N1.out.below h) (by have := HL3.out; omega) hle).mono (by rintro e w6 ⟨r, g1, g2, g3⟩; exact ⟨r, g1, g2, bthen h g3⟩))
  by_cases hmn : m = n
  · subst hmn
    go_upto_region 3 with fail
    have HPV : Hid (plS m (X1 * Y2) m (Y1 * X2) = m ∧ plN m (X1 * Y2) m (Y1 * X2) = A + C) := Lib.hid (by rw [← HX1.out, ← HX2.out]; exact ⟨if_pos rfl, if_pos rfl⟩)
    have HNL : Hid (nl (A + C) ≤ 100000000) := Lib.hid (by have := HL3.out; exact Nat.le_trans (nl_add_le _ _) (by omega))
    first
      | (go_region_held3 (fun w' => w'.cell? ⟨w.heap.size, 0, none⟩ = some (.bool m) ∧ w'.cell? ⟨w.heap.size + 1, 0, none⟩ = some (.bool m))
          ((first | (refine ks2 HRa.out HRb.out ?_; first | assumption | exact Below.drew hqq) | exact ks2_set (ks2_set (ks2_set (ks2 HRa.out HRb.out (by assumption))))))
          (first
            | (go_at_call 40; with_reducible refine (HADD.out _ (by first | assumption | exact hqq | exact Below.drew hqq)).mono ?_; rintro _ w6 ⟨k4, rfl, hk4, hb6⟩; have hS8 := hk4.isS)
            | (go_at_call 23; with_reducible refine (HO.out m _ _ _ HNL.out hk4 hb6).mono ?_; rintro _ w7 ⟨zz, q, r, rfl, HZZ, hq, hr, hb7⟩; have hSq := hq.isS; have hSr := hr.isS; have hvr := keep_row hb7 HRc.out; obtain ⟨hv0, hv1, hv2, hf0, hf1, hf2⟩ := row3 hvr)))
      | fail
    all_goals
      go_wp2
      obtain ⟨hx0, hx1, hx2, -, -, -⟩ := row3 (row3_set (x := .bool zz) (y := q) (z := r) hvr)
      have hn1 := natv_row3 (x := .bool zz) (y := q) (z := r) IsS.nil IsS.nil hq hvr
      have hn2 := natv_row3 (x := .bool zz) (y := q) (z := r) IsS.nil IsS.nil hr hvr
      have hbY := bset (i := 2) (u := r) (bset (i := 1) (u := q) (bset (i := 0) (u := .bool zz) (hwB.trans (hb7.mono hwB.size)) (show w.heap.size ≤ w.heap.size + 1 + 1 by omega)) (show w.heap.size ≤ w.heap.size + 1 + 1 by omega)) (show w.heap.size ≤ w.heap.size + 1 + 1 by omega)
      refine bodyPost_ret (v := .agg #[.bool zz, q, r]) ?_ rfl ⟨_, rfl, ⟨q, r, by rw [HPV.out.1, HPV.out.2, HZZ.out], by rw [HPV.out.2, ← HX3.out]; exact hn1, by rw [HPV.out.2, ← HX3.out]; exact hn2⟩, hbY⟩
      simp [results, Tryz.results27, go_sem, hx0, hx1, hx2]
  · have tmn : (m == n) = false := by simpa using hmn
    go_upto_region 4 with fail
    go_wp2_with fail
    refine (spCmp k1 k2 A C w5 N1.out N2.out (by have := HL3.out; omega) (by have := HL3.out; omega)).mono ?_
    rintro _ w8 ⟨rfl, hb8⟩
    have hz2 := ks2 HRa.out HRb.out hb8
    obtain ⟨z2, z3⟩ := hz2
    clear z0 z1 hqq
    have hqq := hb8
    by_cases hle : C ≤ A
    · have tge : decide (0 ≤ cmpN A C) = true := decide_eq_true ((cmpN_ge A C).2 hle)
      go_upto_region 5 with fail
      have HPV : Hid (plS m (X1 * Y2) n (Y1 * X2) = m ∧ plN m (X1 * Y2) n (Y1 * X2) = A - C) := Lib.hid (by rw [← HX1.out, ← HX2.out]; exact ⟨by unfold plS; rw [if_neg hmn, if_pos hle], by unfold plN; rw [if_neg hmn, if_pos hle]⟩)
      have HNL : Hid (nl (A - C) ≤ 100000000) := Lib.hid (by have := HL3.out; exact Nat.le_trans (nl_mono (Nat.sub_le _ _)) (by omega))
      first
        | (go_region_held3 (fun w' => w'.cell? ⟨w.heap.size, 0, none⟩ = some (.bool m) ∧ w'.cell? ⟨w.heap.size + 1, 0, none⟩ = some (.bool n))
            ((first | (refine ks2 HRa.out HRb.out ?_; first | assumption | exact Below.drew hqq) | exact ks2_set (ks2_set (ks2_set (ks2 HRa.out HRb.out (by assumption))))))
            (first
              | (go_at_call 42; with_reducible refine (HSUB.out hle _ (by first | assumption | exact hqq | exact Below.drew hqq)).mono ?_; rintro _ w6 ⟨k4, rfl, hk4, hb6⟩; have hS8 := hk4.isS)
              | (go_at_call 23; with_reducible refine (HO.out m _ _ _ HNL.out hk4 hb6).mono ?_; rintro _ w7 ⟨zz, q, r, rfl, HZZ, hq, hr, hb7⟩; have hSq := hq.isS; have hSr := hr.isS; have hvr := keep_row hb7 HRc.out; obtain ⟨hv0, hv1, hv2, hf0, hf1, hf2⟩ := row3 hvr)))
        | fail
      all_goals
        go_wp2
        obtain ⟨hx0, hx1, hx2, -, -, -⟩ := row3 (row3_set (x := .bool zz) (y := q) (z := r) hvr)
        have hn1 := natv_row3 (x := .bool zz) (y := q) (z := r) IsS.nil IsS.nil hq hvr
        have hn2 := natv_row3 (x := .bool zz) (y := q) (z := r) IsS.nil IsS.nil hr hvr
        have hbY := bset (i := 2) (u := r) (bset (i := 1) (u := q) (bset (i := 0) (u := .bool zz) (hwB.trans (hb7.mono hwB.size)) (show w.heap.size ≤ w.heap.size + 1 + 1 by omega)) (show w.heap.size ≤ w.heap.size + 1 + 1 by omega)) (show w.heap.size ≤ w.heap.size + 1 + 1 by omega)
        refine bodyPost_ret (v := .agg #[.bool zz, q, r]) ?_ rfl ⟨_, rfl, ⟨q, r, by rw [HPV.out.1, HPV.out.2, HZZ.out], by rw [HPV.out.2, ← HX3.out]; exact hn1, by rw [HPV.out.2, ← HX3.out]; exact hn2⟩, hbY⟩
        simp [results, Tryz.results27, go_sem, hx0, hx1, hx2]
    · have tge : decide (0 ≤ cmpN A C) = false := decide_eq_false (fun h => hle ((cmpN_ge A C).1 h))
      have hge : A ≤ C := by omega
      go_upto_region 6 with fail
      have HPV : Hid (plS m (X1 * Y2) n (Y1 * X2) = n ∧ plN m (X1 * Y2) n (Y1 * X2) = C - A) := Lib.hid (by rw [← HX1.out, ← HX2.out]; exact ⟨by unfold plS; rw [if_neg hmn, if_neg hle], by unfold plN; rw [if_neg hmn, if_neg hle]⟩)
      have HNL : Hid (nl (C - A) ≤ 100000000) := Lib.hid (by have := HL3.out; exact Nat.le_trans (nl_mono (Nat.sub_le _ _)) (by omega))
      first
        | (go_region_held3 (fun w' => w'.cell? ⟨w.heap.size, 0, none⟩ = some (.bool m) ∧ w'.cell? ⟨w.heap.size + 1, 0, none⟩ = some (.bool n))
            ((first | (refine ks2 HRa.out HRb.out ?_; first | assumption | exact Below.drew hqq) | exact ks2_set (ks2_set (ks2_set (ks2 HRa.out HRb.out (by assumption))))))
            (first
              | (go_at_call 42; with_reducible refine (HBUS.out hge _ (by first | assumption | exact hqq | exact Below.drew hqq)).mono ?_; rintro _ w6 ⟨k4, rfl, hk4, hb6⟩; have hS8 := hk4.isS)
              | (go_at_call 23; with_reducible refine (HO.out n _ _ _ HNL.out hk4 hb6).mono ?_; rintro _ w7 ⟨zz, q, r, rfl, HZZ, hq, hr, hb7⟩; have hSq := hq.isS; have hSr := hr.isS; have hvr := keep_row hb7 HRc.out; obtain ⟨hv0, hv1, hv2, hf0, hf1, hf2⟩ := row3 hvr)))
        | fail
      all_goals
        go_wp2
        obtain ⟨hx0, hx1, hx2, -, -, -⟩ := row3 (row3_set (x := .bool zz) (y := q) (z := r) hvr)
        have hn1 := natv_row3 (x := .bool zz) (y := q) (z := r) IsS.nil IsS.nil hq hvr
        have hn2 := natv_row3 (x := .bool zz) (y := q) (z := r) IsS.nil IsS.nil hr hvr
        have hbY := bset (i := 2) (u := r) (bset (i := 1) (u := q) (bset (i := 0) (u := .bool zz) (hwB.trans (hb7.mono hwB.size)) (show w.heap.size ≤ w.heap.size + 1 + 1 by omega)) (show w.heap.size ≤ w.heap.size + 1 + 1 by omega)) (show w.heap.size ≤ w.heap.size + 1 + 1 by omega)
        refine bodyPost_ret (v := .agg #[.bool zz, q, r]) ?_ rfl ⟨_, rfl, ⟨q, r, by rw [HPV.out.1, HPV.out.2, HZZ.out], by rw [HPV.out.2, ← HX3.out]; exact hn1, by rw [HPV.out.2, ← HX3.out]; exact hn2⟩, hbY⟩
        simp [results, Tryz.results27, go_sem, hx0, hx1, hx2]
end Go.Proofs.YtkhhoamcnocjlaaGreatDoor

/-
The order of two fractions, as the reference tells it: Compare. No condition.
-/
namespace Go.Proofs.YtkhhoamcnocjlaaGreatDoor
open Go.RowKit

theorem cmp_law (b c : Bool) (N1 N2 A C : Nat) (hA : A = 0 ↔ N1 = 0) (hC : C = 0 ↔ N2 = 0) :
    cmpS (b && decide (0 < N1)) A (c && decide (0 < N2)) C = sg (plS b A (!c && decide (0 < N2)) C) (plN b A (!c && decide (0 < N2)) C) := by
  have e1 : decide (0 < N1) = decide (0 < A) := by rw [decide_eq_decide]; omega
  have e2 : decide (0 < N2) = decide (0 < C) := by rw [decide_eq_decide]; omega
  rw [e1, e2]
  clear hA hC e1 e2
  unfold cmpS sg plS plN cmpN
  rcases Nat.eq_zero_or_pos A with ha | ha <;> rcases Nat.eq_zero_or_pos C with hc | hc
  all_goals
    first
      | (subst ha; subst hc)
      | (subst ha; have hc' : decide (0 < C) = true := decide_eq_true hc)
      | (subst hc; have ha' : decide (0 < A) = true := decide_eq_true ha)
      | (have hc' : decide (0 < C) = true := decide_eq_true hc; have ha' : decide (0 < A) = true := decide_eq_true ha)
    cases b <;> cases c <;> simp (config := { decide := true }) [*] <;> (repeat' split) <;> omega
theorem sg_div (neg : Bool) (N D : Nat) (_hD : 0 < D) : sg (neg && decide (0 < N)) (N / Nat.gcd N D) = sg neg N := by
  rcases Nat.eq_zero_or_pos N with h | h
  · subst h; unfold sg; simp
  · have h1 : 0 < N / Nat.gcd N D := Nat.div_pos (Nat.gcd_le_left D h) (Nat.gcd_pos_of_pos_left D h)
    have h2 : ¬ N / Nat.gcd N D = 0 := by omega
    have h3 : ¬ N = 0 := by omega
    rw [decide_eq_true h, Bool.and_true]
    unfold sg
    rw [if_neg h2, if_neg h3]
end Go.Proofs.YtkhhoamcnocjlaaGreatDoor
