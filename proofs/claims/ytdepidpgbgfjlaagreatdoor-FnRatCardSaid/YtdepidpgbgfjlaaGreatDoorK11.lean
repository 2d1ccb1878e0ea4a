/-
Texts of this proof, joined: LhA DvA FlB. No condition.
-/
import Derived.Test.YtdepidpgbgfjlaaGreatDoorK06
import Derived.Test.YtdepidpgbgfjlaaGreatDoorK10
namespace Go.Proofs.YtdepidpgbgfjlaaGreatDoor
open Go.RowKit

set_option maxRecDepth 100000 in
set_option maxHeartbeats 3200000 in
theorem lsh_gen (z0 x : Value) (zs : List Value) (X s B : Nat) (w : World) (hz : Own w B 164 z0 zs) (hx : RW w x (wds X)) (ax : Al z0 x) (h0 : 0 < X) (hl : nw X ≤ 10000000) (hs0 : 0 < s) (hs : s ≤ 1000000000) (hB : B ≤ w.heap.size) :
    Calls Tryz.prog 132 #[z0, x, .int .u64 s] w fun e w' => ∃ r, e = .returned r ∧ NatR z0 r (X * 2 ^ s) B w w' := by
  have hS := hx.isS
  have hSn := hz.isS
  have hL : sLen x = nw X := by rw [hx.len, wds_length]
  have hp := nw_pos h0
  obtain ⟨m, hm⟩ : ∃ m, m = nw X := ⟨_, rfl⟩
  obtain ⟨k, hk⟩ : ∃ k, k = s / 64 := ⟨_, rfl⟩
  obtain ⟨t, ht⟩ : ∃ t, t = s % 64 := ⟨_, rfl⟩
  obtain ⟨n, hn⟩ : ∃ n, n = m + k := ⟨_, rfl⟩
  obtain ⟨n1, hn1⟩ : ∃ n1, n1 = n + 1 := ⟨_, rfl⟩
  rw [← hm] at hL hl hp
  have hcx : m ≤ sCap x := by have := hS.le; omega
  have t0 : ((s : Int) == 0) = false := by rw [beq_eq_false_iff_ne]; omega
  have t1 : ((m : Int) == 0) = false := by rw [beq_eq_false_iff_ne]; omega
  have e1 : (s : Int) / 64 = (k : Int) := by omega
  have e2 : (m : Int) + (k : Int) = (n : Int) := by omega
  have e3 : (n : Int) + 1 = (n1 : Int) := by omega
  have e4 : (s : Int) % 64 = (t : Int) := by omega
  have e5 : (n : Int) - (m : Int) = (k : Int) := by omega
  have hkb : k ≤ 100000000 := by omega
  have hnb : n ≤ 200000000 := by omega
  have hkn : k ≤ n := by omega
  have hnn1 : n < n1 := by omega
  have ht64 : t < 64 := by omega
  have HS : Hid (X * 2 ^ s = 18446744073709551616 ^ k * (X * 2 ^ t)) := Lib.hid (by
    rw [w_two, Nat.mul_left_comm, ← Nat.pow_add]; congr 2; omega)
  have HX := Lib.hid hx
  have HZ0 := Lib.hid hz
  have HAX := Lib.hid ax
  have HBB := Lib.hid hB
  have HM := Lib.hid hm
  have HN := Lib.hid hn
  have HN1 := Lib.hid hn1
  have HMW : Hid (X < 18446744073709551616 ^ m) := Lib.hid (by rw [hm]; exact lt_nw X)
  clear hx hz ax hB hm hk ht hn hn1
  go_enter Tryz.func132, Tryz.ntmps132
  go_wp2_with fail
  refine (make_any z0 zs n1 B w HZ0.out (by omega) HBB.out).mono ?_
  rintro _ w1 ⟨z, rfl, hmk⟩
  obtain ⟨os0, hos0, ho⟩ := hmk.own
  have hb := hmk.below
  have hSz := ho.isS
  have hLz : sLen z = n1 := by rw [ho.len, hos0]
  have hcz1 : n1 ≤ sCap z := by have := hSz.le; omega
  have hcz0 : 0 < sCap z := by omega
  have hzB := (ho.lt hcz0).1
  have hX1 := HX.out.below hb
  have hSk : IsS (subS z k n) := subS_isS hSz hkn (by omega)
  have hS0k : IsS (subS z 0 k) := subS_isS hSz (Nat.zero_le _) (by omega)
  have hsub := ho.sub (l := k) (n := n) hkn (by omega)
  have hsl : ((os0.take n).drop k).length = m := by simp; have := HN.out; omega
  have hxb : 0 < (wds X).length := by rw [wds_length, ← HM.out]; exact hp
  have hal : sBlk x = sBlk (subS z k n) → sOff x ≤ sOff (subS z k n) := fun he => by
    have := hmk.al hSn (by omega) HAX.out HX.out hxb (by rw [he, subS_blk hSz])
    rw [subS_off hSz (by omega)]; omega
  have HMK := Lib.hid hmk
  -- what is common to both ways: the words from k on, the carry, then the words below k
  have hfin : ∀ (w2 : World) (c : Nat), c < 18446744073709551616 → X * 2 ^ t = wv (wdsN (X * 2 ^ t) m) + 18446744073709551616 ^ m * c → VvP (subS z k n) m B (X * 2 ^ t) w1 w2 →
      (w2.frozen? ⟨sBlk z, sOff z + n, none⟩ = false ∧ ∃ u, w2.cell? ⟨sBlk z, sOff z + n, none⟩ = some u) ∧
      ∃ os : List Value, os.length = k ∧ Own (w2.setCell ⟨sBlk z, sOff z + n, none⟩ (.int .u64 (c : Int))) B 164 (subS z 0 k) os ∧
        ∀ w3, Own w3 B 164 (subS z 0 k) (List.replicate os.length (.int .u64 0)) → Below B (w2.setCell ⟨sBlk z, sOff z + n, none⟩ (.int .u64 (c : Int))) w3 → FrB (sBlk (subS z 0 k)) (sOff (subS z 0 k)) (sOff (subS z 0 k) + os.length) (w2.setCell ⟨sBlk z, sOff z + n, none⟩ (.int .u64 (c : Int))) w3 →
          Calls Tryz.prog 174 #[z] w3 fun e w' => e = .returned (subS z 0 (nw (X * 2 ^ s))) ∧ w3 = w' ∧ NatR z0 (subS z 0 (nw (X * 2 ^ s))) (X * 2 ^ s) B w w3 := fun w2 c hc hcX hvp => by
    have hmn : n - k = m := by have := HN.out; omega
    have hpt := VvP.patch (l := k) (n := n) ho hkn (by omega) (by rw [hmn]; exact hvp)
    rw [hmn] at hpt
    obtain ⟨ho2, hb2, hf2⟩ := hpt
    obtain ⟨u0, hd⟩ : ∃ u0, os0.drop n = [u0] := List.length_eq_one_iff.1 (by rw [List.length_drop, hos0]; have := HN1.out; omega)
    rw [hd] at ho2
    have htk : (os0.take k).length = k := by rw [List.length_take]; omega
    have hlen : (os0.take k ++ (cellsW (wdsN (X * 2 ^ t) m) ++ [u0])).length = n1 := by
      rw [List.length_append, htk, List.length_append, cellsW_length, wdsN_length]; have := HN.out; have := HN1.out; simp; omega
    have hset := ho2.set (i := n) (by rw [hlen]; exact hnn1) (.int .u64 (c : Int))
    have e6 : (os0.take k ++ (cellsW (wdsN (X * 2 ^ t) m) ++ [u0])).set n (.int .u64 (c : Int)) = os0.take k ++ cellsW (wdsN (X * 2 ^ t) m ++ [c]) := by
      rw [List.set_append_right _ _ (by omega), htk, hmn, List.set_append_right _ _ (by rw [cellsW_length, wdsN_length]; exact Nat.le_refl _), cellsW_length, wdsN_length, Nat.sub_self, ← cellsW_append]
      rfl
    rw [e6] at hset
    have hB3 := bset (i := sOff z + n) (u := .int .u64 (c : Int)) ((hb.mono HBB.out).trans hb2) hzB
    have hF3 := (hf2.mono (lo' := sOff z) (hi' := sOff z + n1) (Nat.le_add_right _ _) (by omega)).set (i := sOff z + n) (Nat.le_add_right _ _) (by omega) (.int .u64 (c : Int))
    have hs0k := hset.sub (l := 0) (n := k) (Nat.zero_le _) (by rw [List.length_append, htk]; omega)
    refine ⟨⟨ho2.frozen hcz0 _, _, ho2.cell (List.getElem?_eq_getElem (by rw [hlen]; exact hnn1))⟩, _, ?_, hs0k, fun w3 h1 h2 h3 => ?_⟩
    · rw [List.take_left' htk]; simp; omega
    · have hol : (((os0.take k ++ cellsW (wdsN (X * 2 ^ t) m ++ [c])).take k).drop 0).length = k := by rw [List.take_left' htk]; simp; omega
      rw [hol] at h1 h3
      rw [(sub0 hSz).1, (sub0 hSz).2] at h3
      have hp3 := hset.patch (l := 0) (n := k) (Nat.zero_le _) (by rw [List.length_append, htk]; omega) (by simp) h1 (by rw [Nat.add_zero]; exact h3)
      rw [List.take_zero, List.nil_append, List.drop_left' htk, cellsW_zeros, cellsW_append] at hp3
      have hlt : ∀ e ∈ List.replicate k 0 ++ (wdsN (X * 2 ^ t) m ++ [c]), e < 18446744073709551616 := by
        intro e he
        rcases List.mem_append.1 he with h | h
        · rw [List.eq_of_mem_replicate h]; decide
        · rcases List.mem_append.1 h with h | h
          · exact wdsN_lt e h
          · rw [List.mem_singleton] at h; omega
      have hz0 : ∀ j, wv (List.replicate j 0) = 0 := fun j => by
        induction j with
        | zero => rfl
        | succ j ih => rw [List.replicate_succ]; simp [wv, ih]
      have hnum : wv (List.replicate k 0 ++ (wdsN (X * 2 ^ t) m ++ [c])) = X * 2 ^ s := by
        rw [wv_append, hz0, List.length_replicate, wv_append, wdsN_length, show wv [c] = c by simp [wv], ← hcX, HS.out, Nat.zero_add]
      have hN := norm_any z _ w3 (hp3.rw' hlt) (by simp [wdsN_length]; omega)
      have hT := hp3.takeW hlt
      rw [hnum] at hN hT
      have hz2 : w1.heap.size ≤ w2.heap.size := hb2.size
      have hz3 : w2.heap.size ≤ w3.heap.size := by have := h2.size; simpa [World.setCell] using this
      have hF := hF3.trans (by simpa [World.setCell] using hz2) (h3.mono (lo' := sOff z) (hi' := sOff z + n1) (by omega) (by omega))
      exact hN.mono (fun e w' h => ⟨h.1, h.2, ⟨hT, hB3.trans h2, HMK.out.fr hSn (by omega) (Nat.le_trans hz2 hz3) hF.only, fun hcc => HMK.out.atS hSn hSz hcc⟩⟩)
  have HFIN := Lib.hid hfin
  have HO := Lib.hid ho
  have HOS0 := Lib.hid hos0
  have HB := Lib.hid hb
  have HSUB := Lib.hid hsub
  have HX1 := Lib.hid hX1
  clear hfin ho hb hsub hX1 hxb hmk hos0
  rcases Nat.eq_zero_or_pos t with ht0 | ht0
  · have t2 : ((t : Int) == 0) = true := by rw [ht0]; rfl
    have HT0 := Lib.hid ht0
    obtain ⟨T, hT⟩ : ∃ T, T = cellsW (wds X) := ⟨_, rfl⟩
    have HT := Lib.hid hT
    have HSL := Lib.hid hsl
    clear ht0 hT hsl
    go_wp2_with (refine wpList_copy_W (o := ⟨some 48, _, _, _, _, _⟩) rfl (.tmp 46) (.tmp 47) 121 121 rfl 164 Tryz.underlying121 sizeW (subS z k n) x rfl rfl B _ HSUB.out T ?d1 hS ?d2 ?d3 (by rw [HT.out]; exact cellsW_one _) ?_)
    case d1 => rw [HSL.out, HT.out, cellsW_length, wds_length, ← HM.out]
    case d2 => rw [HT.out, cellsW_length, wds_length, hL, ← HM.out]
    case d3 => rw [HT.out]; exact HX1.out.at
    intro w2 ho2 hb2 hf2 _
    obtain ⟨⟨fz, u, cu⟩, os, hos, ho3, hk3⟩ := HFIN.out w2 0 (by decide) (by
      rw [HT0.out, Nat.pow_zero, Nat.mul_one, wv_wdsN_lt HMW.out, Nat.mul_zero, Nat.add_zero]) ⟨by
        rw [HT0.out, Nat.pow_zero, Nat.mul_one]
        have h1 : wdsN X m = wds X := by rw [HM.out]; exact wdsN_nw X
        rw [h1, ← HT.out]; exact ho2, hb2, by rw [show min n os0.length - k = m by rw [HOS0.out]; have := HN.out; omega] at hf2; exact hf2⟩
    have HO3 := Lib.hid ho3
    have HK3 := Lib.hid hk3
    have HOS := Lib.hid hos
    clear ho2 hb2 hf2 ho3 hk3 hos
    go_wp2_with (refine wpList_clear_O (o := ⟨none, _, _, _, _, _⟩) rfl (.tmp 68) 121 rfl elemT rfl (subS z 0 k) rfl B os HO3.out ?_)
    intro w3 ho4 hb4 hf4
    have HQ := Lib.hid (HK3.out w3 ho4 hb4 hf4)
    clear ho4 hb4 hf4
    go_wp2_with fail
    refine HQ.out.mono ?_
    rintro _ _ ⟨rfl, rfl, h5⟩
    have Q := Lib.hid h5
    have hSq := h5.own.isS
    clear h5
    go_wp2
    go_ret
    exact ⟨_, rfl, Q.out⟩
  · have t2 : ((t : Int) == 0) = false := by rw [beq_eq_false_iff_ne]; omega
    have HC : Hid (X * 2 ^ t = wv (wdsN (X * 2 ^ t) m) + 18446744073709551616 ^ m * (wdg X (m - 1) / 2 ^ (64 - t)) ∧ wdg X (m - 1) / 2 ^ (64 - t) < 18446744073709551616) := Lib.hid (by
      obtain ⟨L, rfl⟩ : ∃ L, m = L + 1 := ⟨m - 1, by omega⟩
      rw [Nat.add_sub_cancel]
      refine ⟨?_, Nat.lt_of_le_of_lt (Nat.div_le_self _ _) (wdg_lt _ _)⟩
      rw [top_carry HMW.out ht0 ht64, wdsN_wv]
      have := Nat.mod_add_div (X * 2 ^ t) (18446744073709551616 ^ (L + 1))
      omega)
    have HLS : Hid (∀ j, Calls Tryz.prog 194 #[subS z k n, x, .int .u64 t] (w1.drewN j) fun e w' => e = .returned (.int .u64 (wdg X (m - 1) / 2 ^ (64 - t) : Nat)) ∧ VvP (subS z k n) m B (X * 2 ^ t) w1 w') := Lib.hid (fun j => by
      have := lshVU_gen (subS z k n) x _ (wds X) X t B (w1.drewN j) (HSUB.out.drewN j) (HX1.out.below (undrewN' (Below.refl _ _))) (wv_wds X) (by rw [hsl, wds_length, HM.out]) hal (by rw [wds_length, ← HM.out]; exact hp) (by rw [wds_length, ← HM.out]; omega) ht0 ht64
      rw [wds_length, ← HM.out] at this
      refine this.mono ?_
      rintro _ w' ⟨rfl, h1, h2, h3⟩
      exact ⟨rfl, h1, undrewN h2, h3.undrewN⟩)
    obtain ⟨c, hc⟩ : ∃ c, c = wdg X (m - 1) / 2 ^ (64 - t) := ⟨_, rfl⟩
    rw [← hc] at HC HLS
    have HLS0 := Lib.hid (HLS.out 0)
    clear hsl hc ht0
    go_wp2_with fail
    refine (HLS0.out).mono ?_
    rintro _ w2 ⟨rfl, hvp⟩
    obtain ⟨⟨fz, u, cu⟩, os, hos, ho3, hk3⟩ := HFIN.out w2 c HC.out.2 HC.out.1 hvp
    have HO3 := Lib.hid ho3
    have HK3 := Lib.hid hk3
    have HOS := Lib.hid hos
    clear hvp ho3 hk3 hos
    go_wp2_with (refine wpList_clear_O (o := ⟨none, _, _, _, _, _⟩) rfl (.tmp 68) 121 rfl elemT rfl (subS z 0 k) rfl B os HO3.out ?_)
    intro w3 ho4 hb4 hf4
    have HQ := Lib.hid (HK3.out w3 ho4 hb4 hf4)
    clear ho4 hb4 hf4
    go_wp2_with fail
    refine HQ.out.mono ?_
    rintro _ _ ⟨rfl, rfl, h5⟩
    have Q := Lib.hid h5
    have hSq := h5.own.isS
    clear h5
    go_wp2
    go_ret
    exact ⟨_, rfl, Q.out⟩
theorem dw_est {d v u1 u0 Q : Nat} (hd : d < 18446744073709551616) (hu1 : u1 < d) (hu0 : u0 < 18446744073709551616)
    (hv1 : v * d ≤ 340282366920938463463374607431768211455) (hv2 : 340282366920938463463374607431768211456 ≤ v * d + d)
    (hQ1 : Q * 18446744073709551616 ≤ v * u1 + u0) (hQ2 : v * u1 + u0 < Q * 18446744073709551616 + 18446744073709551616) :
    Q * d ≤ u1 * 18446744073709551616 + u0 ∧ u1 * 18446744073709551616 + u0 < Q * d + 18446744073709551616 + d := by
  have a1 := Nat.mul_le_mul_right d hQ1
  have a2 := Nat.mul_le_mul_right d (Nat.succ_le_of_lt hQ2)
  have b1 := Nat.mul_le_mul_right u1 hv1
  have b2 := Nat.mul_le_mul_right u1 hv2
  have e1 : Q * 18446744073709551616 * d = Q * d * 18446744073709551616 := by rw [Nat.mul_right_comm]
  have e2 : (v * u1 + u0) * d = v * d * u1 + u0 * d := by rw [Nat.add_mul, Nat.mul_right_comm]
  have e3 : (v * u1 + u0 + 1) * d = v * d * u1 + u0 * d + d := by rw [Nat.add_mul, e2, Nat.one_mul]
  have e4 : (Q * 18446744073709551616 + 18446744073709551616) * d = Q * d * 18446744073709551616 + 18446744073709551616 * d := by rw [Nat.add_mul, e1]
  have e5 : (v * d + d) * u1 = v * d * u1 + d * u1 := Nat.add_mul _ _ _
  rw [e1, e2] at a1
  rw [Nat.succ_eq_add_one, e3, e4] at a2
  rw [e5] at b2
  have c1 : u0 * d ≤ u0 * 18446744073709551616 := Nat.mul_le_mul_left _ (Nat.le_of_lt hd)
  obtain ⟨e, he⟩ : ∃ e, e + d = 18446744073709551616 := ⟨18446744073709551616 - d, by omega⟩
  have c2 : u0 * e ≤ 18446744073709551615 * e := Nat.mul_le_mul_right _ (by omega)
  have c3 : u0 * e + u0 * d = u0 * 18446744073709551616 := by rw [← Nat.mul_add, he]
  have c4 : d * u1 + d ≤ d * d := by
    have := Nat.mul_le_mul_left d (Nat.succ_le_of_lt hu1)
    rw [Nat.mul_succ] at this; exact this
  have c5 : d * d ≤ d * 18446744073709551616 := Nat.mul_le_mul_left _ (Nat.le_of_lt hd)
  generalize v * d * u1 = A at *
  generalize Q * d = C at *
  generalize u0 * d = D at *
  generalize u0 * e = F at *
  generalize d * u1 = G at *
  generalize d * d = H at *
  constructor <;> omega
theorem dw_fix {d v u1 u0 Q : Nat} (hd0 : 9223372036854775808 ≤ d) (hd : d < 18446744073709551616) (hu1 : u1 < d) (hu0 : u0 < 18446744073709551616)
    (hv1 : v * d ≤ 340282366920938463463374607431768211455) (hv2 : 340282366920938463463374607431768211456 ≤ v * d + d)
    (hQ : Q = (v * u1 + u0) / 18446744073709551616) : ∃ R, u1 * 18446744073709551616 + u0 = Q * d + R ∧ R < 18446744073709551616 + d ∧ Q < 18446744073709551616 ∧
      (18446744073709551616 ≤ R → (R - d < d → (u1 * 18446744073709551616 + u0) / d = Q + 1 ∧ (u1 * 18446744073709551616 + u0) % d = R - d) ∧ (d ≤ R - d → (u1 * 18446744073709551616 + u0) / d = Q + 2 ∧ (u1 * 18446744073709551616 + u0) % d = R - d - d)) ∧
      (R < 18446744073709551616 → (R < d → (u1 * 18446744073709551616 + u0) / d = Q ∧ (u1 * 18446744073709551616 + u0) % d = R) ∧ (d ≤ R → (u1 * 18446744073709551616 + u0) / d = Q + 1 ∧ (u1 * 18446744073709551616 + u0) % d = R - d)) ∧
      (u1 * 18446744073709551616 + u0) / d < 18446744073709551616 := by
  obtain ⟨h1, h2⟩ := dw_est (Q := Q) hd hu1 hu0 hv1 hv2 (by omega) (by omega)
  have dm : ∀ q r, r < d → u1 * 18446744073709551616 + u0 = q * d + r → (u1 * 18446744073709551616 + u0) / d = q ∧ (u1 * 18446744073709551616 + u0) % d = r := fun q r hr h => by
    rw [h, Nat.mul_comm q, Nat.mul_add_div (by omega), Nat.mul_add_mod, Nat.div_eq_of_lt hr, Nat.mod_eq_of_lt hr]
    exact ⟨rfl, rfl⟩
  have hqb : (u1 * 18446744073709551616 + u0) / d < 18446744073709551616 := by
    refine Nat.div_lt_of_lt_mul ?_
    have := Nat.mul_le_mul_right 18446744073709551616 (Nat.succ_le_of_lt hu1)
    rw [Nat.succ_mul] at this
    omega
  have hQle : Q ≤ (u1 * 18446744073709551616 + u0) / d := (Nat.le_div_iff_mul_le (by omega)).2 h1
  refine ⟨u1 * 18446744073709551616 + u0 - Q * d, by omega, by omega, by omega, fun h => ⟨fun h' => ?_, fun h' => ?_⟩, fun h => ⟨fun h' => ?_, fun h' => ?_⟩, hqb⟩
  · exact dm _ _ h' (by rw [Nat.add_mul, Nat.one_mul]; omega)
  · exact dm _ _ (by omega) (by rw [Nat.add_mul]; omega)
  · exact dm _ _ h' (by omega)
  · exact dm _ _ (by omega) (by rw [Nat.add_mul, Nat.one_mul]; omega)
theorem kn_low {b y1 y0 q r u un : Nat} (h : q * y1 + r = u) (hc : b * r + un < q * y0) : u * b + un < q * (y1 * b + y0) := by
  have e : q * (y1 * b + y0) = q * y1 * b + q * y0 := by rw [Nat.mul_add, Nat.mul_assoc]
  have e2 : u * b = q * y1 * b + b * r := by rw [← h, Nat.add_mul, Nat.mul_comm b r]
  rw [e, e2]; omega
theorem kn_ok {b y1 y0 q r u un : Nat} (h : q * y1 + r = u) (hc : q * y0 ≤ b * r + un) : q * (y1 * b + y0) ≤ u * b + un := by
  have e : q * (y1 * b + y0) = q * y1 * b + q * y0 := by rw [Nat.mul_add, Nat.mul_assoc]
  have e2 : u * b = q * y1 * b + b * r := by rw [← h, Nat.add_mul, Nat.mul_comm b r]
  rw [e, e2]; omega
set_option maxRecDepth 100000 in
theorem kn_start {y1 y0 u : Nat} (hy1 : 2147483648 ≤ y1) (hy0 : y0 < 4294967296) (hu : u < y1 * 4294967296 + y0) : u / y1 ≤ 4294967297 := by
  have e : y1 * 4294967298 = y1 * 4294967296 + y1 * 2 := by rw [← Nat.mul_add]
  have h2 : u < y1 * 4294967298 := by
    rw [e]
    obtain ⟨z, hz⟩ : ∃ z, z = y1 * 4294967296 := ⟨_, rfl⟩
    rw [← hz] at hu ⊢
    clear hz e
    omega
  exact Nat.le_of_lt_succ (Nat.div_lt_of_lt_mul h2)
theorem rec_ok {u : Nat} (hu : 9223372036854775808 ≤ u) (hu2 : u < 18446744073709551616) :
    18446744073709551615 - u < u ∧ ∃ v, v * u ≤ 340282366920938463463374607431768211455 ∧ 340282366920938463463374607431768211456 ≤ v * u + u ∧ v = 18446744073709551616 + ((18446744073709551615 - u) * 18446744073709551616 + 18446744073709551615) / u := by
  refine ⟨by omega, _, ?_, ?_, rfl⟩
  · rw [Nat.add_mul]
    have := Nat.div_mul_le_self ((18446744073709551615 - u) * 18446744073709551616 + 18446744073709551615) u
    omega
  · rw [Nat.add_mul]
    have := Nat.lt_div_mul_add (a := (18446744073709551615 - u) * 18446744073709551616 + 18446744073709551615) (b := u) (by omega)
    omega
def fcells (p m : Nat) (a : Int) (f : Nat) (neg : Bool) (v : Value) (e : Int) : Array Value := #[.int .u32 p, .int .u8 m, .int .i8 a, .int .u8 f, .bool neg, v, .int .i32 e]
def FltR (w : World) (b p m : Nat) (a : Int) (f : Nat) (neg : Bool) (v : Value) (e : Int) : Prop := w.heap[b]? = some (.cells (fcells p m a f neg v e) 155 (0, 0))
theorem FltR.cells {w : World} {b p m f : Nat} {a e : Int} {neg : Bool} {v : Value} (h : FltR w b p m a f neg v e) :
    w.cell? ⟨b, 0, none⟩ = some (.int .u32 p) ∧ w.cell? ⟨b, 1, none⟩ = some (.int .u8 m) ∧ w.cell? ⟨b, 2, none⟩ = some (.int .i8 a) ∧ w.cell? ⟨b, 3, none⟩ = some (.int .u8 f) ∧ w.cell? ⟨b, 4, none⟩ = some (.bool neg) ∧ w.cell? ⟨b, 5, none⟩ = some v ∧ w.cell? ⟨b, 6, none⟩ = some (.int .i32 e) :=
  ⟨(row_at (i := 0) h rfl).1, (row_at (i := 1) h rfl).1, (row_at (i := 2) h rfl).1, (row_at (i := 3) h rfl).1, (row_at (i := 4) h rfl).1, (row_at (i := 5) h rfl).1, (row_at (i := 6) h rfl).1⟩
theorem FltR.free {w : World} {b p m f : Nat} {a e : Int} {neg : Bool} {v : Value} (h : FltR w b p m a f neg v e) :
    w.frozen? ⟨b, 0, none⟩ = false ∧ w.frozen? ⟨b, 1, none⟩ = false ∧ w.frozen? ⟨b, 2, none⟩ = false ∧ w.frozen? ⟨b, 3, none⟩ = false ∧ w.frozen? ⟨b, 4, none⟩ = false ∧ w.frozen? ⟨b, 5, none⟩ = false ∧ w.frozen? ⟨b, 6, none⟩ = false :=
  ⟨frozen_of_row w b 0 _ _ h, frozen_of_row w b 1 _ _ h, frozen_of_row w b 2 _ _ h, frozen_of_row w b 3 _ _ h, frozen_of_row w b 4 _ _ h, frozen_of_row w b 5 _ _ h, frozen_of_row w b 6 _ _ h⟩
theorem FltR.lt {w : World} {b p m f : Nat} {a e : Int} {neg : Bool} {v : Value} (h : FltR w b p m a f neg v e) : b < w.heap.size := (heap_alloc_lt (o := .cells #[] 0) h).2
theorem FltR.below {w w' : World} {b p m f : Nat} {a e : Int} {neg : Bool} {v : Value} (h : FltR w b p m a f neg v e) (hb : Below w.heap.size w w') : FltR w' b p m a f neg v e := keep_row hb h
theorem FltR.drewN {w : World} {b p m f : Nat} {a e : Int} {neg : Bool} {v : Value} (h : FltR w b p m a f neg v e) (n : Nat) : FltR (w.drewN n) b p m a f neg v e := h
theorem FltR.s0 {w : World} {b p m f : Nat} {a e : Int} {neg : Bool} {v : Value} (h : FltR w b p m a f neg v e) (x : Nat) : FltR (w.setCell ⟨b, 0, none⟩ (.int .u32 x)) b x m a f neg v e := rowset (i := 0) (.int .u32 x) h
theorem FltR.s1 {w : World} {b p m f : Nat} {a e : Int} {neg : Bool} {v : Value} (h : FltR w b p m a f neg v e) (x : Nat) : FltR (w.setCell ⟨b, 1, none⟩ (.int .u8 x)) b p x a f neg v e := rowset (i := 1) (.int .u8 x) h
theorem FltR.s2 {w : World} {b p m f : Nat} {a e : Int} {neg : Bool} {v : Value} (h : FltR w b p m a f neg v e) (x : Int) : FltR (w.setCell ⟨b, 2, none⟩ (.int .i8 x)) b p m x f neg v e := rowset (i := 2) (.int .i8 x) h
theorem FltR.s3 {w : World} {b p m f : Nat} {a e : Int} {neg : Bool} {v : Value} (h : FltR w b p m a f neg v e) (x : Nat) : FltR (w.setCell ⟨b, 3, none⟩ (.int .u8 x)) b p m a x neg v e := rowset (i := 3) (.int .u8 x) h
theorem FltR.s4 {w : World} {b p m f : Nat} {a e : Int} {neg : Bool} {v : Value} (h : FltR w b p m a f neg v e) (x : Bool) : FltR (w.setCell ⟨b, 4, none⟩ (.bool x)) b p m a f x v e := rowset (i := 4) (.bool x) h
theorem FltR.s5 {w : World} {b p m f : Nat} {a e : Int} {neg : Bool} {v : Value} (h : FltR w b p m a f neg v e) (x : Value) : FltR (w.setCell ⟨b, 5, none⟩ x) b p m a f neg x e := rowset (i := 5) x h
theorem FltR.s6 {w : World} {b p m f : Nat} {a e : Int} {neg : Bool} {v : Value} (h : FltR w b p m a f neg v e) (x : Int) : FltR (w.setCell ⟨b, 6, none⟩ (.int .i32 x)) b p m a f neg v x := rowset (i := 6) (.int .i32 x) h
theorem FltR.own {w : World} {b p m f B : Nat} {a e : Int} {neg : Bool} {v u : Value} {xs : List Value} (h : FltR w b p m a f neg v e) (ho : Own w B 164 u xs) (i : Nat) (x : Value) : Own (w.setCell ⟨b, i, none⟩ x) B 164 u xs :=
  ho.away h (by decide) i x
end Go.Proofs.YtdepidpgbgfjlaaGreatDoor
