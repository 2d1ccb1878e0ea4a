/-
Texts of this proof, joined: LhA SfA FcA FcB SfB. No condition.
-/
import Derived.Test.YtbghmceglemppaaGreatDoorK05
import Derived.Test.YtbghmceglemppaaGreatDoorK08
import Derived.Test.YtbghmceglemppaaGreatDoorK13
import Derived.Test.YtbghmceglemppaaGreatDoorK15
import Derived.Test.YtbghmceglemppaaGreatDoorK19
import Derived.Test.YtbghmceglemppaaGreatDoorK28
import Derived.Test.YtbghmceglemppaaGreatDoorK31
import Derived.LaidEqlPtr
import Derived.WalkKit
import Derived.Laws.FloatArith
import Derived.Laws.BitsAllLaws
import Derived.Laws.Externs
/-
A number shifted to the left, of whatever receiver. No condition.
-/
namespace Go.Proofs.YtbghmceglemppaaGreatDoor
open Go.RowKit

set_option maxRecDepth 100000 in
set_option maxHeartbeats 3200000 in
theorem lsh_gen (z0 x : Value) (zs : List Value) (X s B : Nat) (w : World) (hz : Own w B 181 z0 zs) (hx : RW w x (wds X)) (ax : Al z0 x) (h0 : 0 < X) (hl : nw X ≤ 10000000) (hs0 : 0 < s) (hs : s ≤ 1000000000) (hB : B ≤ w.heap.size) :
    Calls Tryz.prog 162 #[z0, x, .int .u64 s] w fun e w' => ∃ r, e = .returned r ∧ NatR z0 r (X * 2 ^ s) B w w' := by
  have hS := hx.isS
  have hSn := hz.isS
  have hL : sLen x = nw X := by rw [hx.len, wds_length]
  have hp := nw_pos h0
  obtain ⟨m, hm⟩ : ∃ m, m = nw X := ⟨_, rfl⟩
  obtain ⟨k, hk⟩ : ∃ k, k = s / 64 := ⟨_, rfl⟩
  obtain ⟨t, ht⟩ : ∃ t, t = s % 64 := ⟨_, rfl⟩
  obtain ⟨n, hn⟩ : ∃ n, n = m + k := ⟨_, rfl⟩
  obtain ⟨n1, hn1⟩ : ∃ n1, n1 = n + 1 := ⟨_, rfl⟩
  rw [← hm] at hL hl hp
  have hcx : m ≤ sCap x := by have := hS.le; omega
  have t0 : ((s : Int) == 0) = false := by rw [beq_eq_false_iff_ne]; omega
  have t1 : ((m : Int) == 0) = false := by rw [beq_eq_false_iff_ne]; omega
  have e1 : (s : Int) / 64 = (k : Int) := by omega
  have e2 : (m : Int) + (k : Int) = (n : Int) := by omega
  have e3 : (n : Int) + 1 = (n1 : Int) := by omega
  have e4 : (s : Int) % 64 = (t : Int) := by omega
  have e5 : (n : Int) - (m : Int) = (k : Int) := by omega
  have hkb : k ≤ 100000000 := by omega
  have hnb : n ≤ 200000000 := by omega
  have hkn : k ≤ n := by omega
  have hnn1 : n < n1 := by omega
  have ht64 : t < 64 := by omega
  have HS : Hid (X * 2 ^ s = 18446744073709551616 ^ k * (X * 2 ^ t)) := Lib.hid (by
    rw [w_two, Nat.mul_left_comm, ← Nat.pow_add]; congr 2; omega)
  have HX := Lib.hid hx
  have HZ0 := Lib.hid hz
  have HAX := Lib.hid ax
  have HBB := Lib.hid hB
  have HM := Lib.hid hm
  have HN := Lib.hid hn
  have HN1 := Lib.hid hn1
  have HMW : Hid (X < 18446744073709551616 ^ m) := Lib.hid (by rw [hm]; exact lt_nw X)
  clear hx hz ax hB hm hk ht hn hn1
  go_enter Tryz.func162, Tryz.ntmps162
  go_wp2_with fail
  refine (make_any z0 zs n1 B w HZ0.out (by omega) HBB.out).mono ?_
  rintro _ w1 ⟨z, rfl, hmk⟩
  obtain ⟨os0, hos0, ho⟩ := hmk.own
  have hb := hmk.below
  have hSz := ho.isS
  have hLz : sLen z = n1 := by rw [ho.len, hos0]
  have hcz1 : n1 ≤ sCap z := by have := hSz.le; omega
  have hcz0 : 0 < sCap z := by omega
  have hzB := (ho.lt hcz0).1
  have hX1 := HX.out.below hb
  have hSk : IsS (subS z k n) := subS_isS hSz hkn (by omega)
  have hS0k : IsS (subS z 0 k) := subS_isS hSz (Nat.zero_le _) (by omega)
  have hsub := ho.sub (l := k) (n := n) hkn (by omega)
  have hsl : ((os0.take n).drop k).length = m := by simp; have := HN.out; omega
  have hxb : 0 < (wds X).length := by rw [wds_length, ← HM.out]; exact hp
  have hal : sBlk x = sBlk (subS z k n) → sOff x ≤ sOff (subS z k n) := fun he => by
    have := hmk.al hSn (by omega) HAX.out HX.out hxb (by rw [he, subS_blk hSz])
    rw [subS_off hSz (by omega)]; omega
  have HMK := Lib.hid hmk
  -- what is common to both ways: the words from k on, the carry, then the words below k
  have hfin : ∀ (w2 : World) (c : Nat), c < 18446744073709551616 → X * 2 ^ t = wv (wdsN (X * 2 ^ t) m) + 18446744073709551616 ^ m * c → VvP (subS z k n) m B (X * 2 ^ t) w1 w2 →
      (w2.frozen? ⟨sBlk z, sOff z + n, none⟩ = false ∧ ∃ u, w2.cell? ⟨sBlk z, sOff z + n, none⟩ = some u) ∧
      ∃ os : List Value, os.length = k ∧ Own (w2.setCell ⟨sBlk z, sOff z + n, none⟩ (.int .u64 (c : Int))) B 181 (subS z 0 k) os ∧
        ∀ w3, Own w3 B 181 (subS z 0 k) (List.replicate os.length (.int .u64 0)) → Below B (w2.setCell ⟨sBlk z, sOff z + n, none⟩ (.int .u64 (c : Int))) w3 → FrB (sBlk (subS z 0 k)) (sOff (subS z 0 k)) (sOff (subS z 0 k) + os.length) (w2.setCell ⟨sBlk z, sOff z + n, none⟩ (.int .u64 (c : Int))) w3 →
          Calls Tryz.prog 187 #[z] w3 fun e w' => e = .returned (subS z 0 (nw (X * 2 ^ s))) ∧ w3 = w' ∧ NatR z0 (subS z 0 (nw (X * 2 ^ s))) (X * 2 ^ s) B w w3 := fun w2 c hc hcX hvp => by
    have hmn : n - k = m := by have := HN.out; omega
    have hpt := VvP.patch (l := k) (n := n) ho hkn (by omega) (by rw [hmn]; exact hvp)
    rw [hmn] at hpt
    obtain ⟨ho2, hb2, hf2⟩ := hpt
    obtain ⟨u0, hd⟩ : ∃ u0, os0.drop n = [u0] := List.length_eq_one_iff.1 (by rw [List.length_drop, hos0]; have := HN1.out; omega)
    rw [hd] at ho2
    have htk : (os0.take k).length = k := by rw [List.length_take]; omega
    have hlen : (os0.take k ++ (cellsW (wdsN (X * 2 ^ t) m) ++ [u0])).length = n1 := by
      rw [List.length_append, htk, List.length_append, cellsW_length, wdsN_length]; have := HN.out; have := HN1.out; simp; omega
    have hset := ho2.set (i := n) (by rw [hlen]; exact hnn1) (.int .u64 (c : Int))
    have e6 : (os0.take k ++ (cellsW (wdsN (X * 2 ^ t) m) ++ [u0])).set n (.int .u64 (c : Int)) = os0.take k ++ cellsW (wdsN (X * 2 ^ t) m ++ [c]) := by
      rw [List.set_append_right _ _ (by omega), htk, hmn, List.set_append_right _ _ (by rw [cellsW_length, wdsN_length]; exact Nat.le_refl _), cellsW_length, wdsN_length, Nat.sub_self, ← cellsW_append]
      rfl
    rw [e6] at hset
    have hB3 := bset (i := sOff z + n) (u := .int .u64 (c : Int)) ((hb.mono HBB.out).trans hb2) hzB
    have hF3 := (hf2.mono (lo' := sOff z) (hi' := sOff z + n1) (Nat.le_add_right _ _) (by omega)).set (i := sOff z + n) (Nat.le_add_right _ _) (by omega) (.int .u64 (c : Int))
    have hs0k := hset.sub (l := 0) (n := k) (Nat.zero_le _) (by rw [List.length_append, htk]; omega)
    refine ⟨⟨ho2.frozen hcz0 _, _, ho2.cell (List.getElem?_eq_getElem (by rw [hlen]; exact hnn1))⟩, _, ?_, hs0k, fun w3 h1 h2 h3 => ?_⟩
    · rw [List.take_left' htk]; simp; omega
    · have hol : (((os0.take k ++ cellsW (wdsN (X * 2 ^ t) m ++ [c])).take k).drop 0).length = k := by rw [List.take_left' htk]; simp; omega
      rw [hol] at h1 h3
      rw [(sub0 hSz).1, (sub0 hSz).2] at h3
      have hp3 := hset.patch (l := 0) (n := k) (Nat.zero_le _) (by rw [List.length_append, htk]; omega) (by simp) h1 (by rw [Nat.add_zero]; exact h3)
      rw [List.take_zero, List.nil_append, List.drop_left' htk, cellsW_zeros, cellsW_append] at hp3
      have hlt : ∀ e ∈ List.replicate k 0 ++ (wdsN (X * 2 ^ t) m ++ [c]), e < 18446744073709551616 := by
        intro e he
        rcases List.mem_append.1 he with h | h
        · rw [List.eq_of_mem_replicate h]; decide
        · rcases List.mem_append.1 h with h | h
          · exact wdsN_lt e h
          · rw [List.mem_singleton] at h; omega
      have hz0 : ∀ j, wv (List.replicate j 0) = 0 := fun j => by
        induction j with
        | zero => rfl
        | succ j ih => rw [List.replicate_succ]; simp [wv, ih]
      have hnum : wv (List.replicate k 0 ++ (wdsN (X * 2 ^ t) m ++ [c])) = X * 2 ^ s := by
        rw [wv_append, hz0, List.length_replicate, wv_append, wdsN_length, show wv [c] = c by simp [wv], ← hcX, HS.out, Nat.zero_add]
      have hN := norm_any z _ w3 (hp3.rw' hlt) (by simp [wdsN_length]; omega)
      have hT := hp3.takeW hlt
      rw [hnum] at hN hT
      have hz2 : w1.heap.size ≤ w2.heap.size := hb2.size
      have hz3 : w2.heap.size ≤ w3.heap.size := by have := h2.size; simpa [World.setCell] using this
      have hF := hF3.trans (by simpa [World.setCell] using hz2) (h3.mono (lo' := sOff z) (hi' := sOff z + n1) (by omega) (by omega))
      exact hN.mono (fun e w' h => ⟨h.1, h.2, ⟨hT, hB3.trans h2, HMK.out.fr hSn (by omega) (Nat.le_trans hz2 hz3) hF.only, fun hcc => HMK.out.atS hSn hSz hcc⟩⟩)
  have HFIN := Lib.hid hfin
  have HO := Lib.hid ho
  have HOS0 := Lib.hid hos0
  have HB := Lib.hid hb
  have HSUB := Lib.hid hsub
  have HX1 := Lib.hid hX1
  clear hfin ho hb hsub hX1 hxb hmk hos0
  rcases Nat.eq_zero_or_pos t with ht0 | ht0
  · have t2 : ((t : Int) == 0) = true := by rw [ht0]; rfl
    have HT0 := Lib.hid ht0
    obtain ⟨T, hT⟩ : ∃ T, T = cellsW (wds X) := ⟨_, rfl⟩
    have HT := Lib.hid hT
    have HSL := Lib.hid hsl
    clear ht0 hT hsl
    go_wp2_with (refine wpList_copy_W (o := ⟨some 48, _, _, _, _, _⟩) rfl (.tmp 46) (.tmp 47) 109 109 rfl 181 Tryz.underlying109 sizeW (subS z k n) x rfl rfl B _ HSUB.out T ?d1 hS ?d2 ?d3 (by rw [HT.out]; exact cellsW_one _) ?_)
    case d1 => rw [HSL.out, HT.out, cellsW_length, wds_length, ← HM.out]
    case d2 => rw [HT.out, cellsW_length, wds_length, hL, ← HM.out]
    case d3 => rw [HT.out]; exact HX1.out.at
    intro w2 ho2 hb2 hf2 _
    obtain ⟨⟨fz, u, cu⟩, os, hos, ho3, hk3⟩ := HFIN.out w2 0 (by decide) (by
      rw [HT0.out, Nat.pow_zero, Nat.mul_one, wv_wdsN_lt HMW.out, Nat.mul_zero, Nat.add_zero]) ⟨by
        rw [HT0.out, Nat.pow_zero, Nat.mul_one]
        have h1 : wdsN X m = wds X := by rw [HM.out]; exact wdsN_nw X
        rw [h1, ← HT.out]; exact ho2, hb2, by rw [show min n os0.length - k = m by rw [HOS0.out]; have := HN.out; omega] at hf2; exact hf2⟩
    have HO3 := Lib.hid ho3
    have HK3 := Lib.hid hk3
    have HOS := Lib.hid hos
    clear ho2 hb2 hf2 ho3 hk3 hos
    go_wp2_with (refine wpList_clear_O (o := ⟨none, _, _, _, _, _⟩) rfl (.tmp 68) 109 rfl elemT rfl (subS z 0 k) rfl B os HO3.out ?_)
    intro w3 ho4 hb4 hf4
    have HQ := Lib.hid (HK3.out w3 ho4 hb4 hf4)
    clear ho4 hb4 hf4
    go_wp2_with fail
    refine HQ.out.mono ?_
    rintro _ _ ⟨rfl, rfl, h5⟩
    have Q := Lib.hid h5
    have hSq := h5.own.isS
    clear h5
    go_wp2
    go_ret
    exact ⟨_, rfl, Q.out⟩
  · have t2 : ((t : Int) == 0) = false := by rw [beq_eq_false_iff_ne]; omega
    have HC : Hid (X * 2 ^ t = wv (wdsN (X * 2 ^ t) m) + 18446744073709551616 ^ m * (wdg X (m - 1) / 2 ^ (64 - t)) ∧ wdg X (m - 1) / 2 ^ (64 - t) < 18446744073709551616) := Lib.hid (by
      obtain ⟨L, rfl⟩ : ∃ L, m = L + 1 := ⟨m - 1, by omega⟩
      rw [Nat.add_sub_cancel]
      refine ⟨?_, Nat.lt_of_le_of_lt (Nat.div_le_self _ _) (wdg_lt _ _)⟩
      rw [top_carry HMW.out ht0 ht64, wdsN_wv]
      have := Nat.mod_add_div (X * 2 ^ t) (18446744073709551616 ^ (L + 1))
      omega)
    have HLS : Hid (∀ j, Calls Tryz.prog 207 #[subS z k n, x, .int .u64 t] (w1.drewN j) fun e w' => e = .returned (.int .u64 (wdg X (m - 1) / 2 ^ (64 - t) : Nat)) ∧ VvP (subS z k n) m B (X * 2 ^ t) w1 w') := Lib.hid (fun j => by
      have := lshVU_gen (subS z k n) x _ (wds X) X t B (w1.drewN j) (HSUB.out.drewN j) (HX1.out.below (undrewN' (Below.refl _ _))) (wv_wds X) (by rw [hsl, wds_length, HM.out]) hal (by rw [wds_length, ← HM.out]; exact hp) (by rw [wds_length, ← HM.out]; omega) ht0 ht64
      rw [wds_length, ← HM.out] at this
      refine this.mono ?_
      rintro _ w' ⟨rfl, h1, h2, h3⟩
      exact ⟨rfl, h1, undrewN h2, h3.undrewN⟩)
    obtain ⟨c, hc⟩ : ∃ c, c = wdg X (m - 1) / 2 ^ (64 - t) := ⟨_, rfl⟩
    rw [← hc] at HC HLS
    have HLS0 := Lib.hid (HLS.out 0)
    clear hsl hc ht0
    go_wp2_with fail
    refine (HLS0.out).mono ?_
    rintro _ w2 ⟨rfl, hvp⟩
    obtain ⟨⟨fz, u, cu⟩, os, hos, ho3, hk3⟩ := HFIN.out w2 c HC.out.2 HC.out.1 hvp
    have HO3 := Lib.hid ho3
    have HK3 := Lib.hid hk3
    have HOS := Lib.hid hos
    clear hvp ho3 hk3 hos
    go_wp2_with (refine wpList_clear_O (o := ⟨none, _, _, _, _, _⟩) rfl (.tmp 68) 109 rfl elemT rfl (subS z 0 k) rfl B os HO3.out ?_)
    intro w3 ho4 hb4 hf4
    have HQ := Lib.hid (HK3.out w3 ho4 hb4 hf4)
    clear ho4 hb4 hf4
    go_wp2_with fail
    refine HQ.out.mono ?_
    rintro _ _ ⟨rfl, rfl, h5⟩
    have Q := Lib.hid h5
    have hSq := h5.own.isS
    clear h5
    go_wp2
    go_ret
    exact ⟨_, rfl, Q.out⟩
end Go.Proofs.YtbghmceglemppaaGreatDoor

/-
A number shifted to the left in place; Int.Lsh in place; Int.SetUint64 of a new one. No condition.
-/
namespace Go.Proofs.YtbghmceglemppaaGreatDoor
open Go.RowKit

theorem eqlW_same (w : World) (a : Addr) : (binOp .eql 245 (.pointer (some a)) (.pointer (some a))).run Tryz.prog w = .ok (.bool true) w := by
  obtain ⟨j, hj, hz⟩ := info_size sizeWord
  exact run_eql_ptr_same w a Tryz.underlying245 hj
set_option maxRecDepth 100000 in
theorem same_self (v : Value) (L : Nat) (w : World) (hS : IsS v) (hL : sLen v = L) (h0 : 0 < L) (_hm : L ≤ 1000000000) :
    Calls Tryz.prog 206 #[v, v] w fun e w' => e = .returned (.bool true) ∧ ∃ m, w' = w.drewN m := by
  have t1 : decide (0 < L) = true := decide_eq_true h0
  have hq := fun (m i : Nat) => eqlW_same (w.drewN m) ⟨sBlk v, i, none⟩
  go_enter Tryz.func206, Tryz.ntmps206
  go_wp2_with fail
  go_quiet (fail)
  go_wp2
  go_ret
  exact ⟨rfl, _, rfl⟩
set_option maxRecDepth 100000 in
theorem same_none (v : Value) (w : World) (hS : IsS v) (hL : sLen v = 0) :
    Calls Tryz.prog 206 #[v, v] w fun e w' => e = .returned (.bool false) ∧ ∃ m, w' = w.drewN m := by
  go_enter Tryz.func206, Tryz.ntmps206
  go_wp2_with fail
  go_quiet (fail)
  go_wp2
  go_ret
  exact ⟨rfl, _, rfl⟩
set_option maxRecDepth 100000 in
set_option maxHeartbeats 800000 in
/-- lsh of a number into itself. -/
theorem lsh_same (v : Value) (X s B : Nat) (w : World) (hv : Own w B 181 v (cellsW (wds X))) (hz : X = 0 → v = .slice none 0 0) (hl : nw X ≤ 10000000) (hs : s ≤ 1000000000) (hB : B ≤ w.heap.size) :
    Calls Tryz.prog 162 #[v, v, .int .u64 s] w fun e w' => ∃ r, e = .returned r ∧ NatR v r (X * 2 ^ s) B w w' := by
  rcases Nat.eq_zero_or_pos X with h0 | h0
  · have hv0 := hz h0
    subst hv0
    have hS : IsS (.slice none 0 0) := IsS.nil
    have Q0 : ∀ k, NatR (.slice none 0 0) (.slice none 0 0) (X * 2 ^ s) B w (w.drewN k) := fun k => by
      rw [h0, Nat.zero_mul]
      exact ⟨Own.nil _ _ _, undrewN' (Below.refl _ _), fun _ _ _ => rfl, fun hc => absurd hc (by decide)⟩
    have HQ0 := Lib.hid Q0
    rcases Nat.eq_zero_or_pos s with s0 | s0
    · have t0 : ((s : Int) == 0) = true := by rw [beq_iff_eq]; omega
      have HSET : Hid (∀ k, Calls Tryz.prog 163 #[.slice none 0 0, .slice none 0 0] (w.drewN k) fun e w' => ∃ r, e = .returned r ∧ NatR (.slice none 0 0) r (X * 2 ^ s) B w w') := Lib.hid (fun k => by
        have hx : RW (w.drewN k) (.slice none 0 0) (wds 0) := ⟨⟨IsS.nil, rfl, fun i hi => absurd hi (by rw [ints_length, wds_zero]; simp)⟩, fun d hd => absurd hd (by simp [wds_zero])⟩
        refine (set_at _ _ [] (wds 0) B (w.drewN k) (Own.nil _ _ _) hx (by decide) hB).mono ?_
        rintro _ w' ⟨r, rfl, h1, h2, h3, h4⟩
        rw [h0, Nat.zero_mul]
        exact ⟨r, rfl, h1, undrewN h2, fun k hk hn => h3 k hk hn, h4⟩)
      have HSN := Lib.hid (same_none (.slice none 0 0) w hS rfl)
      have HAN := Lib.hid (fun k => alias_nil (.slice none 0 0) (w.drewN k) hS)
      clear hv hz h0 s0 Q0
      go_enter Tryz.func162, Tryz.ntmps162
      go_wp2_with fail
      refine HSN.out.mono ?_
      rintro _ _ ⟨rfl, k, rfl⟩
      go_wp2_with fail
      refine (HAN.out _).mono ?_
      rintro _ _ ⟨rfl, j, hj⟩
      rw [show (w.drewN k).drewN j = w.drewN (k + j) from World.drewN_drewN ..] at hj
      subst hj
      go_wp2_with fail
      refine (HSET.out _).mono ?_
      rintro _ w2 ⟨r, rfl, h⟩
      have Q := Lib.hid h
      have hSq := h.own.isS
      clear h
      go_wp2
      go_ret
      exact ⟨_, rfl, Q.out⟩
    · have t0 : ((s : Int) == 0) = false := by rw [beq_eq_false_iff_ne]; omega
      clear hv hz h0 s0 Q0
      go_enter Tryz.func162, Tryz.ntmps162
      go_wp2
      go_ret
      exact ⟨_, rfl, HQ0.out 0⟩
  · rcases Nat.eq_zero_or_pos s with s0 | s0
    · have t0 : ((s : Int) == 0) = true := by rw [beq_iff_eq]; omega
      have hS := hv.isS
      have hL : sLen v = nw X := by rw [hv.len, cellsW_length, wds_length]
      have HSN := Lib.hid (same_self v (nw X) w hS hL (nw_pos h0) (by omega))
      have HQ : Hid (∀ k, NatR v v (X * 2 ^ s) B w (w.drewN k)) := Lib.hid (fun k => by
        rw [s0, Nat.pow_zero, Nat.mul_one]
        exact ⟨hv.drewN k, undrewN' (Below.refl _ _), fun _ _ _ => rfl, fun hc => .inl ⟨hc, rfl⟩⟩)
      clear hv hz h0 s0 hL
      go_enter Tryz.func162, Tryz.ntmps162
      go_wp2_with fail
      refine HSN.out.mono ?_
      rintro _ _ ⟨rfl, k, rfl⟩
      go_wp2
      go_ret
      exact ⟨_, rfl, HQ.out k⟩
    · exact lsh_gen v v _ X s B w hv (hv.rw' (wds_all X)) (fun _ _ => rfl) h0 hl s0 hs hB
set_option maxRecDepth 100000 in
set_option maxHeartbeats 800000 in
theorem intLsh_same (g o X s B T : Nat) (neg : Bool) (v : Value) (cs : Array Value) (w : World) (row : w.heap[g]? = some (.cells cs T (0, 0))) (h0 : cs[o]? = some (.bool neg)) (h1 : cs[o + 1]? = some v) (hT : T ≠ 181)
    (hv : Own w B 181 v (cellsW (wds X))) (hz : X = 0 → v = .slice none 0 0) (hl : nw X ≤ 10000000) (hs : s ≤ 1000000000) (hB : B ≤ w.heap.size) :
    Calls Tryz.prog 123 #[.pointer (some ⟨g, o, none⟩), .pointer (some ⟨g, o, none⟩), .int .u64 s] w fun e w' => e = .returned (.pointer (some ⟨g, o, none⟩)) ∧ ∃ r w1 k, w' = (w1.setCell ⟨g, o + 1, none⟩ r).setCell ⟨g, o, none⟩ (.bool neg) ∧ NatR v r (X * 2 ^ s) B (w.drewN k) w1 := by
  have hS := hv.isS
  obtain ⟨c0, f0⟩ := row_at row h0
  obtain ⟨c1, f1⟩ := row_at row h1
  have HR := Lib.hid row
  have HNE : Hid (0 < sCap v → g ≠ sBlk v) := Lib.hid (fun hc he => hv.ne_row row hT hc he.symm)
  have HC := Lib.hid (fun (k : Nat) => lsh_same v X s B (w.drewN k) (hv.drewN k) hz hl hs hB)
  have H0 := Lib.hid h0
  have H1 := Lib.hid h1
  clear row hv hz h0 h1 f0 f1
  go_enter Tryz.func123, Tryz.ntmps123
  go_upto_region 1 with fail
  (refine wp_region_hoist 10 (by kernel_rfl) (by kernel_rfl) ⟨fun _ _ _ h => (by first | exact (hQp _ _ _ h).elim | cases h.2.1 | (obtain ⟨_, h3, _⟩ := h.2; cases h3)), fun _ _ h => (by first | exact (hQo _ _ h).elim | cases h.1 | (obtain ⟨_, h3, _⟩ := h; cases h3))⟩ ?_; simp only [List.take_succ_cons, List.take_zero, List.drop_succ_cons, List.drop_zero]; (repeat (go_big_quiet_step (fail))); refine wpQuiet_nil ?_; rintro _ ⟨nq, rfl⟩)
  go_wp2_with fail
  refine (HC.out nq).mono ?_
  rintro _ w1 ⟨r, rfl, hr⟩
  have row1 := hr.fr.row HR.out (fun hc => HNE.out hc)
  obtain ⟨k0, f0⟩ := row_at row1 H0.out
  obtain ⟨k1, f1⟩ := row_at row1 H1.out
  have hSr := hr.own.isS
  have Q := Lib.hid hr
  clear hr row1 c0 c1
  go_wp2
  go_ret
  exact ⟨rfl, r, w1, nq, rfl, Q.out⟩
set_option maxRecDepth 100000 in
theorem setUint64_zero (w : World) : Calls Tryz.prog 164 #[.slice none 0 0, .int .u64 0] w fun e w' => e = .returned (.slice none 0 0) ∧ w = w' := by
  have hS : IsS (.slice none 0 0) := IsS.nil
  go_enter Tryz.func164, Tryz.ntmps164
  go_wp2
  go_ret
  exact ⟨rfl, rfl⟩
theorem wds_word {m : Nat} (h0 : 0 < m) (hm : m < 18446744073709551616) : wds m = [m] := by
  refine wds_single ?_
  have h1 := nw_pos h0
  have h2 : nw m ≤ 1 := nw_le (by rw [Nat.pow_one]; exact hm)
  omega
theorem setUint64_num (m : Nat) (w : World) (hm : m < 18446744073709551616) :
    Calls Tryz.prog 164 #[.slice none 0 0, .int .u64 m] w fun e w' => ∃ r, e = .returned r ∧ Own w' w.heap.size 181 r (cellsW (wds m)) ∧ Below w.heap.size w w' ∧ (m = 0 → r = .slice none 0 0) := by
  rcases Nat.eq_zero_or_pos m with h0 | h0
  · subst h0
    refine (setUint64_zero w).mono ?_
    rintro _ _ ⟨rfl, rfl⟩
    exact ⟨_, rfl, Own.nil _ _ _, Below.refl _ _, fun _ => rfl⟩
  · refine (setUint64_nil m w h0 hm).mono ?_
    rintro _ w' ⟨r, rfl, h1, h2⟩
    rw [wds_word h0 hm]
    exact ⟨r, rfl, h1, h2, fun h => by omega⟩
set_option maxRecDepth 100000 in
set_option maxHeartbeats 800000 in
/-- Int.SetUint64 of one without words. -/
theorem intSetU (g o m T : Nat) (n0 : Value) (cs : Array Value) (w : World) (row : w.heap[g]? = some (.cells cs T (0, 0))) (h0 : cs[o]? = some n0) (h1 : cs[o + 1]? = some (.slice none 0 0)) (hm : m < 18446744073709551616) :
    Calls Tryz.prog 120 #[.pointer (some ⟨g, o, none⟩), .int .u64 m] w fun e w' => e = .returned (.pointer (some ⟨g, o, none⟩)) ∧ ∃ r w1, w' = (w1.setCell ⟨g, o + 1, none⟩ r).setCell ⟨g, o, none⟩ (.bool false) ∧ Own w1 w.heap.size 181 r (cellsW (wds m)) ∧ Below w.heap.size w w1 ∧ (m = 0 → r = .slice none 0 0) := by
  obtain ⟨c0, f0⟩ := row_at row h0
  obtain ⟨c1, f1⟩ := row_at row h1
  have HR := Lib.hid row
  have HC := Lib.hid (setUint64_num m w hm)
  have H0 := Lib.hid h0
  have H1 := Lib.hid h1
  clear row h0 h1 f0 f1 hm
  go_enter Tryz.func120, Tryz.ntmps120
  go_wp2_with fail
  refine HC.out.mono ?_
  rintro _ w1 ⟨r, rfl, ho, hb, hz⟩
  have row1 := keep_row hb HR.out
  obtain ⟨k0, f0⟩ := row_at row1 H0.out
  obtain ⟨k1, f1⟩ := row_at row1 H1.out
  have hSr := ho.isS
  have Q := Lib.hid (And.intro ho (And.intro hb hz))
  clear ho hb hz row1 c0 c1
  go_wp2
  go_ret
  exact ⟨rfl, r, w1, rfl, Q.out⟩
end Go.Proofs.YtbghmceglemppaaGreatDoor

/-
Floats of the machine: their patterns of bits, order, and a product by a power of 2. Plain law. No condition.
-/
namespace Go.Proofs.YtbghmceglemppaaGreatDoor
open Go.RowKit

/-- The value of the pattern of bits of a float64 that is finite: sign, magnitude, exponent. -/
def obN (b : Nat) : Bool := decide (9223372036854775808 ≤ b)
def obM (b : Nat) : Nat := if b % 9223372036854775808 < 4503599627370496 then b % 9223372036854775808 else 4503599627370496 + b % 4503599627370496
def obE (b : Nat) : Int := ((b % 9223372036854775808 / 4503599627370496 - 1 : Nat) : Int) - 1074
/-- Finite. -/
def obF (b : Nat) : Prop := b % 9223372036854775808 < 9218868437227405312
theorem obE_bd {b : Nat} (h : obF b) : -1074 ≤ obE b ∧ obE b ≤ 971 := by unfold obF at h; unfold obE; omega
theorem obM_bd (b : Nat) : obM b ≤ 9007199254740991 := by unfold obM; split <;> omega
theorem dbl_sw : Ieee.double.signWeight = 9223372036854775808 := by decide
theorem dbl_bn : Ieee.double.binade = 4503599627370496 := by decide
theorem dbl_inf : Ieee.double.infRung = 9218868437227405312 := by decide
theorem dbl_lp : Ieee.double.leastPlace = -1074 := by decide
theorem read_fin {b : Nat} (hb : b < 18446744073709551616) (h : obF b) : Ieee.double.read b = .number (obN b) (obM b) (obE b) := by
  unfold obF at h
  have hn : (b / 9223372036854775808 % 2 == 1) = obN b := by
    unfold obN
    by_cases hc : 9223372036854775808 ≤ b
    · rw [decide_eq_true hc, show b / 9223372036854775808 % 2 = 1 by omega]; rfl
    · rw [decide_eq_false hc, show b / 9223372036854775808 % 2 = 0 by omega]; rfl
  unfold Ieee.Format.read
  simp only [dbl_sw, dbl_bn, dbl_inf, dbl_lp]
  rw [hn]
  by_cases h1 : b % 9223372036854775808 < 4503599627370496
  · rw [if_pos h1]
    unfold obM obE
    rw [if_pos h1, show b % 9223372036854775808 / 4503599627370496 - 1 = 0 by omega]
    rfl
  · rw [if_neg h1, if_pos h]
    unfold obM obE
    rw [if_neg h1, show b % 9223372036854775808 % 4503599627370496 = b % 4503599627370496 by omega]
    congr 1
theorem read_inf {b : Nat} (hb : b < 18446744073709551616) (h : b % 9223372036854775808 = 9218868437227405312) : Ieee.double.read b = .infinity (obN b) := by
  have hn : (b / 9223372036854775808 % 2 == 1) = obN b := by
    unfold obN
    by_cases hc : 9223372036854775808 ≤ b
    · rw [decide_eq_true hc, show b / 9223372036854775808 % 2 = 1 by omega]; rfl
    · rw [decide_eq_false hc, show b / 9223372036854775808 % 2 = 0 by omega]; rfl
  unfold Ieee.Format.read
  simp only [dbl_sw, dbl_bn, dbl_inf, dbl_lp]
  rw [hn, if_neg (by omega), if_neg (by omega), if_pos h]
theorem icmp (a b : Int) : compare a b = if a < b then Ordering.lt else if a = b then Ordering.eq else Ordering.gt := rfl
theorem sgn_nat (n : Bool) (m k : Nat) : Ieee.signed n m k = if n then -((m * 2 ^ k : Nat) : Int) else ((m * 2 ^ k : Nat) : Int) := by
  unfold Ieee.signed; rw [Nat.shiftLeft_eq]
theorem f64_fmt : FloatKind.f64.format = Ieee.double := rfl
theorem ord_self {b : Nat} (hb : b < 18446744073709551616) (h : obF b ∨ b % 9223372036854775808 = 9218868437227405312) : (FloatKind.f64.format.order b b != some .eq) = false := by
  rw [f64_fmt]
  unfold Ieee.Format.order
  rcases h with h | h
  · rw [read_fin hb h]
    simp [Ieee.Datum.order]
  · rw [read_inf hb h]
    cases obN b <;> rfl
theorem ord_zero {b : Nat} (hb : b < 18446744073709551616) (h : obF b) : (FloatKind.f64.format.order b 0 == some .eq) = decide (obM b = 0) := by
  rw [f64_fmt]
  unfold Ieee.Format.order
  have h0 : Ieee.double.read 0 = .number false 0 (-1074) := by decide
  have hE := obE_bd h
  rw [read_fin hb h, h0]
  simp only [Ieee.Datum.order]
  rw [Int.min_eq_right hE.1, Int.sub_self, icmp, sgn_nat, sgn_nat]
  simp only [Nat.zero_mul, Bool.false_eq_true, if_false]
  have hp := Nat.two_pow_pos (obE b - -1074).toNat
  by_cases hM : obM b = 0
  · rw [hM, Nat.zero_mul]; simp
  · have hpos : 0 < obM b * 2 ^ (obE b - -1074).toNat := Nat.mul_pos (by omega) hp
    rw [decide_eq_false hM]
    cases obN b
    · simp only [Bool.false_eq_true, if_false]
      rw [if_neg (by omega), if_neg (by omega)]; rfl
    · simp only [if_true]
      rw [if_pos (by omega)]; rfl
theorem ord_zero_inf {b : Nat} (hb : b < 18446744073709551616) (h : b % 9223372036854775808 = 9218868437227405312) : (FloatKind.f64.format.order b 0 == some .eq) = false := by
  rw [f64_fmt]
  unfold Ieee.Format.order
  have h0 : Ieee.double.read 0 = .number false 0 (-1074) := by decide
  rw [read_inf hb h, h0]
  cases obN b <;> rfl
/-- A magnitude that is finite is not above the greatest one. -/
theorem ord_max {r : Nat} (h : r < 9218868437227405312) : (FloatKind.f64.format.order r 9218868437227405311 == some .gt) = false := by
  have hr : r % 9223372036854775808 = r := Nat.mod_eq_of_lt (by omega)
  have hf : obF r := by unfold obF; omega
  have h0 : Ieee.double.read 9218868437227405311 = .number false 9007199254740991 971 := by decide
  have hE := obE_bd hf
  have hM := obM_bd r
  have hn : obN r = false := decide_eq_false (by omega)
  rw [f64_fmt]
  unfold Ieee.Format.order
  rw [read_fin (by omega) hf, h0]
  simp only [Ieee.Datum.order]
  rw [Int.min_eq_left hE.2, Int.sub_self, icmp, sgn_nat, sgn_nat, hn]
  simp only [Bool.false_eq_true, if_false, Int.toNat_zero, Nat.pow_zero, Nat.mul_one]
  have hp : 1 ≤ 2 ^ (971 - obE r).toNat := Nat.two_pow_pos _
  have hle := Nat.mul_le_mul_left 9007199254740991 hp
  by_cases h1 : (obM r : Int) < ((9007199254740991 * 2 ^ (971 - obE r).toNat : Nat) : Int)
  · rw [if_pos h1]; rfl
  · rw [if_neg h1, if_pos (by omega)]; rfl
theorem ord_max_inf : (FloatKind.f64.format.order 9218868437227405312 9218868437227405311 == some .gt) = true := by decide
/-- A magnitude against the least one with all of its bits. -/
theorem ord_min {r : Nat} (h : r < 9218868437227405312) : (FloatKind.f64.format.order r 4503599627370496 == some .lt) = decide (r < 4503599627370496) := by
  have hr : r % 9223372036854775808 = r := Nat.mod_eq_of_lt (by omega)
  have hf : obF r := by unfold obF; omega
  have h0 : Ieee.double.read 4503599627370496 = .number false 4503599627370496 (-1074) := by decide
  have hE := obE_bd hf
  have hn : obN r = false := decide_eq_false (by omega)
  rw [f64_fmt]
  unfold Ieee.Format.order
  rw [read_fin (by omega) hf, h0]
  simp only [Ieee.Datum.order]
  rw [Int.min_eq_right hE.1, Int.sub_self, icmp, sgn_nat, sgn_nat, hn]
  simp only [Bool.false_eq_true, if_false, Int.toNat_zero, Nat.pow_zero, Nat.mul_one]
  have hp : 1 ≤ 2 ^ (obE r - -1074).toNat := Nat.two_pow_pos _
  have hle := Nat.mul_le_mul_left (obM r) hp
  by_cases h1 : r < 4503599627370496
  · have hM : obM r = r := by unfold obM; rw [hr, if_pos h1]
    have hE0 : (obE r - -1074).toNat = 0 := by unfold obE; omega
    rw [hE0, Nat.pow_zero, Nat.mul_one, hM, if_pos (by omega), decide_eq_true h1]; rfl
  · have hM : 4503599627370496 ≤ obM r := by unfold obM; rw [hr, if_neg h1]; omega
    rw [if_neg (by omega), decide_eq_false h1]
    split <;> rfl
theorem log2_bl {n : Nat} (h : 0 < n) : n.log2 + 1 = bl n := by unfold bl; rw [if_neg (by omega)]
/-- A number below the least one with all of its bits, times 2 to 52. -/
theorem mul_sub {b : Nat} (hb : b < 18446744073709551616) (h0 : 0 < b % 9223372036854775808) (h : b % 9223372036854775808 < 4503599627370496) :
    Ieee.double.mul b 4841369599423283200 = some ((if obN b then 9223372036854775808 else 0) + (bl (obM b) - 1) * 4503599627370496 + obM b * 2 ^ (53 - bl (obM b))) := by
  have hf : obF b := by unfold obF; omega
  have hC : Ieee.double.read 4841369599423283200 = .number false 4503599627370496 0 := by decide
  have hM : obM b = b % 9223372036854775808 := by unfold obM; rw [if_pos h]
  have hE : obE b = -1074 := by unfold obE; omega
  have hM0 : 0 < obM b := by omega
  have hM1 : obM b < 2 ^ 52 := by omega
  have hbl : bl (obM b) ≤ 52 := bl_le hM1
  have hbp := bl_pos hM0
  have hlg : (obM b * 4503599627370496).log2 = bl (obM b) + 51 := by
    have h1 := log2_bl (n := obM b * 4503599627370496) (by omega)
    have h2 := bl_mul hM0 52
    rw [show (2 : Nat) ^ 52 = 4503599627370496 from rfl] at h2
    omega
  unfold Ieee.Format.mul
  rw [read_fin hb hf, hC, hE]
  simp only [Ieee.Datum.product, Option.map_some, Ieee.Format.write, Bool.xor_false]
  congr 1
  unfold Ieee.Format.nearest
  rw [if_neg (by omega), hlg, dbl_lp, show Ieee.double.fractionBits = 52 from rfl, dbl_bn, dbl_inf]
  have hlast : max ((-1074 : Int) + 0 + ((bl (obM b) + 51 : Nat) : Int) - ((52 : Nat) : Int)) (-1074) = -1074 + ((bl (obM b) - 1 : Nat) : Int) := by omega
  simp only [hlast]
  rw [show ((-1074 : Int) + 0 - (-1074 + ((bl (obM b) - 1 : Nat) : Int))).toNat = 0 by omega, show ((-1074 : Int) + ((bl (obM b) - 1 : Nat) : Int) - (-1074 + 0)).toNat = bl (obM b) - 1 by omega, show ((-1074 : Int) + ((bl (obM b) - 1 : Nat) : Int) - -1074).toNat = bl (obM b) - 1 by omega, Nat.shiftLeft_zero]
  have hcut : Ieee.Toward.even.cut (obN b) (obM b * 4503599627370496) (bl (obM b) - 1) = obM b * 2 ^ (53 - bl (obM b)) := by
    unfold Ieee.Toward.cut
    rw [hlg, Nat.min_eq_left (by omega), Nat.shiftLeft_eq, Nat.one_mul]
    have e : obM b * 4503599627370496 = obM b * 2 ^ (53 - bl (obM b)) * 2 ^ (bl (obM b) - 1) := by
      rw [Nat.mul_assoc, ← Nat.pow_add, show 53 - bl (obM b) + (bl (obM b) - 1) = 52 by omega]
    have hp := Nat.two_pow_pos (bl (obM b) - 1)
    simp only
    rw [e, Nat.mul_div_cancel _ hp, Nat.mul_mod_left]
    have : (decide (2 ^ (bl (obM b) - 1) < 2 * 0) || (2 ^ (bl (obM b) - 1) == 2 * 0 && obM b * 2 ^ (53 - bl (obM b)) % 2 == 1)) = false := by
      rw [Nat.mul_zero, decide_eq_false (by omega), Bool.false_or, Bool.and_eq_false_iff]
      exact .inl (beq_eq_false_iff_ne.2 (by omega))
    rw [this]; rfl
  rw [hcut]
  have hlt : obM b * 2 ^ (53 - bl (obM b)) < 9007199254740992 := by
    have h1 := bl_mul hM0 (53 - bl (obM b))
    have h2 := lt_bl (obM b * 2 ^ (53 - bl (obM b)))
    rw [h1, show bl (obM b) + (53 - bl (obM b)) = 53 by omega] at h2
    exact h2
  rw [Nat.min_eq_left (by omega)]
  unfold Ieee.Format.word
  rw [dbl_sw]
  split <;> omega
/-! ### The bits of a pattern -/
theorem two52 : (2 : Nat) ^ 52 = 4503599627370496 := rfl
theorem and_abs {b : Nat} (hb : b < 18446744073709551616) : bits .andNot .u64 (b : Int) 9223372036854775808 = ((b % 9223372036854775808 : Nat) : Int) := by
  rw [show (9223372036854775808 : Int) = ((9223372036854775808 : Nat) : Int) from rfl, u64_andNot_nat b _ hb (by decide), show (18446744073709551615 - 9223372036854775808 : Nat) = 2 ^ 63 - 1 from rfl, Nat.and_two_pow_sub_one_eq_mod]
theorem and_frac {b : Nat} (hb : b < 18446744073709551616) : bits .and .u64 (b : Int) 4503599627370495 = ((b % 4503599627370496 : Nat) : Int) := by
  rw [show (4503599627370495 : Int) = ((4503599627370495 : Nat) : Int) from rfl, bits_and_u64_nat b _ hb (by decide), show (4503599627370495 : Nat) = 2 ^ 52 - 1 from rfl, Nat.and_two_pow_sub_one_eq_mod]
theorem and_2047 {x : Nat} (hx : x < 18446744073709551616) : bits .and .u64 (x : Int) 2047 = ((x % 2048 : Nat) : Int) := by
  rw [show (2047 : Int) = ((2047 : Nat) : Int) from rfl, bits_and_u64_nat x _ hx (by decide), show (2047 : Nat) = 2 ^ 11 - 1 from rfl, Nat.and_two_pow_sub_one_eq_mod]
theorem and_pow (d t : Nat) : d &&& 2 ^ t = d / 2 ^ t % 2 * 2 ^ t := by
  apply Nat.eq_of_testBit_eq
  intro i
  rw [Nat.testBit_and, Nat.testBit_two_pow, Nat.mul_comm, Nat.testBit_two_pow_mul]
  by_cases hi : t = i
  · subst hi
    rw [Nat.testBit_eq_decide_div_mod_eq, Nat.sub_self, Nat.testBit_eq_decide_div_mod_eq, Nat.pow_zero, Nat.div_one, Nat.mod_mod]
    simp
  · simp only [hi, decide_false, Bool.and_false]
    by_cases h2 : t ≤ i
    · rw [Nat.testBit_lt_two_pow (show d / 2 ^ t % 2 < 2 ^ (i - t) from Nat.lt_of_lt_of_le (Nat.mod_lt _ (by decide)) (Nat.pow_le_pow_right (show 0 < 2 by decide) (show 1 ≤ i - t by omega)))]; simp
    · simp [h2]
/-- The exponent's field put to nothing. -/
theorem and_clear {b : Nat} (hb : b < 18446744073709551616) : bits .andNot .u64 (b : Int) 9218868437227405312 = (((if 9223372036854775808 ≤ b then 9223372036854775808 else 0) + b % 4503599627370496 : Nat) : Int) := by
  rw [show (9218868437227405312 : Int) = ((9218868437227405312 : Nat) : Int) from rfl, u64_andNot_nat b _ hb (by decide), show (18446744073709551615 - 9218868437227405312 : Nat) = 2 ^ 63 ||| (2 ^ 52 - 1) by decide, Nat.and_or_distrib_left, Nat.and_two_pow_sub_one_eq_mod, and_pow]
  congr 1
  by_cases h : 9223372036854775808 ≤ b
  · rw [if_pos h, two52, show b / 2 ^ 63 % 2 * 2 ^ 63 = 2 ^ 63 * 1 by omega, ← Nat.two_pow_add_eq_or_of_lt (show b % 4503599627370496 < 2 ^ 63 by omega)]
  · rw [if_neg h, two52, show b / 2 ^ 63 % 2 * 2 ^ 63 = 0 by omega, Nat.zero_or, Nat.zero_add]
theorem or_half {s f : Nat} (hs : s = 0 ∨ s = 9223372036854775808) (hf : f < 4503599627370496) : bits .or .u64 ((s + f : Nat) : Int) 4602678819172646912 = ((s + 4602678819172646912 + f : Nat) : Int) := by
  rw [show (4602678819172646912 : Int) = ((4602678819172646912 : Nat) : Int) from rfl, bits_or_u64_nat _ _ (by omega) (by decide)]
  congr 1
  have e : ∀ a : Nat, 2 ^ 52 * a + f = 2 ^ 52 * a ||| f := fun a => Nat.two_pow_add_eq_or_of_lt (by omega) a
  rcases hs with rfl | rfl
  · rw [Nat.zero_add, Nat.zero_add, Nat.or_comm, show (4602678819172646912 : Nat) = 2 ^ 52 * 1022 from rfl, ← e]
  · rw [show (9223372036854775808 : Nat) = 2 ^ 52 * 2048 from rfl, e, Nat.or_assoc, Nat.or_comm f, ← Nat.or_assoc, show 2 ^ 52 * 2048 ||| 4602678819172646912 = 2 ^ 52 * 3070 by decide, ← e]
theorem or_top {f : Nat} (hf : f < 4503599627370496) : bits .or .u64 9223372036854775808 ((f * 2048 : Nat) : Int) = ((9223372036854775808 + f * 2048 : Nat) : Int) := by
  rw [show (9223372036854775808 : Int) = ((9223372036854775808 : Nat) : Int) from rfl, bits_or_u64_nat _ _ (by decide) (by omega), show (9223372036854775808 : Nat) = 2 ^ 63 * 1 from rfl, ← Nat.two_pow_add_eq_or_of_lt (show f * 2048 < 2 ^ 63 by omega)]
end Go.Proofs.YtbghmceglemppaaGreatDoor

/-
math.Float64bits, Abs, IsNaN, Signbit, IsInf, Frexp of a float64. No condition.
-/
namespace Go.Proofs.YtbghmceglemppaaGreatDoor
open Go.RowKit

@[go_sem] theorem f64bits (b : Nat) (w : World) : (callFunc 84 #[.float .f64 b]).run Tryz.prog w = .ok (.value (.int .u64 (b : Int))) w := by
  rw [run_callFunc_extern Tryz.func84 (by kernel_rfl) (by kernel_rfl) (by kernel_rfl) (e := Extern.MathFloatBits.float64bits) (by kernel_rfl)]
  rfl
@[go_sem] theorem f64from (b : Nat) (w : World) : (callFunc 71 #[.int .u64 (b : Int)]).run Tryz.prog w = .ok (.value (.float .f64 b)) w := by
  rw [run_callFunc_extern Tryz.func71 (by kernel_rfl) (by kernel_rfl) (by kernel_rfl) (e := Extern.MathFloatBits.float64frombits) (by kernel_rfl)]
  rfl
set_option maxRecDepth 100000 in
theorem mAbs (b : Nat) (w : World) (hb : b < 18446744073709551616) :
    Calls Tryz.prog 229 #[.float .f64 b] w fun e w' => e = .returned (.float .f64 (b % 9223372036854775808)) ∧ w = w' := by
  have h1 := and_abs hb
  obtain ⟨r, hr⟩ : ∃ r, r = b % 9223372036854775808 := ⟨_, rfl⟩
  rw [← hr] at h1 ⊢
  clear hr
  go_enter Tryz.func229, Tryz.ntmps229
  go_wp2_with (simp only [f64bits, f64from])
  go_ret
  exact ⟨rfl, rfl⟩
set_option maxRecDepth 100000 in
theorem mIsNaN (b : Nat) (w : World) (hb : b < 18446744073709551616) (h : obF b ∨ b % 9223372036854775808 = 9218868437227405312) :
    Calls Tryz.prog 253 #[.float .f64 b] w fun e w' => e = .returned (.bool false) ∧ w = w' := by
  have h1 := ord_self hb h
  clear h
  go_enter Tryz.func253, Tryz.ntmps253
  go_wp2
  go_ret
  exact ⟨rfl, rfl⟩
theorem sgn_wrap {b : Nat} (hb : b < 18446744073709551616) : decide (wrap64 (b : Int) < 0) = obN b := by
  unfold obN wrap64
  by_cases h : 9223372036854775808 ≤ b
  · rw [decide_eq_true h]; exact decide_eq_true (by omega)
  · rw [decide_eq_false h]; exact decide_eq_false (by omega)
set_option maxRecDepth 100000 in
theorem mIsInf (b : Nat) (r : Bool) (w : World) (hb : b < 18446744073709551616) (h : (FloatKind.f64.format.order (b % 9223372036854775808) 9218868437227405311 == some .gt) = r) :
    Calls Tryz.prog 192 #[.float .f64 b, .int .i64 0] w fun e w' => e = .returned (.bool r) ∧ w = w' := by
  have HA := Lib.hid (mAbs b w hb)
  obtain ⟨m, hm⟩ : ∃ m, m = b % 9223372036854775808 := ⟨_, rfl⟩
  rw [← hm] at h HA
  clear hm
  go_enter Tryz.func192, Tryz.ntmps192
  go_wp2_with fail
  refine HA.out.mono ?_
  rintro _ _ ⟨rfl, rfl⟩
  go_wp2
  go_ret
  exact ⟨rfl, rfl⟩
/-- The sign's bit of a pattern. -/
def obS (b : Nat) : Nat := if 9223372036854775808 ≤ b then 9223372036854775808 else 0
/-- A pattern's value with the first bit of the magnitude at its place: g its exponent's field, F its fraction, x0 how far it was shifted. -/
def Nrm (b g F : Nat) (x0 : Int) : Prop :=
  F < 4503599627370496 ∧ 1 ≤ g ∧ g ≤ 2046 ∧ 4503599627370496 + F = obM b * 2 ^ (53 - bl (obM b)) ∧ (g : Int) + x0 - 1022 = (bl (obM b) : Int) + obE b ∧ (x0 = 0 ∨ x0 = -52) ∧ bl (obM b) ≤ 53
theorem nrm_big {b : Nat} (hb : b < 18446744073709551616) (hf : obF b) (h : ¬ b % 9223372036854775808 < 4503599627370496) : Nrm b (b % 9223372036854775808 / 4503599627370496) (b % 4503599627370496) 0 ∧ b = obS b + b % 9223372036854775808 / 4503599627370496 * 4503599627370496 + b % 4503599627370496 := by
  unfold obF at hf
  have hM : obM b = 4503599627370496 + b % 4503599627370496 := by unfold obM; rw [if_neg h]
  have hbl : bl (obM b) = 53 := by
    rw [hM]; exact bl_of (k := 52) (by omega) (by omega)
  refine ⟨⟨by omega, by omega, by omega, by rw [hbl, hM]; simp, by rw [hbl]; unfold obE; omega, .inl rfl, by omega⟩, ?_⟩
  unfold obS; split <;> omega
theorem nrm_small {b : Nat} (h0 : 0 < b % 9223372036854775808) (h : b % 9223372036854775808 < 4503599627370496) :
    ∃ F, Nrm b (bl (obM b)) F (-52) ∧ (if obN b then 9223372036854775808 else 0) + (bl (obM b) - 1) * 4503599627370496 + obM b * 2 ^ (53 - bl (obM b)) = obS b + bl (obM b) * 4503599627370496 + F := by
  have hM : obM b = b % 9223372036854775808 := by unfold obM; rw [if_pos h]
  have hM0 : 0 < obM b := by omega
  have hbl : bl (obM b) ≤ 52 := bl_le (show obM b < 2 ^ 52 by omega)
  have hbp := bl_pos hM0
  have hlt : obM b * 2 ^ (53 - bl (obM b)) < 9007199254740992 ∧ 4503599627370496 ≤ obM b * 2 ^ (53 - bl (obM b)) := by
    have h1 := bl_mul hM0 (53 - bl (obM b))
    have h2 := lt_bl (obM b * 2 ^ (53 - bl (obM b)))
    have h3 := bl_ge (n := obM b * 2 ^ (53 - bl (obM b))) (Nat.mul_pos hM0 (Nat.two_pow_pos _))
    rw [h1, show bl (obM b) + (53 - bl (obM b)) = 53 by omega] at h2 h3
    exact ⟨h2, h3⟩
  refine ⟨obM b * 2 ^ (53 - bl (obM b)) - 4503599627370496, ⟨by omega, by omega, by omega, by omega, ?_, .inr rfl, by omega⟩, ?_⟩
  · unfold obE; omega
  · unfold obN obS
    by_cases hs : 9223372036854775808 ≤ b
    · rw [decide_eq_true hs, if_pos rfl, if_pos hs]; omega
    · rw [decide_eq_false hs, if_neg (by decide), if_neg hs]; omega
set_option maxRecDepth 100000 in
theorem mNormalize (b : Nat) (hb : b < 18446744073709551616) (hf : obF b) (h0 : 0 < b % 9223372036854775808) :
    ∃ g F x0, Nrm b g F x0 ∧ ∀ w, Calls Tryz.prog 254 #[.float .f64 b] w fun e w' => e = .returned (.tuple #[.float .f64 (obS b + g * 4503599627370496 + F), .int .i64 x0]) ∧ w = w' := by
  have hmin := ord_min (r := b % 9223372036854775808) hf
  by_cases h : b % 9223372036854775808 < 4503599627370496
  · rw [decide_eq_true h] at hmin
    have hmul := mul_sub hb h0 h
    obtain ⟨F, hN, hE⟩ := nrm_small h0 h
    rw [hE] at hmul
    refine ⟨_, F, -52, hN, fun w => ?_⟩
    have HA := Lib.hid (mAbs b w hb)
    obtain ⟨y, hy⟩ : ∃ y, y = obS b + bl (obM b) * 4503599627370496 + F := ⟨_, rfl⟩
    rw [← hy] at hmul ⊢
    have hrun : ∀ W : World, (binOp .mul 115 (.float .f64 b) (.float .f64 4841369599423283200)).run Tryz.prog W = .ok (.float .f64 y) W := fun W => run_float_arith W .mul _ .f64 _ _ _ hmul
    obtain ⟨m, hm⟩ : ∃ m, m = b % 9223372036854775808 := ⟨_, rfl⟩
    rw [← hm] at hmin HA
    clear hm hN hE hy hmul h h0 hf hb
    go_enter Tryz.func254, Tryz.ntmps254
    go_wp2_with fail
    refine HA.out.mono ?_
    rintro _ _ ⟨rfl, rfl⟩
    go_wp2
    go_ret2
    exact ⟨rfl, rfl⟩
  · rw [decide_eq_false h] at hmin
    obtain ⟨hN, hE⟩ := nrm_big hb hf h
    refine ⟨_, _, 0, hN, fun w => ?_⟩
    rw [← hE]
    have HA := Lib.hid (mAbs b w hb)
    obtain ⟨m, hm⟩ : ∃ m, m = b % 9223372036854775808 := ⟨_, rfl⟩
    rw [← hm] at hmin HA
    clear hm hN hE h h0 hf hb
    go_enter Tryz.func254, Tryz.ntmps254
    go_wp2_with fail
    refine HA.out.mono ?_
    rintro _ _ ⟨rfl, rfl⟩
    go_wp2
    go_ret2
    exact ⟨rfl, rfl⟩
end Go.Proofs.YtbghmceglemppaaGreatDoor

/-
Rat.SetFloat64 of a new fraction. No condition but the threshold of recursive division.
-/
namespace Go.Proofs.YtbghmceglemppaaGreatDoor
open Go.RowKit

/-- The fraction while it is made. -/
structure SfS (g B N D : Nat) (n : Bool) (va vb : Value) (w W : World) : Prop where
  row : W.heap[g]? = some (.cells #[.bool n, va, .bool false, vb] 113 (0, 0))
  oa : Own W B 181 va (cellsW (wds N))
  ob : Own W B 181 vb (cellsW (wds D))
  ab : 0 < sCap va → 0 < sCap vb → sBlk va ≠ sBlk vb
  bl : Below B w W
  tw : DivW W
theorem SfS.drewN {g B N D : Nat} {n : Bool} {va vb : Value} {w W : World} (h : SfS g B N D n va vb w W) (k : Nat) : SfS g B N D n va vb w (W.drewN k) := ⟨h.row, h.oa.drewN k, h.ob.drewN k, h.ab, undrewN' h.bl, h.tw⟩
section
variable {g B N D : Nat} {n : Bool} {va vb : Value} {w W : World}
theorem SfS.start (row : W.heap[g]? = some (.cells #[.bool false, .slice none 0 0, .bool false, .slice none 0 0] 113 (0, 0))) (hT : DivW W) : SfS g B 0 0 false (.slice none 0 0) (.slice none 0 0) W W :=
  ⟨row, Own.nil _ _ _, Own.nil _ _ _, fun h => absurd h (by decide), Below.refl _ _, hT⟩
/-- The numerator is a word. -/
theorem SfS.setA (h : SfS g B 0 0 n (.slice none 0 0) (.slice none 0 0) w W) (hB : B ≤ g) (dg : 4 < B) (m : Nat) (hm : m < 18446744073709551616) :
    Calls Tryz.prog 120 #[.pointer (some ⟨g, 0, none⟩), .int .u64 m] W fun e w' => e = .returned (.pointer (some ⟨g, 0, none⟩)) ∧ ∃ va', SfS g B m 0 false va' (.slice none 0 0) w w' ∧ (m = 0 → va' = .slice none 0 0) := by
  refine (intSetU g 0 m _ _ _ W h.row rfl rfl hm).mono ?_
  rintro _ w' ⟨rfl, r, w1, rfl, h1, h2, h3⟩
  have hBW : B ≤ W.heap.size := Nat.le_trans hB (Nat.le_of_lt (get_lt h.row))
  have q1 := keep_row h2 h.row
  have q2 := rowset (i := 1) r q1
  have q3 := rowset (i := 0) (.bool false) q2
  have o1 := ((h1.mono hBW).away q1 (by decide) 1 r).away q2 (by decide) 0 (.bool false)
  have b3 := bset (i := 0) (u := .bool false) (bset (i := 1) (u := r) (h.bl.trans (h2.mono hBW)) hB) hB
  have t1 := h.tw.below h2
  have tw : DivW ((w1.setCell ⟨g, 1, none⟩ r).setCell ⟨g, 0, none⟩ (.bool false)) := by
    unfold DivW at t1 ⊢
    rw [cell_other (by simp only; omega), cell_other (by simp only; omega)]
    exact t1
  exact ⟨rfl, r, ⟨q3, o1, Own.nil _ _ _, fun _ hc => absurd hc (by decide), b3, tw⟩, h3⟩
/-- The sign. -/
theorem SfS.neg (h : SfS g B N D n va vb w W) (hB : B ≤ g) (dg : 4 < B) (x : Bool) : SfS g B N D x va vb w (W.setCell ⟨g, 0, none⟩ (.bool x)) := by
  have q := rowset (i := 0) (.bool x) h.row
  refine ⟨q, h.oa.away h.row (by decide) 0 _, h.ob.away h.row (by decide) 0 _, h.ab, bset h.bl hB, ?_⟩
  have t1 := h.tw
  unfold DivW at t1 ⊢
  rw [cell_other (by simp only; omega)]
  exact t1
/-- The denominator is 1. -/
theorem SfS.setB (h : SfS g B N 0 n va (.slice none 0 0) w W) (hB : B ≤ g) (dg : 4 < B) :
    Calls Tryz.prog 122 #[] W fun e w1 => ∃ c, e = .returned (.pointer (some ⟨c, 0, none⟩)) ∧ Below W.heap.size W w1 ∧
      Calls Tryz.prog 121 #[.pointer (some ⟨g, 2, none⟩), .pointer (some ⟨c, 0, none⟩)] w1 fun e w' => e = .returned (.pointer (some ⟨g, 2, none⟩)) ∧ ∃ vb', SfS g B N 1 n va vb' w w' := by
  refine (intOne_any W).mono ?_
  rintro _ w1 ⟨rfl, hw1⟩
  have hb1 : Below W.heap.size W w1 := by rw [hw1]; exact bthen (fbone _) (fbone _)
  have rc : w1.heap[W.heap.size + 1]? = some (.cells #[.bool false, .slice (some ⟨W.heap.size, 0, none⟩) 1 1] 111 (0, 0)) := by
    rw [hw1]
    have := heap_alloc_new (W.alloc (.cells #[.int .u64 1] 181)) (.cells #[.bool false, .slice (some ⟨W.heap.size, 0, none⟩) 1 1] 111)
    rw [show (W.alloc (.cells #[.int .u64 1] 181)).heap.size = W.heap.size + 1 by simp] at this
    exact this
  have r1 : w1.heap[W.heap.size]? = some (.cells #[.int .u64 1] 181 (0, 0)) := by
    rw [hw1]; exact keep_row (fbone _) (heap_alloc_new W _)
  have rw1 : RW w1 (.slice (some ⟨W.heap.size, 0, none⟩) 1 1) (wds 1) := by
    rw [wds_one]
    refine ⟨⟨⟨fun _ => rfl, Nat.le_refl _⟩, rfl, fun i hi => ?_⟩, fun d hd => by rw [List.mem_singleton.1 hd]; decide⟩
    rw [ints_length] at hi
    obtain rfl : i = 0 := by simp at hi; omega
    exact (row_at (i := 0) r1 rfl).1
  have q1 := keep_row hb1 h.row
  have hgl := get_lt h.row
  refine ⟨W.heap.size + 1, rfl, hb1, ?_⟩
  refine (intSet g 2 (W.heap.size + 1) 0 (.bool false) (.slice (some ⟨W.heap.size, 0, none⟩) 1 1) false _ _ _ _ (wds 1) w1 (by omega) q1 rc rfl rfl rfl rfl rw1 (by decide)).mono ?_
  rintro _ w' ⟨rfl, r, w2, rfl, ho, hb2⟩
  have hBW : B ≤ W.heap.size := Nat.le_trans hB (Nat.le_of_lt hgl)
  have hBw1 : B ≤ w1.heap.size := Nat.le_trans hBW hb1.size
  have q2 := keep_row hb2 q1
  have q3 := rowset (i := 3) r q2
  have q4 := rowset (i := 2) (.bool false) q3
  have o1 := ((ho.mono hBw1).away q2 (by decide) 3 r).away q3 (by decide) 2 (.bool false)
  have oa := (((h.oa.below hb1).below hb2).away q2 (by decide) 3 r).away q3 (by decide) 2 (.bool false)
  have b3 := bset (i := 2) (u := .bool false) (bset (i := 3) (u := r) ((h.bl.trans (hb1.mono hBW)).trans (hb2.mono hBw1)) hB) hB
  have t1 := (h.tw.below hb1).below hb2
  have tw : DivW ((w2.setCell ⟨g, 3, none⟩ r).setCell ⟨g, 2, none⟩ (.bool false)) := by
    unfold DivW at t1 ⊢
    rw [cell_other (by simp only; omega), cell_other (by simp only; omega)]
    exact t1
  refine ⟨rfl, r, ⟨q4, oa, o1, fun ha hc he => ?_, b3, tw⟩⟩
  have k1 := (h.oa.lt ha).2
  have k2 := (ho.lt hc).1
  have k3 := hb1.size
  omega
/-- The numerator, shifted. -/
theorem SfS.lshA (h : SfS g B N D n va vb w W) (hB : B ≤ g) (dg : 4 < B) (hz : N = 0 → va = .slice none 0 0) (hl : nw N ≤ 10000000) (s : Nat) (hs : s ≤ 1000000000) :
    Calls Tryz.prog 123 #[.pointer (some ⟨g, 0, none⟩), .pointer (some ⟨g, 0, none⟩), .int .u64 s] W fun e w' => e = .returned (.pointer (some ⟨g, 0, none⟩)) ∧ ∃ va', SfS g B (N * 2 ^ s) D n va' vb w w' := by
  have hBW : B ≤ W.heap.size := Nat.le_trans hB (Nat.le_of_lt (get_lt h.row))
  refine (intLsh_same g 0 N s B _ n va _ W h.row rfl rfl (by decide) h.oa hz hl hs hBW).mono ?_
  rintro _ w' ⟨rfl, r, w1, k, rfl, hq⟩
  have q1 := hq.fr.row (show (W.drewN k).heap[g]? = _ from h.row) (fun hc he => h.oa.ne_row h.row (by decide) hc he.symm)
  have q2 := rowset (i := 1) r q1
  have q3 := rowset (i := 0) (.bool n) q2
  have o1 := (hq.own.away q1 (by decide) 1 r).away q2 (by decide) 0 (.bool n)
  have ob := (((h.ob.drewN k).frz hq.fr (fun a b he => h.ab b a he.symm)).away q1 (by decide) 1 r).away q2 (by decide) 0 (.bool n)
  have b3 := bset (i := 0) (u := .bool n) (bset (i := 1) (u := r) (h.bl.trans (undrewN hq.below)) hB) hB
  have t1 := h.tw.drewN k
  have t2 : DivW w1 := by
    unfold DivW at t1 ⊢
    exact (hq.below.cell (p := ⟨4, 0, none⟩) dg).trans t1
  have tw : DivW ((w1.setCell ⟨g, 1, none⟩ r).setCell ⟨g, 0, none⟩ (.bool n)) := by
    unfold DivW at t2 ⊢
    rw [cell_other (by simp only; omega), cell_other (by simp only; omega)]
    exact t2
  refine ⟨rfl, r, ⟨q3, o1, ob, fun ha hc he => ?_, b3, tw⟩⟩
  rcases hq.at' ha with ⟨k1, k2⟩ | k1
  · exact h.ab k1 hc (by rw [← k2]; exact he)
  · have := (h.ob.lt hc).2
    have e : (W.drewN k).heap.size = W.heap.size := rfl
    omega
/-- The denominator, shifted. -/
theorem SfS.lshB (h : SfS g B N D n va vb w W) (hB : B ≤ g) (dg : 4 < B) (hz : 0 < D) (hl : nw D ≤ 10000000) (s : Nat) (hs : s ≤ 1000000000) :
    Calls Tryz.prog 123 #[.pointer (some ⟨g, 2, none⟩), .pointer (some ⟨g, 2, none⟩), .int .u64 s] W fun e w' => e = .returned (.pointer (some ⟨g, 2, none⟩)) ∧ ∃ vb', SfS g B N (D * 2 ^ s) n va vb' w w' := by
  have hBW : B ≤ W.heap.size := Nat.le_trans hB (Nat.le_of_lt (get_lt h.row))
  refine (intLsh_same g 2 D s B _ false vb _ W h.row rfl rfl (by decide) h.ob (fun hc => absurd hc (by omega)) hl hs hBW).mono ?_
  rintro _ w' ⟨rfl, r, w1, k, rfl, hq⟩
  have q1 := hq.fr.row (show (W.drewN k).heap[g]? = _ from h.row) (fun hc he => h.ob.ne_row h.row (by decide) hc he.symm)
  have q2 := rowset (i := 3) r q1
  have q3 := rowset (i := 2) (.bool false) q2
  have o1 := (hq.own.away q1 (by decide) 3 r).away q2 (by decide) 2 (.bool false)
  have oa := (((h.oa.drewN k).frz hq.fr (fun a b he => h.ab a b he)).away q1 (by decide) 3 r).away q2 (by decide) 2 (.bool false)
  have b3 := bset (i := 2) (u := .bool false) (bset (i := 3) (u := r) (h.bl.trans (undrewN hq.below)) hB) hB
  have t1 := h.tw.drewN k
  have t2 : DivW w1 := by
    unfold DivW at t1 ⊢
    exact (hq.below.cell (p := ⟨4, 0, none⟩) dg).trans t1
  have tw : DivW ((w1.setCell ⟨g, 3, none⟩ r).setCell ⟨g, 2, none⟩ (.bool false)) := by
    unfold DivW at t2 ⊢
    rw [cell_other (by simp only; omega), cell_other (by simp only; omega)]
    exact t2
  refine ⟨rfl, r, ⟨q3, oa, o1, fun ha hc he => ?_, b3, tw⟩⟩
  rcases hq.at' hc with ⟨k1, k2⟩ | k1
  · exact h.ab ha k1 (by rw [← k2]; exact he)
  · have := (h.oa.lt ha).2
    have e : (W.drewN k).heap.size = W.heap.size := rfl
    omega
theorem SfS.norm (h : SfS g B N D n va vb w W) (hB : B ≤ g) (dg : 4 < B) (hD0 : 0 < D) (hN : nw N < 40) (hD : nw D < 40) :
    Calls Tryz.prog 124 #[.pointer (some ⟨g, 0, none⟩)] W fun e w' => e = .returned (.pointer (some ⟨g, 0, none⟩)) ∧ RatP w' B g (n && decide (0 < N)) (N / Nat.gcd N D) (D / Nat.gcd N D) ∧ Below B w w' := by
  refine (norm_full g B N D n va vb W h.row h.oa h.ob h.ab hD0 hN hD hB h.tw dg).mono ?_
  rintro _ w' ⟨rfl, hp⟩
  exact ⟨rfl, hp.rat, h.bl.trans hp.bl⟩
end
theorem ord_neg {b : Nat} (hb : b < 18446744073709551616) (h : obF b) : (FloatKind.f64.format.order b 0 == some .lt) = (obN b && decide (0 < obM b)) := by
  rw [f64_fmt]
  unfold Ieee.Format.order
  have h0 : Ieee.double.read 0 = .number false 0 (-1074) := by decide
  have hE := obE_bd h
  rw [read_fin hb h, h0]
  simp only [Ieee.Datum.order]
  rw [Int.min_eq_right hE.1, Int.sub_self, icmp, sgn_nat, sgn_nat]
  simp only [Nat.zero_mul, Bool.false_eq_true, if_false]
  have hp := Nat.two_pow_pos (obE b - -1074).toNat
  by_cases hM : obM b = 0
  · rw [hM, Nat.zero_mul]; simp
  · have hpos : 0 < obM b * 2 ^ (obE b - -1074).toNat := Nat.mul_pos (by omega) hp
    rw [decide_eq_true (show 0 < obM b by omega)]
    cases obN b
    · simp only [Bool.false_eq_true, if_false]
      rw [if_neg (by omega), if_neg (by omega)]; rfl
    · simp only [if_true]
      rw [if_pos (by omega)]; rfl
theorem or_hid {f : Nat} (hf : f < 4503599627370496) : bits .or .u64 (f : Int) 4503599627370496 = ((f + 4503599627370496 : Nat) : Int) := by
  rw [show (4503599627370496 : Int) = ((4503599627370496 : Nat) : Int) from rfl, bits_or_u64_nat _ _ (by omega) (by decide)]
  congr 1
  rw [Nat.or_comm, show (4503599627370496 : Nat) = 2 ^ 52 * 1 from rfl, ← Nat.two_pow_add_eq_or_of_lt (by omega)]
  omega
end Go.Proofs.YtbghmceglemppaaGreatDoor
