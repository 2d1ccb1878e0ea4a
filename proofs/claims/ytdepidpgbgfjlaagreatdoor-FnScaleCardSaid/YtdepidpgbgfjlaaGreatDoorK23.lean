/-
Texts of this proof, joined: MuC SbA VvH MuD. No condition.
-/
import Derived.Test.YtdepidpgbgfjlaaGreatDoorK09
import Derived.Test.YtdepidpgbgfjlaaGreatDoorK10
import Derived.Test.YtdepidpgbgfjlaaGreatDoorK16
import Derived.Test.YtdepidpgbgfjlaaGreatDoorK21
import Derived.Test.YtdepidpgbgfjlaaGreatDoorK22
import Derived.LaidEqlPtr
/-
The package's numbers: mulAddWW, mul into a new slice. No condition.
-/
namespace Go.Proofs.YtdepidpgbgfjlaaGreatDoor
open Go.RowKit

set_option maxRecDepth 100000 in
set_option maxHeartbeats 3200000 in
theorem mulAddWW_any (z x : Value) (zs : List Value) (X y r B : Nat) (w : World) (hz : Own w B 164 z zs) (hx : RO w x (wds X)) (ax : Al z x) (h0 : 0 < X) (hy0 : 0 < y) (hy : y < 18446744073709551616) (hr : r < 18446744073709551616) (hl : nw X ≤ 100000000) (hB : B ≤ w.heap.size) :
    Calls Tryz.prog 248 #[z, x, .int .u64 y, .int .u64 r] w fun e w' => ∃ q, e = .returned q ∧ NatR z q (X * y + r) B w w' := by
  have hS := hz.isS
  have hSx := hx.rw.isS
  obtain ⟨m, hm⟩ : ∃ m, m = nw X := ⟨_, rfl⟩
  have hLx : sLen x = m := by rw [hx.rw.len, wds_length, hm]
  have hmp : 0 < m := by rw [hm]; exact nw_pos h0
  have hcx : m ≤ sCap x := by have := hSx.le; omega
  rw [← hm] at hl
  have t1 : ((m : Int) == 0) = false := by rw [beq_eq_false_iff_ne]; omega
  have t2 : ((y : Int) == 0) = false := by rw [beq_eq_false_iff_ne]; omega
  have e1 : (m : Int) + 1 = ((m + 1 : Nat) : Int) := by omega
  obtain ⟨m1, hm1⟩ : ∃ m1, m1 = m + 1 := ⟨_, rfl⟩
  rw [← hm1] at e1
  have HM := Lib.hid hm
  have HM1 := Lib.hid hm1
  have HZ := Lib.hid hz
  have HX := Lib.hid hx
  have HAX := Lib.hid ax
  have HB := Lib.hid hB
  have hm1b : m1 ≤ 1000000000 := by omega
  have hm1p : 0 < m1 := by omega
  have hmm1 : m < m1 := by omega
  obtain ⟨S, hSS⟩ : ∃ S, S = X * y + r := ⟨_, rfl⟩
  have HSS := Lib.hid hSS
  rw [← hSS]
  clear hz hx ax hB hm hm1 hSS h0
  go_enter Tryz.func248, Tryz.ntmps248
  go_wp2_with fail
  refine (make_any z zs m1 B w HZ.out hm1b HB.out).mono ?_
  rintro _ w1 ⟨q, rfl, hmk⟩
  obtain ⟨os, hos, hor⟩ := hmk.own
  have hSr := hor.isS
  have hLr : sLen q = m1 := by rw [hor.len, hos]
  have hcr : m1 ≤ sCap q := by have := hSr.le; omega
  have hcr0 : 0 < sCap q := by omega
  have hBr := (hor.lt hcr0).1
  have hX1 := HX.out.below hmk.below
  have aX := hmk.al hS hm1p HAX.out HX.out.rw (by rw [wds_length, ← HM.out]; omega)
  have hSr0 : IsS (subS q 0 m) := subS_isS hSr (Nat.zero_le _) (by omega)
  have hsub := hor.sub (l := 0) (n := m) (Nat.zero_le _) (by omega)
  have hsl : ((os.take m).drop 0).length = m := by simp; omega
  have HCALL : Hid (Calls Tryz.prog 267 #[subS q 0 m, x, .int .u64 y, .int .u64 r] w1 fun e w' => ∃ c : Nat, e = .returned (.int .u64 c) ∧ (c < 18446744073709551616 ∧ S = wv (wdsN S m) + 18446744073709551616 ^ m * c) ∧ VvP (subS q 0 m) m B S w1 w') := Lib.hid (by
    have := mulAddVWW_any (subS q 0 m) x ((os.take m).drop 0) (wds X) y r B w1 hsub hX1.rw (by rw [hsl, wds_length, HM.out]) (by rw [(sub0 hSr).1, (sub0 hSr).2]; intro h; rw [aX h]; exact Nat.le_refl _) hy hr (by rw [hsl]; omega)
    rw [hsl, wv_wds, ← HSS.out] at this
    refine this.mono ?_
    rintro _ w' ⟨c, rfl, h1, h2⟩
    exact ⟨c, rfl, h1, h2⟩)
  have HFIN : Hid (∀ c w2, c < 18446744073709551616 → S = wv (wdsN S m) + 18446744073709551616 ^ m * c → VvP (subS q 0 m) m B S w1 w2 →
      (w2.frozen? ⟨sBlk q, sOff q + m, none⟩ = false ∧ ∃ u, w2.cell? ⟨sBlk q, sOff q + m, none⟩ = some u) ∧
      Calls Tryz.prog 174 #[q] (w2.setCell ⟨sBlk q, sOff q + m, none⟩ (.int .u64 (c : Int))) fun e w' => e = .returned (subS q 0 (nw S)) ∧ w2.setCell ⟨sBlk q, sOff q + m, none⟩ (.int .u64 (c : Int)) = w' ∧ NatR z (subS q 0 (nw S)) S B w (w2.setCell ⟨sBlk q, sOff q + m, none⟩ (.int .u64 (c : Int)))) := Lib.hid (fun c w2 hc hcS hvp => by
    have hpt := VvP.patch (l := 0) (n := m) hor (Nat.zero_le _) (by omega) (by rw [Nat.sub_zero]; exact hvp)
    rw [List.take_zero, List.nil_append, Nat.sub_zero, Nat.add_zero] at hpt
    obtain ⟨g1, g2, g3⟩ := hpt
    have hmm : m1 = m + 1 := HM1.out
    have hll : (cellsW (wdsN S m) ++ os.drop m).length = m1 := by rw [List.length_append, cellsW_length, wdsN_length, List.length_drop]; omega
    have gs := g1.set (i := m) (by rw [hll]; exact hmm1) (.int .u64 (c : Int))
    have es : (cellsW (wdsN S m) ++ os.drop m).set m (.int .u64 (c : Int)) = cellsW (wdsN S m ++ [c]) := by
      obtain ⟨u, hu⟩ : ∃ u, os.drop m = [u] := List.length_eq_one_iff.1 (by rw [List.length_drop]; omega)
      rw [hu, List.set_append_right _ _ (by rw [cellsW_length, wdsN_length]; exact Nat.le_refl _), cellsW_length, wdsN_length, Nat.sub_self, ← cellsW_append]
      rfl
    rw [es] at gs
    have hlt : ∀ e ∈ wdsN S m ++ [c], e < 18446744073709551616 := by
      intro e he
      rcases List.mem_append.1 he with h | h
      · exact wdsN_lt e h
      · rw [List.mem_singleton] at h; omega
    have hnum : wv (wdsN S m ++ [c]) = S := by rw [wv_snoc, wdsN_length, ← hcS]
    have hN := norm_any q _ _ (gs.rw' hlt) (by simp [wdsN_length]; omega)
    have hT := gs.takeW hlt
    rw [hnum] at hN hT
    have hb3 : Below B w1 (w2.setCell ⟨sBlk q, sOff q + m, none⟩ (.int .u64 (c : Int))) := bset g2 hBr
    have hf3 : Only (sBlk q) w1 (w2.setCell ⟨sBlk q, sOff q + m, none⟩ (.int .u64 (c : Int))) := ((g3.mono (Nat.le_refl _) (Nat.le_succ _)).set (lo := sOff q) (hi := sOff q + m + 1) (i := sOff q + m) (by omega) (by omega) _).only
    refine ⟨⟨g1.frozen hcr0 _, _, g1.cell (List.getElem?_eq_getElem (by rw [hll]; exact hmm1))⟩, hN.mono (fun e w' h => ⟨h.1, h.2, hT, (hmk.below.mono HB.out).trans hb3, hmk.fr hS hm1p hb3.size hf3, fun hc => hmk.atS hS hSr hc⟩)⟩)
  clear hor hos hmk hX1 aX hsub hsl
  go_wp2_with fail
  refine HCALL.out.mono ?_
  rintro _ w2 ⟨c, rfl, ⟨hc, hcS⟩, hvp⟩
  obtain ⟨⟨fz, u, cu⟩, hq⟩ := HFIN.out c w2 hc hcS hvp
  have HQ := Lib.hid hq
  clear hcS hvp hq
  go_wp2_with fail
  refine HQ.out.mono ?_
  rintro _ _ ⟨rfl, rfl, hn⟩
  have Q := Lib.hid hn
  have hSq := hn.own.isS
  clear hn
  go_wp2
  go_ret
  exact ⟨_, rfl, Q.out⟩
/-- The variable that says from where on mul parts its factors. -/
def KarW (w : World) : Prop := w.cell? ⟨4, 0, none⟩ = some (.int .i64 40)
theorem KarW.below {w w' : World} (h : KarW w) (hb : Below w.heap.size w w') : KarW w' := by
  have hlt := World.block_lt_of_cell? w _ h
  unfold KarW
  rw [hb.cell (p := ⟨4, 0, none⟩) hlt]; exact h
theorem KarW.drewN {w : World} (h : KarW w) (n : Nat) : KarW (w.drewN n) := h
set_option maxRecDepth 100000 in
set_option maxHeartbeats 3200000 in
theorem nmul_ge {pk : Option Addr} (x y : Value) (X Y : Nat) (w : World) (hx : RO w x (wds X)) (hy : RO w y (wds Y)) (hnm : nw Y ≤ nw X) (hk : nw Y < 40) (hl : nw X ≤ 100000000) (hK : KarW w) :
    Calls Tryz.prog 213 #[.slice none 0 0, .pointer pk, x, y] w fun e w' => ∃ r, e = .returned r ∧ Own w' w.heap.size 164 r (cellsW (wds (X * Y))) ∧ Below w.heap.size w w' := by
  have hSx := hx.rw.isS
  have hSy := hy.rw.isS
  have hSn := IsS.nil
  obtain ⟨m, hm⟩ : ∃ m, m = nw X := ⟨_, rfl⟩
  obtain ⟨n, hn⟩ : ∃ n, n = nw Y := ⟨_, rfl⟩
  have hLx : sLen x = m := by rw [hx.rw.len, wds_length, hm]
  have hLy : sLen y = n := by rw [hy.rw.len, wds_length, hn]
  rw [← hm] at hnm hl
  rw [← hn] at hnm hk
  have t1 : decide ((m : Int) < (n : Int)) = false := decide_eq_false (by omega)
  rcases Nat.eq_zero_or_pos n with hn0 | hn0
  · have hY0 : Y = 0 := nw_eq_zero.1 (by omega)
    have Q : Hid (Own w w.heap.size 164 (.slice none 0 0) (cellsW (wds (X * Y))) ∧ Below w.heap.size w w) := Lib.hid (by
      rw [hY0, Nat.mul_zero]; exact ⟨.nil _ _ _, Below.refl _ _⟩)
    subst hn0
    clear hx hy hm hn hY0 hK hnm
    by_cases hm0 : m = 0
    · subst hm0
      go_enter Tryz.func213, Tryz.ntmps213
      go_wp2
      go_ret
      exact ⟨_, rfl, Q.out⟩
    · have t2 : ((m : Int) == 0) = false := by rw [beq_eq_false_iff_ne]; omega
      have t3 : decide ((m : Int) < 0) = false := decide_eq_false (by omega)
      clear hm0
      go_enter Tryz.func213, Tryz.ntmps213
      go_wp2
      go_ret
      exact ⟨_, rfl, Q.out⟩
  have t2 : ((m : Int) == 0) = false := by rw [beq_eq_false_iff_ne]; omega
  have t3 : ((n : Int) == 0) = false := by rw [beq_eq_false_iff_ne]; omega
  have hX0 : 0 < X := by rcases Nat.eq_zero_or_pos X with h | h; (rw [h, nw_zero] at hm; omega); exact h
  have hY0 : 0 < Y := by rcases Nat.eq_zero_or_pos Y with h | h; (rw [h, nw_zero] at hn; omega); exact h
  by_cases hn1 : n = 1
  · have hYl : Y < 18446744073709551616 := by have := lt_nw Y; rw [← hn, hn1, Nat.pow_one] at this; exact this
    have cy := hy.rw.cell 0 (by rw [wds_length, ← hn, hn1]; decide)
    rw [wds_getD, wdg_zero_eq, Nat.mod_eq_of_lt hYl, Nat.add_zero] at cy
    have HC := Lib.hid (mulAddWW_any (.slice none 0 0) x [] X Y 0 w.heap.size w (.nil _ _ _) hx (Al.nil x) hX0 hY0 hYl (by decide) (by rw [← hm]; exact hl) (Nat.le_refl _))
    rw [Nat.add_zero] at HC
    subst hn1
    clear hx hy hm hn hK hX0 hY0 hnm
    have t1 : decide ((m : Int) < 1) = false := t1
    go_enter Tryz.func213, Tryz.ntmps213
    go_wp2_with fail
    refine HC.out.mono ?_
    rintro _ w1 ⟨q, rfl, h1, h2, -⟩
    have Q := Lib.hid (And.intro h1 h2)
    have hSq := h1.isS
    clear h1 h2
    go_wp2
    go_ret
    exact ⟨_, rfl, Q.out⟩
  · have t4 : ((n : Int) == 1) = false := by rw [beq_eq_false_iff_ne]; omega
    obtain ⟨N, hN⟩ : ∃ N, N = m + n := ⟨_, rfl⟩
    have e1 : (m : Int) + (n : Int) = (N : Int) := by omega
    have t5 : decide ((n : Int) < 40) = true := decide_eq_true (by omega)
    have t5' : decide (n < 40) = true := decide_eq_true (by omega)
    have kc : w.cell? ⟨4, 0, none⟩ = some (.int .i64 40) := hK
    have HX := Lib.hid hx
    have HY := Lib.hid hy
    have HM := Lib.hid hm
    have HN := Lib.hid hn
    have HNN := Lib.hid hN
    have HK := Lib.hid hK
    have HMP : Hid (0 < m) := Lib.hid (by omega)
    have HAX := Lib.hid (fun W => alias_nil x W hSx)
    have HAY := Lib.hid (fun W => alias_nil y W hSy)
    have hNb : N ≤ 1000000000 := by omega
    have hNp : 0 < N := by omega
    clear hx hy hm hn hK hn1 hN
    go_enter Tryz.func213, Tryz.ntmps213
    go_wp2_with fail
    refine (HAX.out _).mono ?_
    rintro _ _ ⟨rfl, n1, rfl⟩
    go_wp2_with fail
    refine (HAY.out _).mono ?_
    rintro _ _ ⟨rfl, n2, rfl⟩
    go_wp2_with fail
    refine (make_nil N _ hNb).mono ?_
    rintro _ w1 ⟨z, rfl, ho, hb, hcz⟩
    have hb1 : Below w.heap.size w w1 := undrewN (n := n1 + n2) hb
    have hSz := ho.isS
    have hLz : sLen z = N := by rw [ho.len]; simp
    have hX1 := HX.out.below hb1
    have hY1 := HY.out.below hb1
    have hK1 : KarW w1 := HK.out.below hb1
    have kc1 : w1.cell? ⟨4, 0, none⟩ = some (.int .i64 40) := hK1
    have hcz0 : 0 < sCap z := by have := hSz.le; omega
    have hzB : w.heap.size ≤ sBlk z := (ho.lt hcz0).1
    have hnx : sBlk x ≠ sBlk z := by
      have := HX.out.rw.ri.lt (by rw [ints_length, wds_length, ← HM.out]; exact HMP.out)
      omega
    have hny : sBlk y ≠ sBlk z := by
      have := HY.out.rw.ri.lt (by rw [ints_length, wds_length, ← HN.out]; exact hn0)
      omega
    have HB := Lib.hid (basicMul_any z x y _ (wds X) (wds Y) w.heap.size w1 ho hX1.rw hY1.rw (by rw [wds_length, wds_length, ← HM.out, ← HN.out, ← HNN.out]; simp) hnx hny (by rw [wds_length, ← HM.out]; exact HMP.out) (by simp; exact hNb))
    rw [List.length_replicate, wv_wds, wv_wds] at HB
    have HB1 := Lib.hid hb1
    have hXY : X * Y < 18446744073709551616 ^ N := by
      rw [HNN.out, Nat.pow_add, HM.out, HN.out]
      exact Nat.mul_lt_mul'' (lt_nw X) (lt_nw Y)
    have HXY := Lib.hid hXY
    clear ho hb hb1 hX1 hY1 hK1 hcz hnx hny hXY kc
    go_wp2_with fail
    refine HB.out.mono ?_
    rintro _ w2 ⟨rfl, ho2, hb2, -⟩
    have HNM := Lib.hid (norm_any z _ w2 (ho2.rw' wdsN_lt) (by rw [wdsN_length]; exact hNb))
    have hT := ho2.takeW wdsN_lt
    rw [wv_wdsN_lt HXY.out] at HNM hT
    have Q := Lib.hid (And.intro hT (HB1.out.trans hb2))
    have hSq := hT.isS
    clear ho2 hb2 hT
    go_wp2_with fail
    refine HNM.out.mono ?_
    rintro _ _ ⟨rfl, rfl⟩
    go_wp2
    go_ret
    exact ⟨_, rfl, Q.out⟩
set_option maxRecDepth 100000 in
theorem nmul_any {pk : Option Addr} (x y : Value) (X Y : Nat) (w : World) (hx : RO w x (wds X)) (hy : RO w y (wds Y)) (hk : nw X < 40 ∨ nw Y < 40) (hl : nw X ≤ 100000000) (hl2 : nw Y ≤ 100000000) (hK : KarW w) :
    Calls Tryz.prog 213 #[.slice none 0 0, .pointer pk, x, y] w fun e w' => ∃ r, e = .returned r ∧ Own w' w.heap.size 164 r (cellsW (wds (X * Y))) ∧ Below w.heap.size w w' := by
  by_cases h : nw Y ≤ nw X
  · exact nmul_ge x y X Y w hx hy h (by omega) hl hK
  · have HR := Lib.hid (nmul_ge (pk := pk) y x Y X w hy hx (by omega) (by omega) hl2 hK)
    have hSx := hx.rw.isS
    have hSy := hy.rw.isS
    have hLx : sLen x = nw X := by rw [hx.rw.len, wds_length]
    have hLy : sLen y = nw Y := by rw [hy.rw.len, wds_length]
    obtain ⟨m, hm⟩ : ∃ m, m = nw X := ⟨_, rfl⟩
    obtain ⟨n, hn⟩ : ∃ n, n = nw Y := ⟨_, rfl⟩
    rw [← hm] at hLx h
    rw [← hn] at hLy h
    rw [Nat.mul_comm] at HR
    have t1 : decide ((m : Int) < (n : Int)) = true := decide_eq_true (by omega)
    have t1' : decide (m < n) = true := decide_eq_true (by omega)
    clear hx hy hm hn h hK
    go_enter Tryz.func213, Tryz.ntmps213
    go_wp2_with fail
    refine HR.out.mono ?_
    rintro _ w1 ⟨r, rfl, h⟩
    have Q := Lib.hid h
    have hSq := h.1.isS
    clear h
    go_wp2
    go_ret
    exact ⟨_, rfl, Q.out⟩
end Go.Proofs.YtdepidpgbgfjlaaGreatDoor
/-
Floats: setBits64, SetInt64, SetUint64 of a new receiver of any precision, by values. No condition.
-/
namespace Go.Proofs.YtdepidpgbgfjlaaGreatDoor
open Go.RowKit

/-- What becomes of a Float that holds a value, exactly, and is rounded where its precision is less than that of the words. -/
theorem fval_trans {w : World} {B b q m : Nat} {neg : Bool} {N M : Nat} {X Y : Int} (h : FVal w B b q m (rA q m neg 0 N) 1 neg (rQ q m neg 0 N) (X + rk q N)) (hN : 0 < N) (hd : deq N X M Y) :
    FVal w B b q m (rA q m neg 0 M) 1 neg (rQ q m neg 0 M) (Y + rk q M) := by
  obtain ⟨l1, l2⟩ := rnd_deq (p := q) (m := m) neg hN hd
  obtain ⟨v', e', k1, k2⟩ := h
  obtain ⟨n1, ws', n2, n3, n4⟩ := k2 rfl
  refine ⟨v', e', by rw [← l2]; exact k1, fun _ => ⟨l1.pos n1, ws', n2, n3, n4.trans l1⟩⟩
end Go.Proofs.YtdepidpgbgfjlaaGreatDoor
/-
fnorm with its answer. No condition.
-/
namespace Go.Proofs.YtdepidpgbgfjlaaGreatDoor
open Go.RowKit

set_option maxRecDepth 100000 in
set_option maxHeartbeats 800000 in
theorem fnorm_val (v : Value) (M B : Nat) (w : World) (ho : Own w B 164 v (cellsW (wds M))) (h0 : 0 < M) (hl : nw M ≤ 1000000000) :
    Calls Tryz.prog 169 #[v] w fun e w' => e = .returned (.int .i64 ((64 * nw M - bl M : Nat) : Int)) ∧ Own w' B 164 v (cellsW (topN M)) ∧ Below B w w' ∧ Only (sBlk v) w w' := by
  have hS := ho.isS
  have hL : sLen v = nw M := by rw [ho.len, cellsW_length, wds_length]
  have hp := nw_pos h0
  have e := bl_words h0
  have hc := (ho.rw' (wds_all M)).cell (nw M - 1) (by rw [wds_length]; omega)
  rw [wds_getD] at hc
  have ht := wdg_lt M (nw M - 1)
  have htp : 0 < wdg M (nw M - 1) := Nat.pos_of_ne_zero (wdg_last h0)
  have HTN : Hid (topN M = wdsN (M * 2 ^ (64 * nw M - bl M)) (nw M)) := Lib.hid rfl
  obtain ⟨j, hj⟩ : ∃ j, nw M = j + 1 := ⟨nw M - 1, by omega⟩
  obtain ⟨t, htt⟩ : ∃ t, t = wdg M (nw M - 1) := ⟨_, rfl⟩
  rw [← htt] at e hc ht htp
  have hbt := bl_le64 ht
  have hbp := bl_pos htp
  have es : 64 * nw M - bl M = 64 - bl t := by rw [e]; omega
  rw [es] at HTN ⊢
  obtain ⟨s, hs⟩ : ∃ s, s = 64 - bl t := ⟨_, rfl⟩
  rw [← hs] at HTN ⊢
  have hs64 : s < 64 := by omega
  rw [hj, Nat.add_sub_cancel] at hc
  rw [hj] at hL hl
  have HO := Lib.hid ho
  have HJ := Lib.hid hj
  have HS := Lib.hid hs
  have HT := Lib.hid ht
  clear ho h0 hp e htp hbt hbp es hs hj ht htt
  rcases Nat.eq_zero_or_pos s with hs0 | hs0
  · subst hs0
    go_enter Tryz.func169, Tryz.ntmps169
    go_wp2_with fail
    refine (nlz_any t w HT.out).mono ?_
    rintro _ _ ⟨rfl, rfl⟩
    rw [← HS.out]
    go_wp2
    go_ret
    refine ⟨rfl, ?_, Below.refl _ _, Only.refl _ _⟩
    rw [HTN.out, Nat.pow_zero, Nat.mul_one, wdsN_nw]
    exact HO.out
  · have t1 : decide (0 < s) = true := decide_eq_true hs0
    go_enter Tryz.func169, Tryz.ntmps169
    go_wp2_with fail
    refine (nlz_any t w HT.out).mono ?_
    rintro _ _ ⟨rfl, rfl⟩
    rw [← HS.out]
    go_wp2_with fail
    refine (lshVU_any v (wds M) M s B w HO.out (wds_all M) (wv_wds M) (by rw [wds_length, HJ.out]; omega) (by rw [wds_length, HJ.out]; exact hl) hs0 hs64).mono ?_
    rintro _ w1 ⟨rfl, h1, h2, h3⟩
    rw [wds_length, ← HTN.out] at h1
    have H1 := Lib.hid h1
    clear h1
    go_wp2
    go_ret
    exact ⟨rfl, H1.out, h2, h3⟩
end Go.Proofs.YtdepidpgbgfjlaaGreatDoor
/-
Floats: umul of a new receiver. No condition.
-/
namespace Go.Proofs.YtdepidpgbgfjlaaGreatDoor
open Go.RowKit

theorem bl_prod {X Y a b : Nat} (ha : 0 < a) (hb : 0 < b) (hX : bl X = a) (hY : bl Y = b) : a + b - 1 ≤ bl (X * Y) ∧ bl (X * Y) ≤ a + b := by
  have hX0 : 0 < X := by rcases Nat.eq_zero_or_pos X with h | h; (rw [h, bl_zero] at hX; omega); exact h
  have hY0 : 0 < Y := by rcases Nat.eq_zero_or_pos Y with h | h; (rw [h, bl_zero] at hY; omega); exact h
  have hX1 := bl_ge hX0
  have hY1 := bl_ge hY0
  have hX2 := lt_bl X
  have hY2 := lt_bl Y
  rw [hX] at hX1 hX2
  rw [hY] at hY1 hY2
  have h1 := Nat.mul_le_mul hX1 hY1
  have h2 := Nat.mul_lt_mul'' hX2 hY2
  rw [← Nat.pow_add] at h1 h2
  refine ⟨?_, bl_le h2⟩
  have h3 := lt_bl (X * Y)
  have h4 := (Nat.pow_lt_pow_iff_right (a := 2) (by decide)).1 (Nat.lt_of_le_of_lt h1 h3)
  omega
theorem deq_mul {X Y M N : Nat} {ex ey E F : Int} (h1 : deq X ex M E) (h2 : deq Y ey N F) : deq (X * Y) (ex + ey) (M * N) (E + F) := by
  obtain ⟨i, j, a1, a2⟩ := h1
  obtain ⟨k, l, b1, b2⟩ := h2
  refine ⟨i + k, j + l, ?_, by omega⟩
  rw [Nat.pow_add, Nat.pow_add, show X * Y * (2 ^ i * 2 ^ k) = (X * 2 ^ i) * (Y * 2 ^ k) by ac_rfl, a1, b1]
  ac_rfl
theorem eqlF (w : World) {b c : Nat} {cb cc : Array Value} {tb tc : TypeId} (hne : b ≠ c) (hb : w.heap[b]? = some (.cells cb tb (0, 0))) (hc : w.heap[c]? = some (.cells cc tc (0, 0))) :
    (binOp .eql 103 (.pointer (some ⟨b, 0, none⟩)) (.pointer (some ⟨c, 0, none⟩))).run Tryz.prog w = .ok (.bool false) w := by
  obtain ⟨j, hj, hz⟩ := info_size sizeF
  exact run_eql_ptr_other w Tryz.underlying103 hj (by omega) (by simp) hb hc
set_option maxRecDepth 100000 in
set_option maxHeartbeats 6400000 in
theorem umul_new (b B cx cy p m px mx py my f0 : Nat) (a0 e0 ax ay ex ey : Int) (nz nx ny : Bool) (vx vy : Value) (xs ys : List Nat) (w : World) (h : FltR w b p m a0 f0 nz (.slice none 0 0) e0) (hB : B ≤ b) (hx : FltR w cx px mx ax 1 nx vx ex) (hy : FltR w cy py my ay 1 ny vy ey) {Bx By : Nat} (hox : Own w Bx 164 vx (cellsW xs)) (hoy : Own w By 164 vy (cellsW ys))
    (hgx : Good xs px) (hgy : Good ys py) (hbx : b ≠ cx) (hby : b ≠ cy) (hxy : cx ≠ cy) (hp0 : 0 < p) (hp : p ≤ 64000000) (hm : m ≤ 5) (hlx : xs.length ≤ 39) (hly : ys.length ≤ 39) (hex1 : -1100000000 ≤ ex) (hex2 : ex ≤ 1100000000) (hey1 : -1100000000 ≤ ey) (hey2 : ey ≤ 1100000000) (hd1 : ex + ey ≤ 1800000000) (hd2 : -1800000000 ≤ ex + ey) (hK : KarW w) :
    Calls Tryz.prog 158 #[.pointer (some ⟨b, 0, none⟩), .pointer (some ⟨cx, 0, none⟩), .pointer (some ⟨cy, 0, none⟩)] w fun e' w' => e' = .returned (.tuple #[]) ∧ FVal w' B b p m (rA p m nz 0 (wv xs * wv ys)) 1 nz (rQ p m nz 0 (wv xs * wv ys)) ((ex - 64 * (xs.length : Int)) + (ey - 64 * (ys.length : Int)) + rk p (wv xs * wv ys)) ∧ Below B w w' := by
  obtain ⟨c0, c1, c2, c3, c4, c5, c6⟩ := h.cells
  obtain ⟨f0', f1', f2', f3', f4', f5', f6'⟩ := h.free
  obtain ⟨x0, x1, x2, x3, x4, x5, x6⟩ := hx.cells
  obtain ⟨y0, y1, y2, y3, y4, y5, y6⟩ := hy.cells
  have hSx := hox.isS
  have hSy := hoy.isS
  have hbs := h.lt
  have HBW : Hid (B ≤ w.heap.size) := Lib.hid (by omega)
  have ROX := Lib.hid (show RO w vx (wds (wv xs)) by rw [← hgx.wds]; exact hox.ro hgx.2.2.1)
  have ROY := Lib.hid (show RO w vy (wds (wv ys)) by rw [← hgy.wds]; exact hoy.ro hgy.2.2.1)
  have hblx := hgx.bl
  have hbly := hgy.bl
  have hxl0 := hgx.1
  have hyl0 := hgy.1
  have hnwx : nw (wv xs) = xs.length := by rw [nw_bl hgx.posv, hblx]; omega
  have hnwy : nw (wv ys) = ys.length := by rw [nw_bl hgy.posv, hbly]; omega
  have hbp := bl_prod (by omega) (by omega) hblx hbly
  obtain ⟨S, hSS⟩ : ∃ S, S = wv xs * wv ys := ⟨_, rfl⟩
  have hS0 : 0 < S := by rw [hSS]; exact Nat.mul_pos hgx.posv hgy.posv
  rw [← hSS] at hbp ⊢
  have hnS : nw S = xs.length + ys.length := by rw [nw_bl hS0]; omega
  obtain ⟨E, hE⟩ : ∃ E : Int, E = (ex - 64 * (xs.length : Int)) + (ey - 64 * (ys.length : Int)) := ⟨_, rfl⟩
  rw [← hE]
  have HFIN : Hid (∀ (w7 : World) (r2 : Value) (x : Int), FltR w7 b p m a0 f0 nz r2 e0 → Own w7 B 164 r2 (cellsW (topN S)) → -1900000000 ≤ x → x ≤ 1900000000 → x - 64 * ((topN S).length : Int) = E - ((64 * nw S - bl S : Nat) : Int) →
      Calls Tryz.prog 170 #[.pointer (some ⟨b, 0, none⟩), .int .i64 x, .int .u64 0] w7 fun e' w' => e' = .returned (.tuple #[]) ∧ FVal w' B b p m (rA p m nz 0 S) 1 nz (rQ p m nz 0 S) (E + rk p S) ∧ Below B w7 w') := Lib.hid (fun w7 r2 x h7 o7 hx1 hx2 hxe => by
    have hg : Good (topN S) (64 * nw S) := topN_good hS0 (by have := nw_bl hS0; omega) (by omega)
    have hr := setExp_any b B p m f0 0 a0 e0 x nz r2 (topN S) w7 h7 hB o7 hg.2.2.1 hg.1 hg.2.2.2.1 hg.2.1 hp0 hp hm (by decide) (.inl rfl) (by omega) (by omega)
    rw [show ((0 : Nat) : Int) = 0 from rfl] at hr
    refine hr.mono ?_
    rintro _ w' ⟨rfl, hR⟩
    have F := hR.val (rQ_pos nz 0 hp0 hg.posv)
    obtain ⟨_, _, _, -, -, -, -, hb8⟩ := hR
    refine ⟨rfl, ?_, hb8⟩
    refine fval_trans F hg.posv ?_
    rw [hxe, topN_wv hS0]
    exact ⟨0, 64 * nw S - bl S, by simp, by omega⟩)
  have HMUL : Hid (∀ W : World, RO W vx (wds (wv xs)) → RO W vy (wds (wv ys)) → KarW W → Calls Tryz.prog 213 #[.slice none 0 0, .pointer none, vx, vy] W fun e w' => ∃ r, e = .returned r ∧ Own w' W.heap.size 164 r (cellsW (wds S)) ∧ Below W.heap.size W w') := Lib.hid (fun W k1 k2 k3 => by
    rw [hSS]; exact nmul_any vx vy (wv xs) (wv ys) W k1 k2 (.inl (by omega)) (by omega) (by omega) k3)
  obtain ⟨e, he⟩ : ∃ e : Int, e = ex + ey := ⟨_, rfl⟩
  have he' : ex + ey = e := he.symm
  have heb : -1800000000 ≤ e ∧ e ≤ 1800000000 := by omega
  have hwe : IntKind.i64.wrap (ex + ey) = e := by rw [he']; exact wrap_i64_id (by omega) (by omega)
  have hpe : ∀ k, (binOp .eql 103 (.pointer (some ⟨cx, 0, none⟩)) (.pointer (some ⟨cy, 0, none⟩))).run Tryz.prog (w.drewN k) = .ok (.bool false) (w.drewN k) := fun k => eqlF (w.drewN k) hxy (hx.drewN k) (hy.drewN k)
  have hn1 : ¬ b = cx := hbx
  have hn1' : ¬ cx = b := fun h => hn1 h.symm
  have hn2 : ¬ b = cy := hby
  have hn2' : ¬ cy = b := fun h => hn2 h.symm
  have hn3 : ¬ cx = cy := hxy
  have hn3' : ¬ cy = cx := fun h => hn3 h.symm
  have hnp := nw_pos hS0
  have hnb := nw_bl hS0
  obtain ⟨L, hL⟩ : ∃ L, L = nw S := ⟨_, rfl⟩
  obtain ⟨sh, hsh⟩ : ∃ sh, sh = 64 * nw S - bl S := ⟨_, rfl⟩
  have hLL : L ≤ 78 := by omega
  have hshb : sh ≤ 64 * L := by omega
  obtain ⟨x, hx'⟩ : ∃ x : Int, x = e - (sh : Int) := ⟨_, rfl⟩
  have hxe : e - (sh : Int) = x := hx'.symm
  have hxb : -1900000000 ≤ x ∧ x ≤ 1900000000 := by omega
  have HXW : Hid (IntKind.i64.wrap (e - (sh : Int)) = x) := Lib.hid (by rw [hxe]; exact wrap_i64_id (by omega) (by omega))
  have HXE : Hid (x - 64 * ((topN S).length : Int) = E - ((64 * nw S - bl S : Nat) : Int)) := Lib.hid (by rw [topN_length, ← hsh, ← hL]; omega)
  have HSH := Lib.hid hsh
  have HL := Lib.hid hL
  have HS0 := Lib.hid hS0
  have HH := Lib.hid h
  have HK := Lib.hid hK
  clear h hx hy hox hoy hgx hgy hlx hly hblx hbly hxl0 hyl0 hnwx hnwy hbp hSS hnS hE he hL hsh hx' hK hS0 hnb
  go_enter Tryz.func158, Tryz.ntmps158
  go_wp2_with fail
  go_quiet (fail)
  generalize nq = n1
  go_wp2_with fail
  (refine wp_region_hoist 13 (by kernel_rfl) (by kernel_rfl) ⟨fun _ _ _ h => (by first | exact (hQp _ _ _ h).elim | cases h.2.1 | (obtain ⟨_, h3, _⟩ := h.2; cases h3)), fun _ _ h => (by first | exact (hQo _ _ h).elim | cases h.1 | (obtain ⟨_, h3, _⟩ := h; cases h3))⟩ ?_; simp only [List.take_succ_cons, List.take_zero, List.drop_succ_cons, List.drop_zero]; (repeat (go_big_quiet_step (fail))); refine wpQuiet_nil ?_; rintro _ ⟨nq, rfl⟩)
  go_wp2_with fail
  refine (HMUL.out _ (ROX.out.below (undrewN' (Below.refl _ _))) (ROY.out.below (undrewN' (Below.refl _ _))) (HK.out.drewN _)).mono ?_
  rintro _ w1 ⟨r, rfl, ho1, hb1⟩
  have hb1' : Below w.heap.size w w1 := undrewN hb1
  have hS1 := ho1.isS
  have hH1 := HH.out.below hb1'
  obtain ⟨q0, q1, q2, q3, q4, q5, q6⟩ := hH1.cells
  obtain ⟨g0, g1, g2, g3, g4, g5, g6⟩ := hH1.free
  have hO1 : Own w1 B 164 r (cellsW (wds S)) := ho1.mono (show B ≤ _ from HBW.out)
  have hR2 := hH1.s5 r
  have hO2 := hH1.own hO1 5 r
  have HB2 := Lib.hid (bset (i := 5) (u := r) (hb1'.mono HBW.out) hB)
  have hLr : sLen r = L := by rw [hO2.len, cellsW_length, wds_length, HL.out]
  have hLp : 0 < L := by have := HL.out; omega
  have tl : ((L : Int) == 0) = false := by rw [beq_eq_false_iff_ne]; omega
  obtain ⟨k0, k1, k2, k3, k4, k5, k6⟩ := hR2.cells
  have HR2 := Lib.hid hR2
  have HO2 := Lib.hid hO2
  clear hb1 hb1' hH1 hO1 hR2 hO2 ho1 c0 c1 c2 c3 c4 c5 c6 f0' f1' f2' f3' f4' f5' f6' x0 x1 x2 x3 x4 x5 x6 y0 y1 y2 y3 y4 y5 y6
  go_wp2_with fail
  refine (fnorm_val r S B _ HO2.out HS0.out (by rw [← HL.out]; omega)).mono ?_
  rintro _ w7 ⟨rfl, ho7, hb7, hon7⟩
  rw [← HSH.out]
  have hne7 := HO2.out.ne_row HR2.out (by decide) (by have := HO2.out.isS.le; rw [hLr] at this; omega)
  have hR7 : FltR w7 b p m a0 f0 nz r e0 := (hon7 b HR2.out.lt hne7.symm).trans HR2.out
  have H7 := Lib.hid hR7
  have O7 := Lib.hid ho7
  have B7 := Lib.hid (HB2.out.trans hb7)
  clear hR7 ho7 hb7 hon7 hne7 q0 q1 q2 q3 q4 q5 q6 g0 g1 g2 g3 g4 g5 g6 k0 k1 k2 k3 k4 k5 k6
  go_wp2_with fail
  refine (HFIN.out w7 r x H7.out O7.out hxb.1 hxb.2 HXE.out).mono ?_
  rintro _ w8 ⟨rfl, hF8, hb8⟩
  have F8 := Lib.hid hF8
  have B8 := Lib.hid (B7.out.trans hb8)
  clear hF8 hb8
  go_wp2
  go_end0
  exact ⟨rfl, F8.out, B8.out⟩
theorem umul_at (b B B1 B2 g1 g2 p m p1 m1 p2 m2 f0 M N : Nat) (a0 e0 E F : Int) (nz n1 n2 : Bool) (w : World) (h : FltR w b p m a0 f0 nz (.slice none 0 0) e0) (hB : B ≤ b) (h1 : FloatAt w B1 g1 p1 m1 1 n1 M E) (h2 : FloatAt w B2 g2 p2 m2 1 n2 N F)
    (hM : 0 < M) (hN : 0 < N) (hp1 : bl M ≤ p1) (hp2 : bl N ≤ p2) (hbM : bl M ≤ 2400) (hbN : bl N ≤ 2400) (hE : -1050000000 ≤ E ∧ E ≤ 1050000000) (hF : -1050000000 ≤ F ∧ F ≤ 1050000000) (hEF : -1700000000 ≤ E + F ∧ E + F ≤ 1700000000) (hb1 : b ≠ g1) (hb2 : b ≠ g2) (hg : g1 ≠ g2) (hp0 : 0 < p) (hp : p ≤ 64000000) (hm : m ≤ 5) (hK : KarW w) :
    Calls Tryz.prog 158 #[.pointer (some ⟨b, 0, none⟩), .pointer (some ⟨g1, 0, none⟩), .pointer (some ⟨g2, 0, none⟩)] w fun e' w' => e' = .returned (.tuple #[]) ∧
      FVal w' B b p m (rA p m nz 0 (M * N)) 1 nz (rQ p m nz 0 (M * N)) (E + F + rk p (M * N)) ∧ Below B w w' := by
  obtain ⟨r, x, k1, k2, k3, k4, k5, k6⟩ := h1.open hM hp1 (by omega)
  obtain ⟨s, y, l1, l2, l3, l4, l5, l6⟩ := h2.open hN hp2 (by omega)
  have hnM := nw_bl hM
  have hnN := nw_bl hN
  refine (umul_new b B g1 g2 p m p1 m1 p2 m2 f0 a0 e0 0 0 x y nz n1 n2 r s (topN M) (topN N) w h hB k1 l1 k2 l2 k3 l3 hb1 hb2 hg hp0 hp hm (by rw [topN_length]; omega) (by rw [topN_length]; omega) (by omega) (by omega) (by omega) (by omega) (by omega) (by omega) hK).mono ?_
  rintro _ w' ⟨rfl, q, hb⟩
  refine ⟨rfl, ?_, hb⟩
  exact fval_trans q (Nat.mul_pos k3.posv l3.posv) (deq_mul k6 l6)
end Go.Proofs.YtdepidpgbgfjlaaGreatDoor
