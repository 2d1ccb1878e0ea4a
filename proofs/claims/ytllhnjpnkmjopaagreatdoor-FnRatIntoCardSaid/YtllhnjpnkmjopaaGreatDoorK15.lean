/-
Texts of this proof, joined: MuX DdG DdH. No condition.
-/
import Derived.Test.YtllhnjpnkmjopaaGreatDoorK12
import Derived.Test.YtllhnjpnkmjopaaGreatDoorK14
namespace Go.Proofs.YtllhnjpnkmjopaaGreatDoor
open Go.RowKit

theorem Vv.srcd {v x : Value} {n B i Z : Nat} {xs : List Nat} {w wr : World} (h : Vv v n B i Z w wr) (hx : RW w x xs) (hal : sBlk x = sBlk v → sOff x + xs.length ≤ sOff v) {j : Nat} (hj : j < xs.length) : wr.cell? ⟨sBlk x, sOff x + j, none⟩ = some (.int .u64 ((xs.getD j 0 : Nat) : Int)) := by
  obtain ⟨os, ds, h1, h2, h3, h4, h5, h6, h7, h8⟩ := h
  exact h8.cell (hx.cell j hj) (fun hb => by have := hal hb; omega)
set_option maxRecDepth 100000 in
set_option maxHeartbeats 1600000 in
theorem mulAddVWW_g_dis (v x : Value) (os : List Value) (xs : List Nat) (y r B : Nat) (w : World) (ho : Own w B 116 v os) (hx : RW w x xs) (hlx : xs.length = os.length)
    (hax : sBlk x = sBlk v → sOff x + xs.length ≤ sOff v) (hy : y < 18446744073709551616) (hr : r < 18446744073709551616) (hl : os.length ≤ 1000000000) :
    Calls Tryz.prog 226 #[v, x, .int .u64 y, .int .u64 r] w fun e w' => ∃ c : Nat, e = .returned (.int .u64 c) ∧ (c < 18446744073709551616 ∧ wv xs * y + r = wv (wdsN (wv xs * y + r) os.length) + 18446744073709551616 ^ os.length * c) ∧ VvP v os.length B (wv xs * y + r) w w' := by
  have hS := ho.isS
  have hSx := hx.isS
  obtain ⟨L, hLw⟩ : ∃ L, L = os.length := ⟨_, rfl⟩
  have hL : sLen v = L := by rw [hLw]; exact ho.len
  have hLx : sLen x = L := by rw [hx.len, hlx, hLw]
  have R0 := Lib.hid (Vv.start ho hLw.symm)
  have HB0 : Hid (0 < L → 0 < sCap v ∧ B ≤ sBlk v) := Lib.hid (fun h => by
    have := hS.le
    have hc : 0 < sCap v := by omega
    exact ⟨hc, (ho.lt hc).1⟩)
  have HXL : Hid (xs.length = L) := Lib.hid (by omega)
  rw [← hLw] at hl ⊢
  have HX := Lib.hid hx
  have HAX := Lib.hid hax
  clear ho hLw hx hlx hax
  go_enter Tryz.func226, Tryz.ntmps226
  go_wp2
  go_loopw [8, 19] (fun c i wr => ∃ k d Z : Nat, k ≤ L ∧ i = .int .i64 k ∧ c = .int .u64 d ∧ (d < 18446744073709551616 ∧ wv (xs.take k) * y + r = Z + 18446744073709551616 ^ k * d) ∧ Vv v L B k Z w wr) (fun c i _ => L - (intOf i).toNat)
  case atStart => exact ⟨0, r, 0, Nat.zero_le _, rfl, rfl, ⟨hr, by simp [wv]⟩, R0.out⟩
  case round =>
    obtain ⟨k, d, Z, hk, rfl, rfl, ⟨hd, hZ⟩, hrel⟩ := hrel
    have HREL := Lib.hid hrel
    by_cases hkL : k < L
    · obtain ⟨hcap, hB⟩ := HB0.out (by omega)
      have cx := hrel.srcd HX.out HAX.out (by rw [HXL.out]; exact hkL)
      obtain ⟨u, cv⟩ := hrel.own hkL
      have fz := hrel.frozen hcap (sOff v + k)
      have hxl := getD_ltW HX.out.lt k
      have e1 := wv_take_succ (ws := xs) (i := k) (by rw [HXL.out]; exact hkL)
      obtain ⟨a, ha⟩ : ∃ a, a = xs.getD k 0 := ⟨_, rfl⟩
      rw [← ha] at cx hxl e1
      obtain ⟨s, c, hsc, hs⟩ : ∃ s c, a * y + d = s + 18446744073709551616 * c ∧ s < 18446744073709551616 := ⟨(a * y + d) % 18446744073709551616, (a * y + d) / 18446744073709551616, by omega, by omega⟩
      have hc1 := mul_word_lt hxl hy hd hsc
      have HA : Hid (Calls Tryz.prog 235 #[.int .u64 a, .int .u64 y, .int .u64 d] wr fun e w' => e = .returned (.tuple #[.int .u64 c, .int .u64 s]) ∧ w' = wr) := Lib.hid (mulWWW_any a y d c s _ hxl hy hd hsc hs hc1)
      have HZ : Hid (wv (xs.take (k + 1)) * y + r = Z + 18446744073709551616 ^ k * s + 18446744073709551616 ^ (k + 1) * c) := Lib.hid (by
        rw [e1, Nat.pow_succ, Nat.mul_assoc]
        have h1 : 18446744073709551616 ^ k * (a * y + d) = 18446744073709551616 ^ k * s + 18446744073709551616 ^ k * (18446744073709551616 * c) := by rw [hsc, Nat.mul_add]
        rw [Nat.mul_add, ← Nat.mul_assoc] at h1
        rw [Nat.add_mul]
        omega)
      have PUT := Lib.hid (HREL.out.put hkL hB hs)
      clear hrel e1 ha hZ hsc
      go_wp2_with fail
      refine HA.out.mono ?_
      rintro _ _ ⟨rfl, rfl⟩
      go_wp2
      exact ⟨⟨k + 1, c, _, by omega, by go_num, rfl, ⟨hc1, HZ.out⟩, PUT.out⟩, by simp [intOf]; omega⟩
    · have hkk : k = L := by omega
      have HD : Hid ((d < 18446744073709551616 ∧ wv xs * y + r = wv (wdsN (wv xs * y + r) L) + 18446744073709551616 ^ L * d) ∧ VvP v L B (wv xs * y + r) w wr) := Lib.hid (by
        subst hkk
        rw [List.take_of_length_le (by rw [HXL.out]; exact Nat.le_refl _)] at hZ
        have hZl : Z < 18446744073709551616 ^ k := by
          obtain ⟨os', ds, g1, g2, g3, g4, g5, g6, g7, g8⟩ := hrel
          have := wv_lt g5
          rw [g4] at this; omega
        refine ⟨⟨hd, ?_⟩, hrel.done d hZ⟩
        rw [wdsN_wv, hZ, Nat.add_mul_mod_self_left, Nat.mod_eq_of_lt hZl])
      clear hrel hZ HREL
      go_wp2
      go_ret
      exact ⟨d, rfl, HD.out⟩
set_option maxRecDepth 100000 in
theorem mulAddVWW_dis (v x : Value) (os : List Value) (xs : List Nat) (y r B : Nat) (w : World) (ho : Own w B 116 v os) (hx : RW w x xs) (hlx : xs.length = os.length)
    (hax : sBlk x = sBlk v → sOff x + xs.length ≤ sOff v) (hy : y < 18446744073709551616) (hr : r < 18446744073709551616) (hl : os.length ≤ 1000000000) :
    Calls Tryz.prog 207 #[v, x, .int .u64 y, .int .u64 r] w fun e w' => ∃ c : Nat, e = .returned (.int .u64 c) ∧ (c < 18446744073709551616 ∧ wv xs * y + r = wv (wdsN (wv xs * y + r) os.length) + 18446744073709551616 ^ os.length * c) ∧ VvP v os.length B (wv xs * y + r) w w' := by
  have hS := ho.isS
  have hSx := hx.isS
  have H := Lib.hid (mulAddVWW_g_dis v x os xs y r B w ho hx hlx hax hy hr hl)
  clear ho hx hlx hax hl
  go_enter Tryz.func207, Tryz.ntmps207
  go_wp2_with fail
  refine H.out.mono ?_
  rintro _ w1 ⟨c, rfl, h1, h2⟩
  have H1 := Lib.hid (And.intro h1 h2)
  clear h1 h2
  go_wp2
  go_ret
  exact ⟨c, rfl, H1.out⟩
theorem prod_lt {V n qh : Nat} (hV : V < 18446744073709551616 ^ n) (hq : qh < 18446744073709551616) : V * qh < 18446744073709551616 ^ (n + 1) := by
  rw [Nat.pow_succ]; exact Nat.mul_lt_mul'' hV hq
structure HaP (u q h v : Value) (Q V m n B s L : Nat) (o : Option (Nat × Value)) (us : List Nat) (J qh c : Nat) (w w1 : World) : Prop where
  db : Db u q h v Q V m n B s L o us J w (w1.setCell ⟨sBlk h, sOff h + n, none⟩ (.int .u64 (c : Int)))
  own : Own (w1.setCell ⟨sBlk h, sOff h + n, none⟩ (.int .u64 (c : Int))) B 116 h (cellsW (wdsN (V * qh) (n + 1)))
  lt : c < 18446744073709551616
  zero : qh = 0 → c = 0
  cell : ∃ x, w1.cell? ⟨sBlk h, sOff h + n, none⟩ = some x
  fz : w1.frozen? ⟨sBlk h, sOff h + n, none⟩ = false
theorem ha_call {u q h v : Value} {Q V m n B s L J qh : Nat} {o : Option (Nat × Value)} {us : List Nat} {w wr : World} (C : DbC u q h v n) (d : Db u q h v Q V m n B s L o us J w wr) (hV : V < 18446744073709551616 ^ n) (hq : qh < 18446744073709551616) (hn : n ≤ 1000000) :
    Calls Tryz.prog 207 #[subS h 0 n, v, .int .u64 qh, .int .u64 0] wr fun e w1 => ∃ c : Nat, e = .returned (.int .u64 c) ∧ HaP u q h v Q V m n B s L o us J qh c w w1 := by
  obtain ⟨hs, h1, h2⟩ := d.oh
  have hS := h1.isS
  have hLh := h1.len
  have hC := hS.le
  have hc : 0 < sCap h := by omega
  have hsub := h1.sub (l := 0) (n := n) (Nat.zero_le _) (by omega)
  have hsl : ((hs.take n).drop 0).length = n := by simp; omega
  have hvl : (wdsN V n).length = n := wdsN_length _ _
  have hwv : wv (wdsN V n) = V := wv_wdsN_lt hV
  have hcall := mulAddVWW_dis (subS h 0 n) v _ (wdsN V n) qh 0 B wr hsub d.rv (by rw [hvl, hsl]) (by rw [(sub0 hS).1, (sub0 hS).2, hvl]; exact C.vh) hq (by decide) (by rw [hsl]; omega)
  rw [hsl, hwv, Nat.add_zero] at hcall
  refine hcall.mono ?_
  rintro _ w1 ⟨c, rfl, ⟨hcl, hcs⟩, hvp⟩
  have hpt := VvP.patch (l := 0) (n := n) h1 (Nat.zero_le _) (by omega) (by rw [Nat.sub_zero]; exact hvp)
  rw [List.take_zero, List.nil_append, Nat.sub_zero, Nat.add_zero] at hpt
  obtain ⟨g1, g2, g3⟩ := hpt
  have hll : (cellsW (wdsN (V * qh) n) ++ hs.drop n).length = n + 1 := by rw [List.length_append, cellsW_length, wdsN_length, List.length_drop]; omega
  have gs := g1.set (i := n) (by omega) (.int .u64 (c : Int))
  have hcw : c = wdg (V * qh) n := by
    rw [wdsN_wv] at hcs
    have h5 := wmod_succ (V * qh) n
    rw [Nat.mod_eq_of_lt (prod_lt hV hq)] at h5
    exact Nat.eq_of_mul_eq_mul_left (wpow_pos n) (by omega)
  have es : (cellsW (wdsN (V * qh) n) ++ hs.drop n).set n (.int .u64 (c : Int)) = cellsW (wdsN (V * qh) (n + 1)) := by
    obtain ⟨x, hx⟩ : ∃ x, hs.drop n = [x] := List.length_eq_one_iff.1 (by rw [List.length_drop]; omega)
    rw [hx, List.set_append_right _ _ (by rw [cellsW_length, wdsN_length]; exact Nat.le_refl _), cellsW_length, wdsN_length, Nat.sub_self, wdsN_succ, ← cellsW_append, hcw]
    rfl
  rw [es] at gs
  have hB := (g1.lt hc).1
  have hfr : FrB (sBlk h) (sOff h) (sOff h + n + 1) wr (w1.setCell ⟨sBlk h, sOff h + n, none⟩ (.int .u64 (c : Int))) := ((g3.mono (Nat.le_refl _) (Nat.le_succ _)).set (by omega) (by omega) _)
  refine ⟨c, rfl, ?_, gs, hcl, fun h0 => ?_, ⟨_, g1.cell (List.getElem?_eq_getElem (by rw [hll]; omega))⟩, g1.frozen hc _⟩
  · exact d.inH C gs (by rw [cellsW_length, wdsN_length]) (bset g2 hB) hfr (Nat.le_refl _)
  · rw [hcw, h0, Nat.mul_zero]; simp [wdg]
structure SbP (u q h v : Value) (Q V m n B s L : Nat) (o : Option (Nat × Value)) (us : List Nat) (hs : List Value) (J j r P c Z : Nat) (w w1 : World) : Prop where
  db : Db u q h v Q V m n B s L o (us.take j ++ (wdsN Z r ++ us.drop (j + r))) J w w1
  own : Own w1 B 116 h hs
  le : c ≤ 1
  lt : Z < 18446744073709551616 ^ r
  eq : wv ((us.take (j + r)).drop j) + 18446744073709551616 ^ r * c = Z + P % 18446744073709551616 ^ r
theorem Own.win {w : World} {B : Nat} {v : Value} {us : List Nat} (h : Own w B 116 v (cellsW us)) (hd : ∀ d ∈ us, d < 18446744073709551616) {l r : Nat} (h1 : l ≤ r) (h2 : r ≤ us.length) : RW w (subS v l r) ((us.take r).drop l) := by
  have := h.sub h1 (by rw [cellsW_length]; exact h2)
  rw [show (cellsW us).take r = cellsW (us.take r) by simp [cellsW, List.map_take], show (cellsW (us.take r)).drop l = cellsW ((us.take r).drop l) by simp [cellsW, List.map_drop]] at this
  exact this.rw' fun d hd' => hd d (List.mem_of_mem_take (List.mem_of_mem_drop hd'))
theorem sb_call {u q h v : Value} {Q V m n B s L J j r P : Nat} {o : Option (Nat × Value)} {us : List Nat} {w wr : World} (C : DbC u q h v n) (d : Db u q h v Q V m n B s L o us J w wr) (ho : Own wr B 116 h (cellsW (wdsN P (n + 1)))) (hr0 : 0 < r) (hr : r ≤ n + 1) (hjr : j + r ≤ m + n) (hn : n ≤ 1000000) :
    Calls Tryz.prog 188 #[subS u j (j + r), subS u j (j + r), subS h 0 r] wr fun e w1 => ∃ c : Nat, e = .returned (.int .u64 c) ∧ ∃ Z, SbP u q h v Q V m n B s L o us (cellsW (wdsN P (n + 1))) J j r P c Z w w1 := by
  have hSu := d.ou.isS
  have hSh := ho.isS
  have hl := d.lu
  have hwin := d.ou.win d.bu (l := j) (r := j + r) (by omega) (by omega)
  have hwl : ((us.take (j + r)).drop j).length = r := by rw [List.length_drop, List.length_take]; omega
  have hsub := d.ou.sub (l := j) (n := j + r) (by omega) (by rw [cellsW_length]; omega)
  have hsl : (((cellsW us).take (j + r)).drop j).length = r := by rw [List.length_drop, List.length_take, cellsW_length]; omega
  have hhw := ho.win wdsN_lt (l := 0) (r := r) (Nat.zero_le _) (by rw [wdsN_length]; omega)
  have hhe : ((wdsN P (n + 1)).take r).drop 0 = wdsN P r := by
    have := wdsN_window P (n + 1) (j := 0) (n := r) (by omega)
    rw [Nat.zero_add, Nat.pow_zero, Nat.div_one] at this
    exact this
  rw [hhe] at hhw
  have hcall := subVV_any (subS u j (j + r)) (subS u j (j + r)) (subS h 0 r) _ _ _ B wr hsub hwin hhw (by rw [hwl, hsl]) (by rw [wdsN_length, hsl]) (fun _ => Nat.le_refl _) (by rw [subS_blk hSu, (sub0 hSh).1]; intro he; exact absurd he.symm C.uh) (by rw [hsl]; omega)
  rw [hsl, wdsN_wv] at hcall
  refine hcall.mono ?_
  rintro _ w1 ⟨c, rfl, Z, g1, g2, g3, g4⟩
  obtain ⟨k1, k2⟩ := d.inU C (l := j) (r := j + r) (by omega) hjr (by omega) (by rw [show j + r - j = r by omega]; exact g4)
  rw [show j + r - j = r by omega] at k1
  exact ⟨c, rfl, Z, k1, k2 _ ho, g1, g2, g3⟩
structure AdP (u q h v : Value) (Q V m n B s L : Nat) (o : Option (Nat × Value)) (us : List Nat) (J j c A : Nat) (w w1 : World) : Prop where
  db : Db u q h v Q V m n B s L o (us.take j ++ (wdsN A n ++ us.drop (j + n))) J w w1
  le : c ≤ 1
  sum : A = wv ((us.take (j + n)).drop j) + V
  eq : A = A % 18446744073709551616 ^ n + 18446744073709551616 ^ n * c
theorem ad_call {u q h v : Value} {Q V m n B s L J j : Nat} {o : Option (Nat × Value)} {us : List Nat} {w wr : World} (C : DbC u q h v n) (d : Db u q h v Q V m n B s L o us J w wr) (hV : V < 18446744073709551616 ^ n) (hn0 : 0 < n) (hjr : j + n ≤ m + n) (hn : n ≤ 1000000) :
    Calls Tryz.prog 187 #[subS u j (j + n), subS u j (j + n), v] wr fun e w1 => ∃ c : Nat, e = .returned (.int .u64 c) ∧ ∃ A, AdP u q h v Q V m n B s L o us J j c A w w1 := by
  have hSu := d.ou.isS
  have hl := d.lu
  have hwin := d.ou.win d.bu (l := j) (r := j + n) (by omega) (by omega)
  have hwl : ((us.take (j + n)).drop j).length = n := by rw [List.length_drop, List.length_take]; omega
  have hsub := d.ou.sub (l := j) (n := j + n) (by omega) (by rw [cellsW_length]; omega)
  have hsl : (((cellsW us).take (j + n)).drop j).length = n := by rw [List.length_drop, List.length_take, cellsW_length]; omega
  have hwv : wv (wdsN V n) = V := wv_wdsN_lt hV
  have hcall := addVV_any (subS u j (j + n)) (subS u j (j + n)) v _ _ _ B wr hsub hwin d.rv (by rw [hwl, hsl]) (by rw [wdsN_length, hsl]) (fun _ => Nat.le_refl _) (by rw [subS_blk hSu]; intro he; exact absurd he C.vu) (by rw [hsl]; omega)
  rw [hsl, hwv, wdsN_wv] at hcall
  refine hcall.mono ?_
  rintro _ w1 ⟨c, rfl, ⟨g1, g2⟩, g4⟩
  obtain ⟨k1, k2⟩ := d.inU C (l := j) (r := j + n) (by omega) hjr (by omega) (by rw [show j + n - j = n by omega]; exact g4)
  rw [show j + n - j = n by omega] at k1
  exact ⟨c, rfl, _, k1, g1, rfl, g2⟩
theorem win_val {X R m n j r : Nat} (hR : R = X / 18446744073709551616 ^ j) (hjr : j + r ≤ m + n) : wv (((wdsN X (m + n)).take (j + r)).drop j) = R % 18446744073709551616 ^ r := by
  rw [wdsN_window X (m + n) hjr, wdsN_wv, ← hR]
theorem wdsN_low (A n : Nat) : wdsN (A % 18446744073709551616 ^ n) n = wdsN A n :=
  wdsN_of (wdsN_length _ _) fun i hi => by rw [wdsN_getD hi, wdg_lowmod _ _ _ hi]
theorem fin0 {u q h v : Value} {Q U V m n B s L j X R qh Z : Nat} {o : Option (Nat × Value)} {hs : List Value} {w w1 : World} (hX : X = U % (V * 18446744073709551616 ^ (j + 1))) (hR : R = X / 18446744073709551616 ^ j) (hVp : 0 < V) (hVn : V < 18446744073709551616 ^ n) (hj : j < m)
    (g1 : R < 18446744073709551616 ^ (n + 1)) (p1 : R / V ≤ qh) (p2 : qh ≤ R / V + 1) (hq : qh < 18446744073709551616) (sp : SbP u q h v Q V m n B s L o (wdsN X (m + n)) hs (j + 1) j (n + 1) (V * qh) 0 Z w w1) :
    qh = R / V ∧ Db u q h v Q V m n B s L o (wdsN (U % (V * 18446744073709551616 ^ j)) (m + n)) (j + 1) w w1 := by
  have he := sp.eq
  rw [win_val hR (by omega), Nat.mod_eq_of_lt g1, Nat.mul_zero, Nat.add_zero, Nat.mod_eq_of_lt (prod_lt hVn hq), Nat.add_comm, Nat.mul_comm] at he
  obtain ⟨k1, k2⟩ := kd_sub0 hVp p1 he p2
  refine ⟨k1, ?_⟩
  have hd := sp.db
  rw [k2, hR, hX, show j + (n + 1) = j + n + 1 by omega, round_words hVp (Nat.le_of_lt hVn) hj] at hd
  exact hd
theorem fin1 {u q h v : Value} {Q U V m n B s L j X R qh Z A c : Nat} {o : Option (Nat × Value)} {hs : List Value} {w w1 w2 : World} (hX : X = U % (V * 18446744073709551616 ^ (j + 1))) (hR : R = X / 18446744073709551616 ^ j) (hVp : 0 < V) (hVn : V < 18446744073709551616 ^ n) (hj : j < m)
    (g1 : R < 18446744073709551616 ^ (n + 1)) (p1 : R / V ≤ qh) (p2 : qh ≤ R / V + 1) (hq : qh < 18446744073709551616) (sp : SbP u q h v Q V m n B s L o (wdsN X (m + n)) hs (j + 1) j (n + 1) (V * qh) 1 Z w w1)
    (ap : AdP u q h v Q V m n B s L o ((wdsN X (m + n)).take j ++ (wdsN Z (n + 1) ++ (wdsN X (m + n)).drop (j + (n + 1)))) (j + 1) j c A w w2) :
    0 < qh ∧ qh - 1 = R / V ∧ wdg Z n + c = 18446744073709551616 ∧
    (((wdsN X (m + n)).take j ++ (wdsN Z (n + 1) ++ (wdsN X (m + n)).drop (j + (n + 1)))).take j ++ (wdsN A n ++ ((wdsN X (m + n)).take j ++ (wdsN Z (n + 1) ++ (wdsN X (m + n)).drop (j + (n + 1)))).drop (j + n))).getD (j + n) 0 = wdg Z n ∧
    (((wdsN X (m + n)).take j ++ (wdsN Z (n + 1) ++ (wdsN X (m + n)).drop (j + (n + 1)))).take j ++ (wdsN A n ++ ((wdsN X (m + n)).take j ++ (wdsN Z (n + 1) ++ (wdsN X (m + n)).drop (j + (n + 1)))).drop (j + n))).set (j + n) 0 = wdsN (U % (V * 18446744073709551616 ^ j)) (m + n) := by
  have he := sp.eq
  rw [win_val hR (by omega), Nat.mod_eq_of_lt g1, Nat.mul_one, Nat.mod_eq_of_lt (prod_lt hVn hq), Nat.add_comm Z, Nat.mul_comm V, Nat.pow_succ] at he
  have l1 : ((wdsN X (m + n)).take j).length = j := by rw [List.length_take, wdsN_length]; omega
  have ea : ((wdsN X (m + n)).take j ++ (wdsN Z (n + 1) ++ (wdsN X (m + n)).drop (j + (n + 1)))).take j = (wdsN X (m + n)).take j := List.take_left' l1
  have ew : (((wdsN X (m + n)).take j ++ (wdsN Z (n + 1) ++ (wdsN X (m + n)).drop (j + (n + 1)))).take (j + n)).drop j = wdsN Z n := by
    rw [List.take_append, l1, List.take_of_length_le (by omega), show j + n - j = n by omega, List.drop_left' l1, wdsN_succ, List.append_assoc, List.take_left' (wdsN_length _ _)]
  have eb : ((wdsN X (m + n)).take j ++ (wdsN Z (n + 1) ++ (wdsN X (m + n)).drop (j + (n + 1)))).drop (j + n) = wdg Z n :: (wdsN X (m + n)).drop (j + (n + 1)) := by
    rw [← List.drop_drop, List.drop_left' l1, wdsN_succ, List.append_assoc, List.drop_left' (wdsN_length _ _)]; rfl
  have hs := ap.sum
  rw [ew, wdsN_wv] at hs
  have hz := wmod_succ Z n
  rw [Nat.mod_eq_of_lt sp.lt] at hz
  have haeq := ap.eq
  obtain ⟨k1, k2, k3, k4⟩ := kd_sub1 (bn := 18446744073709551616 ^ n) (b := 18446744073709551616) hVp p1 p2 he hz (Nat.mod_lt _ (wpow_pos n)) (wdg_lt _ _) (hs.symm.trans haeq) (Nat.mod_lt _ (wpow_pos n)) (Nat.le_of_lt hVn)
  refine ⟨k1, k2, k4, ?_, ?_⟩
  · rw [eb, ea, List.getD_eq_getElem?_getD, List.getElem?_append_right (by omega), l1, List.getElem?_append_right (by rw [wdsN_length]; omega), wdsN_length, show j + n - j - n = 0 by omega]; rfl
  · have hL : R % V < 18446744073709551616 ^ n := Nat.lt_trans (Nat.mod_lt _ hVp) hVn
    have hA : wdsN A n = wdsN (R % V) n := by rw [← k3, wdsN_low]
    have := list_fix (us := wdsN X (m + n)) (j := j) (n := n) (Z := Z) (A := A) (L := R % V) (by rw [wdsN_length]; omega) hA hL
    rw [show j + (n + 1) = j + n + 1 by omega, this, hR, hX, round_words hVp (Nat.le_of_lt hVn) hj]
theorem finm {u q h v : Value} {Q U V m n B s L X R c Z : Nat} {o : Option (Nat × Value)} {hs : List Value} {w w1 : World} (hX : X = U % (V * 18446744073709551616 ^ (m + 1))) (hR : R = X / 18446744073709551616 ^ m) (hU : U < V * 18446744073709551616 ^ m) (hVn : V < 18446744073709551616 ^ n) (hRV : R < V)
    (sp : SbP u q h v Q V m n B s L o (wdsN X (m + n)) hs (m + 1) m n (V * 0) c Z w w1) :
    c = 0 ∧ Db u q h v Q V m n B s L o (wdsN (U % (V * 18446744073709551616 ^ m)) (m + n)) m w w1 := by
  obtain ⟨d1, d2, d3, d4⟩ := dd_start hU
  have hXU : X = U := hX.trans d2
  have he := sp.eq
  have hRn : R < 18446744073709551616 ^ n := Nat.lt_trans hRV hVn
  rw [win_val hR (Nat.le_refl _), Nat.mod_eq_of_lt hRn, Nat.mul_zero, Nat.zero_mod, Nat.add_zero] at he
  have hc : c = 0 := by
    rcases Nat.eq_zero_or_pos c with h0 | h0
    · exact h0
    · have := Nat.le_mul_of_pos_right (18446744073709551616 ^ n) h0
      have := sp.lt
      omega
  subst hc
  rw [Nat.mul_zero, Nat.add_zero] at he
  have hd := sp.db
  have hw : (wdsN X (m + n)).take m ++ (wdsN Z n ++ (wdsN X (m + n)).drop (m + n)) = wdsN (U % (V * 18446744073709551616 ^ m)) (m + n) := by
    have h1 := wdsN_patch (X := X) (L := m + n) (j := m) (n := n) (R := Z) (Nat.le_refl _) (by
      rw [hXU]
      refine Nat.lt_of_lt_of_le hU ?_
      rw [Nat.pow_add, Nat.mul_comm]
      exact Nat.mul_le_mul_left _ (Nat.le_of_lt hVn)) sp.lt
    rw [h1, ← he, hR, hXU, d1, Nat.add_comm, Nat.div_add_mod]
  rw [hw] at hd
  obtain ⟨qs, q1, q2, q3⟩ := hd.oq
  exact ⟨rfl, ⟨hd.ou, hd.lu, hd.bu, ⟨qs, q1, q2, fun k a b => by omega⟩, hd.oh, hd.rv, hd.st, hd.below, hd.fr⟩⟩
theorem fm_call {u q h v : Value} {Q U V m n N B s L X R qh jn : Nat} {o : Option (Nat × Value)} {w wr : World} (C : DbC u q h v n) (d : Db u q h v Q V m n B s L o (wdsN X N) (m + 1) w wr) (ho : Own wr B 116 h (cellsW (wdsN (V * qh) (n + 1))))
    (hX : X = U % (V * 18446744073709551616 ^ (m + 1))) (hR : R = X / 18446744073709551616 ^ m) (hU : U < V * 18446744073709551616 ^ m) (hVn : V < 18446744073709551616 ^ n) (hRV : R < V) (hN : N = m + n) (hjn : jn = m + n) (hq : qh = 0) (hn0 : 0 < n) (hn : n ≤ 1000000) :
    Calls Tryz.prog 188 #[subS u m jn, subS u m jn, subS h 0 n] wr fun e w' => ∃ c2 : Nat, e = .returned (.int .u64 c2) ∧ c2 = 0 ∧ Db u q h v Q V m n B s L o (wdsN (U % (V * 18446744073709551616 ^ m)) N) m w w' := by
  subst hN
  subst hjn
  refine (sb_call (J := m + 1) (j := m) (r := n) C d ho hn0 (Nat.le_succ n) (Nat.le_refl _) hn).mono ?_
  rintro _ w' ⟨c2, rfl, Z, hsp⟩
  subst hq
  obtain ⟨f1, f2⟩ := finm hX hR hU hVn hRV hsp
  exact ⟨c2, rfl, f1, f2⟩
end Go.Proofs.YtllhnjpnkmjopaaGreatDoor
