/-
Texts of this proof, joined: VvF VvG AsA KfB KfC. No condition.
-/
import Derived.Test.YtgbmlaffilccnaaGreatDoorK14
import Derived.Test.YtgbmlaffilccnaaGreatDoorK16
import Derived.Test.YtgbmlaffilccnaaGreatDoorK17
import Derived.Test.YtgbmlaffilccnaaGreatDoorK18
import Derived.Test.YtgbmlaffilccnaaGreatDoorK21
/-
The package's numbers: add and sub of whatever receiver. No condition.
-/
namespace Go.Proofs.YtgbmlaffilccnaaGreatDoor
open Go.RowKit

theorem wds_zero : wds 0 = [] := rfl
theorem NatR.ofSet {z r : Value} {N B : Nat} {w w' : World} (h : Own w' B 116 r (cellsW (wds N)) ∧ Below B w w' ∧ Fr z w w' ∧ (0 < sCap r → (0 < sCap z ∧ sBlk r = sBlk z) ∨ w.heap.size ≤ sBlk r)) : NatR z r N B w w' := ⟨h.1, h.2.1, h.2.2.1, h.2.2.2⟩
set_option maxRecDepth 100000 in
set_option maxHeartbeats 1600000 in
theorem nadd_ge (z x y : Value) (zs : List Value) (X Y B : Nat) (w : World) (hz : Own w B 116 z zs) (hx : RO w x (wds X)) (hy : RO w y (wds Y)) (ax : Al z x) (ay : Al z y) (hnm : nw Y ≤ nw X) (hl : nw X ≤ 100000000) (hB : B ≤ w.heap.size) :
    Calls Tryz.prog 87 #[z, x, y] w fun e w' => ∃ r, e = .returned r ∧ NatR z r (X + Y) B w w' := by
  have hS := hz.isS
  have hSx := hx.rw.isS
  have hSy := hy.rw.isS
  have hLx : sLen x = nw X := by rw [hx.rw.len, wds_length]
  have hLy : sLen y = nw Y := by rw [hy.rw.len, wds_length]
  rcases Nat.eq_zero_or_pos (nw Y) with h0 | h0
  · have hY0 := nw_eq_zero.1 h0
    have t1 : decide ((nw X : Int) < (nw Y : Int)) = false := decide_eq_false (by omega)
    have hLy0 : sLen y = 0 := by rw [hLy, h0]
    rcases Nat.eq_zero_or_pos (nw X) with g0 | g0
    · have hX0 := nw_eq_zero.1 g0
      have hLx0 : sLen x = 0 := by rw [hLx, g0]
      have Q : Hid (NatR z (subS z 0 0) (X + Y) B w w) := Lib.hid (by
        rw [hX0, hY0]
        exact ⟨by have := hz.sub (l := 0) (n := 0) (Nat.le_refl _) (Nat.zero_le _); simpa [cellsW, wds_zero] using this, Below.refl _ _, Fr.refl _ _, fun hc => .inl ⟨by rw [subS_cap hz.isS] at hc; exact hc, subS_blk hz.isS⟩⟩)
      have hSq := Q.out.own.isS
      have hc0 : 0 ≤ sCap z := Nat.zero_le _
      clear hz hx hy ax ay hLx hLy h0 g0 hX0 hY0 t1 hl hnm
      go_enter Tryz.func87, Tryz.ntmps87
      go_wp2
      go_ret
      exact ⟨_, rfl, Q.out⟩
    · obtain ⟨m, hm⟩ : ∃ m, m = nw X := ⟨_, rfl⟩
      rw [← hm] at hLx g0
      have t2 : ((m : Int) == 0) = false := by rw [beq_eq_false_iff_ne]; omega
      have t3 : decide ((m : Int) < 0) = false := decide_eq_false (by omega)
      have HS : Hid (Calls Tryz.prog 67 #[z, x] w fun e w' => ∃ r, e = .returned r ∧ NatR z r (X + Y) B w w') := Lib.hid (by
        refine (set_at z x zs (wds X) B w hz hx.rw (by rw [wds_length]; omega) hB).mono ?_
        rintro _ w' ⟨r, rfl, h⟩
        exact ⟨r, rfl, by rw [hY0, Nat.add_zero]; exact .ofSet h⟩)
      clear hz hx hy ax ay hLy h0 hY0 t1 hm hl hnm
      go_enter Tryz.func87, Tryz.ntmps87
      go_wp2_with fail
      refine HS.out.mono ?_
      rintro _ w1 ⟨r, rfl, h⟩
      have Q := Lib.hid h
      have hSq := h.own.isS
      clear h
      go_wp2
      go_ret
      exact ⟨_, rfl, Q.out⟩
  · have := nadd_core z x y zs (wds X) (wds Y) B w hz hx hy.rw ax ay (by rw [wds_length]; exact h0) (by rw [wds_length, wds_length]; exact hnm) (by rw [wds_length]; exact hl) hB
    rw [wv_wds, wv_wds] at this
    exact this
set_option maxRecDepth 100000 in
theorem nadd_any (z x y : Value) (zs : List Value) (X Y B : Nat) (w : World) (hz : Own w B 116 z zs) (hx : RO w x (wds X)) (hy : RO w y (wds Y)) (ax : Al z x) (ay : Al z y) (hl : nw X ≤ 100000000) (hl2 : nw Y ≤ 100000000) (hB : B ≤ w.heap.size) :
    Calls Tryz.prog 87 #[z, x, y] w fun e w' => ∃ r, e = .returned r ∧ NatR z r (X + Y) B w w' := by
  by_cases h : nw Y ≤ nw X
  · exact nadd_ge z x y zs X Y B w hz hx hy ax ay h hl hB
  · have HR := Lib.hid (nadd_ge z y x zs Y X B w hz hy hx ay ax (by omega) hl2 hB)
    have hS := hz.isS
    have hSx := hx.rw.isS
    have hSy := hy.rw.isS
    have hLx : sLen x = nw X := by rw [hx.rw.len, wds_length]
    have hLy : sLen y = nw Y := by rw [hy.rw.len, wds_length]
    obtain ⟨m, hm⟩ : ∃ m, m = nw X := ⟨_, rfl⟩
    obtain ⟨n, hn⟩ : ∃ n, n = nw Y := ⟨_, rfl⟩
    rw [← hm] at hLx h
    rw [← hn] at hLy h
    rw [Nat.add_comm] at HR
    have t1 : decide ((m : Int) < (n : Int)) = true := decide_eq_true (by omega)
    have t1' : decide (m < n) = true := decide_eq_true (by omega)
    clear hz hx hy ax ay hm hn h
    go_enter Tryz.func87, Tryz.ntmps87
    go_wp2_with fail
    refine HR.out.mono ?_
    rintro _ w1 ⟨r, rfl, h⟩
    have Q := Lib.hid h
    have hSq := h.own.isS
    clear h
    go_wp2
    go_ret
    exact ⟨_, rfl, Q.out⟩
set_option maxRecDepth 100000 in
set_option maxHeartbeats 3200000 in
theorem nsub_core (z x y : Value) (zs : List Value) (xs ys : List Nat) (B : Nat) (w : World) (hz : Own w B 116 z zs) (hx : RO w x xs) (hy : RW w y ys) (ax : Al z x) (ay : Al z y) (hn0 : 0 < ys.length) (hnm : ys.length ≤ xs.length) (hge : wv ys ≤ wv xs) (hl : xs.length ≤ 100000000) (hB : B ≤ w.heap.size) :
    Calls Tryz.prog 88 #[z, x, y] w fun e w' => ∃ r, e = .returned r ∧ NatR z r (wv xs - wv ys) B w w' := by
  have hS := hz.isS
  have hSx := hx.rw.isS
  have hSy := hy.isS
  obtain ⟨m, hm⟩ : ∃ m, m = xs.length := ⟨_, rfl⟩
  obtain ⟨n, hn⟩ : ∃ n, n = ys.length := ⟨_, rfl⟩
  have hLx : sLen x = m := by rw [hx.rw.len, hm]
  have hLy : sLen y = n := by rw [hy.len, hn]
  have hcx : m ≤ sCap x := by have := hSx.le; omega
  have hcy : n ≤ sCap y := by have := hSy.le; omega
  rw [← hn] at hn0 hnm
  rw [← hm] at hnm hl
  have t1 : decide ((m : Int) < (n : Int)) = false := decide_eq_false (by omega)
  have t2 : ((m : Int) == 0) = false := by rw [beq_eq_false_iff_ne]; omega
  have t3 : ((n : Int) == 0) = false := by rw [beq_eq_false_iff_ne]; omega
  have hm1p : 0 < m := by omega
  have HM := Lib.hid hm
  have HN := Lib.hid hn
  have HZ := Lib.hid hz
  have HX := Lib.hid hx
  have HY := Lib.hid hy
  have HAX := Lib.hid ax
  have HAY := Lib.hid ay
  have HB := Lib.hid hB
  have HGE := Lib.hid hge
  clear hz hx hy ax ay hB hm hn hge
  go_enter Tryz.func88, Tryz.ntmps88
  go_wp2_with fail
  refine (make_any z zs m B w HZ.out (by omega) HB.out).mono ?_
  rintro _ w1 ⟨r, rfl, hmk⟩
  obtain ⟨os, hos, hor⟩ := hmk.own
  have hSr := hor.isS
  have hLr : sLen r = m := by rw [hor.len, hos]
  have hcr : m ≤ sCap r := by have := hSr.le; omega
  have hcr0 : 0 < sCap r := by omega
  have hBr := (hor.lt hcr0).1
  have hX1 := HX.out.below hmk.below
  have hY1 := HY.out.below hmk.below
  have aX := hmk.al hS hm1p HAX.out HX.out.rw (by rw [← HM.out]; omega)
  have aY := hmk.al hS hm1p HAY.out HY.out (by rw [← HN.out]; exact hn0)
  have hSr0 : IsS (subS r 0 n) := subS_isS hSr (Nat.zero_le _) (by omega)
  have hSx0 : IsS (subS x 0 n) := subS_isS hSx (Nat.zero_le _) (by omega)
  have hSy0 : IsS (subS y 0 n) := subS_isS hSy (Nat.zero_le _) (by omega)
  have hsub := hor.sub (l := 0) (n := n) (Nat.zero_le _) (by omega)
  have hsl : ((os.take n).drop 0).length = n := by simp; omega
  have hxt := hX1.rw.take (n := n) (by rw [← HM.out]; exact hnm)
  have hyt := hY1.take (n := n) (by rw [← HN.out]; exact Nat.le_refl _)
  rw [List.take_of_length_le (by rw [← HN.out]; exact Nat.le_refl _)] at hyt
  have HSUB : Hid (∀ k, Calls Tryz.prog 103 #[subS r 0 n, subS x 0 n, subS y 0 n] (w1.drewN k) fun e w' => ∃ c : Nat, e = .returned (.int .u64 c) ∧ ∃ Z, c ≤ 1 ∧ Z < 18446744073709551616 ^ n ∧ wv (xs.take n) + 18446744073709551616 ^ n * c = Z + wv ys ∧ VvP (subS r 0 n) n B Z w1 w') := Lib.hid (fun k => by
    have := subVV_any (subS r 0 n) (subS x 0 n) (subS y 0 n) ((os.take n).drop 0) (xs.take n) ys B (w1.drewN k) (hsub.drewN k) (hxt.below (undrewN' (Below.refl _ _))) (hyt.below (undrewN' (Below.refl _ _))) (by rw [hsl, List.length_take, ← HM.out]; omega) (by rw [hsl, ← HN.out]) (by rw [(sub0 hSx).1, (sub0 hSr).1, (sub0 hSx).2, (sub0 hSr).2]; intro h; rw [aX h]; exact Nat.le_refl _)
      (by rw [(sub0 hSy).1, (sub0 hSr).1, (sub0 hSy).2, (sub0 hSr).2]; intro h; rw [aY h]; exact Nat.le_refl _) (by rw [hsl]; omega)
    rw [hsl] at this
    refine this.mono ?_
    rintro _ w' ⟨c, rfl, Z, h1, h2, h3, h4, h5, h6⟩
    exact ⟨c, rfl, Z, h1, h2, h3, h4, undrewN h5, h6.undrewN⟩)
  have HOR := Lib.hid hor
  have HOS := Lib.hid hos
  have HMK := Lib.hid hmk
  have HX1 := Lib.hid hX1
  have HAXR := Lib.hid aX
  clear hor hos hmk hX1 hY1 aX aY hsub hsl hxt hyt
  go_wp2_with fail
  (refine wp_region_hoist 9 (by kernel_rfl) (by kernel_rfl) ⟨fun _ _ _ h => (by first | exact (hQp _ _ _ h).elim | cases h.2.1 | (obtain ⟨_, h3, _⟩ := h.2; cases h3)), fun _ _ h => (by first | exact (hQo _ _ h).elim | cases h.1 | (obtain ⟨_, h3, _⟩ := h; cases h3))⟩ ?_; simp only [List.take_succ_cons, List.take_zero, List.drop_succ_cons, List.drop_zero]; (repeat (go_big_quiet_step (fail))); refine wpQuiet_nil ?_; rintro _ ⟨nq, rfl⟩)
  go_wp2_with fail
  refine (HSUB.out _).mono ?_
  rintro _ w2 ⟨c, rfl, Z1, hc1, hZ1l, hcs, hvp⟩
  have hpt := VvP.patch (l := 0) (n := n) HOR.out (Nat.zero_le _) (by rw [HOS.out]; exact hnm) hvp
  rw [List.take_zero, List.nil_append, Nat.sub_zero] at hpt
  have HCS := Lib.hid hcs
  have HPT := Lib.hid hpt
  have HZ1 := Lib.hid hZ1l
  clear hcs hpt hvp hZ1l
  by_cases hmn : n < m
  · have t4 : decide ((n : Int) < (m : Int)) = true := decide_eq_true (by omega)
    have t4' : decide (n < m) = true := decide_eq_true hmn
    obtain ⟨ho2, hb2, hf2⟩ := HPT.out
    have hSr1 : IsS (subS r n m) := subS_isS hSr hnm (by omega)
    have hSx1 : IsS (subS x n m) := subS_isS hSx hnm hcx
    have hsub := ho2.sub (l := n) (n := m) hnm (by simp [cellsW_length, wdsN_length]; rw [HOS.out]; omega)
    have hsl : (((cellsW (wdsN Z1 n) ++ os.drop n).take m).drop n).length = m - n := by simp [cellsW_length, wdsN_length]; rw [HOS.out]; omega
    have hxd : RO w2 (subS x n m) (xs.drop n) := by
      have h1 := HX1.out.drop (n := n) (by rw [← HM.out]; exact hnm)
      rw [← HM.out] at h1
      refine hf2.ro h1 fun hb => .inr ?_
      rw [subS_blk hSx] at hb
      rw [subS_off hSx (by omega), HAXR.out hb]; omega
    have HSBW : Hid (∀ k, Calls Tryz.prog 104 #[subS r n m, subS x n m, .int .u64 c] (w2.drewN k) fun e w' => ∃ d : Nat, e = .returned (.int .u64 d) ∧ ∃ Z, d ≤ 1 ∧ Z < 18446744073709551616 ^ (m - n) ∧ wv (xs.drop n) + 18446744073709551616 ^ (m - n) * d = Z + c ∧ VvP (subS r n m) (m - n) B Z w2 w') := Lib.hid (fun k => by
      have := subVW_gen (subS r n m) (subS x n m) _ (xs.drop n) c B (w2.drewN k) (hsub.drewN k) (hxd.below (undrewN' (Below.refl _ _))) (by rw [hsl, List.length_drop, ← HM.out]) (by rw [subS_blk hSx, subS_blk hSr]; intro h; rw [subS_off hSx (by omega), subS_off hSr (by omega), HAXR.out h]) (by rw [hsl]; omega) (by rw [hsl]; omega) (by omega)
      rw [hsl] at this
      refine this.mono ?_
      rintro _ w' ⟨d, rfl, Z, h1, h2, h3, h4, h5, h6⟩
      exact ⟨d, rfl, Z, h1, h2, h3, h4, undrewN h5, h6.undrewN⟩)
    have HO2 := Lib.hid ho2
    have HB2 := Lib.hid hb2
    have HF2 := Lib.hid hf2
    clear ho2 hb2 hf2 hsub hsl hxd HPT
    go_wp2_with fail
    (refine wp_region_hoist 7 (by kernel_rfl) (by kernel_rfl) ⟨fun _ _ _ h => (by first | exact (hQp _ _ _ h).elim | cases h.2.1 | (obtain ⟨_, h3, _⟩ := h.2; cases h3)), fun _ _ h => (by first | exact (hQo _ _ h).elim | cases h.1 | (obtain ⟨_, h3, _⟩ := h; cases h3))⟩ ?_; simp only [List.take_succ_cons, List.take_zero, List.drop_succ_cons, List.drop_zero]; (repeat (go_big_quiet_step (fail))); refine wpQuiet_nil ?_; rintro _ ⟨nq, rfl⟩)
    go_wp2_with fail
    refine (HSBW.out _).mono ?_
    rintro _ w3 ⟨d, rfl, Z, hd1, hZl, hZ, hvp⟩
    have hpt := VvP.patch (l := n) (n := m) HO2.out hnm (by simp [cellsW_length, wdsN_length]; rw [HOS.out]; omega) hvp
    obtain ⟨ho3, hb3, hf3⟩ := hpt
    have hle : (cellsW (wdsN Z1 n)).length = n := by rw [cellsW_length, wdsN_length]
    have e2 : (cellsW (wdsN Z1 n) ++ os.drop n).take n = cellsW (wdsN Z1 n) := List.take_left' hle
    have e3 : (cellsW (wdsN Z1 n) ++ os.drop n).drop m = [] := List.drop_of_length_le (by rw [List.length_append, hle, List.length_drop, HOS.out]; omega)
    rw [e2, e3, List.append_nil, cellsW_append] at ho3
    have hsum := wv_split xs n (by rw [← HM.out]; exact hnm)
    have hpow : 18446744073709551616 ^ n * 18446744073709551616 ^ (m - n) = 18446744073709551616 ^ m := by rw [← Nat.pow_add]; congr 1; omega
    have hyl := wv_lt (HY.out.lt)
    have hd0 : d = 0 := by
      rcases (by omega : d = 0 ∨ d = 1) with h | h
      · exact h
      · exfalso
        have h1 := HCS.out; have h2 := HGE.out
        have h3 : 18446744073709551616 ^ n * (wv (xs.drop n) + 18446744073709551616 ^ (m - n) * d) = 18446744073709551616 ^ n * (Z + c) := by rw [hZ]
        rw [Nat.mul_add, ← Nat.mul_assoc, hpow, Nat.mul_add, h, Nat.mul_one] at h3
        have h4 := join_lt HZ1.out hnm hZl
        omega
    subst hd0
    have hnum : wv (wdsN Z1 n ++ wdsN Z (m - n)) = wv xs - wv ys := by
      rw [wv_append, wdsN_length, wv_wdsN_lt HZ1.out, wv_wdsN_lt hZl]
      have h1 := HCS.out
      have h3 : 18446744073709551616 ^ n * (wv (xs.drop n) + 18446744073709551616 ^ (m - n) * 0) = 18446744073709551616 ^ n * (Z + c) := by rw [hZ]
      rw [Nat.mul_zero, Nat.add_zero, Nat.mul_add] at h3
      omega
    have hlt : ∀ e ∈ wdsN Z1 n ++ wdsN Z (m - n), e < 18446744073709551616 := by
      intro e he
      rcases List.mem_append.1 he with h | h
      · exact wdsN_lt e h
      · exact wdsN_lt e h
    have hB3 := HB2.out.trans hb3
    have hF3 : Only (sBlk r) w1 w3 := HF2.out.only.trans HB2.out.size hf3.only
    have Q : Hid (NatR z (subS r 0 (nw (wv xs - wv ys))) (wv xs - wv ys) B w w3) := Lib.hid (by
      have h1 := ho3.takeW hlt
      rw [hnum] at h1
      exact ⟨h1, (HMK.out.below.mono HB.out).trans hB3, HMK.out.fr hS hm1p hB3.size hF3, fun hc => HMK.out.atS hS hSr hc⟩)
    have HNM := Lib.hid (norm_any r _ w3 (ho3.rw' hlt) (by simp [wdsN_length]; omega))
    rw [hnum] at HNM
    have hSq := Q.out.own.isS
    clear ho3 hb3 hf3 hle e2 e3 hnum hlt hvp hZ hB3 hF3 HSBW HSUB hsum hpow hyl hd1
    go_wp2_with fail
    refine HNM.out.mono ?_
    rintro _ _ ⟨rfl, rfl⟩
    go_wp2
    go_ret
    exact ⟨_, rfl, Q.out⟩
  · have hmn2 : m = n := by omega
    have t4 : decide ((n : Int) < (m : Int)) = false := decide_eq_false (by omega)
    have t4' : decide (n < m) = false := decide_eq_false hmn
    obtain ⟨ho2, hb2, hf2⟩ := HPT.out
    rw [show os.drop n = [] from List.drop_of_length_le (by rw [HOS.out]; omega), List.append_nil] at ho2
    have hc0 : c = 0 := by
      rcases (by omega : c = 0 ∨ c = 1) with h | h
      · exact h
      · exfalso
        have h1 := HCS.out; have h2 := HGE.out; have h3 := HZ1.out
        rw [h, Nat.mul_one, List.take_of_length_le (by rw [← HM.out]; omega)] at h1
        omega
    subst hc0
    have hnum : wv (wdsN Z1 n) = wv xs - wv ys := by
      have h1 := HCS.out
      rw [Nat.mul_zero, Nat.add_zero, List.take_of_length_le (by rw [← HM.out]; omega)] at h1
      rw [wv_wdsN_lt HZ1.out]; omega
    have Q : Hid (NatR z (subS r 0 (nw (wv xs - wv ys))) (wv xs - wv ys) B w w2) := Lib.hid (by
      have h1 := ho2.takeW wdsN_lt
      rw [hnum] at h1
      exact ⟨h1, (HMK.out.below.mono HB.out).trans hb2, HMK.out.fr hS hm1p hb2.size hf2.only, fun hc => HMK.out.atS hS hSr hc⟩)
    have HNM := Lib.hid (norm_any r _ w2 (ho2.rw' wdsN_lt) (by simp [wdsN_length]; omega))
    rw [hnum] at HNM
    have hSq := Q.out.own.isS
    clear ho2 hb2 hf2 hnum HSUB HPT hmn hmn2 hc1
    go_wp2_with fail
    refine HNM.out.mono ?_
    rintro _ _ ⟨rfl, rfl⟩
    go_wp2
    go_ret
    exact ⟨_, rfl, Q.out⟩
set_option maxRecDepth 100000 in
set_option maxHeartbeats 1600000 in
theorem nsub_any (z x y : Value) (zs : List Value) (X Y B : Nat) (w : World) (hz : Own w B 116 z zs) (hx : RO w x (wds X)) (hy : RO w y (wds Y)) (ax : Al z x) (ay : Al z y) (hge : Y ≤ X) (hl : nw X ≤ 100000000) (hB : B ≤ w.heap.size) :
    Calls Tryz.prog 88 #[z, x, y] w fun e w' => ∃ r, e = .returned r ∧ NatR z r (X - Y) B w w' := by
  have hS := hz.isS
  have hSx := hx.rw.isS
  have hSy := hy.rw.isS
  have hLx : sLen x = nw X := by rw [hx.rw.len, wds_length]
  have hLy : sLen y = nw Y := by rw [hy.rw.len, wds_length]
  rcases Nat.eq_zero_or_pos (nw Y) with h0 | h0
  · have hY0 := nw_eq_zero.1 h0
    have hLy0 : sLen y = 0 := by rw [hLy, h0]
    rcases Nat.eq_zero_or_pos (nw X) with g0 | g0
    · have hX0 := nw_eq_zero.1 g0
      have hLx0 : sLen x = 0 := by rw [hLx, g0]
      have Q : Hid (NatR z (subS z 0 0) (X - Y) B w w) := Lib.hid (by
        rw [hX0, hY0]
        exact ⟨by have := hz.sub (l := 0) (n := 0) (Nat.le_refl _) (Nat.zero_le _); simpa [cellsW, wds_zero] using this, Below.refl _ _, Fr.refl _ _, fun hc => .inl ⟨by rw [subS_cap hz.isS] at hc; exact hc, subS_blk hz.isS⟩⟩)
      have hSq := Q.out.own.isS
      have hc0 : 0 ≤ sCap z := Nat.zero_le _
      clear hz hx hy ax ay hLx hLy h0 g0 hX0 hY0 hl hge
      go_enter Tryz.func88, Tryz.ntmps88
      go_wp2
      go_ret
      exact ⟨_, rfl, Q.out⟩
    · obtain ⟨m, hm⟩ : ∃ m, m = nw X := ⟨_, rfl⟩
      rw [← hm] at hLx g0
      have t2 : ((m : Int) == 0) = false := by rw [beq_eq_false_iff_ne]; omega
      have t3 : decide ((m : Int) < 0) = false := decide_eq_false (by omega)
      have HS : Hid (Calls Tryz.prog 67 #[z, x] w fun e w' => ∃ r, e = .returned r ∧ NatR z r (X - Y) B w w') := Lib.hid (by
        refine (set_at z x zs (wds X) B w hz hx.rw (by rw [wds_length]; omega) hB).mono ?_
        rintro _ w' ⟨r, rfl, h⟩
        exact ⟨r, rfl, by rw [hY0, Nat.sub_zero]; exact .ofSet h⟩)
      clear hz hx hy ax ay hLy h0 hY0 hm hl hge
      go_enter Tryz.func88, Tryz.ntmps88
      go_wp2_with fail
      refine HS.out.mono ?_
      rintro _ w1 ⟨r, rfl, h⟩
      have Q := Lib.hid h
      have hSq := h.own.isS
      clear h
      go_wp2
      go_ret
      exact ⟨_, rfl, Q.out⟩
  · have := nsub_core z x y zs (wds X) (wds Y) B w hz hx hy.rw ax ay (by rw [wds_length]; exact h0) (by rw [wds_length, wds_length]; exact nw_mono hge) (by rw [wv_wds, wv_wds]; exact hge) (by rw [wds_length]; exact hl) hB
    rw [wv_wds, wv_wds] at this
    exact this
end Go.Proofs.YtgbmlaffilccnaaGreatDoor

/-
A number shifted to the left into a new slice; fnorm with its answer; alias of nothing. No condition.
-/
namespace Go.Proofs.YtgbmlaffilccnaaGreatDoor
open Go.RowKit

theorem top_carry {X L t : Nat} (hX : X < 18446744073709551616 ^ (L + 1)) (_h0 : 0 < t) (ht : t < 64) : wdg X L / 2 ^ (64 - t) = X * 2 ^ t / 18446744073709551616 ^ (L + 1) := by
  have h1 : wdg X L = X / 18446744073709551616 ^ L := by
    unfold wdg
    rw [Nat.mod_eq_of_lt]
    exact Nat.div_lt_of_lt_mul (by rw [Nat.pow_succ] at hX; exact hX)
  rw [h1, Nat.div_div_eq_div_mul, Nat.pow_succ, ← word_split (s := t) (by omega), ← Nat.mul_assoc, Nat.mul_div_mul_right _ _ (Nat.two_pow_pos t)]
set_option maxRecDepth 100000 in
set_option maxHeartbeats 3200000 in
theorem lsh_nil (x : Value) (X s : Nat) (w : World) (hx : RW w x (wds X)) (h0 : 0 < X) (hl : nw X ≤ 10000000) (hs0 : 0 < s) (hs : s ≤ 1000000000) :
    Calls Tryz.prog 80 #[.slice none 0 0, x, .int .u64 s] w fun e w' => ∃ r, e = .returned r ∧ Own w' w.heap.size 116 r (cellsW (wds (X * 2 ^ s))) ∧ Below w.heap.size w w' := by
  have hS := hx.isS
  have hSn := IsS.nil
  have hL : sLen x = nw X := by rw [hx.len, wds_length]
  have hp := nw_pos h0
  obtain ⟨m, hm⟩ : ∃ m, m = nw X := ⟨_, rfl⟩
  obtain ⟨k, hk⟩ : ∃ k, k = s / 64 := ⟨_, rfl⟩
  obtain ⟨t, ht⟩ : ∃ t, t = s % 64 := ⟨_, rfl⟩
  obtain ⟨n, hn⟩ : ∃ n, n = m + k := ⟨_, rfl⟩
  obtain ⟨n1, hn1⟩ : ∃ n1, n1 = n + 1 := ⟨_, rfl⟩
  rw [← hm] at hL hl hp
  have hcx : m ≤ sCap x := by have := hS.le; omega
  have t0 : ((s : Int) == 0) = false := by rw [beq_eq_false_iff_ne]; omega
  have t1 : ((m : Int) == 0) = false := by rw [beq_eq_false_iff_ne]; omega
  have e1 : (s : Int) / 64 = (k : Int) := by omega
  have e2 : (m : Int) + (k : Int) = (n : Int) := by omega
  have e3 : (n : Int) + 1 = (n1 : Int) := by omega
  have e4 : (s : Int) % 64 = (t : Int) := by omega
  have e5 : (n : Int) - (m : Int) = (k : Int) := by omega
  have hkb : k ≤ 100000000 := by omega
  have hnb : n ≤ 200000000 := by omega
  have hkn : k ≤ n := by omega
  have hnn1 : n < n1 := by omega
  have ht64 : t < 64 := by omega
  have HS : Hid (X * 2 ^ s = 18446744073709551616 ^ k * (X * 2 ^ t)) := Lib.hid (by
    rw [w_two, Nat.mul_left_comm, ← Nat.pow_add]; congr 2; omega)
  have HX := Lib.hid hx
  have HM := Lib.hid hm
  have HN := Lib.hid hn
  have HN1 := Lib.hid hn1
  have HMW : Hid (X < 18446744073709551616 ^ m) := Lib.hid (by rw [hm]; exact lt_nw X)
  clear hx hm hk ht hn hn1
  go_enter Tryz.func80, Tryz.ntmps80
  go_wp2_with fail
  refine (make_nil n1 w (by omega)).mono ?_
  rintro _ w1 ⟨z, rfl, ho, hb, hcz⟩
  have hSz := ho.isS
  have hLz : sLen z = n1 := by rw [ho.len]; simp
  have hcz1 : n1 ≤ sCap z := by have := hSz.le; omega
  have hcz0 : 0 < sCap z := by omega
  have hzB := (ho.lt hcz0).1
  have hX1 := HX.out.below hb
  have hSk : IsS (subS z k n) := subS_isS hSz hkn (by omega)
  have hS0k : IsS (subS z 0 k) := subS_isS hSz (Nat.zero_le _) (by omega)
  have hsub := ho.sub (l := k) (n := n) hkn (by simp; omega)
  have hsl : (((List.replicate n1 (Value.int .u64 0)).take n).drop k).length = m := by simp; have := HN.out; omega
  have hxb : 0 < (wds X).length := by rw [wds_length, ← HM.out]; exact hp
  have hxlt := HX.out.ri.lt (by rw [ints_length]; exact hxb)
  have hne : sBlk x ≠ sBlk (subS z k n) := by rw [subS_blk hSz]; omega
  -- what is common to both ways: the words from k on, the carry, then the words below k
  have hfin : ∀ (w2 : World) (c : Nat), c < 18446744073709551616 → X * 2 ^ t = wv (wdsN (X * 2 ^ t) m) + 18446744073709551616 ^ m * c → VvP (subS z k n) m w.heap.size (X * 2 ^ t) w1 w2 →
      (w2.frozen? ⟨sBlk z, sOff z + n, none⟩ = false ∧ ∃ u, w2.cell? ⟨sBlk z, sOff z + n, none⟩ = some u) ∧
      ∃ os : List Value, os.length = k ∧ Own (w2.setCell ⟨sBlk z, sOff z + n, none⟩ (.int .u64 (c : Int))) w.heap.size 116 (subS z 0 k) os ∧ Below w.heap.size w (w2.setCell ⟨sBlk z, sOff z + n, none⟩ (.int .u64 (c : Int))) ∧
        ∀ w3, Own w3 w.heap.size 116 (subS z 0 k) (List.replicate os.length (.int .u64 0)) → Below w.heap.size (w2.setCell ⟨sBlk z, sOff z + n, none⟩ (.int .u64 (c : Int))) w3 → FrB (sBlk (subS z 0 k)) (sOff (subS z 0 k)) (sOff (subS z 0 k) + os.length) (w2.setCell ⟨sBlk z, sOff z + n, none⟩ (.int .u64 (c : Int))) w3 →
          Calls Tryz.prog 77 #[z] w3 fun e w' => e = .returned (subS z 0 (nw (X * 2 ^ s))) ∧ w3 = w' ∧ Own w3 w.heap.size 116 (subS z 0 (nw (X * 2 ^ s))) (cellsW (wds (X * 2 ^ s))) ∧ Below w.heap.size w w3 := fun w2 c hc hcX hvp => by
    have hmn : n - k = m := by have := HN.out; omega
    have hpt := VvP.patch (l := k) (n := n) ho hkn (by simp; omega) (by rw [hmn]; exact hvp)
    rw [hmn] at hpt
    obtain ⟨ho2, hb2, hf2⟩ := hpt
    have hd : (List.replicate n1 (Value.int .u64 0)).drop n = [.int .u64 0] := by
      rw [List.drop_replicate, show n1 - n = 1 by have := HN1.out; omega]; rfl
    rw [hd] at ho2
    have htk : ((List.replicate n1 (Value.int .u64 0)).take k).length = k := by simp; omega
    have hlen : ((List.replicate n1 (Value.int .u64 0)).take k ++ (cellsW (wdsN (X * 2 ^ t) m) ++ [Value.int .u64 0])).length = n1 := by
      rw [List.length_append, htk, List.length_append, cellsW_length, wdsN_length]; have := HN.out; have := HN1.out; simp; omega
    have hset := ho2.set (i := n) (by rw [hlen]; exact hnn1) (.int .u64 (c : Int))
    have e6 : ((List.replicate n1 (Value.int .u64 0)).take k ++ (cellsW (wdsN (X * 2 ^ t) m) ++ [Value.int .u64 0])).set n (.int .u64 (c : Int)) = (List.replicate n1 (Value.int .u64 0)).take k ++ cellsW (wdsN (X * 2 ^ t) m ++ [c]) := by
      rw [List.set_append_right _ _ (by omega), htk, hmn, List.set_append_right _ _ (by rw [cellsW_length, wdsN_length]; exact Nat.le_refl _), cellsW_length, wdsN_length, Nat.sub_self, ← cellsW_append]
      rfl
    rw [e6] at hset
    have hB3 := bset (i := sOff z + n) (u := .int .u64 (c : Int)) (hb.trans hb2) hzB
    have hs0k := hset.sub (l := 0) (n := k) (Nat.zero_le _) (by rw [List.length_append, htk]; omega)
    refine ⟨⟨ho2.frozen hcz0 _, _, ho2.cell (List.getElem?_eq_getElem (by rw [hlen]; exact hnn1))⟩, _, ?_, hs0k, hB3, fun w3 h1 h2 h3 => ?_⟩
    · rw [List.take_left' htk]; simp; omega
    · have hol : ((((List.replicate n1 (Value.int .u64 0)).take k ++ cellsW (wdsN (X * 2 ^ t) m ++ [c])).take k).drop 0).length = k := by rw [List.take_left' htk]; simp; omega
      rw [hol] at h1 h3
      rw [(sub0 hSz).1, (sub0 hSz).2] at h3
      have hp3 := hset.patch (l := 0) (n := k) (Nat.zero_le _) (by rw [List.length_append, htk]; omega) (by simp) h1 (by rw [Nat.add_zero]; exact h3)
      rw [List.take_zero, List.nil_append, List.drop_left' htk, cellsW_zeros, cellsW_append] at hp3
      have hlt : ∀ e ∈ List.replicate k 0 ++ (wdsN (X * 2 ^ t) m ++ [c]), e < 18446744073709551616 := by
        intro e he
        rcases List.mem_append.1 he with h | h
        · rw [List.eq_of_mem_replicate h]; decide
        · rcases List.mem_append.1 h with h | h
          · exact wdsN_lt e h
          · rw [List.mem_singleton] at h; omega
      have hz0 : ∀ j, wv (List.replicate j 0) = 0 := fun j => by
        induction j with
        | zero => rfl
        | succ j ih => rw [List.replicate_succ]; simp [wv, ih]
      have hnum : wv (List.replicate k 0 ++ (wdsN (X * 2 ^ t) m ++ [c])) = X * 2 ^ s := by
        rw [wv_append, hz0, List.length_replicate, wv_append, wdsN_length, show wv [c] = c by simp [wv], ← hcX, HS.out, Nat.zero_add]
      have hN := norm_any z _ w3 (hp3.rw' hlt) (by simp [wdsN_length]; omega)
      have hT := hp3.takeW hlt
      rw [hnum] at hN hT
      exact hN.mono (fun e w' h => ⟨h.1, h.2, hT, hB3.trans h2⟩)
  have HFIN := Lib.hid hfin
  have HO := Lib.hid ho
  have HB := Lib.hid hb
  have HSUB := Lib.hid hsub
  have HX1 := Lib.hid hX1
  clear hfin ho hb hsub hX1 hcz hxb hxlt
  rcases Nat.eq_zero_or_pos t with ht0 | ht0
  · have t2 : ((t : Int) == 0) = true := by rw [ht0]; rfl
    have HT0 := Lib.hid ht0
    obtain ⟨T, hT⟩ : ∃ T, T = cellsW (wds X) := ⟨_, rfl⟩
    have HT := Lib.hid hT
    have HSL := Lib.hid hsl
    clear ht0 hT hsl
    go_wp2_with (refine wpList_copy_W (o := ⟨some 48, _, _, _, _, _⟩) rfl (.tmp 46) (.tmp 47) 84 84 rfl 116 Tryz.underlying84 sizeW (subS z k n) x rfl rfl w.heap.size _ HSUB.out T ?d1 hS ?d2 ?d3 (by rw [HT.out]; exact cellsW_one _) ?_)
    case d1 => rw [HSL.out, HT.out, cellsW_length, wds_length, ← HM.out]
    case d2 => rw [HT.out, cellsW_length, wds_length, hL, ← HM.out]
    case d3 => rw [HT.out]; exact HX1.out.at
    intro w2 ho2 hb2 hf2 _
    obtain ⟨⟨fz, u, cu⟩, os, hos, ho3, hb3, hk3⟩ := HFIN.out w2 0 (by decide) (by
      rw [HT0.out, Nat.pow_zero, Nat.mul_one, wv_wdsN_lt HMW.out, Nat.mul_zero, Nat.add_zero]) ⟨by
        rw [HT0.out, Nat.pow_zero, Nat.mul_one]
        have h1 : wdsN X m = wds X := by rw [HM.out]; exact wdsN_nw X
        rw [h1, ← HT.out]; exact ho2, hb2, by rw [show min n n1 - k = m by have := HN.out; omega] at hf2; exact hf2⟩
    have HO3 := Lib.hid ho3
    have HB3 := Lib.hid hb3
    have HK3 := Lib.hid hk3
    have HOS := Lib.hid hos
    clear ho2 hb2 hf2 ho3 hb3 hk3 hos
    go_wp2_with (refine wpList_clear_O (o := ⟨none, _, _, _, _, _⟩) rfl (.tmp 68) 84 rfl elemT rfl (subS z 0 k) rfl w.heap.size os HO3.out ?_)
    intro w3 ho4 hb4 hf4
    have HQ := Lib.hid (HK3.out w3 ho4 hb4 hf4)
    clear ho4 hb4 hf4
    go_wp2_with fail
    refine HQ.out.mono ?_
    rintro _ _ ⟨rfl, rfl, h5, h6⟩
    have Q := Lib.hid (And.intro h5 h6)
    have hSq := h5.isS
    clear h5 h6
    go_wp2
    go_ret
    exact ⟨_, rfl, Q.out⟩
  · have t2 : ((t : Int) == 0) = false := by rw [beq_eq_false_iff_ne]; omega
    have HC : Hid (X * 2 ^ t = wv (wdsN (X * 2 ^ t) m) + 18446744073709551616 ^ m * (wdg X (m - 1) / 2 ^ (64 - t)) ∧ wdg X (m - 1) / 2 ^ (64 - t) < 18446744073709551616) := Lib.hid (by
      obtain ⟨L, rfl⟩ : ∃ L, m = L + 1 := ⟨m - 1, by omega⟩
      rw [Nat.add_sub_cancel]
      refine ⟨?_, Nat.lt_of_le_of_lt (Nat.div_le_self _ _) (wdg_lt _ _)⟩
      rw [top_carry HMW.out ht0 ht64, wdsN_wv]
      have := Nat.mod_add_div (X * 2 ^ t) (18446744073709551616 ^ (L + 1))
      omega)
    have HLS : Hid (∀ j, Calls Tryz.prog 91 #[subS z k n, x, .int .u64 t] (w1.drewN j) fun e w' => e = .returned (.int .u64 (wdg X (m - 1) / 2 ^ (64 - t) : Nat)) ∧ VvP (subS z k n) m w.heap.size (X * 2 ^ t) w1 w') := Lib.hid (fun j => by
      have := lshVU_gen (subS z k n) x _ (wds X) X t w.heap.size (w1.drewN j) (HSUB.out.drewN j) (HX1.out.below (undrewN' (Below.refl _ _))) (wv_wds X) (by rw [hsl, wds_length, HM.out]) (fun h => absurd h hne) (by rw [wds_length, ← HM.out]; exact hp) (by rw [wds_length, ← HM.out]; omega) ht0 ht64
      rw [wds_length, ← HM.out] at this
      refine this.mono ?_
      rintro _ w' ⟨rfl, h1, h2, h3⟩
      exact ⟨rfl, h1, undrewN h2, h3.undrewN⟩)
    obtain ⟨c, hc⟩ : ∃ c, c = wdg X (m - 1) / 2 ^ (64 - t) := ⟨_, rfl⟩
    rw [← hc] at HC HLS
    have HLS0 := Lib.hid (HLS.out 0)
    clear hsl hc ht0
    go_wp2_with fail
    refine (HLS0.out).mono ?_
    rintro _ w2 ⟨rfl, hvp⟩
    obtain ⟨⟨fz, u, cu⟩, os, hos, ho3, hb3, hk3⟩ := HFIN.out w2 c HC.out.2 HC.out.1 hvp
    have HO3 := Lib.hid ho3
    have HB3 := Lib.hid hb3
    have HK3 := Lib.hid hk3
    have HOS := Lib.hid hos
    clear hvp ho3 hb3 hk3 hos
    go_wp2_with (refine wpList_clear_O (o := ⟨none, _, _, _, _, _⟩) rfl (.tmp 68) 84 rfl elemT rfl (subS z 0 k) rfl w.heap.size os HO3.out ?_)
    intro w3 ho4 hb4 hf4
    have HQ := Lib.hid (HK3.out w3 ho4 hb4 hf4)
    clear ho4 hb4 hf4
    go_wp2_with fail
    refine HQ.out.mono ?_
    rintro _ _ ⟨rfl, rfl, h5, h6⟩
    have Q := Lib.hid (And.intro h5 h6)
    have hSq := h5.isS
    clear h5 h6
    go_wp2
    go_ret
    exact ⟨_, rfl, Q.out⟩
set_option maxRecDepth 100000 in
theorem alias_nil (x : Value) (w : World) (_hx : IsS x) :
    Calls Tryz.prog 86 #[.slice none 0 0, x] w fun e w' => e = .returned (.bool false) ∧ ∃ m, w' = w.drewN m := by
  have hS := IsS.nil
  go_enter Tryz.func86, Tryz.ntmps86
  go_wp2_with fail
  go_quiet (fail)
  go_wp2
  go_ret
  exact ⟨rfl, _, rfl⟩
end Go.Proofs.YtgbmlaffilccnaaGreatDoor

/-
Sums and differences of dyadic values. No condition.
-/
namespace Go.Proofs.YtgbmlaffilccnaaGreatDoor
open Go.RowKit

theorem deq_lift {X M : Nat} {ex E : Int} (h : deq X ex M E) {e : Int} (h1 : e ≤ ex) (h2 : e ≤ E) : X * 2 ^ (ex - e).toNat = M * 2 ^ (E - e).toNat := by
  obtain ⟨i, j, h3, h4⟩ := h
  by_cases hi : i ≤ (ex - e).toNat
  · rw [show (ex - e).toNat = i + ((ex - e).toNat - i) by omega, Nat.pow_add, ← Nat.mul_assoc, h3, Nat.mul_assoc, ← Nat.pow_add]
    congr 2; omega
  · have hp : 0 < 2 ^ (i - (ex - e).toNat) := Nat.two_pow_pos _
    apply Nat.eq_of_mul_eq_mul_right hp
    rw [Nat.mul_assoc, ← Nat.pow_add, show (ex - e).toNat + (i - (ex - e).toNat) = i by omega, h3, Nat.mul_assoc, ← Nat.pow_add]
    congr 2; omega
/-- A magnitude brought to a lower exponent. -/
def lo (M : Nat) (E e : Int) : Nat := M * 2 ^ (E - e).toNat
theorem lo_lo {M : Nat} {E e t : Int} (h1 : e ≤ E) (h2 : t ≤ e) : lo M E e * 2 ^ (e - t).toNat = lo M E t := by
  unfold lo; rw [Nat.mul_assoc, ← Nat.pow_add]; congr 2; omega
theorem deq_lo {X M : Nat} {ex E : Int} (h : deq X ex M E) {e : Int} (h1 : e ≤ ex) (h2 : e ≤ E) : lo X ex e = lo M E e := deq_lift h h1 h2
theorem lo_self (M : Nat) (E : Int) : lo M E E = M := by unfold lo; simp
theorem lo_pos {M : Nat} {E e : Int} (h : 0 < M) : 0 < lo M E e := Nat.mul_pos h (Nat.two_pow_pos _)
theorem bl_lo (M : Nat) (E e : Int) : bl (lo M E e) ≤ bl M + (E - e).toNat := by
  refine bl_le ?_
  rw [Nat.pow_add]; exact Nat.mul_lt_mul_of_pos_right (lt_bl M) (Nat.two_pow_pos _)
/-- The sum at the lower exponent. -/
def suM (M : Nat) (E : Int) (N : Nat) (F : Int) : Nat := lo M E (min E F) + lo N F (min E F)
def diM (M : Nat) (E : Int) (N : Nat) (F : Int) : Nat := lo M E (min E F) - lo N F (min E F)
theorem deq_of_lo {S T : Nat} {e g t : Int} (h1 : t ≤ e) (h2 : t ≤ g) (h : S * 2 ^ (e - t).toNat = T * 2 ^ (g - t).toNat) : deq S e T g := ⟨(e - t).toNat, (g - t).toNat, h, by omega⟩
theorem deq_su {X Y M N : Nat} {ex ey E F : Int} (h1 : deq X ex M E) (h2 : deq Y ey N F) : deq (suM X ex Y ey) (min ex ey) (suM M E N F) (min E F) := by
  refine deq_of_lo (t := min (min ex ey) (min E F)) (by omega) (by omega) ?_
  unfold suM
  rw [Nat.add_mul, Nat.add_mul, lo_lo (by omega) (by omega), lo_lo (by omega) (by omega), lo_lo (by omega) (by omega), lo_lo (by omega) (by omega), deq_lo h1 (by omega) (by omega), deq_lo h2 (by omega) (by omega)]
theorem deq_di {X Y M N : Nat} {ex ey E F : Int} (h1 : deq X ex M E) (h2 : deq Y ey N F) : deq (diM X ex Y ey) (min ex ey) (diM M E N F) (min E F) := by
  refine deq_of_lo (t := min (min ex ey) (min E F)) (by omega) (by omega) ?_
  unfold diM
  rw [Nat.sub_mul, Nat.sub_mul, lo_lo (by omega) (by omega), lo_lo (by omega) (by omega), lo_lo (by omega) (by omega), lo_lo (by omega) (by omega), deq_lo h1 (by omega) (by omega), deq_lo h2 (by omega) (by omega)]
theorem deq_le {X Y M N : Nat} {ex ey E F : Int} (h1 : deq X ex M E) (h2 : deq Y ey N F) : lo Y ey (min ex ey) ≤ lo X ex (min ex ey) ↔ lo N F (min E F) ≤ lo M E (min E F) := by
  have hA : 0 < 2 ^ (min ex ey - min (min ex ey) (min E F)).toNat := Nat.two_pow_pos _
  have hB : 0 < 2 ^ (min E F - min (min ex ey) (min E F)).toNat := Nat.two_pow_pos _
  have e1 : lo Y ey (min ex ey) * 2 ^ (min ex ey - min (min ex ey) (min E F)).toNat = lo N F (min E F) * 2 ^ (min E F - min (min ex ey) (min E F)).toNat := by
    rw [lo_lo (by omega) (by omega), lo_lo (by omega) (by omega), deq_lo h2 (by omega) (by omega)]
  have e2 : lo X ex (min ex ey) * 2 ^ (min ex ey - min (min ex ey) (min E F)).toNat = lo M E (min E F) * 2 ^ (min E F - min (min ex ey) (min E F)).toNat := by
    rw [lo_lo (by omega) (by omega), lo_lo (by omega) (by omega), deq_lo h1 (by omega) (by omega)]
  rw [← Nat.mul_le_mul_right_iff hA, e1, e2, Nat.mul_le_mul_right_iff hB]
theorem suM_comm (M : Nat) (E : Int) (N : Nat) (F : Int) : suM M E N F = suM N F M E := by
  unfold suM; rw [Nat.add_comm, show min E F = min F E by omega]
/-- A Float's mantissa is a number without a word 0 at its top. -/
theorem Good.wds {ws : List Nat} {p : Nat} (h : Good ws p) : ws = wds (wv ws) := by
  have h1 := h.bl
  obtain ⟨h2, -, h3, h4, -⟩ := h
  have hp : 0 < wv ws := Nat.lt_of_lt_of_le (Nat.two_pow_pos _) h4
  exact wds_of h3 (by rw [nw_bl hp, h1]; omega)
end Go.Proofs.YtgbmlaffilccnaaGreatDoor

/-
Floats out of bytes: validate0, GobDecode. No condition.
-/
namespace Go.Proofs.YtgbmlaffilccnaaGreatDoor
open Go.RowKit

theorem msb_and {d : Nat} (h1 : 9223372036854775808 ≤ d) (h2 : d < 18446744073709551616) : bits .and .u64 (d : Int) 9223372036854775808 = 9223372036854775808 := by
  rw [show (9223372036854775808 : Int) = ((9223372036854775808 : Nat) : Int) from rfl, bits_and_u64_nat d _ h2 (by decide)]
  have h3 : d &&& 9223372036854775808 = 9223372036854775808 := by
    refine Nat.eq_of_testBit_eq fun i => ?_
    rw [Nat.testBit_and, show (9223372036854775808 : Nat) = 2 ^ 63 from rfl, Nat.testBit_two_pow]
    by_cases hi : 63 = i
    · subst hi
      have : d.testBit 63 = true := by
        rw [Nat.testBit_eq_decide_div_mod_eq]
        exact decide_eq_true (by omega)
      rw [this]; rfl
    · rw [decide_eq_false hi, Bool.and_false]
  rw [h3]
theorem Good.top {ws : List Nat} {p : Nat} (h : Good ws p) : 9223372036854775808 ≤ ws.getD (ws.length - 1) 0 ∧ ws.getD (ws.length - 1) 0 < 18446744073709551616 := by
  obtain ⟨h1, h2, h3, h4, h5⟩ := h
  obtain ⟨n, hn⟩ : ∃ n, ws.length = n + 1 := ⟨ws.length - 1, by omega⟩
  rw [hn, Nat.add_sub_cancel, ← wv_dig h3]
  unfold wdg
  refine ⟨?_, Nat.mod_lt _ (by decide)⟩
  have hlt := wv_lt h3
  rw [hn] at hlt h4
  have e1 : wv ws / 18446744073709551616 ^ n < 18446744073709551616 := Nat.div_lt_of_lt_mul (by rw [← Nat.pow_succ]; exact hlt)
  rw [Nat.mod_eq_of_lt e1, Nat.le_div_iff_mul_le (Nat.pow_pos (by decide))]
  have e2 : 64 * (n + 1) - 1 = 63 + 64 * n := by omega
  rw [e2, Nat.pow_add, Nat.pow_mul] at h4
  exact h4
set_option maxRecDepth 100000 in
set_option maxHeartbeats 1600000 in
theorem valid_any (b B p m f M : Nat) (a X : Int) (neg : Bool) (w : World) (h : FVal w B b p m a f neg M X) (hp : 0 < p) :
    Calls Tryz.prog 47 #[.pointer (some ⟨b, 0, none⟩)] w fun e' w' => e' = .returned (.string { data := #[] }) ∧ w = w' := by
  obtain ⟨v, e, h1, h2⟩ := h
  obtain ⟨c0, c1, c2, c3, c4, c5, c6⟩ := h1.cells
  by_cases hf : f = 1
  · subst hf
    obtain ⟨-, ws, ho, hg, -⟩ := h2 rfl
    have c3' : w.cell? ⟨b, 3, none⟩ = some (.int .u8 1) := c3
    have hS := ho.isS
    obtain ⟨t1, t2⟩ := hg.top
    obtain ⟨n, hn⟩ : ∃ n, ws.length = n + 1 := ⟨ws.length - 1, by have := hg.1; omega⟩
    have hL : sLen v = n + 1 := by rw [ho.len, cellsW_length, hn]
    have cw := (ho.rw' hg.2.2.1).cell n (by omega)
    rw [hn, Nat.add_sub_cancel] at t1 t2
    obtain ⟨d, hd⟩ : ∃ d, d = ws.getD n 0 := ⟨_, rfl⟩
    rw [← hd] at t1 t2 cw
    have tm := msb_and t1 t2
    have tl : (((n + 1 : Nat) : Int) == 0) = false := by rw [beq_eq_false_iff_ne]; omega
    have tp : ((p : Int) == 0) = false := by rw [beq_eq_false_iff_ne]; omega
    have e1 : ((n + 1 : Nat) : Int) - 1 = (n : Int) := by omega
    have hnl : n < sLen v := by omega
    have hnb : n ≤ 1000000 := by have := hg.2.1; omega
    obtain ⟨k, hk⟩ : ∃ k, k = n + 1 := ⟨_, rfl⟩
    rw [← hk] at hL tl e1
    clear h1 h2 ho hg hn hd c3 hk
    go_enter Tryz.func47, Tryz.ntmps47
    go_wp2
    refine bodyPost_ret (v := .string { data := #[] }) ?_ rfl ⟨rfl, rfl⟩
    simp [results, Tryz.results47]
  · have t2 : ((f : Int) != 1) = true := by rw [bne_iff_ne]; omega
    clear h2 h1
    go_enter Tryz.func47, Tryz.ntmps47
    go_wp2
    refine bodyPost_ret (v := .string { data := #[] }) ?_ rfl ⟨rfl, rfl⟩
    simp [results, Tryz.results47]
theorem kf_un {m f : Nat} {neg : Bool} (h : m ≤ 5) (hf : f ≤ 1) : bits .and .u8 (((kfH m f neg : Nat) : Int) / 32) 7 = (m : Int) ∧ bits .and .u8 (((kfH m f neg : Nat) : Int) / 8) 3 = 1 ∧ bits .and .u8 (((kfH m f neg : Nat) : Int) / 2) 3 = (f : Int) ∧ (bits .and .u8 ((kfH m f neg : Nat) : Int) 1 != 0) = neg := by
  rcases (by omega : m = 0 ∨ m = 1 ∨ m = 2 ∨ m = 3 ∨ m = 4 ∨ m = 5) with rfl | rfl | rfl | rfl | rfl | rfl <;> rcases (by omega : f = 0 ∨ f = 1) with rfl | rfl <;> cases neg <;> exact ⟨rfl, rfl, rfl, rfl⟩
/-- What is read back: with precision 0 as it was, else rounded. -/
def GobP (w : World) (B b q k p m f : Nat) (neg : Bool) (M : Nat) (X : Int) : Prop :=
  (q = 0 → FVal w B b p m 0 f neg M X) ∧ (q ≠ 0 → FVal w B b q k (stA f q k neg M) f neg (rQ q k neg 0 M) (X + rk q M))
theorem gob_len (m f : Nat) (neg : Bool) (p eu L N : Nat) : (keptF m f neg p eu L N).length = 6 + (if f = 1 then 4 + 8 * L else 0) := by
  unfold keptF
  split <;> simp [bbs_length] <;> omega
theorem gob_2 (m f : Nat) (neg : Bool) (p eu L N : Nat) : ∃ R, (keptF m f neg p eu L N).drop 2 = bbs 4 p ++ R := ⟨_, rfl⟩
theorem gob_6 (m : Nat) (neg : Bool) (p eu L N : Nat) : (keptF m 1 neg p eu L N).drop 6 = bbs 4 eu ++ bbs (8 * L) N := rfl
theorem gob_10 (m : Nat) (neg : Bool) (p eu L N : Nat) : (keptF m 1 neg p eu L N).drop 10 = bbs (8 * L) N := rfl
theorem bbs_4 (n : Nat) (R : List Nat) : (bbs 4 n ++ R).getD 0 0 = byt n 3 ∧ (bbs 4 n ++ R).getD 1 0 = byt n 2 ∧ (bbs 4 n ++ R).getD 2 0 = byt n 1 ∧ (bbs 4 n ++ R).getD 3 0 = byt n 0 := ⟨rfl, rfl, rfl, rfl⟩
theorem be32_at (v : Value) (n : Nat) (R : List Nat) (w : World) (hv : RI .u8 w v (ints (bbs 4 n ++ R))) (hn : n < 4294967296) :
    Calls Tryz.prog 45 #[v] w fun e w' => e = .returned (.int .u32 (n : Int)) ∧ ∃ k, w' = w.drewN k := by
  obtain ⟨b0, b1, b2, b3⟩ := bbs_4 n R
  have := be32_any v (bbs 4 n ++ R) n w hv (by rw [List.length_append, bbs_length]; omega) b0 b1 b2 b3
  rw [Nat.mod_eq_of_lt hn] at this
  exact this
theorem RI.tail {w : World} {v : Value} {bs cs : List Nat} {l T : Nat} (h : RI .u8 w v (ints bs)) (hT : bs.length = T) (hl : l ≤ T) (hc : bs.drop l = cs) : RI .u8 w (subS v l T) (ints cs) :=
  h.part hl (by omega) (by rw [List.take_of_length_le (by omega)]; exact hc)
set_option maxRecDepth 100000 in
set_option maxHeartbeats 3200000 in
theorem gobFD_one (b B q k p m eu M : Nat) (e X : Int) (neg : Bool) (buf : Value) (w : World) (hz : FltR w b q k 0 0 false (.slice none 0 0) 0) (hB : B ≤ b) (hb : RI .u8 w buf (ints (keptF m 1 neg p eu (nw M) (wv (topN M))))) (hne : sBlk buf ≠ b) (hp0 : 0 < p) (hp : p ≤ 64000000) (hq : q ≤ 64000000) (hm : m ≤ 5) (hk : k ≤ 5) (heu : eu < 4294967296) (he : IntKind.i32.wrap (eu : Int) = e)
    (hM : 0 < M) (hMp : bl M ≤ p) (hnM : nw M ≤ 100000) (heX : e = (bl M : Nat) + X) (hX : -2000000000 ≤ X ∧ X + bl M ≤ 2000000000) :
    Calls Tryz.prog 20 #[.pointer (some ⟨b, 0, none⟩), buf] w fun e' w' => e' = .returned .nilIface ∧ GobP w' B b q k p m 1 neg M X ∧ Below B w w' := by
  have hS := hb.isS
  have hC := hS.le
  obtain ⟨T, hT⟩ : ∃ T, T = 10 + 8 * nw M := ⟨_, rfl⟩
  have hkl : (keptF m 1 neg p eu (nw M) (wv (topN M))).length = T := by rw [gob_len, if_pos rfl]; omega
  have hL : sLen buf = T := by rw [hb.len, ints_length, hkl]
  obtain ⟨H, hH⟩ : ∃ H, H = kfH m 1 neg := ⟨_, rfl⟩
  have c0 := hb.cellB (i := 0) (by rw [hkl]; omega)
  rw [show (keptF m 1 neg p eu (nw M) (wv (topN M))).getD 0 0 = 1 from rfl, Nat.add_zero] at c0
  have c0' : w.cell? ⟨sBlk buf, sOff buf, none⟩ = some (.int .u8 1) := c0
  have c1 := hb.cellB (i := 1) (by rw [hkl]; omega)
  rw [show (keptF m 1 neg p eu (nw M) (wv (topN M))).getD 1 0 = H from hH.symm] at c1
  obtain ⟨u1, u2, u3, u4⟩ := kf_un (neg := neg) hm (show 1 ≤ 1 by decide)
  rw [← hH] at u1 u2 u3 u4
  have u3' : bits .and .u8 ((H : Int) / 2) 3 = 1 := u3
  have hH8 : H < 256 := by rw [hH]; exact kfH_lt hm (by decide)
  have t1 : ((T : Int) == 0) = false := by rw [beq_eq_false_iff_ne]; omega
  have t2 : decide (T < 6) = false := decide_eq_false (by omega)
  have t2' : decide ((T : Int) < 6) = false := decide_eq_false (by omega)
  have t3 : decide (T < 10) = false := decide_eq_false (by omega)
  have t3' : decide ((T : Int) < 10) = false := decide_eq_false (by omega)
  have hTb : T ≤ 2000000 := by omega
  have hT10 : 10 ≤ T := by omega
  have HB0 := Lib.hid hb
  have HZ := Lib.hid hz
  have HKL := Lib.hid hkl
  have hne1 : ¬ b = sBlk buf := fun h => hne h.symm
  have hne2 : ¬ sBlk buf = b := hne
  obtain ⟨z0, z1, z2, z3, z4, z5, z6⟩ := hz.cells
  obtain ⟨f0, f1, f2, f3, f4, f5, f6⟩ := hz.free
  have HXX := Lib.hid (And.intro hM (And.intro hMp (And.intro heX hX)))
  have HEU := Lib.hid (And.intro heu he)
  clear hb hz hkl hT hH c0 u3 hM hMp heX hX heu he
  go_enter Tryz.func20, Tryz.ntmps20
  go_upto_region 15 with fail
  obtain ⟨W, hW⟩ : ∃ W, W = (((w.setCell ⟨b, 1, none⟩ (.int .u8 (m : Int))).setCell ⟨b, 2, none⟩ (.int .i8 0)).setCell ⟨b, 3, none⟩ (.int .u8 1)).setCell ⟨b, 4, none⟩ (.bool neg) := ⟨_, rfl⟩
  have RW : FltR W b q m 0 1 neg (.slice none 0 0) 0 := by rw [hW]; exact (((HZ.out.s1 m).s2 0).s3 1).s4 neg
  have BW : Below B w W := by rw [hW]; exact bset (bset (bset (bset (Below.refl B w) hB) hB) hB) hB
  have QW : RI .u8 W buf (ints (keptF m 1 neg p eu (nw M) (wv (topN M)))) := by rw [hW]; exact (((HB0.out.other hne2).other hne2).other hne2).other hne2
  rw [← hW]
  clear hW z0 z1 z2 z3 z4 z5 z6 f0 f1 f2 f3 f4 f5 f6 c0' c1 u1 u2 u3' u4 t1 t2 t2'
  obtain ⟨R2, hR2⟩ := gob_2 m 1 neg p eu (nw M) (wv (topN M))
  have HE := Lib.hid (be32_at (subS buf 2 T) p R2 W (QW.tail HKL.out (by omega) hR2) (by omega))
  obtain ⟨z0, z1, z2, z3, z4, z5, z6⟩ := RW.cells
  obtain ⟨f0, f1, f2, f3, f4, f5, f6⟩ := RW.free
  have hSp : IsS (subS buf 2 T) := subS_isS hS (by omega) (by omega)
  have HRW := Lib.hid RW
  have HBW := Lib.hid BW
  have HQW := Lib.hid QW
  clear RW BW QW hR2
  go_wp2_with fail
  refine HE.out.mono ?_
  rintro _ _ ⟨rfl, k1, rfl⟩
  have f0' : (W.drewN k1).frozen? ⟨b, 0, none⟩ = false := f0
  have z0' : (W.drewN k1).cell? ⟨b, 0, none⟩ = some (.int .u32 (q : Int)) := z0
  go_upto_region 16 with fail
  obtain ⟨V, hV⟩ : ∃ V, V = (W.drewN k1).setCell ⟨b, 0, none⟩ (.int .u32 (p : Int)) := ⟨_, rfl⟩
  have RW : FltR V b p m 0 1 neg (.slice none 0 0) 0 := by rw [hV]; exact (HRW.out.drewN k1).s0 p
  have BW : Below B w V := by rw [hV]; exact bset (undrewN' HBW.out) hB
  have QW : RI .u8 V buf (ints (keptF m 1 neg p eu (nw M) (wv (topN M)))) := by rw [hV]; exact (HQW.out.drewN k1).other hne2
  rw [← hV]
  clear hV z0 z1 z2 z3 z4 z5 z6 f0 f1 f2 f3 f4 f5 f6 z0' f0' HRW HBW HQW HE
  have HE := Lib.hid (be32_at (subS buf 6 T) eu _ V (QW.tail HKL.out (by omega) (gob_6 ..)) HEU.out.1)
  obtain ⟨z0, z1, z2, z3, z4, z5, z6⟩ := RW.cells
  obtain ⟨f0, f1, f2, f3, f4, f5, f6⟩ := RW.free
  have z3' : V.cell? ⟨b, 3, none⟩ = some (.int .u8 1) := z3
  have hSe : IsS (subS buf 6 T) := subS_isS hS (by omega) (by omega)
  have HRW := Lib.hid RW
  have HBW := Lib.hid BW
  have HQW := Lib.hid QW
  clear RW BW QW z3
  go_wp2_with fail
  refine HE.out.mono ?_
  rintro _ _ ⟨rfl, k2, rfl⟩
  have f6' : (V.drewN k2).frozen? ⟨b, 6, none⟩ = false := f6
  have z6' : (V.drewN k2).cell? ⟨b, 6, none⟩ = some (.int .i32 0) := z6
  have ew := HEU.out.2
  go_upto_region 20 with fail
  obtain ⟨U, hU⟩ : ∃ U, U = (V.drewN k2).setCell ⟨b, 6, none⟩ (.int .i32 e) := ⟨_, rfl⟩
  have RW : FltR U b p m 0 1 neg (.slice none 0 0) e := by rw [hU]; exact (HRW.out.drewN k2).s6 e
  have BW : Below B w U := by rw [hU]; exact bset (undrewN' HBW.out) hB
  have QW : RI .u8 U buf (ints (keptF m 1 neg p eu (nw M) (wv (topN M)))) := by rw [hU]; exact (HQW.out.drewN k2).other hne2
  rw [← hU]
  clear hU z0 z1 z2 z3' z4 z5 z6 f0 f1 f2 f3 f4 f5 f6 z6' f6' HRW HBW HQW HE ew
  obtain ⟨z0, z1, z2, z3, z4, z5, z6⟩ := RW.cells
  obtain ⟨hM, hMp, heX, hX⟩ := HXX.out
  have hgd := topN_good hM hMp (by omega)
  have hlN : wv (topN M) < 256 ^ (8 * nw M) := by
    have := wv_lt (topN_lt (M := M))
    rw [topN_length, word_256] at this
    exact this
  have hS10 : IsS (subS buf 10 T) := subS_isS hS (by omega) (by omega)
  have HSB := Lib.hid (fun j => setBytes_nil (subS buf 10 T) (8 * nw M) (wv (topN M)) (U.drewN j) ((QW.tail HKL.out (by omega) (gob_10 ..)).drewN j) hlN (by omega))
  rw [← hgd.wds] at HSB
  have HRW := Lib.hid RW
  have HBW := Lib.hid BW
  have hUs : b < U.heap.size := RW.lt
  have HGD := Lib.hid hgd
  clear RW QW BW hM hMp heX hX hgd hlN
  (refine wp_region_hoist 7 (by kernel_rfl) (by kernel_rfl) ⟨fun _ _ _ h => (by first | exact (hQp _ _ _ h).elim | cases h.2.1 | (obtain ⟨_, h3, _⟩ := h.2; cases h3)), fun _ _ h => (by first | exact (hQo _ _ h).elim | cases h.1 | (obtain ⟨_, h3, _⟩ := h; cases h3))⟩ ?_; simp only [List.take_succ_cons, List.take_zero, List.drop_succ_cons, List.drop_zero]; (repeat (go_big_quiet_step (fail))); refine wpQuiet_nil ?_; rintro _ ⟨nq, rfl⟩)
  go_wp2_with fail
  refine (HSB.out nq).mono ?_
  rintro _ w1 ⟨r, rfl, ho, hb1⟩
  have hSr := ho.isS
  have hb1' := undrewN hb1
  have R1 : FltR w1 b p m 0 1 neg (.slice none 0 0) e := HRW.out.below hb1'
  obtain ⟨y0, y1, y2, y3, y4, y5, y6⟩ := R1.cells
  obtain ⟨g0, g1, g2, g3, g4, g5, g6⟩ := R1.free
  go_upto_region 21 with fail
  obtain ⟨V2, hV2⟩ : ∃ V2, V2 = w1.setCell ⟨b, 5, none⟩ r := ⟨_, rfl⟩
  have hFA : FloatAt V2 B b p m 1 neg M X := by
    rw [hV2]
    exact ⟨hB, r, e, R1.s5 r, fun _ => ⟨HXX.out.2.2.1, (R1.own ho 5 r).mono (show B ≤ (U.drewN nq).heap.size by simp; omega)⟩⟩
  have BV : Below B w V2 := by rw [hV2]; exact bset (HBW.out.trans (hb1'.mono (by simp; omega))) hB
  rw [← hV2]
  clear hV2 y0 y1 y2 y3 y4 y5 y6 g0 g1 g2 g3 g4 g5 g6 R1 ho hb1 hb1' z0 z1 z2 z3 z4 z5 z6 HSB HRW HBW
  have hfv := hFA.val (fun _ => ⟨HXX.out.1, HXX.out.2.1, by omega⟩)
  by_cases hq0 : q = 0
  · have t5 : ((q : Int) != 0) = false := by rw [hq0]; rfl
    have HV := Lib.hid (valid_any b B p m 1 M 0 X neg V2 hfv hp0)
    have HQ : Hid (GobP V2 B b q k p m 1 neg M X) := Lib.hid ⟨fun _ => hfv, fun h => absurd hq0 h⟩
    have HB := Lib.hid BV
    clear hfv hFA BV hq0
    go_wp2_with fail
    refine HV.out.mono ?_
    rintro _ _ ⟨rfl, rfl⟩
    go_wp2
    go_ret
    exact ⟨rfl, HQ.out, HB.out⟩
  · have t5 : ((q : Int) != 0) = true := by rw [bne_iff_ne]; omega
    obtain ⟨-, r0, x0, hr0, -⟩ := hFA
    obtain ⟨z0, z1, z2, z3, z4, z5, z6⟩ := hr0.cells
    obtain ⟨f0, f1, f2, f3, f4, f5, f6⟩ := hr0.free
    have hfk : FVal (V2.setCell ⟨b, 1, none⟩ (.int .u8 (k : Int))) B b p k 0 1 neg M X := by
      obtain ⟨v, e0, h1, h2⟩ := hfv
      obtain ⟨h3, ws, h4, h5, h6⟩ := h2 rfl
      exact ⟨v, e0, h1.s1 k, fun _ => ⟨h3, ws, h1.own h4 1 _, h5, h6⟩⟩
    have BK := bset (i := 1) (u := .int .u8 (k : Int)) BV hB
    have HSP := Lib.hid (setPrec_val b B p q k 1 0 neg M X _ hfk hB (by decide) hp0 hp (by omega) hq hk (fun _ => by have := HXX.out.2.2.2; omega))
    have hqp : 0 < rQ q k neg 0 M := rQ_pos neg 0 (by omega) HXX.out.1
    have HNQ := Lib.hid hq0
    have HBK := Lib.hid BK
    have hqw : IntKind.u64.wrap (q : Int) = (q : Int) := by rw [IntKind.wrap_u64]; omega
    clear hfv BV hq0 hr0 hfk BK
    go_wp2_with fail
    refine HSP.out.mono ?_
    rintro _ w2 ⟨rfl, h2, hb2⟩
    have HV := Lib.hid (valid_any b B q k 1 _ _ _ neg w2 h2 (by have := HNQ.out; omega))
    have HQ : Hid (GobP w2 B b q k p m 1 neg M X) := Lib.hid ⟨fun h => absurd h HNQ.out, fun _ => h2⟩
    have HB := Lib.hid (HBK.out.trans hb2)
    clear h2 hb2 HSP
    go_wp2_with fail
    refine HV.out.mono ?_
    rintro _ _ ⟨rfl, rfl⟩
    go_wp2
    go_ret
    exact ⟨rfl, HQ.out, HB.out⟩
set_option maxRecDepth 100000 in
set_option maxHeartbeats 3200000 in
theorem gobFD_zero (b B q k p m M : Nat) (X : Int) (neg : Bool) (buf : Value) (w : World) (hz : FltR w b q k 0 0 false (.slice none 0 0) 0) (hB : B ≤ b) (hb : RI .u8 w buf (ints (keptF m 0 neg p 0 0 0))) (hne : sBlk buf ≠ b) (hp0 : 0 < p) (hp : p ≤ 64000000) (hq : q ≤ 64000000) (hm : m ≤ 5) (hk : k ≤ 5) :
    Calls Tryz.prog 20 #[.pointer (some ⟨b, 0, none⟩), buf] w fun e' w' => e' = .returned .nilIface ∧ GobP w' B b q k p m 0 neg M X ∧ Below B w w' := by
  have hS := hb.isS
  have hC := hS.le
  obtain ⟨T, hT⟩ : ∃ T, T = 6 := ⟨_, rfl⟩
  have hkl : (keptF m 0 neg p 0 0 0).length = T := by rw [gob_len, if_neg (by decide)]; omega
  have hL : sLen buf = T := by rw [hb.len, ints_length, hkl]
  obtain ⟨H, hH⟩ : ∃ H, H = kfH m 0 neg := ⟨_, rfl⟩
  have c0 := hb.cellB (i := 0) (by rw [hkl]; omega)
  rw [show (keptF m 0 neg p 0 0 0).getD 0 0 = 1 from rfl, Nat.add_zero] at c0
  have c0' : w.cell? ⟨sBlk buf, sOff buf, none⟩ = some (.int .u8 1) := c0
  have c1 := hb.cellB (i := 1) (by rw [hkl]; omega)
  rw [show (keptF m 0 neg p 0 0 0).getD 1 0 = H from hH.symm] at c1
  obtain ⟨u1, u2, u3, u4⟩ := kf_un (neg := neg) hm (show 0 ≤ 1 by decide)
  rw [← hH] at u1 u2 u3 u4
  have u3' : bits .and .u8 ((H : Int) / 2) 3 = 0 := u3
  have hH8 : H < 256 := by rw [hH]; exact kfH_lt hm (by decide)
  have t1 : ((T : Int) == 0) = false := by rw [beq_eq_false_iff_ne]; omega
  have t2 : decide (T < 6) = false := decide_eq_false (by omega)
  have t2' : decide ((T : Int) < 6) = false := decide_eq_false (by omega)
  have hTb : T ≤ 2000000 := by omega
  have hT10 : 6 ≤ T := by omega
  have HB0 := Lib.hid hb
  have HZ := Lib.hid hz
  have HKL := Lib.hid hkl
  have hne1 : ¬ b = sBlk buf := fun h => hne h.symm
  have hne2 : ¬ sBlk buf = b := hne
  obtain ⟨z0, z1, z2, z3, z4, z5, z6⟩ := hz.cells
  obtain ⟨f0, f1, f2, f3, f4, f5, f6⟩ := hz.free
  clear hb hz hkl hT hH c0 u3
  go_enter Tryz.func20, Tryz.ntmps20
  go_upto_region 15 with fail
  obtain ⟨W, hW⟩ : ∃ W, W = (((w.setCell ⟨b, 1, none⟩ (.int .u8 (m : Int))).setCell ⟨b, 2, none⟩ (.int .i8 0)).setCell ⟨b, 3, none⟩ (.int .u8 0)).setCell ⟨b, 4, none⟩ (.bool neg) := ⟨_, rfl⟩
  have RW : FltR W b q m 0 0 neg (.slice none 0 0) 0 := by rw [hW]; exact (((HZ.out.s1 m).s2 0).s3 0).s4 neg
  have BW : Below B w W := by rw [hW]; exact bset (bset (bset (bset (Below.refl B w) hB) hB) hB) hB
  have QW : RI .u8 W buf (ints (keptF m 0 neg p 0 0 0)) := by rw [hW]; exact (((HB0.out.other hne2).other hne2).other hne2).other hne2
  rw [← hW]
  clear hW z0 z1 z2 z3 z4 z5 z6 f0 f1 f2 f3 f4 f5 f6 c0' c1 u1 u2 u3' u4 t1 t2 t2'
  obtain ⟨R2, hR2⟩ := gob_2 m 0 neg p 0 0 0
  have HE := Lib.hid (be32_at (subS buf 2 T) p R2 W (QW.tail HKL.out (by omega) hR2) (by omega))
  obtain ⟨z0, z1, z2, z3, z4, z5, z6⟩ := RW.cells
  obtain ⟨f0, f1, f2, f3, f4, f5, f6⟩ := RW.free
  have hSp : IsS (subS buf 2 T) := subS_isS hS (by omega) (by omega)
  have HRW := Lib.hid RW
  have HBW := Lib.hid BW
  have HQW := Lib.hid QW
  clear RW BW QW hR2
  go_wp2_with fail
  refine HE.out.mono ?_
  rintro _ _ ⟨rfl, k1, rfl⟩
  have f0' : (W.drewN k1).frozen? ⟨b, 0, none⟩ = false := f0
  have z0' : (W.drewN k1).cell? ⟨b, 0, none⟩ = some (.int .u32 (q : Int)) := z0
  go_upto_region 16 with fail
  obtain ⟨V, hV⟩ : ∃ V, V = (W.drewN k1).setCell ⟨b, 0, none⟩ (.int .u32 (p : Int)) := ⟨_, rfl⟩
  have RW : FltR V b p m 0 0 neg (.slice none 0 0) 0 := by rw [hV]; exact (HRW.out.drewN k1).s0 p
  have BV : Below B w V := by rw [hV]; exact bset (undrewN' HBW.out) hB
  rw [← hV]
  clear hV z0 z1 z2 z3 z4 z5 z6 f0 f1 f2 f3 f4 f5 f6 z0' f0' HRW HBW HQW HE
  have hfv : FVal V B b p m 0 0 neg M X := ⟨_, _, RW, fun h => absurd h (by decide)⟩
  obtain ⟨z0, z1, z2, z3, z4, z5, z6⟩ := RW.cells
  obtain ⟨f0, f1, f2, f3, f4, f5, f6⟩ := RW.free
  have z3' : V.cell? ⟨b, 3, none⟩ = some (.int .u8 0) := z3
  clear z3
  by_cases hq0 : q = 0
  · have t5 : ((q : Int) != 0) = false := by rw [hq0]; rfl
    have HV := Lib.hid (valid_any b B p m 0 M 0 X neg V hfv hp0)
    have HQ : Hid (GobP V B b q k p m 0 neg M X) := Lib.hid ⟨fun _ => hfv, fun h => absurd hq0 h⟩
    have HB := Lib.hid BV
    clear hfv RW BV hq0
    go_wp2_with fail
    refine HV.out.mono ?_
    rintro _ _ ⟨rfl, rfl⟩
    go_wp2
    go_ret
    exact ⟨rfl, HQ.out, HB.out⟩
  · have t5 : ((q : Int) != 0) = true := by rw [bne_iff_ne]; omega
    have hfk : FVal (V.setCell ⟨b, 1, none⟩ (.int .u8 (k : Int))) B b p k 0 0 neg M X := ⟨_, _, RW.s1 k, fun h => absurd h (by decide)⟩
    have BK := bset (i := 1) (u := .int .u8 (k : Int)) BV hB
    have HSP := Lib.hid (setPrec_val b B p q k 0 0 neg M X _ hfk hB (by decide) hp0 hp (by omega) hq hk (fun h => absurd h (by decide)))
    have HNQ := Lib.hid hq0
    have HBK := Lib.hid BK
    have hqw : IntKind.u64.wrap (q : Int) = (q : Int) := by rw [IntKind.wrap_u64]; omega
    clear hfv RW BV hq0 hfk BK
    go_wp2_with fail
    refine HSP.out.mono ?_
    rintro _ w2 ⟨rfl, h2, hb2⟩
    have HV := Lib.hid (valid_any b B q k 0 _ _ _ neg w2 h2 (by have := HNQ.out; omega))
    have HQ : Hid (GobP w2 B b q k p m 0 neg M X) := Lib.hid ⟨fun h => absurd h HNQ.out, fun _ => h2⟩
    have HB := Lib.hid (HBK.out.trans hb2)
    clear h2 hb2 HSP
    go_wp2_with fail
    refine HV.out.mono ?_
    rintro _ _ ⟨rfl, rfl⟩
    go_wp2
    go_ret
    exact ⟨rfl, HQ.out, HB.out⟩
end Go.Proofs.YtgbmlaffilccnaaGreatDoor

/-
Floats as bytes: GobEncode and GobDecode of a value. No condition.
-/
namespace Go.Proofs.YtgbmlaffilccnaaGreatDoor
open Go.RowKit

/-- What is written of exponent, length and mantissa. -/
def KE (f M : Nat) (X : Int) : Nat := if f = 1 then (((bl M : Nat) + X) % 4294967296).toNat else 0
def KL (f M : Nat) : Nat := if f = 1 then nw M else 0
def KN (f M : Nat) : Nat := if f = 1 then wv (topN M) else 0
theorem gobF_any (g B p m f M : Nat) (X : Int) (neg : Bool) (w : World) (h : FloatAt w B g p m f neg M X) (hf : f ≤ 1) (hp : p ≤ 64000000) (hm : m ≤ 5) (h1 : f = 1 → 0 < M ∧ bl M ≤ p ∧ nw M ≤ 100000) :
    Calls Tryz.prog 18 #[.pointer (some ⟨g, 0, none⟩)] w fun e' w' => ∃ r, e' = .returned (.tuple #[r, .nilIface]) ∧ RI .u8 w' r (ints (keptF m f neg p (KE f M X) (KL f M) (KN f M))) ∧ Below w.heap.size w w' := by
  obtain ⟨-, r, x, h2, h3⟩ := h
  rcases (by omega : f = 0 ∨ f = 1) with rfl | rfl
  · exact gobF_zero g p m x neg r w h2 hp hm
  · obtain ⟨hM, hMp, hnM⟩ := h1 rfl
    obtain ⟨hx, ho⟩ := h3 rfl
    have hl := topN_length M
    have hnb := nw_bl hM
    have := gobF_one g B p m (KE 1 M X) x neg r (topN M) w h2 ho topN_lt hp hm (by rw [hl]; omega) (by rw [hl]; exact nw_pos hM) (by rw [hl]; exact hnM) (by rw [IntKind.wrap_u32', hx]; show _ = (((if (1 : Nat) = 1 then (((bl M : Nat) + X) % 4294967296).toNat else 0 : Nat)) : Int); rw [if_pos rfl]; omega) (by unfold KE; rw [if_pos rfl]; omega)
    rw [hl] at this
    exact this
theorem gobFD_any (b B q k p m f M : Nat) (X : Int) (neg : Bool) (buf : Value) (w : World) (hz : FltR w b q k 0 0 false (.slice none 0 0) 0) (hB : B ≤ b) (hb : RI .u8 w buf (ints (keptF m f neg p (KE f M X) (KL f M) (KN f M)))) (hne : sBlk buf ≠ b) (hp0 : 0 < p) (hp : p ≤ 64000000) (hq : q ≤ 64000000) (hm : m ≤ 5) (hk : k ≤ 5) (hf : f ≤ 1)
    (h1 : f = 1 → 0 < M ∧ bl M ≤ p ∧ nw M ≤ 100000 ∧ -2000000000 ≤ X ∧ X + bl M ≤ 2000000000) :
    Calls Tryz.prog 20 #[.pointer (some ⟨b, 0, none⟩), buf] w fun e' w' => e' = .returned .nilIface ∧ GobP w' B b q k p m f neg M X ∧ Below B w w' := by
  rcases (by omega : f = 0 ∨ f = 1) with rfl | rfl
  · exact gobFD_zero b B q k p m M X neg buf w hz hB hb hne hp0 hp hq hm hk
  · obtain ⟨hM, hMp, hnM, hX1, hX2⟩ := h1 rfl
    exact gobFD_one b B q k p m (KE 1 M X) M ((bl M : Nat) + X) X neg buf w hz hB hb hne hp0 hp hq hm hk (by unfold KE; rw [if_pos rfl]; omega) (by unfold KE; rw [if_pos rfl, IntKind.wrap_i32]; omega) hM hMp hnM rfl ⟨hX1, hX2⟩
/-- What is read back, in one. -/
def kpP (q p : Nat) : Nat := if q = 0 then p else q
def kpK (q m k : Nat) : Nat := if q = 0 then m else k
def kpA (q k f : Nat) (neg : Bool) (M : Nat) : Int := if q = 0 then 0 else stA f q k neg M
def kpR (q k : Nat) (neg : Bool) (M : Nat) : Nat := if q = 0 then M else rQ q k neg 0 M
def kpX (q M : Nat) (X : Int) : Int := if q = 0 then X else X + rk q M
theorem GobP.val {w : World} {B b q k p m f M : Nat} {neg : Bool} {X : Int} (h : GobP w B b q k p m f neg M X) : FVal w B b (kpP q p) (kpK q m k) (kpA q k f neg M) f neg (kpR q k neg M) (kpX q M X) := by
  unfold kpP kpK kpA kpR kpX
  by_cases hq : q = 0
  · rw [if_pos hq, if_pos hq, if_pos hq, if_pos hq, if_pos hq]; exact h.1 hq
  · rw [if_neg hq, if_neg hq, if_neg hq, if_neg hq, if_neg hq]; exact h.2 hq
theorem kpA_bd (q k f : Nat) (neg : Bool) (M : Nat) : -1 ≤ kpA q k f neg M ∧ kpA q k f neg M ≤ 1 := by
  unfold kpA stA rA; repeat' split
  all_goals omega
theorem kpX_range {q k M : Nat} {neg : Bool} {X : Int} (h : -2000000000 ≤ X ∧ X + bl M ≤ 2000000000) (hb : bl M ≤ 1000000) : -2140000000 ≤ kpX q M X ∧ kpX q M X + bl (kpR q k neg M) ≤ 2140000000 := by
  unfold kpX kpR
  split
  · omega
  · have h1 := rk_le q M
    have h2 := bl_rQ q k neg 0 M
    omega
set_option maxRecDepth 100000 in
set_option maxHeartbeats 3200000 in
theorem impKeptF (P E q k p m f : Nat) (neg : Bool) (v : Value) (e : Int) (ws : List Nat) (w : World) (hv : RW w v ws) (ho : RealOk P E p m f ws e) (hf : f ≤ 1) (hP : P ≤ 1000000) (hE : E ≤ 100000000) (hq : q ≤ 1000000) (hk : k ≤ 5) (hT : TabW w) :
    Calls Tryz.prog 8 #[.int .u64 q, .int .i64 k, .agg #[.int .u64 p, .int .i64 m, .int .i64 f, .bool neg, v, .int .i64 e]] w fun e' w' => ∃ z, e' = .returned (.tuple #[z, .int .i64 (kpA q k f neg (wv ws)), .bool true]) ∧ RealV w' z (kpP q p) (kpK q m k) f neg (kpR q k neg (wv ws)) (kpX q (wv ws) e) ∧ Below w.heap.size w w' := by
  have hS := hv.isS
  have hab := (Below.refl w.heap.size w).alloc (Nat.le_refl _) (.cells #[.int .u64 p, .int .i64 m, .int .i64 f, .bool neg, v, .int .i64 e] 26)
  have hac := hab.alloc hab.size (.cells #[.int .u64 0, .int .i64 0, .int .i64 0, .bool false, .slice none 0 0, .int .i64 0] 26)
  obtain ⟨X, hX⟩ : ∃ X, X = ((w.alloc (.cells #[.int .u64 p, .int .i64 m, .int .i64 f, .bool neg, v, .int .i64 e] 26)).alloc (.cells #[.int .u64 0, .int .i64 0, .int .i64 0, .bool false, .slice none 0 0, .int .i64 0] 26)) := ⟨_, rfl⟩
  have hr1 : X.heap[w.heap.size]? = some (.cells #[.int .u64 p, .int .i64 m, .int .i64 f, .bool neg, v, .int .i64 e] 26 (0, 0)) := by
    rw [hX]; exact row_chain21
  have hr2 : X.heap[w.heap.size + 1]? = some (.cells #[.int .u64 0, .int .i64 0, .int .i64 0, .bool false, .slice none 0 0, .int .i64 0] 26 (0, 0)) := by
    rw [hX]; exact row_chain22
  rw [← hX] at hac
  obtain ⟨⟨x0, x1, x2, x3, x4, x5⟩, -⟩ := row6 hr1
  have hXs := hac.size
  have hXn : w.heap.size + 1 < X.heap.size := get_lt hr2
  have V1 := Lib.hid (hv.below hac)
  have HO := Lib.hid ho
  have HT := Lib.hid (hT.below hac)
  have HR2 := Lib.hid hr2
  have HW := Lib.hid hac
  have hp0 : 0 < p := ho.1
  have hpP : p ≤ 1000000 := Nat.le_trans ho.2.1 hP
  have hm5 : m ≤ 5 := ho.2.2.1
  have K1 : Hid (f = 1 → 0 < wv ws ∧ bl (wv ws) ≤ p ∧ nw (wv ws) ≤ 100000 ∧ -2000000000 ≤ e ∧ e + bl (wv ws) ≤ 2000000000) := Lib.hid (fun h1 => by
    have h2 := ho.2.1
    obtain ⟨-, -, -, h | h | ⟨-, a1, a2, a3, a4, a5⟩⟩ := ho
    · omega
    · omega
    · have := nw_bl a1
      omega)
  have HA := kpA_bd q k f neg (wv ws)
  have hPP : kpP q p ≤ 1000000 ∧ 0 < kpP q p := by unfold kpP; split <;> omega
  have hKK : kpK q m k ≤ 5 := by unfold kpK; split <;> omega
  have HRG : Hid (f = 1 → -2140000000 ≤ kpX q (wv ws) e ∧ kpX q (wv ws) e + bl (kpR q k neg (wv ws)) ≤ 2140000000) := Lib.hid (fun h => kpX_range ⟨(K1.out h).2.2.2.1, (K1.out h).2.2.2.2⟩ (by have := (K1.out h).2.1; omega))
  have HVAL := Lib.hid (fun (W : World) (b : Nat) (h : GobP W b b q k p m f neg (wv ws) e) => h.val)
  obtain ⟨PP, hPPe⟩ : ∃ x, x = kpP q p := ⟨_, rfl⟩
  obtain ⟨KK, hKKe⟩ : ∃ x, x = kpK q m k := ⟨_, rfl⟩
  obtain ⟨A, hAe⟩ : ∃ x, x = kpA q k f neg (wv ws) := ⟨_, rfl⟩
  obtain ⟨R, hRe⟩ : ∃ x, x = kpR q k neg (wv ws) := ⟨_, rfl⟩
  obtain ⟨RX, hRXe⟩ : ∃ x, x = kpX q (wv ws) e := ⟨_, rfl⟩
  rw [← hPPe, ← hKKe, ← hAe, ← hRe, ← hRXe] at HVAL ⊢
  rw [← hRe, ← hRXe] at HRG
  rw [← hPPe] at hPP
  rw [← hKKe] at hKK
  rw [← hAe] at HA
  clear hPPe hKKe hAe hRe hRXe
  clear hv ho hT hab hac hr1 hr2
  go_enter Tryz.func8, Tryz.ntmps8
  go_upto_region 1 with fail
  rw [← hX]
  clear hX
  go_wp2_with fail
  refine (float_any P E p m f neg v e ws X V1.out HO.out (by omega) (by omega)).mono ?_
  rintro _ w1 ⟨g, rfl, hF, hb1⟩
  have HF := Lib.hid hF
  have HB1 := Lib.hid hb1
  clear hF hb1 x0 x1 x2 x3 x4 x5
  go_wp2_with fail
  refine (gobF_any g _ p m f (wv ws) e neg w1 HF.out hf (by omega) hm5 (fun h => ⟨(K1.out h).1, (K1.out h).2.1, (K1.out h).2.2.1⟩)).mono ?_
  rintro _ w2 ⟨r, rfl, hri, hb2⟩
  have hSr := hri.isS
  have hrlt := hri.lt (by rw [ints_length, gob_len]; omega)
  have HRI := Lib.hid hri
  have HB2 := Lib.hid (bthen HB1.out hb2)
  clear hri hb2
  go_wp2_with fail
  refine (fresh_all q k w2 (by omega) (by omega)).mono ?_
  rintro _ w3 ⟨b, rfl, ⟨hbe, hz⟩, hb3⟩
  have hbr : sBlk r ≠ b := by omega
  have hHD := Lib.hid (gobFD_any b b q k p m f (wv ws) e neg r w3 hz (Nat.le_refl _) (HRI.out.below hb3) hbr hp0 (by omega) (by omega) hm5 hk hf K1.out)
  have HB3 := Lib.hid (bthen HB2.out hb3)
  have hbX : X.heap.size ≤ b := by have := HB2.out.size; omega
  have hz3 := hz.lt
  clear hz hb3 hbe
  go_wp2_with fail
  refine hHD.out.mono ?_
  rintro _ w4 ⟨rfl, hG, hb4⟩
  have hv4 := HVAL.out w4 b hG
  have HB4 := Lib.hid (HB3.out.trans (hb4.mono hbX))
  have HRL := Lib.hid (implReal b b PP KK f A neg R RX w4 hv4 (by omega) (by omega) (by omega) (fun _ => hPP.2) HRG.out (HT.out.below HB4.out))
  have HV := Lib.hid hv4
  clear hG hb4 hHD hv4
  go_wp2_with fail
  refine HRL.out.mono ?_
  rintro _ w5 ⟨z, rfl, hz, hb5⟩
  obtain ⟨v', e', hv5⟩ := (HV.out.below hb5).form
  have HV5 := Lib.hid hv5
  have hb5' := bthen HB4.out hb5
  have q1 := keep_row hb5' HR2.out
  have B1 := Lib.hid (HW.out.trans (hb5'.mono hXs))
  obtain ⟨vz, Ez, zs, Bz, rfl, h2, hd, h3, h4⟩ := hz
  have hSv := h2.isS
  have H2 := Lib.hid h2
  have H34 := Lib.hid (And.intro hd (And.intro h3 h4))
  have HQ1 := Lib.hid q1
  obtain ⟨⟨x0, x1, x2, x3, x4, x5⟩, g0, g1, g2, g3, g4, g5⟩ := row6 q1
  clear hv5 hb5 hb5' q1 h2 h3 h4 hd HRL
  go_wp2_with fail
  refine (fAcc HV5.out).mono ?_
  rintro _ _ ⟨rfl, rfl⟩
  go_wp2_with fail
  have HS := row6_set (x := .int .u64 (PP : Int)) (y := .int .i64 (KK : Int)) (z := .int .i64 (f : Int)) (x' := .bool neg) (y' := vz) (z' := .int .i64 Ez) HQ1.out
  have HB := bset6 (x := .int .u64 (PP : Int)) (y := .int .i64 (KK : Int)) (z := .int .i64 (f : Int)) (x' := .bool neg) (y' := vz) (z' := .int .i64 Ez) B1.out (Nat.le_succ _)
  obtain ⟨⟨a0, a1, a2, a3, a4, a5⟩, -⟩ := row6 HS
  refine bodyPost_ret (v := .tuple #[.agg #[.int .u64 PP, .int .i64 KK, .int .i64 f, .bool neg, vz, .int .i64 Ez], .int .i64 A, .bool true]) ?_ rfl ⟨_, rfl, ⟨_, _, _, Bz, rfl, ?_, H34.out.1, H34.out.2⟩, HB⟩
  · simp [results, Tryz.results8, go_sem, a0, a1, a2, a3, a4, a5]
  · exact H2.out.same fun hc => by
      have hne : sBlk vz ≠ w.heap.size + 1 := H2.out.ne_row HQ1.out (by decide) hc
      exact heap6_other hne
end Go.Proofs.YtgbmlaffilccnaaGreatDoor
