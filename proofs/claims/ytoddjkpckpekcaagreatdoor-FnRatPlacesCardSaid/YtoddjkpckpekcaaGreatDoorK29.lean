/-
Texts of this proof, joined: VvE VvF MuA MuC InF InG InI RcB. No condition.
-/
import Derived.Test.YtoddjkpckpekcaaGreatDoorK01
import Derived.Test.YtoddjkpckpekcaaGreatDoorK02
import Derived.Test.YtoddjkpckpekcaaGreatDoorK03
import Derived.Test.YtoddjkpckpekcaaGreatDoorK04
import Derived.Test.YtoddjkpckpekcaaGreatDoorK05
import Derived.Test.YtoddjkpckpekcaaGreatDoorK06
import Derived.Test.YtoddjkpckpekcaaGreatDoorK07
import Derived.Test.YtoddjkpckpekcaaGreatDoorK08
import Derived.Test.YtoddjkpckpekcaaGreatDoorK09
import Derived.Test.YtoddjkpckpekcaaGreatDoorK10
import Derived.Test.YtoddjkpckpekcaaGreatDoorK11
import Derived.Test.YtoddjkpckpekcaaGreatDoorK12
import Derived.Test.YtoddjkpckpekcaaGreatDoorK13
import Derived.Test.YtoddjkpckpekcaaGreatDoorK14
import Derived.Test.YtoddjkpckpekcaaGreatDoorK15
import Derived.Test.YtoddjkpckpekcaaGreatDoorK16
import Derived.Test.YtoddjkpckpekcaaGreatDoorK17
import Derived.Test.YtoddjkpckpekcaaGreatDoorK18
import Derived.Test.YtoddjkpckpekcaaGreatDoorK19
import Derived.Test.YtoddjkpckpekcaaGreatDoorK20
import Derived.Test.YtoddjkpckpekcaaGreatDoorK21
import Derived.Test.YtoddjkpckpekcaaGreatDoorK22
import Derived.Test.YtoddjkpckpekcaaGreatDoorK23
import Derived.Test.YtoddjkpckpekcaaGreatDoorK24
import Derived.Test.YtoddjkpckpekcaaGreatDoorK25
import Derived.Test.YtoddjkpckpekcaaGreatDoorK26
import Derived.Test.YtoddjkpckpekcaaGreatDoorK27
import Derived.Test.YtoddjkpckpekcaaGreatDoorK28
import Derived.Shelf.Small.Bits
import Derived.Shelf.Strconv.Itoa0
import Derived.Shelf.Bits.Mul64
import Derived.Test.YtoddjkpckpekcaaGreatDoorProg
import Derived.Laws.Bits64b
import Derived.WalkKit
import Derived.WalkSpells
import Derived.WalkLawsBesides
import Derived.Lib.Hide
import Derived.Deep.QuietTactic
import Derived.BigQuiet
import Derived.Deep.DeepFit
import Derived.Deep.AppendSrc
import Derived.Deep.RegionHeld3
import Derived.Deep.DeepCutAuto
import Derived.Deep.CutRange
namespace Go.Proofs.YtoddjkpckpekcaaGreatDoor
open Go.RowKit

set_option maxRecDepth 100000 in
set_option maxHeartbeats 3200000 in
theorem nadd_core (z x y : Value) (zs : List Value) (xs ys : List Nat) (B : Nat) (w : World) (hz : Own w B 98 z zs) (hx : RO w x xs) (hy : RW w y ys) (ax : Al z x) (ay : Al z y) (hn0 : 0 < ys.length) (hnm : ys.length ≤ xs.length) (hl : xs.length ≤ 100000000) (hB : B ≤ w.heap.size) :
    Calls Tryz.prog 144 #[z, x, y] w fun e w' => ∃ r, e = .returned r ∧ NatR z r (wv xs + wv ys) B w w' := by
  have hS := hz.isS
  have hSx := hx.rw.isS
  have hSy := hy.isS
  obtain ⟨m, hm⟩ : ∃ m, m = xs.length := ⟨_, rfl⟩
  obtain ⟨n, hn⟩ : ∃ n, n = ys.length := ⟨_, rfl⟩
  have hLx : sLen x = m := by rw [hx.rw.len, hm]
  have hLy : sLen y = n := by rw [hy.len, hn]
  have hcx : m ≤ sCap x := by have := hSx.le; omega
  have hcy : n ≤ sCap y := by have := hSy.le; omega
  rw [← hn] at hn0 hnm
  rw [← hm] at hnm hl
  have t1 : decide ((m : Int) < (n : Int)) = false := decide_eq_false (by omega)
  have t2 : ((m : Int) == 0) = false := by rw [beq_eq_false_iff_ne]; omega
  have t3 : ((n : Int) == 0) = false := by rw [beq_eq_false_iff_ne]; omega
  have e1 : (m : Int) + 1 = ((m + 1 : Nat) : Int) := by omega
  obtain ⟨m1, hm1⟩ : ∃ m1, m1 = m + 1 := ⟨_, rfl⟩
  rw [← hm1] at e1
  have HM := Lib.hid hm
  have HN := Lib.hid hn
  have HZ := Lib.hid hz
  have HX := Lib.hid hx
  have HY := Lib.hid hy
  have HAX := Lib.hid ax
  have HAY := Lib.hid ay
  have HB := Lib.hid hB
  have HM1 := Lib.hid hm1
  have hm1b : m1 ≤ 1000000000 := by omega
  have hm1p : 0 < m1 := by omega
  have hmm1 : m < m1 := by omega
  have hnm1 : n ≤ m1 := by omega
  clear hz hx hy ax ay hB hm hn hm1
  go_enter Tryz.func144, Tryz.ntmps144
  go_wp2_with fail
  refine (make_any z zs m1 B w HZ.out hm1b HB.out).mono ?_
  rintro _ w1 ⟨r, rfl, hmk⟩
  obtain ⟨os, hos, hor⟩ := hmk.own
  have hSr := hor.isS
  have hLr : sLen r = m1 := by rw [hor.len, hos]
  have hcr : m1 ≤ sCap r := by have := hSr.le; omega
  have hcr0 : 0 < sCap r := by omega
  have hBr := (hor.lt hcr0).1
  have hX1 := HX.out.below hmk.below
  have hY1 := HY.out.below hmk.below
  have aX := hmk.al hS hm1p HAX.out HX.out.rw (by rw [← HM.out]; omega)
  have aY := hmk.al hS hm1p HAY.out HY.out (by rw [← HN.out]; exact hn0)
  have hSr0 : IsS (subS r 0 n) := subS_isS hSr (Nat.zero_le _) (by omega)
  have hSx0 : IsS (subS x 0 n) := subS_isS hSx (Nat.zero_le _) (by omega)
  have hSy0 : IsS (subS y 0 n) := subS_isS hSy (Nat.zero_le _) (by omega)
  have hsub := hor.sub (l := 0) (n := n) (Nat.zero_le _) (by omega)
  have hsl : ((os.take n).drop 0).length = n := by simp; omega
  have hxt := hX1.rw.take (n := n) (by rw [← HM.out]; exact hnm)
  have hyt := hY1.take (n := n) (by rw [← HN.out]; exact Nat.le_refl _)
  rw [List.take_of_length_le (by rw [← HN.out]; exact Nat.le_refl _)] at hyt
  have HADD : Hid (∀ k, Calls Tryz.prog 136 #[subS r 0 n, subS x 0 n, subS y 0 n] (w1.drewN k) fun e w' => ∃ c : Nat, e = .returned (.int .u64 c) ∧ (c ≤ 1 ∧ wv (xs.take n) + wv ys = wv (wdsN (wv (xs.take n) + wv ys) n) + 18446744073709551616 ^ n * c) ∧ VvP (subS r 0 n) n B (wv (xs.take n) + wv ys) w1 w') := Lib.hid (fun k => by
    have := addVV_any (subS r 0 n) (subS x 0 n) (subS y 0 n) ((os.take n).drop 0) (xs.take n) ys B (w1.drewN k) (hsub.drewN k) (hxt.below (undrewN' (Below.refl _ _))) (hyt.below (undrewN' (Below.refl _ _))) (by rw [hsl, List.length_take, ← HM.out]; omega) (by rw [hsl, ← HN.out]) (by rw [(sub0 hSx).1, (sub0 hSr).1, (sub0 hSx).2, (sub0 hSr).2]; intro h; rw [aX h]; exact Nat.le_refl _)
      (by rw [(sub0 hSy).1, (sub0 hSr).1, (sub0 hSy).2, (sub0 hSr).2]; intro h; rw [aY h]; exact Nat.le_refl _) (by rw [hsl]; omega)
    rw [hsl] at this
    refine this.mono ?_
    rintro _ w' ⟨c, rfl, h1, h2, h3, h4⟩
    exact ⟨c, rfl, h1, h2, undrewN h3, h4.undrewN⟩)
  have HOR := Lib.hid hor
  have HOS := Lib.hid hos
  have HMK := Lib.hid hmk
  have HX1 := Lib.hid hX1
  have HAXR := Lib.hid aX
  clear hor hos hmk hX1 hY1 aX aY hsub hsl hxt hyt
  go_wp2_with fail
  (refine wp_region_hoist 9 (by kernel_rfl) (by kernel_rfl) ⟨fun _ _ _ h => (by first | exact (hQp _ _ _ h).elim | cases h.2.1 | (obtain ⟨_, h3, _⟩ := h.2; cases h3)), fun _ _ h => (by first | exact (hQo _ _ h).elim | cases h.1 | (obtain ⟨_, h3, _⟩ := h; cases h3))⟩ ?_; simp only [List.take_succ_cons, List.take_zero, List.drop_succ_cons, List.drop_zero]; (repeat (go_big_quiet_step (fail))); refine wpQuiet_nil ?_; rintro _ ⟨nq, rfl⟩)
  go_wp2_with fail
  refine (HADD.out _).mono ?_
  rintro _ w2 ⟨c, rfl, ⟨hc1, hcs⟩, hvp⟩
  have hpt := VvP.patch (l := 0) (n := n) HOR.out (Nat.zero_le _) (by rw [HOS.out]; exact hnm1) hvp
  rw [List.take_zero, List.nil_append, Nat.sub_zero] at hpt
  have HCS := Lib.hid hcs
  have HPT := Lib.hid hpt
  clear hcs hpt hvp
  by_cases hmn : n < m
  · have t4 : decide ((n : Int) < (m : Int)) = true := decide_eq_true (by omega)
    have t4' : decide (n < m) = true := decide_eq_true hmn
    obtain ⟨ho2, hb2, hf2⟩ := HPT.out
    have hSr1 : IsS (subS r n m) := subS_isS hSr hnm (by omega)
    have hSx1 : IsS (subS x n m) := subS_isS hSx hnm hcx
    have hsub := ho2.sub (l := n) (n := m) hnm (by simp [cellsW_length, wdsN_length]; rw [HOS.out]; omega)
    have hsl : (((cellsW (wdsN (wv (xs.take n) + wv ys) n) ++ os.drop n).take m).drop n).length = m - n := by simp [cellsW_length, wdsN_length]; rw [HOS.out]; omega
    have hxd : RO w2 (subS x n m) (xs.drop n) := by
      have h1 := HX1.out.drop (n := n) (by rw [← HM.out]; exact hnm)
      rw [← HM.out] at h1
      refine hf2.ro h1 fun hb => .inr ?_
      rw [subS_blk hSx] at hb
      rw [subS_off hSx (by omega), HAXR.out hb]; omega
    have HADW : Hid (∀ k, Calls Tryz.prog 171 #[subS r n m, subS x n m, .int .u64 c] (w2.drewN k) fun e w' => ∃ d : Nat, e = .returned (.int .u64 d) ∧ ∃ Z, d ≤ 1 ∧ Z < 18446744073709551616 ^ (m - n) ∧ wv (xs.drop n) + c = Z + 18446744073709551616 ^ (m - n) * d ∧ VvP (subS r n m) (m - n) B Z w2 w') := Lib.hid (fun k => by
      have := addVW_gen (subS r n m) (subS x n m) _ (xs.drop n) c B (w2.drewN k) (hsub.drewN k) (hxd.below (undrewN' (Below.refl _ _))) (by rw [hsl, List.length_drop, ← HM.out]) (by rw [subS_blk hSx, subS_blk hSr]; intro h; rw [subS_off hSx (by omega), subS_off hSr (by omega), HAXR.out h]) (by rw [hsl]; omega) (by rw [hsl]; omega) (by omega)
      rw [hsl] at this
      refine this.mono ?_
      rintro _ w' ⟨d, rfl, Z, h1, h2, h3, h4, h5, h6⟩
      exact ⟨d, rfl, Z, h1, h2, h3, h4, undrewN h5, h6.undrewN⟩)
    have HO2 := Lib.hid ho2
    have HB2 := Lib.hid hb2
    have HF2 := Lib.hid hf2
    clear ho2 hb2 hf2 hsub hsl hxd HPT
    go_wp2_with fail
    (refine wp_region_hoist 8 (by kernel_rfl) (by kernel_rfl) ⟨fun _ _ _ h => (by first | exact (hQp _ _ _ h).elim | cases h.2.1 | (obtain ⟨_, h3, _⟩ := h.2; cases h3)), fun _ _ h => (by first | exact (hQo _ _ h).elim | cases h.1 | (obtain ⟨_, h3, _⟩ := h; cases h3))⟩ ?_; simp only [List.take_succ_cons, List.take_zero, List.drop_succ_cons, List.drop_zero]; (repeat (go_big_quiet_step (fail))); refine wpQuiet_nil ?_; rintro _ ⟨nq, rfl⟩)
    go_wp2_with fail
    refine (HADW.out _).mono ?_
    rintro _ w3 ⟨d, rfl, Z, hd1, hZl, hZ, hvp⟩
    have hpt := VvP.patch (l := n) (n := m) HO2.out hnm (by simp [cellsW_length, wdsN_length]; rw [HOS.out]; omega) hvp
    obtain ⟨ho3, hb3, hf3⟩ := hpt
    have hle : (cellsW (wdsN (wv (xs.take n) + wv ys) n)).length = n := by rw [cellsW_length, wdsN_length]
    have e2 : (cellsW (wdsN (wv (xs.take n) + wv ys) n) ++ os.drop n).take n = cellsW (wdsN (wv (xs.take n) + wv ys) n) := List.take_left' hle
    have e3 : (cellsW (wdsN (wv (xs.take n) + wv ys) n) ++ os.drop n).drop m = os.drop m := by
      rw [show m = n + (m - n) by omega, ← List.drop_drop, List.drop_left' hle, List.drop_drop]
    rw [e2, e3] at ho3
    have hset := ho3.set (i := m) (by simp [cellsW_length, wdsN_length]; rw [HOS.out]; omega) (.int .u64 (d : Int))
    have e4 : (cellsW (wdsN (wv (xs.take n) + wv ys) n) ++ (cellsW (wdsN Z (m - n)) ++ os.drop m)).set m (.int .u64 (d : Int)) = cellsW (wdsN (wv (xs.take n) + wv ys) n ++ (wdsN Z (m - n) ++ [d])) := by
      obtain ⟨u, hu⟩ : ∃ u, os.drop m = [u] := by
        have h1 : (os.drop m).length = 1 := by rw [List.length_drop, HOS.out]; have := HM1.out; omega
        match h : os.drop m, h1 with
        | [u], _ => exact ⟨u, rfl⟩
      rw [hu, List.set_append_right _ _ (by omega), hle, List.set_append_right _ _ (by rw [cellsW_length, wdsN_length]; exact Nat.le_refl _), cellsW_length, wdsN_length, Nat.sub_self, ← cellsW_append, ← cellsW_append]
      rfl
    rw [e4] at hset
    have hnum : wv (wdsN (wv (xs.take n) + wv ys) n ++ (wdsN Z (m - n) ++ [d])) = wv xs + wv ys := by
      rw [wv_append, wdsN_length, wv_append, wdsN_length, wv_wdsN_lt hZl, show wv [d] = d by simp [wv], ← hZ, wv_split xs n (by rw [← HM.out]; exact hnm), Nat.mul_add]
      have := HCS.out
      omega
    have hlt : ∀ e ∈ wdsN (wv (xs.take n) + wv ys) n ++ (wdsN Z (m - n) ++ [d]), e < 18446744073709551616 := by
      intro e he
      rcases List.mem_append.1 he with h | h
      · exact wdsN_lt e h
      · rcases List.mem_append.1 h with h | h
        · exact wdsN_lt e h
        · rw [List.mem_singleton] at h; omega
    have cm : ∃ u, w3.cell? ⟨sBlk r, sOff r + m, none⟩ = some u := ⟨_, ho3.cell (List.getElem?_eq_getElem (by simp [cellsW_length, wdsN_length]; rw [HOS.out]; omega))⟩
    obtain ⟨u, cm⟩ := cm
    have fz := ho3.frozen hcr0 (sOff r + m)
    have hB3 := bset (i := sOff r + m) (u := .int .u64 (d : Int)) (HB2.out.trans hb3) hBr
    have hF3 : Only (sBlk r) w1 (w3.setCell ⟨sBlk r, sOff r + m, none⟩ (.int .u64 (d : Int))) := fun k hk hne => by
      rw [heap_setCell_other _ _ _ _ (by simpa using hne), hf3.only k (Nat.lt_of_lt_of_le hk HB2.out.size) hne]; exact HF2.out.only k hk hne
    have Q : Hid (NatR z (subS r 0 (nw (wv xs + wv ys))) (wv xs + wv ys) B w (w3.setCell ⟨sBlk r, sOff r + m, none⟩ (.int .u64 (d : Int)))) := Lib.hid (by
      have h1 := hset.takeW hlt
      rw [hnum] at h1
      exact ⟨h1, (HMK.out.below.mono HB.out).trans hB3, HMK.out.fr hS hm1p hB3.size hF3, fun hc => HMK.out.atS hS hSr hc⟩)
    have HNM := Lib.hid (norm_any r _ (w3.setCell ⟨sBlk r, sOff r + m, none⟩ (.int .u64 (d : Int))) (hset.rw' hlt) (by simp [wdsN_length]; omega))
    rw [hnum] at HNM
    have hSq := Q.out.own.isS
    clear ho3 hb3 hf3 hle e2 e3 hset e4 hnum hlt hvp hZ hB3 hF3 HADW HADD
    go_wp2_with fail
    refine HNM.out.mono ?_
    rintro _ _ ⟨rfl, rfl⟩
    go_wp2
    go_ret
    exact ⟨_, rfl, Q.out⟩
  · have hmn2 : m = n := by omega
    have t4 : decide ((n : Int) < (m : Int)) = false := decide_eq_false (by omega)
    have t4' : decide (n < m) = false := decide_eq_false hmn
    obtain ⟨ho2, hb2, hf2⟩ := HPT.out
    have hle : (cellsW (wdsN (wv (xs.take n) + wv ys) n)).length = n := by rw [cellsW_length, wdsN_length]
    have hset := ho2.set (i := m) (by simp [cellsW_length, wdsN_length]; rw [HOS.out]; omega) (.int .u64 (c : Int))
    have e4 : (cellsW (wdsN (wv (xs.take n) + wv ys) n) ++ os.drop n).set m (.int .u64 (c : Int)) = cellsW (wdsN (wv (xs.take n) + wv ys) n ++ [c]) := by
      obtain ⟨u, hu⟩ : ∃ u, os.drop n = [u] := by
        have h1 : (os.drop n).length = 1 := by rw [List.length_drop, HOS.out]; have := HM1.out; omega
        match h : os.drop n, h1 with
        | [u], _ => exact ⟨u, rfl⟩
      rw [hu, List.set_append_right _ _ (by omega), hle, show m - n = 0 by omega, ← cellsW_append]
      rfl
    rw [e4] at hset
    have hnum : wv (wdsN (wv (xs.take n) + wv ys) n ++ [c]) = wv xs + wv ys := by
      have := HCS.out
      rw [wv_append, wdsN_length, show wv [c] = c by simp [wv], ← this, List.take_of_length_le (by rw [← HM.out]; omega)]
    have hlt : ∀ e ∈ wdsN (wv (xs.take n) + wv ys) n ++ [c], e < 18446744073709551616 := by
      intro e he
      rcases List.mem_append.1 he with h | h
      · exact wdsN_lt e h
      · rw [List.mem_singleton] at h; omega
    obtain ⟨u, cm⟩ : ∃ u, w2.cell? ⟨sBlk r, sOff r + m, none⟩ = some u := ⟨_, ho2.cell (List.getElem?_eq_getElem (by simp [cellsW_length, wdsN_length]; rw [HOS.out]; omega))⟩
    have fz := ho2.frozen hcr0 (sOff r + m)
    have hB3 := bset (i := sOff r + m) (u := .int .u64 (c : Int)) hb2 hBr
    have hF3 : Only (sBlk r) w1 (w2.setCell ⟨sBlk r, sOff r + m, none⟩ (.int .u64 (c : Int))) := fun k hk hne => by
      rw [heap_setCell_other _ _ _ _ (by simpa using hne)]; exact hf2.only k hk hne
    have Q : Hid (NatR z (subS r 0 (nw (wv xs + wv ys))) (wv xs + wv ys) B w (w2.setCell ⟨sBlk r, sOff r + m, none⟩ (.int .u64 (c : Int)))) := Lib.hid (by
      have h1 := hset.takeW hlt
      rw [hnum] at h1
      exact ⟨h1, (HMK.out.below.mono HB.out).trans hB3, HMK.out.fr hS hm1p hB3.size hF3, fun hc => HMK.out.atS hS hSr hc⟩)
    have HNM := Lib.hid (norm_any r _ (w2.setCell ⟨sBlk r, sOff r + m, none⟩ (.int .u64 (c : Int))) (hset.rw' hlt) (by simp [wdsN_length]; omega))
    rw [hnum] at HNM
    have hSq := Q.out.own.isS
    clear ho2 hb2 hf2 hle hset e4 hnum hlt hB3 hF3 HADD HPT hmn hmn2
    go_wp2_with fail
    refine HNM.out.mono ?_
    rintro _ _ ⟨rfl, rfl⟩
    go_wp2
    go_ret
    exact ⟨_, rfl, Q.out⟩
theorem NatR.ofSet {z r : Value} {N B : Nat} {w w' : World} (h : Own w' B 98 r (cellsW (wds N)) ∧ Below B w w' ∧ Fr z w w' ∧ (0 < sCap r → (0 < sCap z ∧ sBlk r = sBlk z) ∨ w.heap.size ≤ sBlk r)) : NatR z r N B w w' := ⟨h.1, h.2.1, h.2.2.1, h.2.2.2⟩
set_option maxRecDepth 100000 in
set_option maxHeartbeats 1600000 in
theorem nadd_ge (z x y : Value) (zs : List Value) (X Y B : Nat) (w : World) (hz : Own w B 98 z zs) (hx : RO w x (wds X)) (hy : RO w y (wds Y)) (ax : Al z x) (ay : Al z y) (hnm : nw Y ≤ nw X) (hl : nw X ≤ 100000000) (hB : B ≤ w.heap.size) :
    Calls Tryz.prog 144 #[z, x, y] w fun e w' => ∃ r, e = .returned r ∧ NatR z r (X + Y) B w w' := by
  have hS := hz.isS
  have hSx := hx.rw.isS
  have hSy := hy.rw.isS
  have hLx : sLen x = nw X := by rw [hx.rw.len, wds_length]
  have hLy : sLen y = nw Y := by rw [hy.rw.len, wds_length]
  rcases Nat.eq_zero_or_pos (nw Y) with h0 | h0
  · have hY0 := nw_eq_zero.1 h0
    have t1 : decide ((nw X : Int) < (nw Y : Int)) = false := decide_eq_false (by omega)
    have hLy0 : sLen y = 0 := by rw [hLy, h0]
    rcases Nat.eq_zero_or_pos (nw X) with g0 | g0
    · have hX0 := nw_eq_zero.1 g0
      have hLx0 : sLen x = 0 := by rw [hLx, g0]
      have Q : Hid (NatR z (subS z 0 0) (X + Y) B w w) := Lib.hid (by
        rw [hX0, hY0]
        exact ⟨by have := hz.sub (l := 0) (n := 0) (Nat.le_refl _) (Nat.zero_le _); simpa [cellsW, wds_zero] using this, Below.refl _ _, Fr.refl _ _, fun hc => .inl ⟨by rw [subS_cap hz.isS] at hc; exact hc, subS_blk hz.isS⟩⟩)
      have hSq := Q.out.own.isS
      have hc0 : 0 ≤ sCap z := Nat.zero_le _
      clear hz hx hy ax ay hLx hLy h0 g0 hX0 hY0 t1 hl hnm
      go_enter Tryz.func144, Tryz.ntmps144
      go_wp2
      go_ret
      exact ⟨_, rfl, Q.out⟩
    · obtain ⟨m, hm⟩ : ∃ m, m = nw X := ⟨_, rfl⟩
      rw [← hm] at hLx g0
      have t2 : ((m : Int) == 0) = false := by rw [beq_eq_false_iff_ne]; omega
      have t3 : decide ((m : Int) < 0) = false := decide_eq_false (by omega)
      have HS : Hid (Calls Tryz.prog 63 #[z, x] w fun e w' => ∃ r, e = .returned r ∧ NatR z r (X + Y) B w w') := Lib.hid (by
        refine (set_at z x zs (wds X) B w hz hx.rw (by rw [wds_length]; omega) hB).mono ?_
        rintro _ w' ⟨r, rfl, h⟩
        exact ⟨r, rfl, by rw [hY0, Nat.add_zero]; exact .ofSet h⟩)
      clear hz hx hy ax ay hLy h0 hY0 t1 hm hl hnm
      go_enter Tryz.func144, Tryz.ntmps144
      go_wp2_with fail
      refine HS.out.mono ?_
      rintro _ w1 ⟨r, rfl, h⟩
      have Q := Lib.hid h
      have hSq := h.own.isS
      clear h
      go_wp2
      go_ret
      exact ⟨_, rfl, Q.out⟩
  · have := nadd_core z x y zs (wds X) (wds Y) B w hz hx hy.rw ax ay (by rw [wds_length]; exact h0) (by rw [wds_length, wds_length]; exact hnm) (by rw [wds_length]; exact hl) hB
    rw [wv_wds, wv_wds] at this
    exact this
set_option maxRecDepth 100000 in
theorem nadd_any (z x y : Value) (zs : List Value) (X Y B : Nat) (w : World) (hz : Own w B 98 z zs) (hx : RO w x (wds X)) (hy : RO w y (wds Y)) (ax : Al z x) (ay : Al z y) (hl : nw X ≤ 100000000) (hl2 : nw Y ≤ 100000000) (hB : B ≤ w.heap.size) :
    Calls Tryz.prog 144 #[z, x, y] w fun e w' => ∃ r, e = .returned r ∧ NatR z r (X + Y) B w w' := by
  by_cases h : nw Y ≤ nw X
  · exact nadd_ge z x y zs X Y B w hz hx hy ax ay h hl hB
  · have HR := Lib.hid (nadd_ge z y x zs Y X B w hz hy hx ay ax (by omega) hl2 hB)
    have hS := hz.isS
    have hSx := hx.rw.isS
    have hSy := hy.rw.isS
    have hLx : sLen x = nw X := by rw [hx.rw.len, wds_length]
    have hLy : sLen y = nw Y := by rw [hy.rw.len, wds_length]
    obtain ⟨m, hm⟩ : ∃ m, m = nw X := ⟨_, rfl⟩
    obtain ⟨n, hn⟩ : ∃ n, n = nw Y := ⟨_, rfl⟩
    rw [← hm] at hLx h
    rw [← hn] at hLy h
    rw [Nat.add_comm] at HR
    have t1 : decide ((m : Int) < (n : Int)) = true := decide_eq_true (by omega)
    have t1' : decide (m < n) = true := decide_eq_true (by omega)
    clear hz hx hy ax ay hm hn h
    go_enter Tryz.func144, Tryz.ntmps144
    go_wp2_with fail
    refine HR.out.mono ?_
    rintro _ w1 ⟨r, rfl, h⟩
    have Q := Lib.hid h
    have hSq := h.own.isS
    clear h
    go_wp2
    go_ret
    exact ⟨_, rfl, Q.out⟩
set_option maxRecDepth 100000 in
set_option maxHeartbeats 3200000 in
theorem nsub_core (z x y : Value) (zs : List Value) (xs ys : List Nat) (B : Nat) (w : World) (hz : Own w B 98 z zs) (hx : RO w x xs) (hy : RW w y ys) (ax : Al z x) (ay : Al z y) (hn0 : 0 < ys.length) (hnm : ys.length ≤ xs.length) (hge : wv ys ≤ wv xs) (hl : xs.length ≤ 100000000) (hB : B ≤ w.heap.size) :
    Calls Tryz.prog 145 #[z, x, y] w fun e w' => ∃ r, e = .returned r ∧ NatR z r (wv xs - wv ys) B w w' := by
  have hS := hz.isS
  have hSx := hx.rw.isS
  have hSy := hy.isS
  obtain ⟨m, hm⟩ : ∃ m, m = xs.length := ⟨_, rfl⟩
  obtain ⟨n, hn⟩ : ∃ n, n = ys.length := ⟨_, rfl⟩
  have hLx : sLen x = m := by rw [hx.rw.len, hm]
  have hLy : sLen y = n := by rw [hy.len, hn]
  have hcx : m ≤ sCap x := by have := hSx.le; omega
  have hcy : n ≤ sCap y := by have := hSy.le; omega
  rw [← hn] at hn0 hnm
  rw [← hm] at hnm hl
  have t1 : decide ((m : Int) < (n : Int)) = false := decide_eq_false (by omega)
  have t2 : ((m : Int) == 0) = false := by rw [beq_eq_false_iff_ne]; omega
  have t3 : ((n : Int) == 0) = false := by rw [beq_eq_false_iff_ne]; omega
  have hm1p : 0 < m := by omega
  have HM := Lib.hid hm
  have HN := Lib.hid hn
  have HZ := Lib.hid hz
  have HX := Lib.hid hx
  have HY := Lib.hid hy
  have HAX := Lib.hid ax
  have HAY := Lib.hid ay
  have HB := Lib.hid hB
  have HGE := Lib.hid hge
  clear hz hx hy ax ay hB hm hn hge
  go_enter Tryz.func145, Tryz.ntmps145
  go_wp2_with fail
  refine (make_any z zs m B w HZ.out (by omega) HB.out).mono ?_
  rintro _ w1 ⟨r, rfl, hmk⟩
  obtain ⟨os, hos, hor⟩ := hmk.own
  have hSr := hor.isS
  have hLr : sLen r = m := by rw [hor.len, hos]
  have hcr : m ≤ sCap r := by have := hSr.le; omega
  have hcr0 : 0 < sCap r := by omega
  have hBr := (hor.lt hcr0).1
  have hX1 := HX.out.below hmk.below
  have hY1 := HY.out.below hmk.below
  have aX := hmk.al hS hm1p HAX.out HX.out.rw (by rw [← HM.out]; omega)
  have aY := hmk.al hS hm1p HAY.out HY.out (by rw [← HN.out]; exact hn0)
  have hSr0 : IsS (subS r 0 n) := subS_isS hSr (Nat.zero_le _) (by omega)
  have hSx0 : IsS (subS x 0 n) := subS_isS hSx (Nat.zero_le _) (by omega)
  have hSy0 : IsS (subS y 0 n) := subS_isS hSy (Nat.zero_le _) (by omega)
  have hsub := hor.sub (l := 0) (n := n) (Nat.zero_le _) (by omega)
  have hsl : ((os.take n).drop 0).length = n := by simp; omega
  have hxt := hX1.rw.take (n := n) (by rw [← HM.out]; exact hnm)
  have hyt := hY1.take (n := n) (by rw [← HN.out]; exact Nat.le_refl _)
  rw [List.take_of_length_le (by rw [← HN.out]; exact Nat.le_refl _)] at hyt
  have HSUB : Hid (∀ k, Calls Tryz.prog 165 #[subS r 0 n, subS x 0 n, subS y 0 n] (w1.drewN k) fun e w' => ∃ c : Nat, e = .returned (.int .u64 c) ∧ ∃ Z, c ≤ 1 ∧ Z < 18446744073709551616 ^ n ∧ wv (xs.take n) + 18446744073709551616 ^ n * c = Z + wv ys ∧ VvP (subS r 0 n) n B Z w1 w') := Lib.hid (fun k => by
    have := subVV_any (subS r 0 n) (subS x 0 n) (subS y 0 n) ((os.take n).drop 0) (xs.take n) ys B (w1.drewN k) (hsub.drewN k) (hxt.below (undrewN' (Below.refl _ _))) (hyt.below (undrewN' (Below.refl _ _))) (by rw [hsl, List.length_take, ← HM.out]; omega) (by rw [hsl, ← HN.out]) (by rw [(sub0 hSx).1, (sub0 hSr).1, (sub0 hSx).2, (sub0 hSr).2]; intro h; rw [aX h]; exact Nat.le_refl _)
      (by rw [(sub0 hSy).1, (sub0 hSr).1, (sub0 hSy).2, (sub0 hSr).2]; intro h; rw [aY h]; exact Nat.le_refl _) (by rw [hsl]; omega)
    rw [hsl] at this
    refine this.mono ?_
    rintro _ w' ⟨c, rfl, Z, h1, h2, h3, h4, h5, h6⟩
    exact ⟨c, rfl, Z, h1, h2, h3, h4, undrewN h5, h6.undrewN⟩)
  have HOR := Lib.hid hor
  have HOS := Lib.hid hos
  have HMK := Lib.hid hmk
  have HX1 := Lib.hid hX1
  have HAXR := Lib.hid aX
  clear hor hos hmk hX1 hY1 aX aY hsub hsl hxt hyt
  go_wp2_with fail
  (refine wp_region_hoist 9 (by kernel_rfl) (by kernel_rfl) ⟨fun _ _ _ h => (by first | exact (hQp _ _ _ h).elim | cases h.2.1 | (obtain ⟨_, h3, _⟩ := h.2; cases h3)), fun _ _ h => (by first | exact (hQo _ _ h).elim | cases h.1 | (obtain ⟨_, h3, _⟩ := h; cases h3))⟩ ?_; simp only [List.take_succ_cons, List.take_zero, List.drop_succ_cons, List.drop_zero]; (repeat (go_big_quiet_step (fail))); refine wpQuiet_nil ?_; rintro _ ⟨nq, rfl⟩)
  go_wp2_with fail
  refine (HSUB.out _).mono ?_
  rintro _ w2 ⟨c, rfl, Z1, hc1, hZ1l, hcs, hvp⟩
  have hpt := VvP.patch (l := 0) (n := n) HOR.out (Nat.zero_le _) (by rw [HOS.out]; exact hnm) hvp
  rw [List.take_zero, List.nil_append, Nat.sub_zero] at hpt
  have HCS := Lib.hid hcs
  have HPT := Lib.hid hpt
  have HZ1 := Lib.hid hZ1l
  clear hcs hpt hvp hZ1l
  by_cases hmn : n < m
  · have t4 : decide ((n : Int) < (m : Int)) = true := decide_eq_true (by omega)
    have t4' : decide (n < m) = true := decide_eq_true hmn
    obtain ⟨ho2, hb2, hf2⟩ := HPT.out
    have hSr1 : IsS (subS r n m) := subS_isS hSr hnm (by omega)
    have hSx1 : IsS (subS x n m) := subS_isS hSx hnm hcx
    have hsub := ho2.sub (l := n) (n := m) hnm (by simp [cellsW_length, wdsN_length]; rw [HOS.out]; omega)
    have hsl : (((cellsW (wdsN Z1 n) ++ os.drop n).take m).drop n).length = m - n := by simp [cellsW_length, wdsN_length]; rw [HOS.out]; omega
    have hxd : RO w2 (subS x n m) (xs.drop n) := by
      have h1 := HX1.out.drop (n := n) (by rw [← HM.out]; exact hnm)
      rw [← HM.out] at h1
      refine hf2.ro h1 fun hb => .inr ?_
      rw [subS_blk hSx] at hb
      rw [subS_off hSx (by omega), HAXR.out hb]; omega
    have HSBW : Hid (∀ k, Calls Tryz.prog 180 #[subS r n m, subS x n m, .int .u64 c] (w2.drewN k) fun e w' => ∃ d : Nat, e = .returned (.int .u64 d) ∧ ∃ Z, d ≤ 1 ∧ Z < 18446744073709551616 ^ (m - n) ∧ wv (xs.drop n) + 18446744073709551616 ^ (m - n) * d = Z + c ∧ VvP (subS r n m) (m - n) B Z w2 w') := Lib.hid (fun k => by
      have := subVW_gen (subS r n m) (subS x n m) _ (xs.drop n) c B (w2.drewN k) (hsub.drewN k) (hxd.below (undrewN' (Below.refl _ _))) (by rw [hsl, List.length_drop, ← HM.out]) (by rw [subS_blk hSx, subS_blk hSr]; intro h; rw [subS_off hSx (by omega), subS_off hSr (by omega), HAXR.out h]) (by rw [hsl]; omega) (by rw [hsl]; omega) (by omega)
      rw [hsl] at this
      refine this.mono ?_
      rintro _ w' ⟨d, rfl, Z, h1, h2, h3, h4, h5, h6⟩
      exact ⟨d, rfl, Z, h1, h2, h3, h4, undrewN h5, h6.undrewN⟩)
    have HO2 := Lib.hid ho2
    have HB2 := Lib.hid hb2
    have HF2 := Lib.hid hf2
    clear ho2 hb2 hf2 hsub hsl hxd HPT
    go_wp2_with fail
    (refine wp_region_hoist 7 (by kernel_rfl) (by kernel_rfl) ⟨fun _ _ _ h => (by first | exact (hQp _ _ _ h).elim | cases h.2.1 | (obtain ⟨_, h3, _⟩ := h.2; cases h3)), fun _ _ h => (by first | exact (hQo _ _ h).elim | cases h.1 | (obtain ⟨_, h3, _⟩ := h; cases h3))⟩ ?_; simp only [List.take_succ_cons, List.take_zero, List.drop_succ_cons, List.drop_zero]; (repeat (go_big_quiet_step (fail))); refine wpQuiet_nil ?_; rintro _ ⟨nq, rfl⟩)
    go_wp2_with fail
    refine (HSBW.out _).mono ?_
    rintro _ w3 ⟨d, rfl, Z, hd1, hZl, hZ, hvp⟩
    have hpt := VvP.patch (l := n) (n := m) HO2.out hnm (by simp [cellsW_length, wdsN_length]; rw [HOS.out]; omega) hvp
    obtain ⟨ho3, hb3, hf3⟩ := hpt
    have hle : (cellsW (wdsN Z1 n)).length = n := by rw [cellsW_length, wdsN_length]
    have e2 : (cellsW (wdsN Z1 n) ++ os.drop n).take n = cellsW (wdsN Z1 n) := List.take_left' hle
    have e3 : (cellsW (wdsN Z1 n) ++ os.drop n).drop m = [] := List.drop_of_length_le (by rw [List.length_append, hle, List.length_drop, HOS.out]; omega)
    rw [e2, e3, List.append_nil, cellsW_append] at ho3
    have hsum := wv_split xs n (by rw [← HM.out]; exact hnm)
    have hpow : 18446744073709551616 ^ n * 18446744073709551616 ^ (m - n) = 18446744073709551616 ^ m := by rw [← Nat.pow_add]; congr 1; omega
    have hyl := wv_lt (HY.out.lt)
    have hd0 : d = 0 := by
      rcases (by omega : d = 0 ∨ d = 1) with h | h
      · exact h
      · exfalso
        have h1 := HCS.out; have h2 := HGE.out
        have h3 : 18446744073709551616 ^ n * (wv (xs.drop n) + 18446744073709551616 ^ (m - n) * d) = 18446744073709551616 ^ n * (Z + c) := by rw [hZ]
        rw [Nat.mul_add, ← Nat.mul_assoc, hpow, Nat.mul_add, h, Nat.mul_one] at h3
        have h4 := join_lt HZ1.out hnm hZl
        omega
    subst hd0
    have hnum : wv (wdsN Z1 n ++ wdsN Z (m - n)) = wv xs - wv ys := by
      rw [wv_append, wdsN_length, wv_wdsN_lt HZ1.out, wv_wdsN_lt hZl]
      have h1 := HCS.out
      have h3 : 18446744073709551616 ^ n * (wv (xs.drop n) + 18446744073709551616 ^ (m - n) * 0) = 18446744073709551616 ^ n * (Z + c) := by rw [hZ]
      rw [Nat.mul_zero, Nat.add_zero, Nat.mul_add] at h3
      omega
    have hlt : ∀ e ∈ wdsN Z1 n ++ wdsN Z (m - n), e < 18446744073709551616 := by
      intro e he
      rcases List.mem_append.1 he with h | h
      · exact wdsN_lt e h
      · exact wdsN_lt e h
    have hB3 := HB2.out.trans hb3
    have hF3 : Only (sBlk r) w1 w3 := HF2.out.only.trans HB2.out.size hf3.only
    have Q : Hid (NatR z (subS r 0 (nw (wv xs - wv ys))) (wv xs - wv ys) B w w3) := Lib.hid (by
      have h1 := ho3.takeW hlt
      rw [hnum] at h1
      exact ⟨h1, (HMK.out.below.mono HB.out).trans hB3, HMK.out.fr hS hm1p hB3.size hF3, fun hc => HMK.out.atS hS hSr hc⟩)
    have HNM := Lib.hid (norm_any r _ w3 (ho3.rw' hlt) (by simp [wdsN_length]; omega))
    rw [hnum] at HNM
    have hSq := Q.out.own.isS
    clear ho3 hb3 hf3 hle e2 e3 hnum hlt hvp hZ hB3 hF3 HSBW HSUB hsum hpow hyl hd1
    go_wp2_with fail
    refine HNM.out.mono ?_
    rintro _ _ ⟨rfl, rfl⟩
    go_wp2
    go_ret
    exact ⟨_, rfl, Q.out⟩
  · have hmn2 : m = n := by omega
    have t4 : decide ((n : Int) < (m : Int)) = false := decide_eq_false (by omega)
    have t4' : decide (n < m) = false := decide_eq_false hmn
    obtain ⟨ho2, hb2, hf2⟩ := HPT.out
    rw [show os.drop n = [] from List.drop_of_length_le (by rw [HOS.out]; omega), List.append_nil] at ho2
    have hc0 : c = 0 := by
      rcases (by omega : c = 0 ∨ c = 1) with h | h
      · exact h
      · exfalso
        have h1 := HCS.out; have h2 := HGE.out; have h3 := HZ1.out
        rw [h, Nat.mul_one, List.take_of_length_le (by rw [← HM.out]; omega)] at h1
        omega
    subst hc0
    have hnum : wv (wdsN Z1 n) = wv xs - wv ys := by
      have h1 := HCS.out
      rw [Nat.mul_zero, Nat.add_zero, List.take_of_length_le (by rw [← HM.out]; omega)] at h1
      rw [wv_wdsN_lt HZ1.out]; omega
    have Q : Hid (NatR z (subS r 0 (nw (wv xs - wv ys))) (wv xs - wv ys) B w w2) := Lib.hid (by
      have h1 := ho2.takeW wdsN_lt
      rw [hnum] at h1
      exact ⟨h1, (HMK.out.below.mono HB.out).trans hb2, HMK.out.fr hS hm1p hb2.size hf2.only, fun hc => HMK.out.atS hS hSr hc⟩)
    have HNM := Lib.hid (norm_any r _ w2 (ho2.rw' wdsN_lt) (by simp [wdsN_length]; omega))
    rw [hnum] at HNM
    have hSq := Q.out.own.isS
    clear ho2 hb2 hf2 hnum HSUB HPT hmn hmn2 hc1
    go_wp2_with fail
    refine HNM.out.mono ?_
    rintro _ _ ⟨rfl, rfl⟩
    go_wp2
    go_ret
    exact ⟨_, rfl, Q.out⟩
set_option maxRecDepth 100000 in
set_option maxHeartbeats 1600000 in
theorem nsub_any (z x y : Value) (zs : List Value) (X Y B : Nat) (w : World) (hz : Own w B 98 z zs) (hx : RO w x (wds X)) (hy : RO w y (wds Y)) (ax : Al z x) (ay : Al z y) (hge : Y ≤ X) (hl : nw X ≤ 100000000) (hB : B ≤ w.heap.size) :
    Calls Tryz.prog 145 #[z, x, y] w fun e w' => ∃ r, e = .returned r ∧ NatR z r (X - Y) B w w' := by
  have hS := hz.isS
  have hSx := hx.rw.isS
  have hSy := hy.rw.isS
  have hLx : sLen x = nw X := by rw [hx.rw.len, wds_length]
  have hLy : sLen y = nw Y := by rw [hy.rw.len, wds_length]
  rcases Nat.eq_zero_or_pos (nw Y) with h0 | h0
  · have hY0 := nw_eq_zero.1 h0
    have hLy0 : sLen y = 0 := by rw [hLy, h0]
    rcases Nat.eq_zero_or_pos (nw X) with g0 | g0
    · have hX0 := nw_eq_zero.1 g0
      have hLx0 : sLen x = 0 := by rw [hLx, g0]
      have Q : Hid (NatR z (subS z 0 0) (X - Y) B w w) := Lib.hid (by
        rw [hX0, hY0]
        exact ⟨by have := hz.sub (l := 0) (n := 0) (Nat.le_refl _) (Nat.zero_le _); simpa [cellsW, wds_zero] using this, Below.refl _ _, Fr.refl _ _, fun hc => .inl ⟨by rw [subS_cap hz.isS] at hc; exact hc, subS_blk hz.isS⟩⟩)
      have hSq := Q.out.own.isS
      have hc0 : 0 ≤ sCap z := Nat.zero_le _
      clear hz hx hy ax ay hLx hLy h0 g0 hX0 hY0 hl hge
      go_enter Tryz.func145, Tryz.ntmps145
      go_wp2
      go_ret
      exact ⟨_, rfl, Q.out⟩
    · obtain ⟨m, hm⟩ : ∃ m, m = nw X := ⟨_, rfl⟩
      rw [← hm] at hLx g0
      have t2 : ((m : Int) == 0) = false := by rw [beq_eq_false_iff_ne]; omega
      have t3 : decide ((m : Int) < 0) = false := decide_eq_false (by omega)
      have HS : Hid (Calls Tryz.prog 63 #[z, x] w fun e w' => ∃ r, e = .returned r ∧ NatR z r (X - Y) B w w') := Lib.hid (by
        refine (set_at z x zs (wds X) B w hz hx.rw (by rw [wds_length]; omega) hB).mono ?_
        rintro _ w' ⟨r, rfl, h⟩
        exact ⟨r, rfl, by rw [hY0, Nat.sub_zero]; exact .ofSet h⟩)
      clear hz hx hy ax ay hLy h0 hY0 hm hl hge
      go_enter Tryz.func145, Tryz.ntmps145
      go_wp2_with fail
      refine HS.out.mono ?_
      rintro _ w1 ⟨r, rfl, h⟩
      have Q := Lib.hid h
      have hSq := h.own.isS
      clear h
      go_wp2
      go_ret
      exact ⟨_, rfl, Q.out⟩
  · have := nsub_core z x y zs (wds X) (wds Y) B w hz hx hy.rw ax ay (by rw [wds_length]; exact h0) (by rw [wds_length, wds_length]; exact nw_mono hge) (by rw [wv_wds, wv_wds]; exact hge) (by rw [wds_length]; exact hl) hB
    rw [wv_wds, wv_wds] at this
    exact this
set_option maxRecDepth 100000 in
set_option maxHeartbeats 1600000 in
theorem mulAddVWW_g_any (v x : Value) (os : List Value) (xs : List Nat) (y r B : Nat) (w : World) (ho : Own w B 98 v os) (hx : RW w x xs) (hlx : xs.length = os.length)
    (hax : sBlk x = sBlk v → sOff v ≤ sOff x) (hy : y < 18446744073709551616) (hr : r < 18446744073709551616) (hl : os.length ≤ 1000000000) :
    Calls Tryz.prog 186 #[v, x, .int .u64 y, .int .u64 r] w fun e w' => ∃ c : Nat, e = .returned (.int .u64 c) ∧ (c < 18446744073709551616 ∧ wv xs * y + r = wv (wdsN (wv xs * y + r) os.length) + 18446744073709551616 ^ os.length * c) ∧ VvP v os.length B (wv xs * y + r) w w' := by
  have hS := ho.isS
  have hSx := hx.isS
  obtain ⟨L, hLw⟩ : ∃ L, L = os.length := ⟨_, rfl⟩
  have hL : sLen v = L := by rw [hLw]; exact ho.len
  have hLx : sLen x = L := by rw [hx.len, hlx, hLw]
  have R0 := Lib.hid (Vv.start ho hLw.symm)
  have HB0 : Hid (0 < L → 0 < sCap v ∧ B ≤ sBlk v) := Lib.hid (fun h => by
    have := hS.le
    have hc : 0 < sCap v := by omega
    exact ⟨hc, (ho.lt hc).1⟩)
  have HXL : Hid (xs.length = L) := Lib.hid (by omega)
  rw [← hLw] at hl ⊢
  have HX := Lib.hid hx
  have HAX := Lib.hid hax
  clear ho hLw hx hlx hax
  go_enter Tryz.func186, Tryz.ntmps186
  go_wp2
  go_loopw [8, 19] (fun c i wr => ∃ k d Z : Nat, k ≤ L ∧ i = .int .i64 k ∧ c = .int .u64 d ∧ (d < 18446744073709551616 ∧ wv (xs.take k) * y + r = Z + 18446744073709551616 ^ k * d) ∧ Vv v L B k Z w wr) (fun c i _ => L - (intOf i).toNat)
  case atStart => exact ⟨0, r, 0, Nat.zero_le _, rfl, rfl, ⟨hr, by simp [wv]⟩, R0.out⟩
  case round =>
    obtain ⟨k, d, Z, hk, rfl, rfl, ⟨hd, hZ⟩, hrel⟩ := hrel
    have HREL := Lib.hid hrel
    by_cases hkL : k < L
    · obtain ⟨hcap, hB⟩ := HB0.out (by omega)
      have cx := hrel.src HX.out HAX.out (Nat.le_refl k) (by rw [HXL.out]; exact hkL)
      obtain ⟨u, cv⟩ := hrel.own hkL
      have fz := hrel.frozen hcap (sOff v + k)
      have hxl := getD_ltW HX.out.lt k
      have e1 := wv_take_succ (ws := xs) (i := k) (by rw [HXL.out]; exact hkL)
      obtain ⟨a, ha⟩ : ∃ a, a = xs.getD k 0 := ⟨_, rfl⟩
      rw [← ha] at cx hxl e1
      obtain ⟨s, c, hsc, hs⟩ : ∃ s c, a * y + d = s + 18446744073709551616 * c ∧ s < 18446744073709551616 := ⟨(a * y + d) % 18446744073709551616, (a * y + d) / 18446744073709551616, by omega, by omega⟩
      have hc1 := mul_word_lt hxl hy hd hsc
      have HA : Hid (Calls Tryz.prog 188 #[.int .u64 a, .int .u64 y, .int .u64 d] wr fun e w' => e = .returned (.tuple #[.int .u64 c, .int .u64 s]) ∧ w' = wr) := Lib.hid (mulWWW_any a y d c s _ hxl hy hd hsc hs hc1)
      have HZ : Hid (wv (xs.take (k + 1)) * y + r = Z + 18446744073709551616 ^ k * s + 18446744073709551616 ^ (k + 1) * c) := Lib.hid (by
        rw [e1, Nat.pow_succ, Nat.mul_assoc]
        have h1 : 18446744073709551616 ^ k * (a * y + d) = 18446744073709551616 ^ k * s + 18446744073709551616 ^ k * (18446744073709551616 * c) := by rw [hsc, Nat.mul_add]
        rw [Nat.mul_add, ← Nat.mul_assoc] at h1
        rw [Nat.add_mul]
        omega)
      have PUT := Lib.hid (HREL.out.put hkL hB hs)
      clear hrel e1 ha hZ hsc
      go_wp2_with fail
      refine HA.out.mono ?_
      rintro _ _ ⟨rfl, rfl⟩
      go_wp2
      exact ⟨⟨k + 1, c, _, by omega, by go_num, rfl, ⟨hc1, HZ.out⟩, PUT.out⟩, by simp [intOf]; omega⟩
    · have hkk : k = L := by omega
      have HD : Hid ((d < 18446744073709551616 ∧ wv xs * y + r = wv (wdsN (wv xs * y + r) L) + 18446744073709551616 ^ L * d) ∧ VvP v L B (wv xs * y + r) w wr) := Lib.hid (by
        subst hkk
        rw [List.take_of_length_le (by rw [HXL.out]; exact Nat.le_refl _)] at hZ
        have hZl : Z < 18446744073709551616 ^ k := by
          obtain ⟨os', ds, g1, g2, g3, g4, g5, g6, g7, g8⟩ := hrel
          have := wv_lt g5
          rw [g4] at this; omega
        refine ⟨⟨hd, ?_⟩, hrel.done d hZ⟩
        rw [wdsN_wv, hZ, Nat.add_mul_mod_self_left, Nat.mod_eq_of_lt hZl])
      clear hrel hZ HREL
      go_wp2
      go_ret
      exact ⟨d, rfl, HD.out⟩
set_option maxRecDepth 100000 in
theorem mulAddVWW_any (v x : Value) (os : List Value) (xs : List Nat) (y r B : Nat) (w : World) (ho : Own w B 98 v os) (hx : RW w x xs) (hlx : xs.length = os.length)
    (hax : sBlk x = sBlk v → sOff v ≤ sOff x) (hy : y < 18446744073709551616) (hr : r < 18446744073709551616) (hl : os.length ≤ 1000000000) :
    Calls Tryz.prog 164 #[v, x, .int .u64 y, .int .u64 r] w fun e w' => ∃ c : Nat, e = .returned (.int .u64 c) ∧ (c < 18446744073709551616 ∧ wv xs * y + r = wv (wdsN (wv xs * y + r) os.length) + 18446744073709551616 ^ os.length * c) ∧ VvP v os.length B (wv xs * y + r) w w' := by
  have hS := ho.isS
  have hSx := hx.isS
  have H := Lib.hid (mulAddVWW_g_any v x os xs y r B w ho hx hlx hax hy hr hl)
  clear ho hx hlx hax hl
  go_enter Tryz.func164, Tryz.ntmps164
  go_wp2_with fail
  refine H.out.mono ?_
  rintro _ w1 ⟨c, rfl, h1, h2⟩
  have H1 := Lib.hid (And.intro h1 h2)
  clear h1 h2
  go_wp2
  go_ret
  exact ⟨c, rfl, H1.out⟩
set_option maxRecDepth 100000 in
set_option maxHeartbeats 3200000 in
theorem mulAddWW_any (z x : Value) (zs : List Value) (X y r B : Nat) (w : World) (hz : Own w B 98 z zs) (hx : RO w x (wds X)) (ax : Al z x) (h0 : 0 < X) (hy0 : 0 < y) (hy : y < 18446744073709551616) (hr : r < 18446744073709551616) (hl : nw X ≤ 100000000) (hB : B ≤ w.heap.size) :
    Calls Tryz.prog 178 #[z, x, .int .u64 y, .int .u64 r] w fun e w' => ∃ q, e = .returned q ∧ NatR z q (X * y + r) B w w' := by
  have hS := hz.isS
  have hSx := hx.rw.isS
  obtain ⟨m, hm⟩ : ∃ m, m = nw X := ⟨_, rfl⟩
  have hLx : sLen x = m := by rw [hx.rw.len, wds_length, hm]
  have hmp : 0 < m := by rw [hm]; exact nw_pos h0
  have hcx : m ≤ sCap x := by have := hSx.le; omega
  rw [← hm] at hl
  have t1 : ((m : Int) == 0) = false := by rw [beq_eq_false_iff_ne]; omega
  have t2 : ((y : Int) == 0) = false := by rw [beq_eq_false_iff_ne]; omega
  have e1 : (m : Int) + 1 = ((m + 1 : Nat) : Int) := by omega
  obtain ⟨m1, hm1⟩ : ∃ m1, m1 = m + 1 := ⟨_, rfl⟩
  rw [← hm1] at e1
  have HM := Lib.hid hm
  have HM1 := Lib.hid hm1
  have HZ := Lib.hid hz
  have HX := Lib.hid hx
  have HAX := Lib.hid ax
  have HB := Lib.hid hB
  have hm1b : m1 ≤ 1000000000 := by omega
  have hm1p : 0 < m1 := by omega
  have hmm1 : m < m1 := by omega
  obtain ⟨S, hSS⟩ : ∃ S, S = X * y + r := ⟨_, rfl⟩
  have HSS := Lib.hid hSS
  rw [← hSS]
  clear hz hx ax hB hm hm1 hSS h0
  go_enter Tryz.func178, Tryz.ntmps178
  go_wp2_with fail
  refine (make_any z zs m1 B w HZ.out hm1b HB.out).mono ?_
  rintro _ w1 ⟨q, rfl, hmk⟩
  obtain ⟨os, hos, hor⟩ := hmk.own
  have hSr := hor.isS
  have hLr : sLen q = m1 := by rw [hor.len, hos]
  have hcr : m1 ≤ sCap q := by have := hSr.le; omega
  have hcr0 : 0 < sCap q := by omega
  have hBr := (hor.lt hcr0).1
  have hX1 := HX.out.below hmk.below
  have aX := hmk.al hS hm1p HAX.out HX.out.rw (by rw [wds_length, ← HM.out]; omega)
  have hSr0 : IsS (subS q 0 m) := subS_isS hSr (Nat.zero_le _) (by omega)
  have hsub := hor.sub (l := 0) (n := m) (Nat.zero_le _) (by omega)
  have hsl : ((os.take m).drop 0).length = m := by simp; omega
  have HCALL : Hid (Calls Tryz.prog 164 #[subS q 0 m, x, .int .u64 y, .int .u64 r] w1 fun e w' => ∃ c : Nat, e = .returned (.int .u64 c) ∧ (c < 18446744073709551616 ∧ S = wv (wdsN S m) + 18446744073709551616 ^ m * c) ∧ VvP (subS q 0 m) m B S w1 w') := Lib.hid (by
    have := mulAddVWW_any (subS q 0 m) x ((os.take m).drop 0) (wds X) y r B w1 hsub hX1.rw (by rw [hsl, wds_length, HM.out]) (by rw [(sub0 hSr).1, (sub0 hSr).2]; intro h; rw [aX h]; exact Nat.le_refl _) hy hr (by rw [hsl]; omega)
    rw [hsl, wv_wds, ← HSS.out] at this
    refine this.mono ?_
    rintro _ w' ⟨c, rfl, h1, h2⟩
    exact ⟨c, rfl, h1, h2⟩)
  have HFIN : Hid (∀ c w2, c < 18446744073709551616 → S = wv (wdsN S m) + 18446744073709551616 ^ m * c → VvP (subS q 0 m) m B S w1 w2 →
      (w2.frozen? ⟨sBlk q, sOff q + m, none⟩ = false ∧ ∃ u, w2.cell? ⟨sBlk q, sOff q + m, none⟩ = some u) ∧
      Calls Tryz.prog 89 #[q] (w2.setCell ⟨sBlk q, sOff q + m, none⟩ (.int .u64 (c : Int))) fun e w' => e = .returned (subS q 0 (nw S)) ∧ w2.setCell ⟨sBlk q, sOff q + m, none⟩ (.int .u64 (c : Int)) = w' ∧ NatR z (subS q 0 (nw S)) S B w (w2.setCell ⟨sBlk q, sOff q + m, none⟩ (.int .u64 (c : Int)))) := Lib.hid (fun c w2 hc hcS hvp => by
    have hpt := VvP.patch (l := 0) (n := m) hor (Nat.zero_le _) (by omega) (by rw [Nat.sub_zero]; exact hvp)
    rw [List.take_zero, List.nil_append, Nat.sub_zero, Nat.add_zero] at hpt
    obtain ⟨g1, g2, g3⟩ := hpt
    have hmm : m1 = m + 1 := HM1.out
    have hll : (cellsW (wdsN S m) ++ os.drop m).length = m1 := by rw [List.length_append, cellsW_length, wdsN_length, List.length_drop]; omega
    have gs := g1.set (i := m) (by rw [hll]; exact hmm1) (.int .u64 (c : Int))
    have es : (cellsW (wdsN S m) ++ os.drop m).set m (.int .u64 (c : Int)) = cellsW (wdsN S m ++ [c]) := by
      obtain ⟨u, hu⟩ : ∃ u, os.drop m = [u] := List.length_eq_one_iff.1 (by rw [List.length_drop]; omega)
      rw [hu, List.set_append_right _ _ (by rw [cellsW_length, wdsN_length]; exact Nat.le_refl _), cellsW_length, wdsN_length, Nat.sub_self, ← cellsW_append]
      rfl
    rw [es] at gs
    have hlt : ∀ e ∈ wdsN S m ++ [c], e < 18446744073709551616 := by
      intro e he
      rcases List.mem_append.1 he with h | h
      · exact wdsN_lt e h
      · rw [List.mem_singleton] at h; omega
    have hnum : wv (wdsN S m ++ [c]) = S := by rw [wv_snoc, wdsN_length, ← hcS]
    have hN := norm_any q _ _ (gs.rw' hlt) (by simp [wdsN_length]; omega)
    have hT := gs.takeW hlt
    rw [hnum] at hN hT
    have hb3 : Below B w1 (w2.setCell ⟨sBlk q, sOff q + m, none⟩ (.int .u64 (c : Int))) := bset g2 hBr
    have hf3 : Only (sBlk q) w1 (w2.setCell ⟨sBlk q, sOff q + m, none⟩ (.int .u64 (c : Int))) := ((g3.mono (Nat.le_refl _) (Nat.le_succ _)).set (lo := sOff q) (hi := sOff q + m + 1) (i := sOff q + m) (by omega) (by omega) _).only
    refine ⟨⟨g1.frozen hcr0 _, _, g1.cell (List.getElem?_eq_getElem (by rw [hll]; exact hmm1))⟩, hN.mono (fun e w' h => ⟨h.1, h.2, hT, (hmk.below.mono HB.out).trans hb3, hmk.fr hS hm1p hb3.size hf3, fun hc => hmk.atS hS hSr hc⟩)⟩)
  clear hor hos hmk hX1 aX hsub hsl
  go_wp2_with fail
  refine HCALL.out.mono ?_
  rintro _ w2 ⟨c, rfl, ⟨hc, hcS⟩, hvp⟩
  obtain ⟨⟨fz, u, cu⟩, hq⟩ := HFIN.out c w2 hc hcS hvp
  have HQ := Lib.hid hq
  clear hcS hvp hq
  go_wp2_with fail
  refine HQ.out.mono ?_
  rintro _ _ ⟨rfl, rfl, hn⟩
  have Q := Lib.hid hn
  have hSq := hn.own.isS
  clear hn
  go_wp2
  go_ret
  exact ⟨_, rfl, Q.out⟩
set_option maxRecDepth 100000 in
set_option maxHeartbeats 800000 in
theorem wordsOf_any (b o : Nat) (v : Value) (ws : List Nat) (w : World) (hc : w.cell? ⟨b, o + 1, none⟩ = some v) (hv : RW w v ws) (hl : ws.length ≤ 100000000) :
    Calls Tryz.prog 86 #[.pointer (some ⟨b, o, none⟩)] w fun e w' => ∃ r, e = .returned r ∧ Own w' w.heap.size 83 r (cellsW ws) ∧ Below w.heap.size w w' := by
  have hSv := hv.isS
  have hLv := hv.len
  obtain ⟨la, hla⟩ : ∃ la, la = ws.length := ⟨_, rfl⟩
  rw [← hla] at hLv hl
  have Hla := Lib.hid hla
  have Hv := Lib.hid hv
  clear hla hv
  go_enter Tryz.func86, Tryz.ntmps86
  go_wp2_with fail
  refine (intBits b o v w hc hSv).mono ?_
  rintro _ _ ⟨rfl, rfl⟩
  go_wp2
  go_loopw [3, 9] (fun v i wr => ∃ k : Nat, k ≤ la ∧ i = .int .i64 k ∧ WoU ws w.heap.size k w v wr) (fun _ i _ => la - (intOf i).toNat)
  case atStart => exact ⟨0, Nat.zero_le _, rfl, Own.nil _ _ _, Below.refl _ _⟩
  case round =>
    obtain ⟨i, hi, rfl, hO, hbl⟩ := hrel
    have hbz := hbl.size
    have hSo : IsS u3 := hO.isS
    have HO := Lib.hid hO
    clear hO
    by_cases hia : i < la
    · have ca := (Hv.out.below hbl).cell i (by rw [← Hla.out]; exact hia)
      obtain ⟨d, hd⟩ : ∃ d, d = ws.getD i 0 := ⟨_, rfl⟩
      rw [← hd] at ca
      have Hd := Lib.hid hd
      clear hd
      have hlk : (cellsW (ws.take i)).length = i := by rw [cellsW_length]; have := Hla.out; simp; omega
      have Hlk := Lib.hid hlk
      clear hlk
      go_wp2_with (at_builtin; refine wpList_append_O rfl _ _ _ _ rfl elemU w.heap.size _ _ rfl (HO.out.alloc _) _ rfl 1 [.int .u64 (d : Int)] (srcOne Tryz.underlying22 wr _ _) ?c3 ?c4 ?c5 ?_)
      case c3 => rw [Hlk.out]; unfold maxLen; omega
      case c4 => rw [Hlk.out]; omega
      case c5 => simp; omega
      rintro v1 w1 ho1 hb1 - - -
      have hs := WoU.step (by rw [← Hla.out]; exact hia) (by rw [← Hd.out]; exact ho1) ((hbl.alloc hbz _).trans hb1)
      have Hs := Lib.hid hs
      clear hs ho1
      go_wp2
      go_roundw
      case rel => exact ⟨i + 1, by omega, by go_num, Hs.out⟩
      case measure => simp [intOf]; omega
    · have hil : i = la := by omega
      subst hil
      have hfull : ws.take i = ws := List.take_of_length_le (by rw [Hla.out]; exact Nat.le_refl _)
      have ho := HO.out
      rw [hfull] at ho
      have Ho := Lib.hid ho
      clear hfull ho
      go_wp2
      go_ret
      exact ⟨_, rfl, Ho.out, hbl⟩
theorem sgn_lt (neg : Bool) (n : Nat) : decide (sgnI neg (nw n) < 0) = (neg && decide (0 < n)) := by
  rcases Nat.eq_zero_or_pos n with h | h
  · subst h; cases neg <;> rfl
  · have := nw_pos h
    unfold sgnI
    rw [if_neg (by omega)]
    cases neg
    · rfl
    · simp [h]
set_option maxRecDepth 100000 in
theorem told_any (b o : Nat) (neg : Bool) (v : Value) (n : Nat) (w : World) (h0 : w.cell? ⟨b, o, none⟩ = some (.bool neg)) (hc : w.cell? ⟨b, o + 1, none⟩ = some v) (hv : RW w v (wds n)) (hl : nw n ≤ 100000000) :
    Calls Tryz.prog 84 #[.pointer (some ⟨b, o, none⟩)] w fun e w' => ∃ r, e = .returned (.agg #[.bool (neg && decide (0 < n)), r]) ∧ Own w' w.heap.size 83 r (cellsW (wds n)) ∧ Below w.heap.size w w' := by
  have hSv := hv.isS
  have hLv := hv.len
  rw [wds_length] at hLv
  have hlt := World.block_lt_of_cell? w _ hc
  have Hv := Lib.hid hv
  clear hv
  have hab := (Below.refl w.heap.size w).alloc (Nat.le_refl _) (.cells #[.bool false, .slice none 0 0] 24)
  have hrow0 := box_row (Below.refl _ (w.alloc (.cells #[.bool false, .slice none 0 0] 24)))
  obtain ⟨W, hW⟩ : ∃ W, W = w.alloc (.cells #[.bool false, .slice none 0 0] 24) := ⟨_, rfl⟩
  rw [← hW] at hab hrow0
  have h0' := (hab.cell (p := ⟨b, o, none⟩) hlt).trans h0
  have hc' := (hab.cell (p := ⟨b, o + 1, none⟩) hlt).trans hc
  have HR := Lib.hid hrow0
  have hWs := hab.size
  clear hrow0
  have t1 := sgn_lt neg n
  obtain ⟨x, hx⟩ : ∃ x, x = (neg && decide (0 < n)) := ⟨_, rfl⟩
  obtain ⟨z, hz⟩ : ∃ z, z = sgnI neg (nw n) := ⟨_, rfl⟩
  rw [← hx]
  rw [← hx, ← hz] at t1
  have hzb : -1 ≤ z ∧ z ≤ 1 := by rw [hz]; unfold sgnI; split <;> (try split) <;> omega
  obtain ⟨hz1, hz2⟩ := hzb
  have HZ := Lib.hid hz
  clear hx hz
  go_enter Tryz.func84, Tryz.ntmps84
  go_upto_region 1 with fail
  rw [← hW]
  clear hW
  go_wp2_with fail
  refine (intSign b o neg v W h0' hc' hSv).mono ?_
  rintro _ _ ⟨rfl, rfl⟩
  rw [hLv]
  have Z := HZ.out
  rw [← Z]
  clear Z h0 hc h0' hLv
  go_wp2_with fail
  refine (wordsOf_any b o v (wds n) W hc' (Hv.out.below hab) (by rw [wds_length]; exact hl)).mono ?_
  rintro _ w2 ⟨r, rfl, hr, hb2⟩
  have hSr := hr.isS
  have hrow2 := keep_row hb2 HR.out
  have k0 := row_at (i := 0) hrow2 rfl
  have k1 := row_at (i := 1) hrow2 rfl
  obtain ⟨k00, k01⟩ := k0
  obtain ⟨k10, k11⟩ := k1
  have q2 := rowset (i := 1) r (rowset (i := 0) (.bool x) hrow2)
  have e0 := (row_at (i := 0) q2 rfl).1
  have e1 := (row_at (i := 1) q2 rfl).1
  have o1 := ((hr.away hrow2 (by decide) 0 (.bool x)).away (rowset (i := 0) (.bool x) hrow2) (by decide) 1 r).mono hWs
  have b1 := bset (i := 1) (u := r) (bset (i := 0) (u := .bool x) (hab.trans (hb2.mono hWs)) (Nat.le_refl _)) (Nat.le_refl _)
  have O1 := Lib.hid o1
  have B1 := Lib.hid b1
  clear hr hrow2 q2 o1 b1
  go_wp2
  refine bodyPost_ret (v := .agg #[.bool x, r]) ?_ rfl ⟨r, rfl, O1.out, B1.out⟩
  simp [results, Tryz.results84, go_sem, e0, e1]
set_option maxRecDepth 100000 in
theorem ratNum (b : Nat) (w : World) :
    Calls Tryz.prog 85 #[.pointer (some ⟨b, 0, none⟩)] w fun e w' => e = .returned (.pointer (some ⟨b, 0, none⟩)) ∧ w = w' := by
  go_enter Tryz.func85, Tryz.ntmps85
  go_wp2
  go_ret
  exact ⟨rfl, rfl⟩
set_option maxRecDepth 100000 in
set_option maxHeartbeats 800000 in
theorem frac_any (b B : Nat) (neg : Bool) (n d : Nat) (w : World) (h : RatP w B b neg n d) (hd : 0 < d) (hl1 : nw n ≤ 100000000) (hl2 : nw d ≤ 100000000) :
    Calls Tryz.prog 49 #[.pointer (some ⟨b, 0, none⟩)] w fun e w' => ∃ r1 r2, e = .returned (.agg #[.bool (neg && decide (0 < n)), r1, r2]) ∧ RW w' r1 (wds n) ∧ RW w' r2 (wds d) ∧ Below w.heap.size w w' := by
  have hab := (Below.refl w.heap.size w).alloc (Nat.le_refl _) (.cells #[.bool false, .slice none 0 0, .slice none 0 0] 26)
  have hrow0 := box_row (Below.refl _ (w.alloc (.cells #[.bool false, .slice none 0 0, .slice none 0 0] 26)))
  obtain ⟨W, hW⟩ : ∃ W, W = w.alloc (.cells #[.bool false, .slice none 0 0, .slice none 0 0] 26) := ⟨_, rfl⟩
  rw [← hW] at hab hrow0
  obtain ⟨v1, v2, hB, hr, ho1, ho2⟩ := h
  have hr' := keep_row hab hr
  have k0 := (row_at (i := 0) hr' rfl).1
  have k1 := (row_at (i := 1) hr' rfl).1
  have R1 := Lib.hid ((ho1.rw' (wds_all n)).below hab)
  have R2 := Lib.hid ((ho2.rw' (wds_all d)).below hab)
  have hS1 := ho1.isS
  have hS2 := ho2.isS
  have hL2 : 0 < sLen v2 := by rw [ho2.len, cellsW_length, wds_length]; exact nw_pos hd
  have HR := Lib.hid hr'
  have H0 := Lib.hid hrow0
  have hWs := hab.size
  obtain ⟨x, hx⟩ : ∃ x, x = (neg && decide (0 < n)) := ⟨_, rfl⟩
  rw [← hx]
  have HX := Lib.hid hx
  clear hr hr' hrow0 ho1 ho2 hx
  go_enter Tryz.func49, Tryz.ntmps49
  go_upto_region 1 with fail
  rw [← hW]
  clear hW
  go_wp2_with fail
  refine (ratNum b W).mono ?_
  rintro _ _ ⟨rfl, rfl⟩
  go_wp2_with fail
  refine (told_any b 0 neg v1 n W k0 k1 R1.out hl1).mono ?_
  rintro _ w1 ⟨r1, rfl, hq1, hb1⟩
  rw [← HX.out]
  have hSr1 := hq1.isS
  have k3 := (row_at (i := 3) (keep_row hb1 HR.out) rfl).1
  have HB1 := Lib.hid hb1
  have HQ1 := Lib.hid hq1
  clear hb1 hq1 k0 k1
  go_wp2_with fail
  refine (ratDenom b v2 w1 k3 hS2 hL2).mono ?_
  rintro _ _ ⟨rfl, rfl⟩
  go_wp2_with fail
  refine (wordsOf_any b 2 v2 (wds d) w1 k3 (R2.out.below HB1.out) (by rw [wds_length]; exact hl2)).mono ?_
  rintro _ w2 ⟨r2, rfl, hq2, hb2⟩
  have hSr2 := hq2.isS
  have hb12 := bthen HB1.out hb2
  have hrow2 := keep_row hb12 H0.out
  have k0 := row_at (i := 0) hrow2 rfl
  have k1 := row_at (i := 1) hrow2 rfl
  have k2 := row_at (i := 2) hrow2 rfl
  obtain ⟨k00, k01⟩ := k0
  obtain ⟨k10, k11⟩ := k1
  obtain ⟨k20, k21⟩ := k2
  have p1 := rowset (i := 0) (.bool x) hrow2
  have p2 := rowset (i := 1) r1 p1
  have p3 := rowset (i := 2) r2 p2
  have e0 := (row_at (i := 0) p3 rfl).1
  have e1 := (row_at (i := 1) p3 rfl).1
  have e2 := (row_at (i := 2) p3 rfl).1
  have a1 := (((HQ1.out.below hb2).away hrow2 (by decide) 0 (.bool x)).away p1 (by decide) 1 r1).away p2 (by decide) 2 r2
  have a2 := ((hq2.away hrow2 (by decide) 0 (.bool x)).away p1 (by decide) 1 r1).away p2 (by decide) 2 r2
  have b1 := bset (i := 2) (u := r2) (bset (i := 1) (u := r1) (bset (i := 0) (u := .bool x) (hab.trans (hb12.mono hWs)) (Nat.le_refl _)) (Nat.le_refl _)) (Nat.le_refl _)
  have A1 := Lib.hid (a1.rw' (wds_all n))
  have A2 := Lib.hid (a2.rw' (wds_all d))
  have B1 := Lib.hid b1
  clear hq2 hb2 hb12 hrow2 p1 p2 p3 a1 a2 b1 k3
  go_wp2
  refine bodyPost_ret (v := .agg #[.bool x, r1, r2]) ?_ rfl ⟨r1, r2, rfl, A1.out, A2.out, B1.out⟩
  simp [results, Tryz.results49, go_sem, e0, e1, e2]
theorem eqlI (w : World) {b o c q : Nat} {cb cc : Array Value} {tb tc : TypeId} (hne : b ≠ c) (hb : w.heap[b]? = some (.cells cb tb (0, 0))) (hc : w.heap[c]? = some (.cells cc tc (0, 0))) :
    (binOp .eql 96 (.pointer (some ⟨b, o, none⟩)) (.pointer (some ⟨c, q, none⟩))).run Tryz.prog w = .ok (.bool false) w := by
  obtain ⟨j, hj, hz⟩ := info_size sizeI
  exact run_eql_ptr_other w Tryz.underlying96 hj (by omega) (by simp) hb hc
def cmpS (m : Bool) (X : Nat) (n : Bool) (Y : Nat) : Int := if m = n then (if m then -cmpN X Y else cmpN X Y) else if m then -1 else 1
set_option maxRecDepth 100000 in
set_option maxHeartbeats 1600000 in
theorem intCmp (b c : Nat) (m n : Bool) (v u : Value) (X Y : Nat) (w : World) (hne : b ≠ c)
    (hb : w.heap[b]? = some (.cells #[.bool m, v] 87 (0, 0))) (hc : w.heap[c]? = some (.cells #[.bool n, u] 87 (0, 0)))
    (hv : RW w v (wds X)) (hu : RW w u (wds Y)) (hx : nw X ≤ 1000000) (hy : nw Y ≤ 1000000) :
    Calls Tryz.prog 120 #[.pointer (some ⟨b, 0, none⟩), .pointer (some ⟨c, 0, none⟩)] w fun e w' => e = .returned (.int .i64 (cmpS m X n Y)) ∧ ∃ k, w' = w.drewN k := by
  have hSv := hv.isS
  have hSu := hu.isS
  have heq := eqlI w (o := 0) (q := 0) hne hb hc
  obtain ⟨c0, -⟩ := row_at (i := 0) hb rfl
  obtain ⟨c1, -⟩ := row_at (i := 1) hb rfl
  obtain ⟨d0, -⟩ := row_at (i := 0) hc rfl
  obtain ⟨d1, -⟩ := row_at (i := 1) hc rfl
  obtain ⟨C, hC⟩ : ∃ C, C = cmpN X Y := ⟨_, rfl⟩
  have hCb := cmpN_bd X Y
  rw [← hC] at hCb
  obtain ⟨hC1, hC2⟩ := hCb
  have HM := Lib.hid (show ∀ W, (∃ k, W = w.drewN k) → Calls Tryz.prog 65 #[v, u] W fun e w' => e = .returned (.int .i64 C) ∧ ∃ k, w' = W.drewN k from fun W ⟨k, hk⟩ => by
    rw [hk, hC]; exact cmp_any v u X Y _ (hv.drewN k) (hu.drewN k) (by omega) (by omega))
  have E : cmpS m X n Y = if m = n then (if m then -C else C) else if m then -1 else 1 := by rw [hC]; rfl
  rw [E]
  clear hb hc hv hu hC E
  cases m <;> cases n
  · go_enter Tryz.func120, Tryz.ntmps120
    go_wp2
    go_quiet (fail)
    go_wp2_with fail
    (refine wp_region_hoist 8 (by kernel_rfl) (by kernel_rfl) ⟨fun _ _ _ h => (by first | exact (hQp _ _ _ h).elim | cases h.2.1 | (obtain ⟨_, h3, _⟩ := h.2; cases h3)), fun _ _ h => (by first | exact (hQo _ _ h).elim | cases h.1 | (obtain ⟨_, h3, _⟩ := h; cases h3))⟩ ?_; simp only [List.take_succ_cons, List.take_zero, List.drop_succ_cons, List.drop_zero]; (repeat (go_big_quiet_step (fail))); refine wpQuiet_nil ?_; rintro _ ⟨nq, rfl⟩)
    go_wp2_with fail
    refine (HM.out _ (by first | exact ⟨_, rfl⟩ | exact ⟨_, World.drewN_drewN _ _ _⟩)).mono ?_
    rintro _ _ ⟨rfl, k, rfl⟩
    go_wp2
    go_ret
    exact ⟨rfl, by first | exact ⟨_, rfl⟩ | simp⟩
  · go_enter Tryz.func120, Tryz.ntmps120
    go_wp2
    go_quiet (fail)
    go_wp2
    go_ret
    exact ⟨rfl, by first | exact ⟨_, rfl⟩ | simp⟩
  · go_enter Tryz.func120, Tryz.ntmps120
    go_wp2
    go_quiet (fail)
    go_wp2
    go_ret
    exact ⟨rfl, by first | exact ⟨_, rfl⟩ | simp⟩
  · go_enter Tryz.func120, Tryz.ntmps120
    go_wp2
    go_quiet (fail)
    go_wp2_with fail
    (refine wp_region_hoist 8 (by kernel_rfl) (by kernel_rfl) ⟨fun _ _ _ h => (by first | exact (hQp _ _ _ h).elim | cases h.2.1 | (obtain ⟨_, h3, _⟩ := h.2; cases h3)), fun _ _ h => (by first | exact (hQo _ _ h).elim | cases h.1 | (obtain ⟨_, h3, _⟩ := h; cases h3))⟩ ?_; simp only [List.take_succ_cons, List.take_zero, List.drop_succ_cons, List.drop_zero]; (repeat (go_big_quiet_step (fail))); refine wpQuiet_nil ?_; rintro _ ⟨nq, rfl⟩)
    go_wp2_with fail
    refine (HM.out _ (by first | exact ⟨_, rfl⟩ | exact ⟨_, World.drewN_drewN _ _ _⟩)).mono ?_
    rintro _ _ ⟨rfl, k, rfl⟩
    go_wp2
    go_ret
    exact ⟨rfl, by first | exact ⟨_, rfl⟩ | simp⟩
end Go.Proofs.YtoddjkpckpekcaaGreatDoor
