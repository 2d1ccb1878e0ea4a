/-
Texts of this proof, joined: FlJ FlK RnB RnC RnD. No condition.
-/
import Derived.Test.YtllhnjpnkmjopaaGreatDoorK02
import Derived.Test.YtllhnjpnkmjopaaGreatDoorK04
import Derived.Laws.Externs
namespace Go.Proofs.YtllhnjpnkmjopaaGreatDoor
open Go.RowKit

def wdsN (n L : Nat) : List Nat := (List.range L).map (wdg n)
theorem wdsN_length (n L : Nat) : (wdsN n L).length = L := by simp [wdsN]
theorem wdsN_lt {n L : Nat} : ∀ d ∈ wdsN n L, d < 18446744073709551616 := by
  intro d h
  obtain ⟨i, _, rfl⟩ := List.mem_map.1 h
  exact wdg_lt n i
theorem wdsN_getD {n L i : Nat} (h : i < L) : (wdsN n L).getD i 0 = wdg n i := by simp [wdsN, List.getD_eq_getElem?_getD, h]
theorem wdsN_wv (n L : Nat) : wv (wdsN n L) = n % 18446744073709551616 ^ L := wv_range n L
theorem wdsN_nw (n : Nat) : wdsN n (nw n) = wds n := rfl
theorem wdsN_of {os : List Nat} {n L : Nat} (hl : os.length = L) (h : ∀ j, j < L → os.getD j 0 = wdg n j) : os = wdsN n L := by
  refine list_ext_getD (by rw [wdsN_length, hl]) fun i => ?_
  by_cases hi : i < L
  · rw [h i hi, wdsN_getD hi]
  · rw [List.getD_eq_getElem?_getD, List.getD_eq_getElem?_getD, List.getElem?_eq_none (by omega), List.getElem?_eq_none (by rw [wdsN_length]; omega)]
def LsRel (N s L B k : Nat) (w : World) (v : Value) (wr : World) : Prop :=
  ∃ os : List Nat, Own wr B 116 v (cellsW os) ∧ os.length = L ∧ (∀ d ∈ os, d < 18446744073709551616) ∧ (∀ j, j < L → os.getD j 0 = if k < j then wdg (N * 2 ^ s) j else wdg N j) ∧ Below B w wr ∧ Only (sBlk v) w wr
theorem and63 {s : Nat} (h : s < 64) : bits .and .u64 (s : Int) 63 = (s : Int) := by
  rw [show (63 : Int) = ((63 : Nat) : Int) from rfl, bits_and_u64_nat _ _ (by omega) (by decide), show (63 : Nat) = 2 ^ 6 - 1 from rfl, Nat.and_two_pow_sub_one_eq_mod]
  congr 1; omega
theorem wrapU (a b : Nat) : IntKind.u64.wrap ((a : Int) * (b : Int)) = ((a * b % 18446744073709551616 : Nat) : Int) := by
  rw [IntKind.wrap_u64]; simp
theorem LsRel.put {N s L B k : Nat} {w wr : World} {v : Value} {os : List Nat} (_hs : s < 64) (hcap : 0 < sCap v) (ho : Own wr B 116 v (cellsW os)) (hol : os.length = L) (hod : ∀ d ∈ os, d < 18446744073709551616) (hog : ∀ j, j < L → os.getD j 0 = if k < j then wdg (N * 2 ^ s) j else wdg N j)
    (hb : Below B w wr) (hon : Only (sBlk v) w wr) (hk : k < L) {y : Nat} (hy : y = wdg (N * 2 ^ s) k) :
    ∃ os' : List Nat, Own (wr.setCell ⟨sBlk v, sOff v + k, none⟩ (.int .u64 (y : Int))) B 116 v (cellsW os') ∧ os'.length = L ∧ (∀ d ∈ os', d < 18446744073709551616) ∧ (∀ j, j < L → os'.getD j 0 = if k ≤ j then wdg (N * 2 ^ s) j else wdg N j) ∧
      Below B w (wr.setCell ⟨sBlk v, sOff v + k, none⟩ (.int .u64 (y : Int))) ∧ Only (sBlk v) w (wr.setCell ⟨sBlk v, sOff v + k, none⟩ (.int .u64 (y : Int))) := by
  have h1 := ho.set (i := k) (by rw [cellsW_length, hol]; exact hk) (.int .u64 (y : Int))
  rw [cellsW_set] at h1
  refine ⟨os.set k y, h1, by simpa using hol, ?_, ?_, bset hb (ho.lt hcap).1, fun j hj hne => ?_⟩
  · intro d hd
    rcases List.mem_or_eq_of_mem_set hd with h | h
    · exact hod d h
    · rw [h, hy]; exact wdg_lt _ _
  · intro j hj
    by_cases hjk : j = k
    · subst hjk
      rw [if_pos (Nat.le_refl _), ← hy]
      simp [List.getD_eq_getElem?_getD, hol, hk]
    · have := hog j hj
      rw [List.getD_eq_getElem?_getD, List.getElem?_set_ne (fun h => hjk h.symm), ← List.getD_eq_getElem?_getD, this]
      by_cases hlt : k < j
      · rw [if_pos hlt, if_pos (by omega)]
      · rw [if_neg hlt, if_neg (by omega)]
  · rw [heap_setCell_other _ _ _ _ (by simpa using hne)]
    exact hon j hj hne
set_option maxRecDepth 100000 in
set_option maxHeartbeats 1600000 in
theorem lshVU_g_any (v : Value) (ws : List Nat) (N s B : Nat) (w : World) (ho : Own w B 116 v (cellsW ws)) (hd : ∀ d ∈ ws, d < 18446744073709551616) (hN : wv ws = N) (hl0 : 0 < ws.length) (hl : ws.length ≤ 1000000000) (hs0 : 0 < s) (hs : s < 64) :
    Calls Tryz.prog 204 #[v, v, .int .u64 s] w fun e w' => e = .returned (.int .u64 (wdg N (ws.length - 1) / 2 ^ (64 - s) : Nat)) ∧ Own w' B 116 v (cellsW (wdsN (N * 2 ^ s) ws.length)) ∧ Below B w w' ∧ Only (sBlk v) w w' := by
  have hS := ho.isS
  have hL : sLen v = ws.length := by rw [ho.len, cellsW_length]
  have hcap : 0 < sCap v := by have := hS.le; omega
  have hB := (ho.lt hcap).1
  have hget : ∀ j, ws.getD j 0 = wdg N j := fun j => by rw [← hN, wv_dig hd]
  obtain ⟨L, hLw⟩ : ∃ L, L + 1 = ws.length := ⟨ws.length - 1, by omega⟩
  have hc := (ho.rw' hd).cell L (by omega)
  rw [hget] at hc
  rw [← hLw] at hL hl ⊢
  rw [Nat.add_sub_cancel]
  have n1 := and63 hs
  have n2 := and63 (show 64 - s < 64 by omega)
  obtain ⟨r, hr⟩ : ∃ r, r = 64 - s := ⟨_, rfl⟩
  rw [← hr] at n2 ⊢
  have hr64 : r < 64 := by omega
  have e1 : (64 : Int) - (s : Int) = (r : Int) := by omega
  have hS2 : (2 : Int) ^ s = ((2 ^ s : Nat) : Int) := by simp
  have hR2 : (2 : Int) ^ r = ((2 ^ r : Nat) : Int) := by simp
  obtain ⟨t, ht⟩ : ∃ t, t = wdg N L := ⟨_, rfl⟩
  rw [← ht] at hc ⊢
  obtain ⟨S, hSS⟩ : ∃ S, S = 2 ^ s := ⟨_, rfl⟩
  rw [← hSS] at hS2
  have HS := Lib.hid hSS
  clear hSS
  obtain ⟨R, hR⟩ : ∃ R, R = 2 ^ r := ⟨_, rfl⟩
  rw [← hR] at hR2 ⊢
  have hqt : (t : Int) / (R : Int) = ((t / R : Nat) : Int) := by simp
  have htl : t < 18446744073709551616 := by rw [ht]; exact wdg_lt _ _
  obtain ⟨q, hq⟩ : ∃ q, q = t / R := ⟨_, rfl⟩
  rw [← hq] at hqt ⊢
  have ts : ((s : Int) == 0) = false := by rw [beq_eq_false_iff_ne]; omega
  have HO := Lib.hid ho
  have HW := Lib.hid hLw
  have HD := Lib.hid hd
  have HG := Lib.hid hget
  have HR := Lib.hid hR
  have Hr := Lib.hid hr
  clear ho hLw hd hN hl0 hget ht hR hq hr
  go_enter Tryz.func204, Tryz.ntmps204
  go_wp2
  go_loopw [8] (fun i wr => ∃ k : Nat, k ≤ L ∧ i = .int .i64 k ∧ LsRel N s (L + 1) B k w v wr) (fun i _ => (intOf i).toNat)
  case atStart => exact ⟨L, Nat.le_refl _, rfl, ws, HO.out, HW.out.symm, HD.out, fun j hj => by rw [if_neg (by omega)]; exact HG.out j, Below.refl _ _, Only.refl _ _⟩
  case round =>
    obtain ⟨k, hk, rfl, os, ho, hol, hod, hog, hbl, hon⟩ := hrel
    have hbk := ho.lt hcap
    have Hol := Lib.hid hol
    have Hod := Lib.hid hod
    have Hog := Lib.hid hog
    have HB' := Lib.hid hbl
    have HOn := Lib.hid hon
    have HOs := Lib.hid ho
    have fz := ho.frozen hcap
    clear hol hod hog hbl hon ho
    rcases Nat.eq_zero_or_pos k with hk0 | hk0
    · subst hk0
      have c0 := (HOs.out.rw' Hod.out).cell 0 (by rw [Hol.out]; omega)
      have g0 := Hog.out 0 (by omega)
      rw [if_neg (by omega)] at g0
      rw [g0, Nat.add_zero] at c0
      obtain ⟨d0, hd0⟩ : ∃ d, d = wdg N 0 := ⟨_, rfl⟩
      rw [← hd0] at c0
      have hm := wrapU d0 S
      obtain ⟨m, hmm⟩ : ∃ m, m = d0 * S % 18446744073709551616 := ⟨_, rfl⟩
      rw [← hmm] at hm
      have fz0 := fz (sOff v)
      have HM := Lib.hid (show m = wdg (N * 2 ^ s) 0 by rw [wdg_shl_zero _ (by omega), hmm, hd0, HS.out])
      have Fin := Lib.hid (LsRel.put hs hcap HOs.out Hol.out Hod.out Hog.out HB'.out HOn.out (Nat.succ_pos L) HM.out)
      clear fz g0 hd0 hmm
      go_wp2
      go_ret
      obtain ⟨os', f1, f2, f3, f4, f5, f6⟩ := Fin.out
      rw [Nat.add_zero] at f1 f5 f6
      have e := wdsN_of f2 (fun i hi => (f4 i hi).trans (if_pos (Nat.zero_le _)))
      rw [← e]
      exact ⟨rfl, f1, f5, f6⟩
    · obtain ⟨j, rfl⟩ : ∃ j, k = j + 1 := ⟨k - 1, by omega⟩
      have c1 := (HOs.out.rw' Hod.out).cell (j + 1) (by rw [Hol.out]; omega)
      have c0 := (HOs.out.rw' Hod.out).cell j (by rw [Hol.out]; omega)
      rw [Hog.out (j + 1) (by omega), if_neg (by omega)] at c1
      rw [Hog.out j (by omega), if_neg (by omega)] at c0
      obtain ⟨d1, hd1⟩ : ∃ d, d = wdg N (j + 1) := ⟨_, rfl⟩
      obtain ⟨d0, hd0⟩ : ∃ d, d = wdg N j := ⟨_, rfl⟩
      rw [← hd1] at c1
      rw [← hd0] at c0
      have hm := wrapU d1 S
      have hq0 : (d0 : Int) / (R : Int) = ((d0 / R : Nat) : Int) := by simp
      obtain ⟨m, hmm⟩ : ∃ m, m = d1 * S % 18446744073709551616 := ⟨_, rfl⟩
      obtain ⟨q0, hqq⟩ : ∃ q, q = d0 / R := ⟨_, rfl⟩
      rw [← hmm] at hm
      rw [← hqq] at hq0
      have hd0l : d0 < 18446744073709551616 := by rw [hd0]; exact wdg_lt _ _
      have hq0l : q0 < 2 ^ s := by
        rw [hqq, HR.out, Hr.out]
        refine Nat.div_lt_of_lt_mul ?_
        rw [word_split (by omega)]; exact hd0l
      have hor := bits_or_u64_nat m q0 (by rw [hmm]; exact Nat.mod_lt _ (by decide)) (by have := Nat.div_le_self d0 R; omega)
      have hy : m ||| q0 = wdg (N * 2 ^ s) (j + 1) := by
        rw [wdg_shl_succ _ _ hs, hmm, HS.out, shl_or hs hq0l, hqq, hd0, hd1, HR.out, Hr.out]
      rw [hy] at hor
      obtain ⟨y, hyy⟩ : ∃ y, y = wdg (N * 2 ^ s) (j + 1) := ⟨_, rfl⟩
      rw [← hyy] at hor
      have HY := Lib.hid hyy
      have fz1 := fz (sOff v + (j + 1))
      have hj1 : j + 1 < L + 1 := by omega
      clear fz hy hq0l hd0 hd1 hmm hqq hyy
      go_wp2
      (refine wp_region_hoist 16 (by kernel_rfl) (by kernel_rfl) ⟨fun _ _ _ h => (by first | exact (hQp _ _ _ h).elim | cases h.2.1 | (obtain ⟨_, h3, _⟩ := h.2; cases h3)), fun _ _ h => (by first | exact (hQo _ _ h).elim | cases h.1 | (obtain ⟨_, h3, _⟩ := h; cases h3))⟩ ?_; simp only [List.take_succ_cons, List.take_zero, List.drop_succ_cons, List.drop_zero]; (repeat (go_big_quiet_step (fail))); refine wpQuiet_nil ?_; rintro _ ⟨nq, rfl⟩)
      go_wp2
      refine ⟨⟨j, by omega, rfl, ?_⟩, by simp [intOf]⟩
      obtain ⟨os', f1, f2, f3, f4, f5, f6⟩ := LsRel.put (wr := wr.drewN nq) hs hcap (HOs.out.drewN nq) Hol.out Hod.out Hog.out (undrewN' HB'.out) (fun i hi hne => HOn.out i hi hne) hj1 HY.out
      exact ⟨os', f1, f2, f3, fun i hi => by rw [f4 i hi]; by_cases h : j < i; rw [if_pos h, if_pos (by omega)]; rw [if_neg h, if_neg (by omega)], f5, f6⟩
set_option maxRecDepth 100000 in
theorem lshVU_any (v : Value) (ws : List Nat) (N s B : Nat) (w : World) (ho : Own w B 116 v (cellsW ws)) (hd : ∀ d ∈ ws, d < 18446744073709551616) (hN : wv ws = N) (hl0 : 0 < ws.length) (hl : ws.length ≤ 1000000000) (hs0 : 0 < s) (hs : s < 64) :
    Calls Tryz.prog 173 #[v, v, .int .u64 s] w fun e w' => e = .returned (.int .u64 (wdg N (ws.length - 1) / 2 ^ (64 - s) : Nat)) ∧ Own w' B 116 v (cellsW (wdsN (N * 2 ^ s) ws.length)) ∧ Below B w w' ∧ Only (sBlk v) w w' := by
  have hS := ho.isS
  have HO := Lib.hid ho
  have HD := Lib.hid hd
  have HN := Lib.hid hN
  clear ho hd hN
  go_enter Tryz.func173, Tryz.ntmps173
  go_wp2_with fail
  refine (lshVU_g_any v ws N s B w HO.out HD.out HN.out hl0 hl hs0 hs).mono ?_
  rintro _ w1 ⟨rfl, h1, h2, h3⟩
  go_wp2
  go_ret
  exact ⟨rfl, h1, h2, h3⟩
theorem ret_u64 {a b : Int} (h : a = b) : Ending.returned (.int .u64 a) = Ending.returned (.int .u64 b) := by rw [h]
set_option maxRecDepth 100000 in
set_option maxHeartbeats 800000 in
theorem fnorm_any (v : Value) (M B : Nat) (w : World) (ho : Own w B 116 v (cellsW (wds M))) (h0 : 0 < M) (hl : nw M ≤ 1000000000) :
    Calls Tryz.prog 143 #[v] w fun e w' => (∃ r, e = .returned r) ∧ Own w' B 116 v (cellsW (wdsN (M * 2 ^ (64 * nw M - bl M)) (nw M))) ∧ Below B w w' ∧ Only (sBlk v) w w' := by
  have hS := ho.isS
  have hL : sLen v = nw M := by rw [ho.len, cellsW_length, wds_length]
  have hp := nw_pos h0
  have e := bl_words h0
  have hc := (ho.rw' (wds_all M)).cell (nw M - 1) (by rw [wds_length]; omega)
  rw [wds_getD] at hc
  have ht := wdg_lt M (nw M - 1)
  have htp : 0 < wdg M (nw M - 1) := Nat.pos_of_ne_zero (wdg_last h0)
  obtain ⟨j, hj⟩ : ∃ j, nw M = j + 1 := ⟨nw M - 1, by omega⟩
  obtain ⟨t, htt⟩ : ∃ t, t = wdg M (nw M - 1) := ⟨_, rfl⟩
  rw [← htt] at e hc ht htp
  have hbt := bl_le64 ht
  have hbp := bl_pos htp
  have es : 64 * nw M - bl M = 64 - bl t := by rw [e]; omega
  rw [es]
  obtain ⟨s, hs⟩ : ∃ s, s = 64 - bl t := ⟨_, rfl⟩
  rw [← hs]
  have hs64 : s < 64 := by omega
  rw [hj, Nat.add_sub_cancel] at hc
  rw [hj] at hL hl
  have HO := Lib.hid ho
  have HJ := Lib.hid hj
  have HS := Lib.hid hs
  have HT := Lib.hid ht
  clear ho h0 hp e htp hbt hbp es hs hj ht htt
  rcases Nat.eq_zero_or_pos s with hs0 | hs0
  · subst hs0
    go_enter Tryz.func143, Tryz.ntmps143
    go_wp2_with fail
    refine (nlz_any t w HT.out).mono ?_
    rintro _ _ ⟨rfl, rfl⟩
    rw [← HS.out]
    go_wp2
    go_ret
    refine ⟨⟨_, rfl⟩, ?_, Below.refl _ _, Only.refl _ _⟩
    rw [Nat.pow_zero, Nat.mul_one, wdsN_nw]
    exact HO.out
  · have t1 : decide (0 < s) = true := decide_eq_true hs0
    go_enter Tryz.func143, Tryz.ntmps143
    go_wp2_with fail
    refine (nlz_any t w HT.out).mono ?_
    rintro _ _ ⟨rfl, rfl⟩
    rw [← HS.out]
    go_wp2_with fail
    refine (lshVU_any v (wds M) M s B w HO.out (wds_all M) (wv_wds M) (by rw [wds_length, HJ.out]; omega) (by rw [wds_length, HJ.out]; exact hl) hs0 hs64).mono ?_
    rintro _ w1 ⟨rfl, h1, h2, h3⟩
    rw [wds_length] at h1
    have H1 := Lib.hid h1
    clear h1
    go_wp2
    go_ret
    exact ⟨⟨_, rfl⟩, H1.out, h2, h3⟩
set_option maxRecDepth 100000 in
set_option maxHeartbeats 800000 in
theorem bit_any (v : Value) (ws : List Nat) (i : Nat) (w : World) (hv : RW w v ws) (hi : i < 64 * ws.length) (hl : ws.length ≤ 100000000) :
    Calls Tryz.prog 153 #[v, .int .u64 i] w fun e w' => e = .returned (.int .u64 (wv ws / 2 ^ i % 2 : Nat)) ∧ w = w' := by
  have hS := hv.isS
  have hL := hv.len
  have hc := hv.cell (i / 64) (by omega)
  rw [← wv_dig hv.lt] at hc
  have hb := wdg_bit (wv ws) i
  rw [← hb]
  have ht := wdg_lt (wv ws) (i / 64)
  obtain ⟨l, hl'⟩ : ∃ l, l = ws.length := ⟨_, rfl⟩
  rw [← hl'] at hL hi hl
  obtain ⟨t, htt⟩ : ∃ t, t = wdg (wv ws) (i / 64) := ⟨_, rfl⟩
  rw [← htt] at hc ht ⊢
  have e1 : (i : Int) / 64 = ((i / 64 : Nat) : Int) := by omega
  have e2 : (i : Int) % 64 = ((i % 64 : Nat) : Int) := by omega
  obtain ⟨j, hj⟩ : ∃ j, j = i / 64 := ⟨_, rfl⟩
  obtain ⟨s, hs⟩ : ∃ s, s = i % 64 := ⟨_, rfl⟩
  rw [← hj] at e1 hc
  rw [← hs] at e2 ⊢
  have hjl : j < l := by omega
  have hs64 : s < 64 := by omega
  have t1 : decide (l ≤ j) = false := decide_eq_false (by omega)
  have hS2 : (2 : Int) ^ s = ((2 ^ s : Nat) : Int) := by simp
  obtain ⟨S, hSS⟩ : ∃ S, S = 2 ^ s := ⟨_, rfl⟩
  rw [← hSS] at hS2 ⊢
  have hq : (t : Int) / (S : Int) = ((t / S : Nat) : Int) := by simp
  have hqt : t / S ≤ t := Nat.div_le_self _ _
  obtain ⟨q, hqq⟩ : ∃ q, q = t / S := ⟨_, rfl⟩
  rw [← hqq] at hq hqt ⊢
  have ha : bits .and .u64 (q : Int) 1 = ((q % 2 : Nat) : Int) := by
    rw [show (1 : Int) = ((1 : Nat) : Int) from rfl, bits_and_u64_nat q 1 (by omega) (by decide), Nat.and_one_is_mod]
  obtain ⟨u, hu⟩ : ∃ u, u = q % 2 := ⟨_, rfl⟩
  rw [← hu] at ha ⊢
  clear hv hb htt hj hs hSS hqq hu hl'
  go_enter Tryz.func153, Tryz.ntmps153
  go_wp2
  go_ret
  exact ⟨rfl, rfl⟩
def stV (n i : Nat) : Nat := if n % 2 ^ i = 0 then 0 else 1
theorem stV_zero {n i : Nat} (h : n % 2 ^ i = 0) : stV n i = 0 := if_pos h
theorem stV_one {n i : Nat} (h : n % 2 ^ i ≠ 0) : stV n i = 1 := if_neg h
theorem low_shl {d s : Nat} (hs : s < 64) : d * 2 ^ (64 - s) % 18446744073709551616 = 0 ↔ d % 2 ^ s = 0 := by
  have e := word_split (show s ≤ 64 by omega)
  have hR : 0 < 2 ^ (64 - s) := Nat.pow_pos (by decide)
  rw [← e, Nat.mul_comm (2 ^ (64 - s)), Nat.mul_mod_mul_right]
  constructor
  · intro h; exact (Nat.mul_eq_zero.1 h).resolve_right (by omega)
  · intro h; rw [h, Nat.zero_mul]
set_option maxRecDepth 100000 in
set_option maxHeartbeats 800000 in
theorem sticky_any (v : Value) (ws : List Nat) (i : Nat) (w : World) (hv : RW w v ws) (hi : i < 64 * ws.length) (hl : ws.length ≤ 100000000) :
    Calls Tryz.prog 109 #[v, .int .u64 i] w fun e w' => e = .returned (.int .u64 (stV (wv ws) i : Nat)) ∧ w = w' := by
  have hS := hv.isS
  have hL := hv.len
  have hC := hS.le
  have hc := hv.cell (i / 64) (by omega)
  rw [← wv_dig hv.lt] at hc
  have hst := sticky_iff (wv ws) i
  have ht := wdg_lt (wv ws) (i / 64)
  obtain ⟨l, hl'⟩ : ∃ l, l = ws.length := ⟨_, rfl⟩
  have hcell : ∀ k, k < l → w.cell? ⟨sBlk v, sOff v + k, none⟩ = some (.int .u64 ((wdg (wv ws) k : Nat) : Int)) := fun k hk => by
    rw [wv_dig hv.lt]; exact hv.cell k (by rw [← hl']; exact hk)
  rw [← hl'] at hL hi hl
  obtain ⟨n, hn⟩ : ∃ n, n = wv ws := ⟨_, rfl⟩
  rw [← hn] at hc hst ht hcell ⊢
  have e1 : (i : Int) / 64 = ((i / 64 : Nat) : Int) := by omega
  have e2 : (i : Int) % 64 = ((i % 64 : Nat) : Int) := by omega
  obtain ⟨j, hj⟩ : ∃ j, j = i / 64 := ⟨_, rfl⟩
  obtain ⟨s, hs⟩ : ∃ s, s = i % 64 := ⟨_, rfl⟩
  rw [← hj] at e1 hc hst ht
  rw [← hs] at e2 hst
  have hjl : j < l := by omega
  have hs64 : s < 64 := by omega
  have t1 : decide (l ≤ j) = false := decide_eq_false (by omega)
  have hS3 : IsS (subS v 0 j) := subS_isS hS (Nat.zero_le _) (by omega)
  have hL3 : sLen (subS v 0 j) = j := by rw [subS_len hS]; omega
  have hB3 : sBlk (subS v 0 j) = sBlk v := subS_blk hS
  have hO3 : sOff (subS v 0 j) = sOff v := subS_off0 hS
  have hjc : j ≤ sCap v := by omega
  have HB3 := Lib.hid hB3
  have HO3 := Lib.hid hO3
  have HC := Lib.hid hcell
  have HST := Lib.hid hst
  obtain ⟨d, hdd⟩ : ∃ d, d = wdg n j := ⟨_, rfl⟩
  rw [← hdd] at hc ht
  have HDD := Lib.hid hdd
  clear hv hn hj hs hl' hB3 hO3 hcell hst hdd
  go_enter Tryz.func109, Tryz.ntmps109
  go_wp2
  go_loop [22] (fun i' => ∃ k : Nat, k ≤ j ∧ i' = .int .i64 k ∧ ∀ m, m < k → wdg n m = 0) (fun i' => j - (intOf i').toNat)
  case atStart => exact ⟨0, Nat.zero_le _, rfl, fun m hm => by omega⟩
  case round =>
    obtain ⟨k, hk, rfl, hz⟩ := hrel
    have HZ := Lib.hid hz
    clear hz
    by_cases hkj : k < j
    · have ck : w.cell? ⟨sBlk (subS v 0 j), sOff (subS v 0 j) + k, none⟩ = some (.int .u64 ((wdg n k : Nat) : Int)) := by rw [HB3.out, HO3.out]; exact HC.out k (by omega)
      obtain ⟨x, hx⟩ : ∃ x, x = wdg n k := ⟨_, rfl⟩
      rw [← hx] at ck
      have HX := Lib.hid hx
      clear hx
      by_cases hx0 : x = 0
      · have t2 : ((x : Int) == 0) = true := by rw [beq_iff_eq]; omega
        have HX0 := Lib.hid hx0
        clear hx0
        go_wp2
        go_round
        case rel => exact ⟨k + 1, by omega, by go_num, fun m hm => by
          rcases (by omega : m < k ∨ m = k) with h | h
          · exact HZ.out m h
          · rw [h, ← HX.out]; exact HX0.out⟩
        case measure => simp [intOf]; omega
      · have t2 : ((x : Int) == 0) = false := by rw [beq_eq_false_iff_ne]; omega
        go_wp2
        go_ret
        exact ⟨ret_u64 (by rw [stV_one (fun h => hx0 (by rw [HX.out]; exact (HST.out.1 h).1 k hkj))]; rfl), rfl⟩
    · obtain rfl : k = j := by omega
      have t3 : (64 : Int) - (s : Int) = ((64 - s : Nat) : Int) := by omega
      have hT2 : (2 : Int) ^ (64 - s) = ((2 ^ (64 - s) : Nat) : Int) := by simp
      have hlow := low_shl (d := d) hs64
      obtain ⟨r, hr⟩ : ∃ r, r = 64 - s := ⟨_, rfl⟩
      rw [← hr] at t3 hT2 hlow
      have hr64 : r ≤ 64 := by omega
      have hr0 : 0 < r := by omega
      obtain ⟨T, hT⟩ : ∃ T, T = 2 ^ r := ⟨_, rfl⟩
      rw [← hT] at hT2 hlow
      have hm := wrapU d T
      obtain ⟨m, hmm⟩ : ∃ m, m = d * T % 18446744073709551616 := ⟨_, rfl⟩
      rw [← hmm] at hm hlow
      have HLow := Lib.hid hlow
      clear hr hT hmm hlow
      by_cases hm0 : m = 0
      · have t4 : ((m : Int) == 0) = true := by rw [beq_iff_eq]; omega
        have E := Lib.hid (stV_zero (HST.out.2 ⟨HZ.out, by rw [← HDD.out]; exact HLow.out.1 hm0⟩))
        clear hm0
        go_wp2
        go_ret
        exact ⟨ret_u64 (by rw [E.out]; rfl), rfl⟩
      · have t4 : ((m : Int) == 0) = false := by rw [beq_eq_false_iff_ne]; omega
        have E := Lib.hid (stV_one (n := n) (i := i) (fun h => hm0 (HLow.out.2 (by rw [HDD.out]; exact (HST.out.1 h).2))))
        go_wp2
        go_ret
        exact ⟨ret_u64 (by rw [E.out]; rfl), rfl⟩
def Fits (ws : List Nat) (p : Nat) : Prop := 64 * ws.length ≤ p ∨ (p < 64 * ws.length ∧ wv ws % 2 ^ (64 * ws.length - p) = 0 ∧ ws.length = (p + 63) / 64)
theorem add64_0 (x y : Int) (hx : 0 ≤ x) (hy : 0 ≤ y) (w : World) : (callFunc 213 #[.int .u64 x, .int .u64 y, .int .u64 0]).run Tryz.prog w =
    .ok (.value (.tuple #[.int .u64 ((x + y) % 18446744073709551616), .int .u64 ((x + y) / 18446744073709551616)])) w := by
  rw [run_callFunc_extern Tryz.func213 (by kernel_rfl) (by kernel_rfl) (by kernel_rfl) (e := add64Entry) (by kernel_rfl), run_add64 x y 0 hx hy (by decide) (by decide)]
  simp [Result.andThen]
theorem add64 (x y c : Int) (hx : 0 ≤ x) (hy : 0 ≤ y) (hc0 : 0 ≤ c) (hc : c ≤ 1) (w : World) : (callFunc 213 #[.int .u64 x, .int .u64 y, .int .u64 c]).run Tryz.prog w =
    .ok (.value (.tuple #[.int .u64 ((x + y + c) % 18446744073709551616), .int .u64 ((x + y + c) / 18446744073709551616)])) w := by
  rw [run_callFunc_extern Tryz.func213 (by kernel_rfl) (by kernel_rfl) (by kernel_rfl) (e := add64Entry) (by kernel_rfl), run_add64 x y c hx hy hc0 hc]
  simp [Result.andThen]
set_option maxRecDepth 100000 in
theorem bitsAdd0 (x y s c : Nat) (w : World) (h : x + y = s + 18446744073709551616 * c) (hs : s < 18446744073709551616) :
    Calls Tryz.prog 185 #[.int .u64 x, .int .u64 y, .int .u64 0] w fun e w' => e = .returned (.tuple #[.int .u64 s, .int .u64 c]) ∧ w = w' := by
  have h1 : ((x : Int) + y) % 18446744073709551616 = s := by omega
  have h2 : ((x : Int) + y) / 18446744073709551616 = c := by omega
  have g1 : (0 : Int) ≤ x := by omega
  have g2 : (0 : Int) ≤ y := by omega
  clear h hs
  go_enter Tryz.func185, Tryz.ntmps185
  go_wp2_with (simp only [add64_0 x y g1 g2, h1, h2])
  go_ret2
  exact ⟨rfl, rfl⟩
theorem sizeWord : (Tryz.prog.info? 116).map (·.size) = some 1 := by kernel_rfl
theorem neqW_same (w : World) (a : Addr) : (binOp .neq 202 (.pointer (some a)) (.pointer (some a))).run Tryz.prog w = .ok (.bool false) w := by
  obtain ⟨j, hj, hz⟩ := info_size sizeWord
  exact Lib.run_neq_ptr_same w a Tryz.underlying202 hj
theorem wset {ws : List Nat} {i : Nat} (hi : i < ws.length) (d : Nat) : wv (ws.set i d) + 18446744073709551616 ^ i * ws.getD i 0 = wv ws + 18446744073709551616 ^ i * d := wv_set hi d
theorem set_lt {ws : List Nat} (h : ∀ d ∈ ws, d < 18446744073709551616) {i d : Nat} (hd : d < 18446744073709551616) : ∀ x ∈ ws.set i d, x < 18446744073709551616 := by
  intro x hx
  rcases List.mem_or_eq_of_mem_set hx with h1 | h1
  · exact h x h1
  · rw [h1]; exact hd
theorem getD_setW (os : List Nat) (i j d : Nat) (hi : i < os.length) : (os.set i d).getD j 0 = if i = j then d else os.getD j 0 := by
  simp only [List.getD_eq_getElem?_getD, List.getElem?_set]
  split
  · rename_i h; subst h; simp
  · rfl
def AvRel (S : Nat) (ws : List Nat) (B k : Nat) (w : World) (v : Value) (wr : World) : Prop :=
  ∃ os : List Nat, Own wr B 116 v (cellsW os) ∧ os.length = ws.length ∧ (∀ d ∈ os, d < 18446744073709551616) ∧ (∀ j, k ≤ j → os.getD j 0 = ws.getD j 0) ∧ wv os + 18446744073709551616 ^ k = S ∧ Below B w wr ∧ Only (sBlk v) w wr
theorem AvRel.put {S : Nat} {ws : List Nat} {B k e : Nat} {w wr : World} {v : Value} (h : AvRel S ws B k w v wr) (hk : k < ws.length) (he : e < 18446744073709551616) :
    ∃ os : List Nat, Own (wr.setCell ⟨sBlk v, sOff v + k, none⟩ (.int .u64 (e : Int))) B 116 v (cellsW os) ∧ os.length = ws.length ∧ (∀ d ∈ os, d < 18446744073709551616) ∧ (∀ j, k + 1 ≤ j → os.getD j 0 = ws.getD j 0) ∧
      wv os + 18446744073709551616 ^ k * (1 + ws.getD k 0) = S + 18446744073709551616 ^ k * e ∧ Below B w (wr.setCell ⟨sBlk v, sOff v + k, none⟩ (.int .u64 (e : Int))) ∧ Only (sBlk v) w (wr.setCell ⟨sBlk v, sOff v + k, none⟩ (.int .u64 (e : Int))) := by
  obtain ⟨os, h1, h2, h3, h4, h5, h6, h7⟩ := h
  have hcap : 0 < sCap v := by have := h1.isS.le; have := h1.len; rw [cellsW_length] at this; omega
  have ho := h1.set (i := k) (by rw [cellsW_length]; omega) (.int .u64 (e : Int))
  rw [cellsW_set] at ho
  refine ⟨os.set k e, ho, by simpa using h2, set_lt h3 he, fun j hj => by rw [getD_setW _ _ _ _ (by omega), if_neg (by omega)]; exact h4 j (by omega), ?_, bset h6 (h1.lt hcap).1, fun b hb hne => ?_⟩
  · have := wset (ws := os) (i := k) (by omega) e
    rw [h4 k (Nat.le_refl _)] at this
    rw [Nat.mul_add, Nat.mul_one]; omega
  · rw [heap_setCell_other _ _ _ _ (by simpa using fun h : b = sBlk v => hne h)]; exact h7 b hb hne
set_option maxRecDepth 100000 in
set_option maxHeartbeats 1600000 in
theorem addVW_any (v : Value) (ws : List Nat) (y B : Nat) (w : World) (ho : Own w B 116 v (cellsW ws)) (hd : ∀ d ∈ ws, d < 18446744073709551616) (hl0 : 0 < ws.length) (hl : ws.length ≤ 1000000000) (hy : y < 18446744073709551616) :
    Calls Tryz.prog 154 #[v, v, .int .u64 y] w fun e w' => ∃ c : Nat, e = .returned (.int .u64 c) ∧ ∃ os : List Nat, Own w' B 116 v (cellsW os) ∧ os.length = ws.length ∧ (∀ d ∈ os, d < 18446744073709551616) ∧ wv os + 18446744073709551616 ^ ws.length * c = wv ws + y ∧ Below B w w' ∧ Only (sBlk v) w w' := by
  have hS := ho.isS
  have hL : sLen v = ws.length := by rw [ho.len, cellsW_length]
  have hcap : 0 < sCap v := by have := hS.le; omega
  have hB := (ho.lt hcap).1
  have c0 := (ho.rw' hd).cell 0 (by omega)
  rw [Nat.add_zero] at c0
  have f0 := ho.frozen hcap (sOff v)
  have hd0 := getD_ltW hd 0
  obtain ⟨d0, hdd⟩ : ∃ d, d = ws.getD 0 0 := ⟨_, rfl⟩
  rw [← hdd] at c0 hd0
  obtain ⟨L, hLL⟩ : ∃ L, L = ws.length := ⟨_, rfl⟩
  rw [← hLL] at hL hl0 hl
  obtain ⟨c, s, hcs, hs, hc1⟩ : ∃ c s, d0 + y = s + 18446744073709551616 * c ∧ s < 18446744073709551616 ∧ c ≤ 1 := ⟨(d0 + y) / 18446744073709551616, (d0 + y) % 18446744073709551616, by omega, by omega, by omega⟩
  have O1 := ho.set (i := 0) (by rw [cellsW_length]; omega) (.int .u64 (s : Int))
  rw [cellsW_set, Nat.add_zero] at O1
  have B1 := bset (i := sOff v) (u := .int .u64 (s : Int)) (Below.refl B w) hB
  have hw := wset (ws := ws) (i := 0) (by omega) s
  rw [← hdd, Nat.pow_zero, Nat.one_mul, Nat.one_mul] at hw
  have t0 : ((L : Int) == 0) = false := by rw [beq_eq_false_iff_ne]; omega
  have N1 : Only (sBlk v) w (w.setCell ⟨sBlk v, sOff v, none⟩ (.int .u64 (s : Int))) := fun b hb hne => heap_setCell_other _ _ _ _ (by simpa using fun h : b = sBlk v => hne h)
  have HL := Lib.hid hLL
  have HD := Lib.hid hd
  have Hdd := Lib.hid hdd
  have HCS := Lib.hid hcs
  have HW := Lib.hid hw
  have HO1 := Lib.hid O1
  have HB1 := Lib.hid B1
  have HN1 := Lib.hid N1
  have hneq := neqW_same
  clear ho hd hLL hdd hw O1 B1 N1
  rcases (by omega : c = 0 ∨ c = 1) with rfl | rfl
  · go_enter Tryz.func154, Tryz.ntmps154
    go_wp2_with fail
    refine (bitsAdd0 d0 y s 0 w HCS.out hs).mono ?_
    rintro _ _ ⟨rfl, rfl⟩
    go_wp2_with fail
    go_quiet (fail)
    go_wp2
    go_ret
    refine ⟨0, rfl, _, HO1.out.drewN _, by simp, set_lt HD.out hs, ?_, undrewN' HB1.out, HN1.out⟩
    have := HW.out; have := HCS.out; omega
  · have HR1 : Hid (AvRel (wv ws + y) ws B 1 w v (w.setCell ⟨sBlk v, sOff v, none⟩ (.int .u64 (s : Int)))) := Lib.hid
      ⟨_, HO1.out, by simp, set_lt HD.out hs, fun j hj => by rw [getD_setW _ _ _ _ (by have := HL.out; omega), if_neg (by omega)], by have := HW.out; have := HCS.out; rw [Nat.pow_one]; omega, HB1.out, HN1.out⟩
    go_enter Tryz.func154, Tryz.ntmps154
    go_wp2_with fail
    refine (bitsAdd0 d0 y s 1 w HCS.out hs).mono ?_
    rintro _ _ ⟨rfl, rfl⟩
    go_wp2
    go_loopw [9] (fun i wr => ∃ k : Nat, 1 ≤ k ∧ k ≤ L ∧ i = .int .i64 k ∧ AvRel (wv ws + y) ws B k w v wr) (fun i _ => L - (intOf i).toNat)
    case atStart => exact ⟨1, Nat.le_refl _, hl0, rfl, HR1.out⟩
    case round =>
      obtain ⟨k, hk1, hk, rfl, hrel⟩ := hrel
      have HREL := Lib.hid hrel
      obtain ⟨os, h1, h2, h3, h4, h5, h6, h7⟩ := hrel
      have HOs := Lib.hid h1
      have fz := h1.frozen hcap (sOff v + k)
      rcases Nat.lt_or_ge k L with hkL | hkL
      · have c1 := (h1.rw' h3).cell k (by rw [h2, ← HL.out]; exact hkL)
        rw [h4 k (Nat.le_refl _)] at c1
        have hdk := getD_ltW HD.out k
        obtain ⟨d, hd⟩ : ∃ d, d = ws.getD k 0 := ⟨_, rfl⟩
        rw [← hd] at c1 hdk
        have HDk := Lib.hid hd
        clear hd h1 h2 h3 h4 h5 h6 h7
        by_cases hmx : d = 18446744073709551615
        · have PUT := Lib.hid (HREL.out.put (e := 0) (by rw [← HL.out]; exact hkL) (by decide))
          subst hmx
          go_wp2
          refine ⟨⟨k + 1, by omega, by omega, by simp, ?_⟩, by simp [intOf]; omega⟩
          obtain ⟨os', g1, g2, g3, g4, g5, g6, g7⟩ := PUT.out
          refine ⟨os', g1, g2, g3, g4, ?_, g6, g7⟩
          have hp := Nat.pow_succ (n := 18446744073709551616) (m := k)
          rw [← HDk.out] at g5
          omega
        · obtain ⟨d1, hd1⟩ : ∃ d1, d1 = d + 1 := ⟨_, rfl⟩
          have hwr : IntKind.u64.wrap ((d : Int) + 1) = (d1 : Int) := by rw [IntKind.wrap_u64, hd1]; omega
          have PUT := Lib.hid (HREL.out.put (e := d1) (by rw [← HL.out]; exact hkL) (by omega))
          have HD1 := Lib.hid hd1
          have tm : ((d : Int) != 18446744073709551615) = true := by rw [bne_iff_ne]; omega
          clear hmx hd1
          go_wp2_with fail
          go_quiet (fail)
          go_wp2
          go_ret
          obtain ⟨os', g1, g2, g3, g4, g5, g6, g7⟩ := PUT.out
          rw [← HDk.out] at g5
          refine ⟨0, rfl, os', g1.drewN _, g2, g3, ?_, undrewN' g6, g7⟩
          rw [Nat.mul_comm] at g5
          rw [Nat.mul_comm (18446744073709551616 ^ k)] at g5
          have : (1 + d) * 18446744073709551616 ^ k = d1 * 18446744073709551616 ^ k := by rw [HD1.out, Nat.add_comm]
          omega
      · have hkk : k = L := by omega
        subst hkk
        clear fz
        go_wp2
        go_ret
        refine ⟨1, rfl, os, h1, h2, h3, ?_, h6, h7⟩
        rw [← HL.out, Nat.mul_one]; exact h5
def lefV (rb sf : Nat) : Nat := if rb = 0 then (if sf = 0 then 0 else 1) else (if sf = 0 then 2 else 3)
def sfV (N r s : Nat) : Nat := if s = 0 then stV N r else 1
theorem stV_le (N r : Nat) : stV N r ≤ 1 := by unfold stV; split <;> omega
theorem sfV_le (N r s : Nat) : sfV N r s ≤ 1 := by unfold sfV; split; exact stV_le _ _; omega
theorem lef_bits (N r s : Nat) : lef (N % 2 ^ (r + 1)) (2 ^ (r + 1)) s = lefV (N / 2 ^ r % 2) (sfV N r s) := by
  have h1 : N % 2 ^ (r + 1) = N % 2 ^ r + 2 ^ r * (N / 2 ^ r % 2) := Nat.mod_pow_succ
  have h2 : N % 2 ^ r < 2 ^ r := Nat.mod_lt _ (Nat.two_pow_pos r)
  have h3 : N / 2 ^ r % 2 = 0 ∨ N / 2 ^ r % 2 = 1 := by omega
  have hst : sfV N r s = 0 ↔ N % 2 ^ r = 0 ∧ s = 0 := by
    unfold sfV stV
    by_cases h0 : s = 0
    · rw [if_pos h0]; split <;> simp_all
    · rw [if_neg h0]; simp_all
  rw [h1, Nat.pow_succ]
  generalize N % 2 ^ r = R at *
  generalize 2 ^ r = D at *
  unfold lef lefV
  rcases h3 with h3 | h3 <;> rw [h3] <;> simp only [Nat.mul_zero, Nat.mul_one, Nat.add_zero, if_true, hst] <;> by_cases hR : R = 0 <;> by_cases hs : s = 0 <;> simp only [hR, hs, and_self, and_true, and_false, if_true, if_false, Nat.zero_add] <;> (repeat' split) <;> first | rfl | omega
def incV (m : Nat) (neg : Bool) (rb sb : Nat) (odd : Bool) : Bool :=
  if m = 4 then neg else if m = 2 then false else if m = 0 then (decide (rb ≠ 0) && (decide (sb ≠ 0) || odd)) else if m = 1 then decide (rb ≠ 0) else if m = 3 then true else !neg
theorem incV_eq {m rb sb sf : Nat} (neg odd : Bool) (hm : m ≤ 5) (hrb : rb ≤ 1) (hsf : sf ≤ 1) (h1 : rb = 0 ∨ m = 0 → sb = sf) (h2 : ¬ (rb = 0 ∧ sb = 0)) : awy neg odd (lefV rb sf) m = incV m neg rb sb odd := by
  rcases (by omega : rb = 0 ∨ rb = 1) with rfl | rfl <;> rcases (by omega : sf = 0 ∨ sf = 1) with rfl | rfl <;> rcases (by omega : m = 0 ∨ m = 1 ∨ m = 2 ∨ m = 3 ∨ m = 4 ∨ m = 5) with rfl | rfl | rfl | rfl | rfl | rfl <;> simp_all [awy, lefV, incV]
theorem lefV_pos {m rb sb sf : Nat} (hrb : rb ≤ 1) (h1 : rb = 0 ∨ m = 0 → sb = sf) (h2 : ¬ (rb = 0 ∧ sb = 0)) : lefV rb sf ≠ 0 := by
  unfold lefV
  rcases (by omega : rb = 0 ∨ rb = 1) with rfl | rfl
  · have := h1 (.inl rfl); rw [if_pos rfl]; split <;> omega
  · rw [if_neg (by decide)]; split <;> omega
theorem lefV_zero {m rb sb sf : Nat} (h1 : rb = 0 ∨ m = 0 → sb = sf) (h2 : rb = 0) (h3 : sb = 0) : lefV rb sf = 0 := by
  have := h1 (.inl h2)
  unfold lefV; rw [if_pos h2, if_pos (by omega)]
theorem wv_drop {ws : List Nat} (h : ∀ d ∈ ws, d < 18446744073709551616) {k : Nat} (hk : k ≤ ws.length) : wv (ws.drop k) = wv ws / 18446744073709551616 ^ k := by
  have h1 := wv_append (ws.take k) (ws.drop k)
  rw [List.take_append_drop, List.length_take, Nat.min_eq_left hk] at h1
  have h2 := wv_lt (a := ws.take k) (fun d hd => h d (List.mem_of_mem_take hd))
  rw [List.length_take, Nat.min_eq_left hk] at h2
  rw [h1, Nat.add_mul_div_left _ _ (wpow_pos k), Nat.div_eq_of_lt h2, Nat.zero_add]
theorem w_two (k : Nat) : (18446744073709551616 : Nat) ^ k = 2 ^ (64 * k) := by rw [show (18446744073709551616 : Nat) = 2 ^ 64 from rfl, ← Nat.pow_mul]
theorem andNot_clear {d t : Nat} (ht : t < 64) (hd : d < 18446744073709551616) : bits .andNot .u64 (d : Int) (((2 ^ t - 1 : Nat)) : Int) = ((d / 2 ^ t * 2 ^ t : Nat) : Int) := by
  have hS : 2 ^ t ≤ 9223372036854775808 := Nat.pow_le_pow_right (show 0 < 2 by decide) (show t ≤ 63 by omega)
  rw [u64_andNot_nat d (2 ^ t - 1) hd (by omega)]
  congr 1
  apply Nat.eq_of_testBit_eq
  intro i
  rw [Nat.testBit_and, show (18446744073709551615 : Nat) - (2 ^ t - 1) = 2 ^ 64 - ((2 ^ t - 1) + 1) by omega, Nat.testBit_two_pow_sub_succ (show 2 ^ t - 1 < 2 ^ 64 by omega), Nat.testBit_two_pow_sub_one, Nat.mul_comm, Nat.testBit_two_pow_mul, Nat.testBit_div_two_pow]
  by_cases hi : i < t
  · simp [hi, show ¬ t ≤ i by omega]
  · rw [show i - t + t = i by omega]
    by_cases h64 : i < 64
    · simp [hi, h64, show t ≤ i by omega]
    · rw [Nat.testBit_lt_two_pow (Nat.lt_of_lt_of_le hd (show 18446744073709551616 ≤ 2 ^ i from Nat.pow_le_pow_right (show 0 < 2 by decide) (show 64 ≤ i by omega)))]; simp
theorem and_lsb {d t : Nat} (ht : t < 64) (hd : d < 18446744073709551616) : bits .and .u64 (d : Int) ((2 ^ t : Nat) : Int) = ((d / 2 ^ t % 2 * 2 ^ t : Nat) : Int) := by
  have hS : 2 ^ t ≤ 9223372036854775808 := Nat.pow_le_pow_right (show 0 < 2 by decide) (show t ≤ 63 by omega)
  rw [bits_and_u64_nat d (2 ^ t) hd (by omega)]
  congr 1
  apply Nat.eq_of_testBit_eq
  intro i
  rw [Nat.testBit_and, Nat.testBit_two_pow, Nat.mul_comm, Nat.testBit_two_pow_mul]
  by_cases hi : t = i
  · subst hi
    rw [Nat.testBit_eq_decide_div_mod_eq, Nat.sub_self, Nat.testBit_eq_decide_div_mod_eq, Nat.pow_zero, Nat.div_one, Nat.mod_mod]
    simp
  · simp only [hi, decide_false, Bool.and_false]
    by_cases h2 : t ≤ i
    · rw [Nat.testBit_lt_two_pow (show d / 2 ^ t % 2 < 2 ^ (i - t) from Nat.lt_of_lt_of_le (Nat.mod_lt _ (by decide)) (Nat.pow_le_pow_right (show 0 < 2 by decide) (show 1 ≤ i - t by omega)))]; simp
    · simp [h2]
theorem or_msb {d : Nat} (hd : d < 9223372036854775808) : bits .or .u64 (d : Int) 9223372036854775808 = ((d + 9223372036854775808 : Nat) : Int) := by
  have h := bits_or_u64_nat d 9223372036854775808 (by omega) (by decide)
  have e : d ||| 9223372036854775808 = d + 9223372036854775808 := by
    have := Nat.two_pow_add_eq_or_of_lt (i := 63) (b := d) (by simpa using hd) 1
    rw [Nat.mul_one] at this
    rw [Nat.or_comm, Nat.add_comm]; exact this.symm
  rw [e] at h
  exact h
def Good (ws : List Nat) (p : Nat) : Prop := 0 < ws.length ∧ ws.length ≤ 1000000 ∧ (∀ d ∈ ws, d < 18446744073709551616) ∧ 2 ^ (64 * ws.length - 1) ≤ wv ws ∧ Fits ws p
theorem Good.bl {ws : List Nat} {p : Nat} (h : Good ws p) : bl (wv ws) = 64 * ws.length := by
  obtain ⟨h0, -, h2, h3, -⟩ := h
  have h4 := wv_lt h2
  rw [w_two] at h4
  have := bl_of (k := 64 * ws.length - 1) h3 (by rw [show 64 * ws.length - 1 + 1 = 64 * ws.length by omega]; exact h4)
  omega
theorem clear_wv {ws : List Nat} {t : Nat} (h : ∀ d ∈ ws, d < 18446744073709551616) (h0 : 0 < ws.length) (ht : t ≤ 64) : wv (ws.set 0 (ws.getD 0 0 / 2 ^ t * 2 ^ t)) = wv ws / 2 ^ t * 2 ^ t := by
  have h1 := wset (ws := ws) (i := 0) h0 (ws.getD 0 0 / 2 ^ t * 2 ^ t)
  rw [Nat.pow_zero, Nat.one_mul, Nat.one_mul] at h1
  have h2 : ws.getD 0 0 = wv ws % 18446744073709551616 := by rw [← wv_dig h 0, wdg_zero_eq]
  have h3 := Nat.div_add_mod (wv ws) (2 ^ t)
  have h4 := Nat.div_add_mod (ws.getD 0 0) (2 ^ t)
  have h5 : ws.getD 0 0 % 2 ^ t = wv ws % 2 ^ t := by
    rw [h2, ← word_split ht, Nat.mul_comm, Nat.mod_mul_right_mod]
  rw [Nat.mul_comm] at h3 h4
  omega
theorem rQ_pos {p m M : Nat} (neg : Bool) (s : Nat) (hp : 0 < p) (hM : 0 < M) : 0 < rQ p m neg s M := by
  have h : 0 < M / 2 ^ rk p M := by
    rcases Nat.lt_or_ge p (bl M) with h | h
    · have := (rQ_bound (m := m) neg s hp h).1
      have := Nat.two_pow_pos (p - 1)
      omega
    · have h0 : rk p M = 0 := by unfold rk; omega
      rw [h0, Nat.pow_zero, Nat.div_one]; exact hM
  unfold rQ; omega
theorem Good.posv {ws : List Nat} {p : Nat} (h : Good ws p) : 0 < wv ws := Nat.lt_of_lt_of_le (Nat.two_pow_pos _) h.2.2.2.1
theorem wdg_shr (X i : Nat) {s : Nat} (hs0 : 0 < s) (hs : s < 64) : (wdg X i / 2 ^ s) ||| (wdg X (i + 1) * 2 ^ (64 - s) % 18446744073709551616) = wdg (X / 2 ^ s) i := by
  have hc : wdg X i / 2 ^ s < 2 ^ (64 - s) := by
    refine Nat.div_lt_of_lt_mul ?_
    rw [Nat.mul_comm, word_split (by omega)]; exact wdg_lt X i
  rw [Nat.or_comm, shl_or (by omega) hc]
  have h1 := wdv_step X i
  have e : wdg (X / 2 ^ s) i = X / 18446744073709551616 ^ i / 2 ^ s % 18446744073709551616 := by
    unfold wdg; rw [Nat.div_div_eq_div_mul, Nat.mul_comm, ← Nat.div_div_eq_div_mul]
  rw [e, h1]
  have hW : (18446744073709551616 : Nat) = 2 ^ s * 2 ^ (64 - s) := by rw [Nat.mul_comm, word_split (by omega)]
  have h2 : (18446744073709551616 * (X / 18446744073709551616 ^ (i + 1)) + wdg X i) / 2 ^ s = wdg X i / 2 ^ s + X / 18446744073709551616 ^ (i + 1) * 2 ^ (64 - s) := by
    rw [show 18446744073709551616 * (X / 18446744073709551616 ^ (i + 1)) = 2 ^ s * (X / 18446744073709551616 ^ (i + 1) * 2 ^ (64 - s)) by rw [hW, Nat.mul_assoc, Nat.mul_comm (2 ^ (64 - s))], Nat.add_comm, Nat.add_mul_div_left _ _ (Nat.two_pow_pos s)]
  rw [h2]
  have h3 : wdg X (i + 1) * 2 ^ (64 - s) % 18446744073709551616 = X / 18446744073709551616 ^ (i + 1) * 2 ^ (64 - s) % 18446744073709551616 := by
    unfold wdg; rw [Nat.mod_mul_mod]
  rw [h3]
  generalize X / 18446744073709551616 ^ (i + 1) = Y
  generalize wdg X i / 2 ^ s = a at hc
  have h4 : Y * 2 ^ (64 - s) % 18446744073709551616 = 2 ^ (64 - s) * (Y % 2 ^ s) := by
    conv => lhs; rw [hW, Nat.mul_comm (2 ^ s), Nat.mul_comm _ (2 ^ (64 - s)), Nat.mul_mod_mul_left]
  have h5 : Y % 2 ^ s < 2 ^ s := Nat.mod_lt _ (Nat.two_pow_pos s)
  have h6 : 2 ^ (64 - s) * (Y % 2 ^ s) + 2 ^ (64 - s) ≤ 18446744073709551616 := by
    rw [← Nat.mul_succ]
    refine Nat.le_trans (Nat.mul_le_mul_left _ (Nat.succ_le_of_lt h5)) ?_
    rw [word_split (by omega)]; exact Nat.le_refl _
  generalize Y * 2 ^ (64 - s) = Z at h4
  rw [← h4] at h6
  omega
theorem wdg_shr_top (X L : Nat) {s : Nat} (hX : X < 18446744073709551616 ^ (L + 1)) (hs0 : 0 < s) (hs : s < 64) : wdg X L / 2 ^ s = wdg (X / 2 ^ s) L := by
  have h := wdg_shr X L hs0 hs
  have h0 : wdg X (L + 1) = 0 := by unfold wdg; rw [Nat.div_eq_of_lt hX]
  rw [h0] at h
  simpa using h
def RsRel (Y : Nat) (xs : List Nat) (x : Value) (L B k : Nat) (w : World) (v : Value) (wr : World) : Prop :=
  ∃ os : List Nat, Own wr B 116 v (cellsW os) ∧ os.length = L ∧ (∀ d ∈ os, d < 18446744073709551616) ∧ (∀ j, j < k → os.getD j 0 = wdg Y j) ∧
    (∀ j, k ≤ j → j < L → wr.cell? ⟨sBlk x, sOff x + j, none⟩ = some (.int .u64 ((xs.getD j 0 : Nat) : Int))) ∧ Below B w wr ∧ Only (sBlk v) w wr
theorem RsRel.put {Y L B k : Nat} {xs : List Nat} {x : Value} {w wr : World} {v : Value} (h : RsRel Y xs x L B k w v wr) (hal : sBlk x = sBlk v → sOff v ≤ sOff x) (hk : k < L) {y : Nat} (hy : y = wdg Y k) :
    RsRel Y xs x L B (k + 1) w v (wr.setCell ⟨sBlk v, sOff v + k, none⟩ (.int .u64 (y : Int))) := by
  obtain ⟨os, ho, hol, hod, hog, hx, hb, hon⟩ := h
  have hcap : 0 < sCap v := by have := ho.isS.le; have := ho.len; rw [cellsW_length] at this; omega
  have h1 := ho.set (i := k) (by rw [cellsW_length, hol]; exact hk) (.int .u64 (y : Int))
  rw [cellsW_set] at h1
  refine ⟨os.set k y, h1, by simpa using hol, set_lt hod (by rw [hy]; exact wdg_lt _ _), fun j hj => ?_, fun j hj hjl => ?_, bset hb (ho.lt hcap).1, fun j hj hne => ?_⟩
  · rw [getD_setW _ _ _ _ (by omega)]
    split
    · rename_i e; subst e; exact hy
    · exact hog j (by omega)
  · rw [World.cell?_setCell_other (h := fun e => ?_)]
    · exact hx j (by omega) hjl
    · have e1 : sBlk v = sBlk x := congrArg Addr.block e
      have e2 : sOff v + k = sOff x + j := congrArg Addr.off e
      have := hal e1.symm
      omega
  · rw [heap_setCell_other _ _ _ _ (by simpa using hne)]
    exact hon j hj hne
theorem RsRel.drewN {Y L B k : Nat} {xs : List Nat} {x : Value} {w wr : World} {v : Value} (h : RsRel Y xs x L B k w v wr) (n : Nat) : RsRel Y xs x L B k w v (wr.drewN n) := by
  obtain ⟨os, ho, hol, hod, hog, hx, hb, hon⟩ := h
  exact ⟨os, ho.drewN n, hol, hod, hog, hx, undrewN' hb, fun i hi hne => hon i hi hne⟩
set_option maxRecDepth 100000 in
set_option maxHeartbeats 1600000 in
theorem rshVU_g_any (v x : Value) (os xs : List Nat) (X s B : Nat) (w : World) (ho : Own w B 116 v (cellsW os)) (hod : ∀ d ∈ os, d < 18446744073709551616) (hx : RW w x xs) (hX : wv xs = X) (hlen : os.length = xs.length) (hal : sBlk x = sBlk v → sOff v ≤ sOff x)
    (hl0 : 0 < xs.length) (hl : xs.length ≤ 1000000000) (hs0 : 0 < s) (hs : s < 64) :
    Calls Tryz.prog 186 #[v, x, .int .u64 s] w fun e w' => ∃ c : Nat, e = .returned (.int .u64 c) ∧ Own w' B 116 v (cellsW (wdsN (X / 2 ^ s) xs.length)) ∧ Below B w w' ∧ Only (sBlk v) w w' := by
  have hS := ho.isS
  have hSx := hx.isS
  have hL : sLen v = os.length := by rw [ho.len, cellsW_length]
  have hLx : sLen x = xs.length := hx.len
  have hcap : 0 < sCap v := by have := hS.le; omega
  have hB := (ho.lt hcap).1
  have hget : ∀ j, xs.getD j 0 = wdg X j := fun j => by rw [← hX, wv_dig hx.lt]
  have hXl : X < 18446744073709551616 ^ xs.length := by rw [← hX]; exact wv_lt hx.lt
  obtain ⟨L, hLw⟩ : ∃ L, L + 1 = xs.length := ⟨xs.length - 1, by omega⟩
  have R0 : RsRel (X / 2 ^ s) xs x (L + 1) B 0 w v w := ⟨os, ho, by omega, hod, fun j hj => absurd hj (by omega), fun j _ hj => hx.cell j (by omega), Below.refl _ _, Only.refl _ _⟩
  have hc := hx.cell 0 (by omega)
  rw [hget, Nat.add_zero] at hc
  rw [← hLw] at hlen hLx hl hXl ⊢
  rw [hlen] at hL
  have n1 := and63 hs
  have n2 := and63 (show 64 - s < 64 by omega)
  obtain ⟨r, hr⟩ : ∃ r, r = 64 - s := ⟨_, rfl⟩
  rw [← hr] at n2
  have hr64 : r < 64 := by omega
  have e1 : (64 : Int) - (s : Int) = (r : Int) := by omega
  have hS2 : (2 : Int) ^ s = ((2 ^ s : Nat) : Int) := by simp
  have hR2 : (2 : Int) ^ r = ((2 ^ r : Nat) : Int) := by simp
  obtain ⟨t, ht⟩ : ∃ t, t = wdg X 0 := ⟨_, rfl⟩
  rw [← ht] at hc
  obtain ⟨S, hSS⟩ : ∃ S, S = 2 ^ s := ⟨_, rfl⟩
  rw [← hSS] at hS2
  have HS := Lib.hid hSS
  obtain ⟨R, hR⟩ : ∃ R, R = 2 ^ r := ⟨_, rfl⟩
  rw [← hR] at hR2
  have hm0 := wrapU t R
  have htl : t < 18446744073709551616 := by rw [ht]; exact wdg_lt _ _
  obtain ⟨q, hq⟩ : ∃ q, q = t * R % 18446744073709551616 := ⟨_, rfl⟩
  rw [← hq] at hm0
  have ts : ((s : Int) == 0) = false := by rw [beq_eq_false_iff_ne]; omega
  have HW := Lib.hid hLw
  have HG := Lib.hid hget
  have HR := Lib.hid hR
  have Hr := Lib.hid hr
  have HR0 := Lib.hid R0
  have HXl := Lib.hid hXl
  have HAL := Lib.hid hal
  clear ho hLw hX hl0 hget ht hR hq hr hSS R0 hx hlen hod hXl hal
  go_enter Tryz.func186, Tryz.ntmps186
  go_wp2
  go_loopw [8] (fun i wr => ∃ k : Nat, k ≤ L ∧ i = .int .i64 ((k + 1 : Nat) : Int) ∧ RsRel (X / 2 ^ s) xs x (L + 1) B k w v wr) (fun i _ => L + 1 - (intOf i).toNat)
  case atStart => exact ⟨0, Nat.zero_le _, rfl, HR0.out⟩
  case round =>
    obtain ⟨k, hk, rfl, hrel⟩ := hrel
    have HREL := Lib.hid hrel
    obtain ⟨os2, ho, hol, hod, hog, hx, hb, hon⟩ := hrel
    have fz := ho.frozen hcap
    have c0 := hx k (Nat.le_refl _) (by omega)
    rw [HG.out] at c0
    obtain ⟨d0, hd0⟩ : ∃ d, d = wdg X k := ⟨_, rfl⟩
    rw [← hd0] at c0
    have hd0l : d0 < 18446744073709551616 := by rw [hd0]; exact wdg_lt _ _
    have hq0 : (d0 : Int) / (S : Int) = ((d0 / S : Nat) : Int) := by simp
    obtain ⟨q0, hqq⟩ : ∃ q, q = d0 / S := ⟨_, rfl⟩
    rw [← hqq] at hq0
    have hq0l : q0 ≤ d0 := by rw [hqq]; exact Nat.div_le_self _ _
    have hfz := fz (sOff v + k)
    have cv := (ho.rw' hod).cell k (by omega)
    obtain ⟨g0, hg0⟩ : ∃ g, g = os2.getD k 0 := ⟨_, rfl⟩
    rw [← hg0] at cv
    clear hg0
    rcases Nat.lt_or_ge k L with hkL | hkL
    · have c1 := hx (k + 1) (by omega) (by omega)
      rw [HG.out] at c1
      obtain ⟨d1, hd1⟩ : ∃ d, d = wdg X (k + 1) := ⟨_, rfl⟩
      rw [← hd1] at c1
      have hm := wrapU d1 R
      obtain ⟨m, hmm⟩ : ∃ m, m = d1 * R % 18446744073709551616 := ⟨_, rfl⟩
      rw [← hmm] at hm
      have hor := bits_or_u64_nat q0 m (by omega) (by rw [hmm]; exact Nat.mod_lt _ (by decide))
      have hy : q0 ||| m = wdg (X / 2 ^ s) k := by rw [hqq, hmm, hd0, hd1, HR.out, Hr.out, HS.out]; exact wdg_shr X k hs0 hs
      rw [hy] at hor
      obtain ⟨y, hyy⟩ : ∃ y, y = wdg (X / 2 ^ s) k := ⟨_, rfl⟩
      rw [← hyy] at hor
      have HY := Lib.hid hyy
      clear fz hy hd0 hd1 hmm hqq hyy hx hog hod hol ho hon
      go_wp2
      (refine wp_region_hoist 18 (by kernel_rfl) (by kernel_rfl) ⟨fun _ _ _ h => (by first | exact (hQp _ _ _ h).elim | cases h.2.1 | (obtain ⟨_, h3, _⟩ := h.2; cases h3)), fun _ _ h => (by first | exact (hQo _ _ h).elim | cases h.1 | (obtain ⟨_, h3, _⟩ := h; cases h3))⟩ ?_; simp only [List.take_succ_cons, List.take_zero, List.drop_succ_cons, List.drop_zero]; (repeat (go_big_quiet_step (fail))); refine wpQuiet_nil ?_; rintro _ ⟨nq, rfl⟩)
      go_wp2
      refine ⟨⟨k + 1, by omega, by simp, ?_⟩, by simp [intOf]; omega⟩
      exact (HREL.out.drewN nq).put HAL.out (by omega) HY.out
    · have hkk : k = L := by omega
      subst hkk
      have HY : Hid (q0 = wdg (X / 2 ^ s) k) := Lib.hid (by rw [hqq, hd0, HS.out]; exact wdg_shr_top X k HXl.out hs0 hs)
      clear fz hd0 hqq hx hog hod hol ho hon
      go_wp2
      go_ret
      obtain ⟨os3, f1, f2, f3, f4, f5, f6, f7⟩ := HREL.out.put HAL.out (Nat.lt_succ_self k) HY.out
      have e := wdsN_of f2 f4
      rw [← e]
      exact ⟨_, rfl, f1, f6, f7⟩
set_option maxRecDepth 100000 in
theorem rshVU_any (v x : Value) (os xs : List Nat) (X s B : Nat) (w : World) (ho : Own w B 116 v (cellsW os)) (hod : ∀ d ∈ os, d < 18446744073709551616) (hx : RW w x xs) (hX : wv xs = X) (hlen : os.length = xs.length) (hal : sBlk x = sBlk v → sOff v ≤ sOff x)
    (hl0 : 0 < xs.length) (hl : xs.length ≤ 1000000000) (hs0 : 0 < s) (hs : s < 64) :
    Calls Tryz.prog 155 #[v, x, .int .u64 s] w fun e w' => ∃ c : Nat, e = .returned (.int .u64 c) ∧ Own w' B 116 v (cellsW (wdsN (X / 2 ^ s) xs.length)) ∧ Below B w w' ∧ Only (sBlk v) w w' := by
  have hS := ho.isS
  have hSx := hx.isS
  have HO := Lib.hid ho
  have HD := Lib.hid hod
  have HX := Lib.hid hx
  have HN := Lib.hid hX
  have HL := Lib.hid hlen
  have HA := Lib.hid hal
  clear ho hod hx hX hlen hal
  go_enter Tryz.func155, Tryz.ntmps155
  go_wp2_with fail
  refine (rshVU_g_any v x os xs X s B w HO.out HD.out HX.out HN.out HL.out HA.out hl0 hl hs0 hs).mono ?_
  rintro _ w1 ⟨c, rfl, h1, h2, h3⟩
  go_wp2
  go_ret
  exact ⟨_, rfl, h1, h2, h3⟩
end Go.Proofs.YtllhnjpnkmjopaaGreatDoor
