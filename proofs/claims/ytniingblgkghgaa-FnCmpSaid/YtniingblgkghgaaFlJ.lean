/-
Words: a shift to the left in place. No condition.
-/
import Derived.Test.YtniingblgkghgaaFlI
namespace Go.Proofs.Ytniingblgkghgaa
open Go.RowKit

/-- So many words of a number. -/
def wdsN (n L : Nat) : List Nat := (List.range L).map (wdg n)
theorem wdsN_length (n L : Nat) : (wdsN n L).length = L := by simp [wdsN]
theorem wdsN_lt {n L : Nat} : ∀ d ∈ wdsN n L, d < 18446744073709551616 := by
  intro d h
  obtain ⟨i, _, rfl⟩ := List.mem_map.1 h
  exact wdg_lt n i
theorem wdsN_getD {n L i : Nat} (h : i < L) : (wdsN n L).getD i 0 = wdg n i := by simp [wdsN, List.getD_eq_getElem?_getD, h]
theorem wdsN_wv (n L : Nat) : wv (wdsN n L) = n % 18446744073709551616 ^ L := wv_range n L
theorem wdsN_nw (n : Nat) : wdsN n (nw n) = wds n := rfl
theorem wdsN_of {os : List Nat} {n L : Nat} (hl : os.length = L) (h : ∀ j, j < L → os.getD j 0 = wdg n j) : os = wdsN n L := by
  refine list_ext_getD (by rw [wdsN_length, hl]) fun i => ?_
  by_cases hi : i < L
  · rw [h i hi, wdsN_getD hi]
  · rw [List.getD_eq_getElem?_getD, List.getD_eq_getElem?_getD, List.getElem?_eq_none (by omega), List.getElem?_eq_none (by rw [wdsN_length]; omega)]
/-- The words above place k are shifted. -/
def LsRel (N s L B k : Nat) (w : World) (v : Value) (wr : World) : Prop :=
  ∃ os : List Nat, Own wr B 132 v (cellsW os) ∧ os.length = L ∧ (∀ d ∈ os, d < 18446744073709551616) ∧ (∀ j, j < L → os.getD j 0 = if k < j then wdg (N * 2 ^ s) j else wdg N j) ∧ Below B w wr ∧ Only (sBlk v) w wr
theorem and63 {s : Nat} (h : s < 64) : bits .and .u64 (s : Int) 63 = (s : Int) := by
  rw [show (63 : Int) = ((63 : Nat) : Int) from rfl, bits_and_u64_nat _ _ (by omega) (by decide), show (63 : Nat) = 2 ^ 6 - 1 from rfl, Nat.and_two_pow_sub_one_eq_mod]
  congr 1; omega
theorem wrapU (a b : Nat) : IntKind.u64.wrap ((a : Int) * (b : Int)) = ((a * b % 18446744073709551616 : Nat) : Int) := by
  rw [IntKind.wrap_u64]; simp
theorem LsRel.put {N s L B k : Nat} {w wr : World} {v : Value} {os : List Nat} (hs : s < 64) (hcap : 0 < sCap v) (ho : Own wr B 132 v (cellsW os)) (hol : os.length = L) (hod : ∀ d ∈ os, d < 18446744073709551616) (hog : ∀ j, j < L → os.getD j 0 = if k < j then wdg (N * 2 ^ s) j else wdg N j)
    (hb : Below B w wr) (hon : Only (sBlk v) w wr) (hk : k < L) {y : Nat} (hy : y = wdg (N * 2 ^ s) k) :
    ∃ os' : List Nat, Own (wr.setCell ⟨sBlk v, sOff v + k, none⟩ (.int .u64 (y : Int))) B 132 v (cellsW os') ∧ os'.length = L ∧ (∀ d ∈ os', d < 18446744073709551616) ∧ (∀ j, j < L → os'.getD j 0 = if k ≤ j then wdg (N * 2 ^ s) j else wdg N j) ∧
      Below B w (wr.setCell ⟨sBlk v, sOff v + k, none⟩ (.int .u64 (y : Int))) ∧ Only (sBlk v) w (wr.setCell ⟨sBlk v, sOff v + k, none⟩ (.int .u64 (y : Int))) := by
  have h1 := ho.set (i := k) (by rw [cellsW_length, hol]; exact hk) (.int .u64 (y : Int))
  rw [cellsW_set] at h1
  refine ⟨os.set k y, h1, by simpa using hol, ?_, ?_, bset hb (ho.lt hcap).1, fun j hj hne => ?_⟩
  · intro d hd
    rcases List.mem_or_eq_of_mem_set hd with h | h
    · exact hod d h
    · rw [h, hy]; exact wdg_lt _ _
  · intro j hj
    by_cases hjk : j = k
    · subst hjk
      rw [if_pos (Nat.le_refl _), ← hy]
      simp [List.getD_eq_getElem?_getD, hol, hk]
    · have := hog j hj
      rw [List.getD_eq_getElem?_getD, List.getElem?_set_ne (fun h => hjk h.symm), ← List.getD_eq_getElem?_getD, this]
      by_cases hlt : k < j
      · rw [if_pos hlt, if_pos (by omega)]
      · rw [if_neg hlt, if_neg (by omega)]
  · rw [heap_setCell_other _ _ _ _ (by simpa using hne)]
    exact hon j hj hne
set_option maxRecDepth 100000 in
set_option maxHeartbeats 1600000 in
theorem lshVU_g_any (v : Value) (ws : List Nat) (N s B : Nat) (w : World) (ho : Own w B 132 v (cellsW ws)) (hd : ∀ d ∈ ws, d < 18446744073709551616) (hN : wv ws = N) (hl0 : 0 < ws.length) (hl : ws.length ≤ 1000000000) (hs0 : 0 < s) (hs : s < 64) :
    Calls Try.prog 117 #[v, v, .int .u64 s] w fun e w' => e = .returned (.int .u64 (wdg N (ws.length - 1) / 2 ^ (64 - s) : Nat)) ∧ Own w' B 132 v (cellsW (wdsN (N * 2 ^ s) ws.length)) ∧ Below B w w' ∧ Only (sBlk v) w w' := by
  have hS := ho.isS
  have hL : sLen v = ws.length := by rw [ho.len, cellsW_length]
  have hcap : 0 < sCap v := by have := hS.le; omega
  have hB := (ho.lt hcap).1
  have hget : ∀ j, ws.getD j 0 = wdg N j := fun j => by rw [← hN, wv_dig hd]
  obtain ⟨L, hLw⟩ : ∃ L, L + 1 = ws.length := ⟨ws.length - 1, by omega⟩
  have hc := (ho.rw' hd).cell L (by omega)
  rw [hget] at hc
  rw [← hLw] at hL hl ⊢
  rw [Nat.add_sub_cancel]
  have n1 := and63 hs
  have n2 := and63 (show 64 - s < 64 by omega)
  obtain ⟨r, hr⟩ : ∃ r, r = 64 - s := ⟨_, rfl⟩
  rw [← hr] at n2 ⊢
  have hr64 : r < 64 := by omega
  have e1 : (64 : Int) - (s : Int) = (r : Int) := by omega
  have hS2 : (2 : Int) ^ s = ((2 ^ s : Nat) : Int) := by simp
  have hR2 : (2 : Int) ^ r = ((2 ^ r : Nat) : Int) := by simp
  obtain ⟨t, ht⟩ : ∃ t, t = wdg N L := ⟨_, rfl⟩
  rw [← ht] at hc ⊢
  obtain ⟨S, hSS⟩ : ∃ S, S = 2 ^ s := ⟨_, rfl⟩
  rw [← hSS] at hS2
  have HS := Lib.hid hSS
  clear hSS
  obtain ⟨R, hR⟩ : ∃ R, R = 2 ^ r := ⟨_, rfl⟩
  rw [← hR] at hR2 ⊢
  have hqt : (t : Int) / (R : Int) = ((t / R : Nat) : Int) := by simp
  have htl : t < 18446744073709551616 := by rw [ht]; exact wdg_lt _ _
  obtain ⟨q, hq⟩ : ∃ q, q = t / R := ⟨_, rfl⟩
  rw [← hq] at hqt ⊢
  have ts : ((s : Int) == 0) = false := by rw [beq_eq_false_iff_ne]; omega
  have HO := Lib.hid ho
  have HW := Lib.hid hLw
  have HD := Lib.hid hd
  have HG := Lib.hid hget
  have HR := Lib.hid hR
  have Hr := Lib.hid hr
  clear ho hLw hd hN hl0 hget ht hR hq hr
  go_enter Try.func117, Try.ntmps117
  go_wp2
  go_loopw [8] (fun i wr => ∃ k : Nat, k ≤ L ∧ i = .int .i64 k ∧ LsRel N s (L + 1) B k w v wr) (fun i _ => (intOf i).toNat)
  case atStart => exact ⟨L, Nat.le_refl _, rfl, ws, HO.out, HW.out.symm, HD.out, fun j hj => by rw [if_neg (by omega)]; exact HG.out j, Below.refl _ _, Only.refl _ _⟩
  case round =>
    obtain ⟨k, hk, rfl, os, ho, hol, hod, hog, hbl, hon⟩ := hrel
    have hbk := ho.lt hcap
    have Hol := Lib.hid hol
    have Hod := Lib.hid hod
    have Hog := Lib.hid hog
    have HB' := Lib.hid hbl
    have HOn := Lib.hid hon
    have HOs := Lib.hid ho
    have fz := ho.frozen hcap
    clear hol hod hog hbl hon ho
    rcases Nat.eq_zero_or_pos k with hk0 | hk0
    · subst hk0
      have c0 := (HOs.out.rw' Hod.out).cell 0 (by rw [Hol.out]; omega)
      have g0 := Hog.out 0 (by omega)
      rw [if_neg (by omega)] at g0
      rw [g0, Nat.add_zero] at c0
      obtain ⟨d0, hd0⟩ : ∃ d, d = wdg N 0 := ⟨_, rfl⟩
      rw [← hd0] at c0
      have hm := wrapU d0 S
      obtain ⟨m, hmm⟩ : ∃ m, m = d0 * S % 18446744073709551616 := ⟨_, rfl⟩
      rw [← hmm] at hm
      have fz0 := fz (sOff v)
      have HM := Lib.hid (show m = wdg (N * 2 ^ s) 0 by rw [wdg_shl_zero _ (by omega), hmm, hd0, HS.out])
      have Fin := Lib.hid (LsRel.put hs hcap HOs.out Hol.out Hod.out Hog.out HB'.out HOn.out (Nat.succ_pos L) HM.out)
      clear fz g0 hd0 hmm
      go_wp2
      go_ret
      obtain ⟨os', f1, f2, f3, f4, f5, f6⟩ := Fin.out
      rw [Nat.add_zero] at f1 f5 f6
      have e := wdsN_of f2 (fun i hi => (f4 i hi).trans (if_pos (Nat.zero_le _)))
      rw [← e]
      exact ⟨rfl, f1, f5, f6⟩
    · obtain ⟨j, rfl⟩ : ∃ j, k = j + 1 := ⟨k - 1, by omega⟩
      have c1 := (HOs.out.rw' Hod.out).cell (j + 1) (by rw [Hol.out]; omega)
      have c0 := (HOs.out.rw' Hod.out).cell j (by rw [Hol.out]; omega)
      rw [Hog.out (j + 1) (by omega), if_neg (by omega)] at c1
      rw [Hog.out j (by omega), if_neg (by omega)] at c0
      obtain ⟨d1, hd1⟩ : ∃ d, d = wdg N (j + 1) := ⟨_, rfl⟩
      obtain ⟨d0, hd0⟩ : ∃ d, d = wdg N j := ⟨_, rfl⟩
      rw [← hd1] at c1
      rw [← hd0] at c0
      have hm := wrapU d1 S
      have hq0 : (d0 : Int) / (R : Int) = ((d0 / R : Nat) : Int) := by simp
      obtain ⟨m, hmm⟩ : ∃ m, m = d1 * S % 18446744073709551616 := ⟨_, rfl⟩
      obtain ⟨q0, hqq⟩ : ∃ q, q = d0 / R := ⟨_, rfl⟩
      rw [← hmm] at hm
      rw [← hqq] at hq0
      have hd0l : d0 < 18446744073709551616 := by rw [hd0]; exact wdg_lt _ _
      have hq0l : q0 < 2 ^ s := by
        rw [hqq, HR.out, Hr.out]
        refine Nat.div_lt_of_lt_mul ?_
        rw [word_split (by omega)]; exact hd0l
      have hor := bits_or_u64_nat m q0 (by rw [hmm]; exact Nat.mod_lt _ (by decide)) (by have := Nat.div_le_self d0 R; omega)
      have hy : m ||| q0 = wdg (N * 2 ^ s) (j + 1) := by
        rw [wdg_shl_succ _ _ hs, hmm, HS.out, shl_or hs hq0l, hqq, hd0, hd1, HR.out, Hr.out]
      rw [hy] at hor
      obtain ⟨y, hyy⟩ : ∃ y, y = wdg (N * 2 ^ s) (j + 1) := ⟨_, rfl⟩
      rw [← hyy] at hor
      have HY := Lib.hid hyy
      have fz1 := fz (sOff v + (j + 1))
      have hj1 : j + 1 < L + 1 := by omega
      clear fz hy hq0l hd0 hd1 hmm hqq hyy
      go_wp2
      (refine wp_region_hoist 16 (by kernel_rfl) (by kernel_rfl) ⟨fun _ _ _ h => (by first | cases h.2.1 | (obtain ⟨_, h3, _⟩ := h.2; cases h3)), fun _ _ h => (by first | cases h.1 | (obtain ⟨_, h3, _⟩ := h; cases h3))⟩ ?_; simp only [List.take_succ_cons, List.take_zero, List.drop_succ_cons, List.drop_zero]; (repeat (go_big_quiet_step (fail))); refine wpQuiet_nil ?_; rintro _ ⟨nq, rfl⟩)
      go_wp2
      refine ⟨⟨j, by omega, rfl, ?_⟩, by simp [intOf]⟩
      obtain ⟨os', f1, f2, f3, f4, f5, f6⟩ := LsRel.put (wr := wr.drewN nq) hs hcap (HOs.out.drewN nq) Hol.out Hod.out Hog.out (undrewN' HB'.out) (fun i hi hne => HOn.out i hi hne) hj1 HY.out
      exact ⟨os', f1, f2, f3, fun i hi => by rw [f4 i hi]; by_cases h : j < i; rw [if_pos h, if_pos (by omega)]; rw [if_neg h, if_neg (by omega)], f5, f6⟩
set_option maxRecDepth 100000 in
theorem lshVU_any (v : Value) (ws : List Nat) (N s B : Nat) (w : World) (ho : Own w B 132 v (cellsW ws)) (hd : ∀ d ∈ ws, d < 18446744073709551616) (hN : wv ws = N) (hl0 : 0 < ws.length) (hl : ws.length ≤ 1000000000) (hs0 : 0 < s) (hs : s < 64) :
    Calls Try.prog 109 #[v, v, .int .u64 s] w fun e w' => e = .returned (.int .u64 (wdg N (ws.length - 1) / 2 ^ (64 - s) : Nat)) ∧ Own w' B 132 v (cellsW (wdsN (N * 2 ^ s) ws.length)) ∧ Below B w w' ∧ Only (sBlk v) w w' := by
  have hS := ho.isS
  have HO := Lib.hid ho
  have HD := Lib.hid hd
  have HN := Lib.hid hN
  clear ho hd hN
  go_enter Try.func109, Try.ntmps109
  go_wp2_with fail
  refine (lshVU_g_any v ws N s B w HO.out HD.out HN.out hl0 hl hs0 hs).mono ?_
  rintro _ w1 ⟨rfl, h1, h2, h3⟩
  go_wp2
  go_ret
  exact ⟨rfl, h1, h2, h3⟩
end Go.Proofs.Ytniingblgkghgaa
