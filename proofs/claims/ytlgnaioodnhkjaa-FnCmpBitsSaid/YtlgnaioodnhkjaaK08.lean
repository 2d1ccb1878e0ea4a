/-
Texts of this proof, joined: FlI FlJ FlK FlL FlM. No condition.
-/
import Derived.Test.YtlgnaioodnhkjaaK07
import Derived.Laws.BitsAllLaws
/-
Floats: the number of bits; a shift to the left in place. No condition.
-/
namespace Go.Proofs.Ytlgnaioodnhkjaa
open Go.RowKit

theorem bl_or {a b : Nat} (h : b ≤ a) : bl (a ||| b) = bl a := by
  refine Nat.le_antisymm (bl_le (Nat.or_lt_two_pow (lt_bl a) (Nat.lt_of_le_of_lt h (lt_bl a)))) (bl_mono Nat.left_le_or)
theorem or_lt64 {a b : Nat} (ha : a < 18446744073709551616) (hb : b < 18446744073709551616) : a ||| b < 18446744073709551616 := Nat.or_lt_two_pow (n := 64) ha hb
theorem bl_words {n : Nat} (h : 0 < n) : bl n = 64 * (nw n - 1) + bl (wdg n (nw n - 1)) := by
  have hp := nw_pos h
  have h1 := wmod_succ n (nw n - 1)
  rw [show nw n - 1 + 1 = nw n by omega, wmod_nw (Nat.le_refl _)] at h1
  have e : (18446744073709551616 : Nat) ^ (nw n - 1) = 2 ^ (64 * (nw n - 1)) := by rw [show (18446744073709551616 : Nat) = 2 ^ 64 from rfl, ← Nat.pow_mul]
  rw [e] at h1
  exact bl_shift (Nat.pos_of_ne_zero (wdg_last h)) h1
/-- One step of the smear. -/
theorem smear {t q t' k : Nat} (ht : t < 18446744073709551616) (hq : q = t / k) (ht' : t' = t ||| q) : bits .or .u64 (t : Int) (q : Int) = (t' : Int) ∧ t' < 18446744073709551616 ∧ bl t' = bl t ∧ (t : Int) / (k : Int) = (q : Int) := by
  have hqt : q ≤ t := by rw [hq]; exact Nat.div_le_self _ _
  refine ⟨by rw [ht']; exact bits_or_u64_nat t q ht (by omega), by rw [ht']; exact or_lt64 ht (by omega), by rw [ht']; exact bl_or hqt, by rw [hq]; simp⟩
set_option maxRecDepth 100000 in
set_option maxHeartbeats 800000 in
theorem bitLen_any (v : Value) (M : Nat) (w : World) (hv : RW w v (wds M)) (hl : nw M ≤ 1000000000) :
    Calls Try.prog 138 #[v] w fun e w' => e = .returned (.int .i64 (bl M : Nat)) ∧ w = w' := by
  have hS := hv.isS
  have hL := hv.len
  rw [wds_length] at hL
  rcases Nat.eq_zero_or_pos M with h0 | h0
  · subst h0
    have hL0 : sLen v = 0 := hL
    clear hL
    go_enter Try.func138, Try.ntmps138
    go_wp2
    go_ret
    exact ⟨rfl, rfl⟩
  · have hp := nw_pos h0
    have e := bl_words h0
    have hc := hv.cell (nw M - 1) (by rw [wds_length]; omega)
    rw [wds_getD] at hc
    have ht := wdg_lt M (nw M - 1)
    obtain ⟨j, hj⟩ : ∃ j, nw M = j + 1 := ⟨nw M - 1, by omega⟩
    rw [hj, Nat.add_sub_cancel] at e hc ht
    rw [hj] at hL hl
    obtain ⟨t, htt⟩ : ∃ t, t = wdg M j := ⟨_, rfl⟩
    rw [← htt] at e hc ht
    obtain ⟨q1, hq1⟩ : ∃ q, q = t / 2 := ⟨_, rfl⟩
    obtain ⟨t1, ht1⟩ : ∃ u, u = t ||| q1 := ⟨_, rfl⟩
    obtain ⟨o1, b1, l1, d1'⟩ := smear ht hq1 ht1
    have d1 : (t : Int) / 2 = (q1 : Int) := d1'
    obtain ⟨q2, hq2⟩ : ∃ q, q = t1 / 4 := ⟨_, rfl⟩
    obtain ⟨t2, ht2⟩ : ∃ u, u = t1 ||| q2 := ⟨_, rfl⟩
    obtain ⟨o2, b2, l2, d2'⟩ := smear b1 hq2 ht2
    have d2 : (t1 : Int) / 4 = (q2 : Int) := d2'
    obtain ⟨q3, hq3⟩ : ∃ q, q = t2 / 16 := ⟨_, rfl⟩
    obtain ⟨t3, ht3⟩ : ∃ u, u = t2 ||| q3 := ⟨_, rfl⟩
    obtain ⟨o3, b3, l3, d3'⟩ := smear b2 hq3 ht3
    have d3 : (t2 : Int) / 16 = (q3 : Int) := d3'
    obtain ⟨q4, hq4⟩ : ∃ q, q = t3 / 256 := ⟨_, rfl⟩
    obtain ⟨t4, ht4⟩ : ∃ u, u = t3 ||| q4 := ⟨_, rfl⟩
    obtain ⟨o4, b4, l4, d4'⟩ := smear b3 hq4 ht4
    have d4 : (t3 : Int) / 256 = (q4 : Int) := d4'
    obtain ⟨q5, hq5⟩ : ∃ q, q = t4 / 65536 := ⟨_, rfl⟩
    obtain ⟨t5, ht5⟩ : ∃ u, u = t4 ||| q5 := ⟨_, rfl⟩
    obtain ⟨o5, b5, l5, d5'⟩ := smear b4 hq5 ht5
    have d5 : (t4 : Int) / 65536 = (q5 : Int) := d5'
    obtain ⟨q6, hq6⟩ : ∃ q, q = t5 / 4294967296 := ⟨_, rfl⟩
    obtain ⟨q6', hq6'⟩ : ∃ q, q = t5 / 65536 := ⟨_, rfl⟩
    obtain ⟨t6, ht6⟩ : ∃ u, u = t5 ||| q6 := ⟨_, rfl⟩
    obtain ⟨o6, b6, l6, -⟩ := smear b5 hq6 ht6
    have d6 : (t5 : Int) / 65536 = (q6' : Int) := by rw [hq6']; simp
    have d6' : (q6' : Int) / 65536 = (q6 : Int) := by rw [hq6, hq6']; omega
    have E : Hid (bl M = 64 * j + bl t6) := Lib.hid (by rw [e, l6, l5, l4, l3, l2, l1])
    have B6 := Lib.hid b6
    clear hj htt hq1 ht1 hq2 ht2 hq3 ht3 hq4 ht4 hq5 ht5 hq6 hq6' ht6 l1 l2 l3 l4 l5 l6 e hv h0 hp d1' d2' d3' d4' d5'
    go_enter Try.func138, Try.ntmps138
    go_wp2_with fail
    refine (Try.bits_Len (t6 : Int) w (by omega) (by have := B6.out; omega)).mono ?_
    rintro _ _ ⟨rfl, rfl⟩
    rw [Int.toNat_natCast, bitLen_eq B6.out]
    have hb := bl_le64 B6.out
    obtain ⟨l, hl'⟩ : ∃ l, l = bl t6 := ⟨_, rfl⟩
    rw [← hl'] at hb E ⊢
    clear hl'
    go_wp2
    go_ret
    exact ⟨congrArg (fun z => Ending.returned (.int .i64 z)) (by rw [E.out]; omega), rfl⟩
set_option maxRecDepth 100000 in
theorem intBitLen (b o : Nat) (v : Value) (M : Nat) (w : World) (hc : w.cell? ⟨b, o + 1, none⟩ = some v) (hv : RW w v (wds M)) (hl : nw M ≤ 1000000000) :
    Calls Try.prog 125 #[.pointer (some ⟨b, o, none⟩)] w fun e w' => e = .returned (.int .i64 (bl M : Nat)) ∧ w = w' := by
  have hS := hv.isS
  have HV := Lib.hid hv
  clear hv
  go_enter Try.func125, Try.ntmps125
  go_wp2_with fail
  refine (bitLen_any v M w HV.out hl).mono ?_
  rintro _ _ ⟨rfl, rfl⟩
  go_wp2
  go_ret
  exact ⟨rfl, rfl⟩
set_option maxRecDepth 100000 in
theorem nlz_any (x : Nat) (w : World) (h : x < 18446744073709551616) :
    Calls Try.prog 139 #[.int .u64 x] w fun e w' => e = .returned (.int .u64 ((64 - bl x : Nat) : Int)) ∧ w = w' := by
  have hb := bl_le64 h
  have H := Lib.hid h
  have E : Hid ((64 : Int) - (Lib.bitLen x : Nat) = ((64 - bl x : Nat) : Int)) := Lib.hid (by rw [bitLen_eq h]; omega)
  obtain ⟨s, hs⟩ : ∃ s, s = 64 - bl x := ⟨_, rfl⟩
  have hs64 : s ≤ 64 := by omega
  rw [← hs] at E ⊢
  clear h hs hb
  go_enter Try.func139, Try.ntmps139
  go_wp2_with fail
  refine (Try.bits_LeadingZeros (x : Int) w (by omega) (by have := H.out; omega)).mono ?_
  rintro _ _ ⟨rfl, rfl⟩
  rw [Int.toNat_natCast, E.out]
  go_wp2
  go_ret
  exact ⟨rfl, rfl⟩
end Go.Proofs.Ytlgnaioodnhkjaa

/-
Words: a shift to the left in place. No condition.
-/
namespace Go.Proofs.Ytlgnaioodnhkjaa
open Go.RowKit

/-- So many words of a number. -/
def wdsN (n L : Nat) : List Nat := (List.range L).map (wdg n)
theorem wdsN_length (n L : Nat) : (wdsN n L).length = L := by simp [wdsN]
theorem wdsN_lt {n L : Nat} : ∀ d ∈ wdsN n L, d < 18446744073709551616 := by
  intro d h
  obtain ⟨i, _, rfl⟩ := List.mem_map.1 h
  exact wdg_lt n i
theorem wdsN_getD {n L i : Nat} (h : i < L) : (wdsN n L).getD i 0 = wdg n i := by simp [wdsN, List.getD_eq_getElem?_getD, h]
theorem wdsN_wv (n L : Nat) : wv (wdsN n L) = n % 18446744073709551616 ^ L := wv_range n L
theorem wdsN_nw (n : Nat) : wdsN n (nw n) = wds n := rfl
theorem wdsN_of {os : List Nat} {n L : Nat} (hl : os.length = L) (h : ∀ j, j < L → os.getD j 0 = wdg n j) : os = wdsN n L := by
  refine list_ext_getD (by rw [wdsN_length, hl]) fun i => ?_
  by_cases hi : i < L
  · rw [h i hi, wdsN_getD hi]
  · rw [List.getD_eq_getElem?_getD, List.getD_eq_getElem?_getD, List.getElem?_eq_none (by omega), List.getElem?_eq_none (by rw [wdsN_length]; omega)]
/-- The words above place k are shifted. -/
def LsRel (N s L B k : Nat) (w : World) (v : Value) (wr : World) : Prop :=
  ∃ os : List Nat, Own wr B 112 v (cellsW os) ∧ os.length = L ∧ (∀ d ∈ os, d < 18446744073709551616) ∧ (∀ j, j < L → os.getD j 0 = if k < j then wdg (N * 2 ^ s) j else wdg N j) ∧ Below B w wr ∧ Only (sBlk v) w wr
theorem and63 {s : Nat} (h : s < 64) : bits .and .u64 (s : Int) 63 = (s : Int) := by
  rw [show (63 : Int) = ((63 : Nat) : Int) from rfl, bits_and_u64_nat _ _ (by omega) (by decide), show (63 : Nat) = 2 ^ 6 - 1 from rfl, Nat.and_two_pow_sub_one_eq_mod]
  congr 1; omega
theorem wrapU (a b : Nat) : IntKind.u64.wrap ((a : Int) * (b : Int)) = ((a * b % 18446744073709551616 : Nat) : Int) := by
  rw [IntKind.wrap_u64]; simp
theorem LsRel.put {N s L B k : Nat} {w wr : World} {v : Value} {os : List Nat} (_hs : s < 64) (hcap : 0 < sCap v) (ho : Own wr B 112 v (cellsW os)) (hol : os.length = L) (hod : ∀ d ∈ os, d < 18446744073709551616) (hog : ∀ j, j < L → os.getD j 0 = if k < j then wdg (N * 2 ^ s) j else wdg N j)
    (hb : Below B w wr) (hon : Only (sBlk v) w wr) (hk : k < L) {y : Nat} (hy : y = wdg (N * 2 ^ s) k) :
    ∃ os' : List Nat, Own (wr.setCell ⟨sBlk v, sOff v + k, none⟩ (.int .u64 (y : Int))) B 112 v (cellsW os') ∧ os'.length = L ∧ (∀ d ∈ os', d < 18446744073709551616) ∧ (∀ j, j < L → os'.getD j 0 = if k ≤ j then wdg (N * 2 ^ s) j else wdg N j) ∧
      Below B w (wr.setCell ⟨sBlk v, sOff v + k, none⟩ (.int .u64 (y : Int))) ∧ Only (sBlk v) w (wr.setCell ⟨sBlk v, sOff v + k, none⟩ (.int .u64 (y : Int))) := by
  have h1 := ho.set (i := k) (by rw [cellsW_length, hol]; exact hk) (.int .u64 (y : Int))
  rw [cellsW_set] at h1
  refine ⟨os.set k y, h1, by simpa using hol, ?_, ?_, bset hb (ho.lt hcap).1, fun j hj hne => ?_⟩
  · intro d hd
    rcases List.mem_or_eq_of_mem_set hd with h | h
    · exact hod d h
    · rw [h, hy]; exact wdg_lt _ _
  · intro j hj
    by_cases hjk : j = k
    · subst hjk
      rw [if_pos (Nat.le_refl _), ← hy]
      simp [List.getD_eq_getElem?_getD, hol, hk]
    · have := hog j hj
      rw [List.getD_eq_getElem?_getD, List.getElem?_set_ne (fun h => hjk h.symm), ← List.getD_eq_getElem?_getD, this]
      by_cases hlt : k < j
      · rw [if_pos hlt, if_pos (by omega)]
      · rw [if_neg hlt, if_neg (by omega)]
  · rw [heap_setCell_other _ _ _ _ (by simpa using hne)]
    exact hon j hj hne
set_option maxRecDepth 100000 in
set_option maxHeartbeats 1600000 in
theorem lshVU_g_any (v : Value) (ws : List Nat) (N s B : Nat) (w : World) (ho : Own w B 112 v (cellsW ws)) (hd : ∀ d ∈ ws, d < 18446744073709551616) (hN : wv ws = N) (hl0 : 0 < ws.length) (hl : ws.length ≤ 1000000000) (hs0 : 0 < s) (hs : s < 64) :
    Calls Try.prog 149 #[v, v, .int .u64 s] w fun e w' => e = .returned (.int .u64 (wdg N (ws.length - 1) / 2 ^ (64 - s) : Nat)) ∧ Own w' B 112 v (cellsW (wdsN (N * 2 ^ s) ws.length)) ∧ Below B w w' ∧ Only (sBlk v) w w' := by
  have hS := ho.isS
  have hL : sLen v = ws.length := by rw [ho.len, cellsW_length]
  have hcap : 0 < sCap v := by have := hS.le; omega
  have hB := (ho.lt hcap).1
  have hget : ∀ j, ws.getD j 0 = wdg N j := fun j => by rw [← hN, wv_dig hd]
  obtain ⟨L, hLw⟩ : ∃ L, L + 1 = ws.length := ⟨ws.length - 1, by omega⟩
  have hc := (ho.rw' hd).cell L (by omega)
  rw [hget] at hc
  rw [← hLw] at hL hl ⊢
  rw [Nat.add_sub_cancel]
  have n1 := and63 hs
  have n2 := and63 (show 64 - s < 64 by omega)
  obtain ⟨r, hr⟩ : ∃ r, r = 64 - s := ⟨_, rfl⟩
  rw [← hr] at n2 ⊢
  have hr64 : r < 64 := by omega
  have e1 : (64 : Int) - (s : Int) = (r : Int) := by omega
  have hS2 : (2 : Int) ^ s = ((2 ^ s : Nat) : Int) := by simp
  have hR2 : (2 : Int) ^ r = ((2 ^ r : Nat) : Int) := by simp
  obtain ⟨t, ht⟩ : ∃ t, t = wdg N L := ⟨_, rfl⟩
  rw [← ht] at hc ⊢
  obtain ⟨S, hSS⟩ : ∃ S, S = 2 ^ s := ⟨_, rfl⟩
  rw [← hSS] at hS2
  have HS := Lib.hid hSS
  clear hSS
  obtain ⟨R, hR⟩ : ∃ R, R = 2 ^ r := ⟨_, rfl⟩
  rw [← hR] at hR2 ⊢
  have hqt : (t : Int) / (R : Int) = ((t / R : Nat) : Int) := by simp
  have htl : t < 18446744073709551616 := by rw [ht]; exact wdg_lt _ _
  obtain ⟨q, hq⟩ : ∃ q, q = t / R := ⟨_, rfl⟩
  rw [← hq] at hqt ⊢
  have ts : ((s : Int) == 0) = false := by rw [beq_eq_false_iff_ne]; omega
  have HO := Lib.hid ho
  have HW := Lib.hid hLw
  have HD := Lib.hid hd
  have HG := Lib.hid hget
  have HR := Lib.hid hR
  have Hr := Lib.hid hr
  clear ho hLw hd hN hl0 hget ht hR hq hr
  go_enter Try.func149, Try.ntmps149
  go_wp2
  go_loopw [8] (fun i wr => ∃ k : Nat, k ≤ L ∧ i = .int .i64 k ∧ LsRel N s (L + 1) B k w v wr) (fun i _ => (intOf i).toNat)
  case atStart => exact ⟨L, Nat.le_refl _, rfl, ws, HO.out, HW.out.symm, HD.out, fun j hj => by rw [if_neg (by omega)]; exact HG.out j, Below.refl _ _, Only.refl _ _⟩
  case round =>
    obtain ⟨k, hk, rfl, os, ho, hol, hod, hog, hbl, hon⟩ := hrel
    have hbk := ho.lt hcap
    have Hol := Lib.hid hol
    have Hod := Lib.hid hod
    have Hog := Lib.hid hog
    have HB' := Lib.hid hbl
    have HOn := Lib.hid hon
    have HOs := Lib.hid ho
    have fz := ho.frozen hcap
    clear hol hod hog hbl hon ho
    rcases Nat.eq_zero_or_pos k with hk0 | hk0
    · subst hk0
      have c0 := (HOs.out.rw' Hod.out).cell 0 (by rw [Hol.out]; omega)
      have g0 := Hog.out 0 (by omega)
      rw [if_neg (by omega)] at g0
      rw [g0, Nat.add_zero] at c0
      obtain ⟨d0, hd0⟩ : ∃ d, d = wdg N 0 := ⟨_, rfl⟩
      rw [← hd0] at c0
      have hm := wrapU d0 S
      obtain ⟨m, hmm⟩ : ∃ m, m = d0 * S % 18446744073709551616 := ⟨_, rfl⟩
      rw [← hmm] at hm
      have fz0 := fz (sOff v)
      have HM := Lib.hid (show m = wdg (N * 2 ^ s) 0 by rw [wdg_shl_zero _ (by omega), hmm, hd0, HS.out])
      have Fin := Lib.hid (LsRel.put hs hcap HOs.out Hol.out Hod.out Hog.out HB'.out HOn.out (Nat.succ_pos L) HM.out)
      clear fz g0 hd0 hmm
      go_wp2
      go_ret
      obtain ⟨os', f1, f2, f3, f4, f5, f6⟩ := Fin.out
      rw [Nat.add_zero] at f1 f5 f6
      have e := wdsN_of f2 (fun i hi => (f4 i hi).trans (if_pos (Nat.zero_le _)))
      rw [← e]
      exact ⟨rfl, f1, f5, f6⟩
    · obtain ⟨j, rfl⟩ : ∃ j, k = j + 1 := ⟨k - 1, by omega⟩
      have c1 := (HOs.out.rw' Hod.out).cell (j + 1) (by rw [Hol.out]; omega)
      have c0 := (HOs.out.rw' Hod.out).cell j (by rw [Hol.out]; omega)
      rw [Hog.out (j + 1) (by omega), if_neg (by omega)] at c1
      rw [Hog.out j (by omega), if_neg (by omega)] at c0
      obtain ⟨d1, hd1⟩ : ∃ d, d = wdg N (j + 1) := ⟨_, rfl⟩
      obtain ⟨d0, hd0⟩ : ∃ d, d = wdg N j := ⟨_, rfl⟩
      rw [← hd1] at c1
      rw [← hd0] at c0
      have hm := wrapU d1 S
      have hq0 : (d0 : Int) / (R : Int) = ((d0 / R : Nat) : Int) := by simp
      obtain ⟨m, hmm⟩ : ∃ m, m = d1 * S % 18446744073709551616 := ⟨_, rfl⟩
      obtain ⟨q0, hqq⟩ : ∃ q, q = d0 / R := ⟨_, rfl⟩
      rw [← hmm] at hm
      rw [← hqq] at hq0
      have hd0l : d0 < 18446744073709551616 := by rw [hd0]; exact wdg_lt _ _
      have hq0l : q0 < 2 ^ s := by
        rw [hqq, HR.out, Hr.out]
        refine Nat.div_lt_of_lt_mul ?_
        rw [word_split (by omega)]; exact hd0l
      have hor := bits_or_u64_nat m q0 (by rw [hmm]; exact Nat.mod_lt _ (by decide)) (by have := Nat.div_le_self d0 R; omega)
      have hy : m ||| q0 = wdg (N * 2 ^ s) (j + 1) := by
        rw [wdg_shl_succ _ _ hs, hmm, HS.out, shl_or hs hq0l, hqq, hd0, hd1, HR.out, Hr.out]
      rw [hy] at hor
      obtain ⟨y, hyy⟩ : ∃ y, y = wdg (N * 2 ^ s) (j + 1) := ⟨_, rfl⟩
      rw [← hyy] at hor
      have HY := Lib.hid hyy
      have fz1 := fz (sOff v + (j + 1))
      have hj1 : j + 1 < L + 1 := by omega
      clear fz hy hq0l hd0 hd1 hmm hqq hyy
      go_wp2
      (refine wp_region_hoist 16 (by kernel_rfl) (by kernel_rfl) ⟨fun _ _ _ h => (by first | exact (hQp _ _ _ h).elim | cases h.2.1 | (obtain ⟨_, h3, _⟩ := h.2; cases h3)), fun _ _ h => (by first | exact (hQo _ _ h).elim | cases h.1 | (obtain ⟨_, h3, _⟩ := h; cases h3))⟩ ?_; simp only [List.take_succ_cons, List.take_zero, List.drop_succ_cons, List.drop_zero]; (repeat (go_big_quiet_step (fail))); refine wpQuiet_nil ?_; rintro _ ⟨nq, rfl⟩)
      go_wp2
      refine ⟨⟨j, by omega, rfl, ?_⟩, by simp [intOf]⟩
      obtain ⟨os', f1, f2, f3, f4, f5, f6⟩ := LsRel.put (wr := wr.drewN nq) hs hcap (HOs.out.drewN nq) Hol.out Hod.out Hog.out (undrewN' HB'.out) (fun i hi hne => HOn.out i hi hne) hj1 HY.out
      exact ⟨os', f1, f2, f3, fun i hi => by rw [f4 i hi]; by_cases h : j < i; rw [if_pos h, if_pos (by omega)]; rw [if_neg h, if_neg (by omega)], f5, f6⟩
set_option maxRecDepth 100000 in
theorem lshVU_any (v : Value) (ws : List Nat) (N s B : Nat) (w : World) (ho : Own w B 112 v (cellsW ws)) (hd : ∀ d ∈ ws, d < 18446744073709551616) (hN : wv ws = N) (hl0 : 0 < ws.length) (hl : ws.length ≤ 1000000000) (hs0 : 0 < s) (hs : s < 64) :
    Calls Try.prog 140 #[v, v, .int .u64 s] w fun e w' => e = .returned (.int .u64 (wdg N (ws.length - 1) / 2 ^ (64 - s) : Nat)) ∧ Own w' B 112 v (cellsW (wdsN (N * 2 ^ s) ws.length)) ∧ Below B w w' ∧ Only (sBlk v) w w' := by
  have hS := ho.isS
  have HO := Lib.hid ho
  have HD := Lib.hid hd
  have HN := Lib.hid hN
  clear ho hd hN
  go_enter Try.func140, Try.ntmps140
  go_wp2_with fail
  refine (lshVU_g_any v ws N s B w HO.out HD.out HN.out hl0 hl hs0 hs).mono ?_
  rintro _ w1 ⟨rfl, h1, h2, h3⟩
  go_wp2
  go_ret
  exact ⟨rfl, h1, h2, h3⟩
end Go.Proofs.Ytlgnaioodnhkjaa

/-
Floats: fnorm; a bit of words, and whether there is one below. No condition.
-/
namespace Go.Proofs.Ytlgnaioodnhkjaa
open Go.RowKit

theorem ret_u64 {a b : Int} (h : a = b) : Ending.returned (.int .u64 a) = Ending.returned (.int .u64 b) := by rw [h]
set_option maxRecDepth 100000 in
set_option maxHeartbeats 800000 in
theorem fnorm_any (v : Value) (M B : Nat) (w : World) (ho : Own w B 112 v (cellsW (wds M))) (h0 : 0 < M) (hl : nw M ≤ 1000000000) :
    Calls Try.prog 126 #[v] w fun e w' => (∃ r, e = .returned r) ∧ Own w' B 112 v (cellsW (wdsN (M * 2 ^ (64 * nw M - bl M)) (nw M))) ∧ Below B w w' ∧ Only (sBlk v) w w' := by
  have hS := ho.isS
  have hL : sLen v = nw M := by rw [ho.len, cellsW_length, wds_length]
  have hp := nw_pos h0
  have e := bl_words h0
  have hc := (ho.rw' (wds_all M)).cell (nw M - 1) (by rw [wds_length]; omega)
  rw [wds_getD] at hc
  have ht := wdg_lt M (nw M - 1)
  have htp : 0 < wdg M (nw M - 1) := Nat.pos_of_ne_zero (wdg_last h0)
  obtain ⟨j, hj⟩ : ∃ j, nw M = j + 1 := ⟨nw M - 1, by omega⟩
  obtain ⟨t, htt⟩ : ∃ t, t = wdg M (nw M - 1) := ⟨_, rfl⟩
  rw [← htt] at e hc ht htp
  have hbt := bl_le64 ht
  have hbp := bl_pos htp
  have es : 64 * nw M - bl M = 64 - bl t := by rw [e]; omega
  rw [es]
  obtain ⟨s, hs⟩ : ∃ s, s = 64 - bl t := ⟨_, rfl⟩
  rw [← hs]
  have hs64 : s < 64 := by omega
  rw [hj, Nat.add_sub_cancel] at hc
  rw [hj] at hL hl
  have HO := Lib.hid ho
  have HJ := Lib.hid hj
  have HS := Lib.hid hs
  have HT := Lib.hid ht
  clear ho h0 hp e htp hbt hbp es hs hj ht htt
  rcases Nat.eq_zero_or_pos s with hs0 | hs0
  · subst hs0
    go_enter Try.func126, Try.ntmps126
    go_wp2_with fail
    refine (nlz_any t w HT.out).mono ?_
    rintro _ _ ⟨rfl, rfl⟩
    rw [← HS.out]
    go_wp2
    go_ret
    refine ⟨⟨_, rfl⟩, ?_, Below.refl _ _, Only.refl _ _⟩
    rw [Nat.pow_zero, Nat.mul_one, wdsN_nw]
    exact HO.out
  · have t1 : decide (0 < s) = true := decide_eq_true hs0
    go_enter Try.func126, Try.ntmps126
    go_wp2_with fail
    refine (nlz_any t w HT.out).mono ?_
    rintro _ _ ⟨rfl, rfl⟩
    rw [← HS.out]
    go_wp2_with fail
    refine (lshVU_any v (wds M) M s B w HO.out (wds_all M) (wv_wds M) (by rw [wds_length, HJ.out]; omega) (by rw [wds_length, HJ.out]; exact hl) hs0 hs64).mono ?_
    rintro _ w1 ⟨rfl, h1, h2, h3⟩
    rw [wds_length] at h1
    have H1 := Lib.hid h1
    clear h1
    go_wp2
    go_ret
    exact ⟨⟨_, rfl⟩, H1.out, h2, h3⟩
set_option maxRecDepth 100000 in
set_option maxHeartbeats 800000 in
theorem bit_any (v : Value) (ws : List Nat) (i : Nat) (w : World) (hv : RW w v ws) (hi : i < 64 * ws.length) (hl : ws.length ≤ 100000000) :
    Calls Try.prog 118 #[v, .int .u64 i] w fun e w' => e = .returned (.int .u64 (wv ws / 2 ^ i % 2 : Nat)) ∧ w = w' := by
  have hS := hv.isS
  have hL := hv.len
  have hc := hv.cell (i / 64) (by omega)
  rw [← wv_dig hv.lt] at hc
  have hb := wdg_bit (wv ws) i
  rw [← hb]
  have ht := wdg_lt (wv ws) (i / 64)
  obtain ⟨l, hl'⟩ : ∃ l, l = ws.length := ⟨_, rfl⟩
  rw [← hl'] at hL hi hl
  obtain ⟨t, htt⟩ : ∃ t, t = wdg (wv ws) (i / 64) := ⟨_, rfl⟩
  rw [← htt] at hc ht ⊢
  have e1 : (i : Int) / 64 = ((i / 64 : Nat) : Int) := by omega
  have e2 : (i : Int) % 64 = ((i % 64 : Nat) : Int) := by omega
  obtain ⟨j, hj⟩ : ∃ j, j = i / 64 := ⟨_, rfl⟩
  obtain ⟨s, hs⟩ : ∃ s, s = i % 64 := ⟨_, rfl⟩
  rw [← hj] at e1 hc
  rw [← hs] at e2 ⊢
  have hjl : j < l := by omega
  have hs64 : s < 64 := by omega
  have t1 : decide (l ≤ j) = false := decide_eq_false (by omega)
  have hS2 : (2 : Int) ^ s = ((2 ^ s : Nat) : Int) := by simp
  obtain ⟨S, hSS⟩ : ∃ S, S = 2 ^ s := ⟨_, rfl⟩
  rw [← hSS] at hS2 ⊢
  have hq : (t : Int) / (S : Int) = ((t / S : Nat) : Int) := by simp
  have hqt : t / S ≤ t := Nat.div_le_self _ _
  obtain ⟨q, hqq⟩ : ∃ q, q = t / S := ⟨_, rfl⟩
  rw [← hqq] at hq hqt ⊢
  have ha : bits .and .u64 (q : Int) 1 = ((q % 2 : Nat) : Int) := by
    rw [show (1 : Int) = ((1 : Nat) : Int) from rfl, bits_and_u64_nat q 1 (by omega) (by decide), Nat.and_one_is_mod]
  obtain ⟨u, hu⟩ : ∃ u, u = q % 2 := ⟨_, rfl⟩
  rw [← hu] at ha ⊢
  clear hv hb htt hj hs hSS hqq hu hl'
  go_enter Try.func118, Try.ntmps118
  go_wp2
  go_ret
  exact ⟨rfl, rfl⟩
/-- Whether there is a bit below. -/
def stV (n i : Nat) : Nat := if n % 2 ^ i = 0 then 0 else 1
theorem stV_zero {n i : Nat} (h : n % 2 ^ i = 0) : stV n i = 0 := if_pos h
theorem stV_one {n i : Nat} (h : n % 2 ^ i ≠ 0) : stV n i = 1 := if_neg h
theorem low_shl {d s : Nat} (hs : s < 64) : d * 2 ^ (64 - s) % 18446744073709551616 = 0 ↔ d % 2 ^ s = 0 := by
  have e := word_split (show s ≤ 64 by omega)
  have hR : 0 < 2 ^ (64 - s) := Nat.pow_pos (by decide)
  rw [← e, Nat.mul_comm (2 ^ (64 - s)), Nat.mul_mod_mul_right]
  constructor
  · intro h; exact (Nat.mul_eq_zero.1 h).resolve_right (by omega)
  · intro h; rw [h, Nat.zero_mul]
set_option maxRecDepth 100000 in
set_option maxHeartbeats 800000 in
theorem sticky_any (v : Value) (ws : List Nat) (i : Nat) (w : World) (hv : RW w v ws) (hi : i < 64 * ws.length) (hl : ws.length ≤ 100000000) :
    Calls Try.prog 82 #[v, .int .u64 i] w fun e w' => e = .returned (.int .u64 (stV (wv ws) i : Nat)) ∧ w = w' := by
  have hS := hv.isS
  have hL := hv.len
  have hC := hS.le
  have hc := hv.cell (i / 64) (by omega)
  rw [← wv_dig hv.lt] at hc
  have hst := sticky_iff (wv ws) i
  have ht := wdg_lt (wv ws) (i / 64)
  obtain ⟨l, hl'⟩ : ∃ l, l = ws.length := ⟨_, rfl⟩
  have hcell : ∀ k, k < l → w.cell? ⟨sBlk v, sOff v + k, none⟩ = some (.int .u64 ((wdg (wv ws) k : Nat) : Int)) := fun k hk => by
    rw [wv_dig hv.lt]; exact hv.cell k (by rw [← hl']; exact hk)
  rw [← hl'] at hL hi hl
  obtain ⟨n, hn⟩ : ∃ n, n = wv ws := ⟨_, rfl⟩
  rw [← hn] at hc hst ht hcell ⊢
  have e1 : (i : Int) / 64 = ((i / 64 : Nat) : Int) := by omega
  have e2 : (i : Int) % 64 = ((i % 64 : Nat) : Int) := by omega
  obtain ⟨j, hj⟩ : ∃ j, j = i / 64 := ⟨_, rfl⟩
  obtain ⟨s, hs⟩ : ∃ s, s = i % 64 := ⟨_, rfl⟩
  rw [← hj] at e1 hc hst ht
  rw [← hs] at e2 hst
  have hjl : j < l := by omega
  have hs64 : s < 64 := by omega
  have t1 : decide (l ≤ j) = false := decide_eq_false (by omega)
  have hS3 : IsS (subS v 0 j) := subS_isS hS (Nat.zero_le _) (by omega)
  have hL3 : sLen (subS v 0 j) = j := by rw [subS_len hS]; omega
  have hB3 : sBlk (subS v 0 j) = sBlk v := subS_blk hS
  have hO3 : sOff (subS v 0 j) = sOff v := subS_off0 hS
  have hjc : j ≤ sCap v := by omega
  have HB3 := Lib.hid hB3
  have HO3 := Lib.hid hO3
  have HC := Lib.hid hcell
  have HST := Lib.hid hst
  obtain ⟨d, hdd⟩ : ∃ d, d = wdg n j := ⟨_, rfl⟩
  rw [← hdd] at hc ht
  have HDD := Lib.hid hdd
  clear hv hn hj hs hl' hB3 hO3 hcell hst hdd
  go_enter Try.func82, Try.ntmps82
  go_wp2
  go_loop [22] (fun i' => ∃ k : Nat, k ≤ j ∧ i' = .int .i64 k ∧ ∀ m, m < k → wdg n m = 0) (fun i' => j - (intOf i').toNat)
  case atStart => exact ⟨0, Nat.zero_le _, rfl, fun m hm => by omega⟩
  case round =>
    obtain ⟨k, hk, rfl, hz⟩ := hrel
    have HZ := Lib.hid hz
    clear hz
    by_cases hkj : k < j
    · have ck : w.cell? ⟨sBlk (subS v 0 j), sOff (subS v 0 j) + k, none⟩ = some (.int .u64 ((wdg n k : Nat) : Int)) := by rw [HB3.out, HO3.out]; exact HC.out k (by omega)
      obtain ⟨x, hx⟩ : ∃ x, x = wdg n k := ⟨_, rfl⟩
      rw [← hx] at ck
      have HX := Lib.hid hx
      clear hx
      by_cases hx0 : x = 0
      · have t2 : ((x : Int) == 0) = true := by rw [beq_iff_eq]; omega
        have HX0 := Lib.hid hx0
        clear hx0
        go_wp2
        go_round
        case rel => exact ⟨k + 1, by omega, by go_num, fun m hm => by
          rcases (by omega : m < k ∨ m = k) with h | h
          · exact HZ.out m h
          · rw [h, ← HX.out]; exact HX0.out⟩
        case measure => simp [intOf]; omega
      · have t2 : ((x : Int) == 0) = false := by rw [beq_eq_false_iff_ne]; omega
        go_wp2
        go_ret
        exact ⟨ret_u64 (by rw [stV_one (fun h => hx0 (by rw [HX.out]; exact (HST.out.1 h).1 k hkj))]; rfl), rfl⟩
    · obtain rfl : k = j := by omega
      have t3 : (64 : Int) - (s : Int) = ((64 - s : Nat) : Int) := by omega
      have hT2 : (2 : Int) ^ (64 - s) = ((2 ^ (64 - s) : Nat) : Int) := by simp
      have hlow := low_shl (d := d) hs64
      obtain ⟨r, hr⟩ : ∃ r, r = 64 - s := ⟨_, rfl⟩
      rw [← hr] at t3 hT2 hlow
      have hr64 : r ≤ 64 := by omega
      have hr0 : 0 < r := by omega
      obtain ⟨T, hT⟩ : ∃ T, T = 2 ^ r := ⟨_, rfl⟩
      rw [← hT] at hT2 hlow
      have hm := wrapU d T
      obtain ⟨m, hmm⟩ : ∃ m, m = d * T % 18446744073709551616 := ⟨_, rfl⟩
      rw [← hmm] at hm hlow
      have HLow := Lib.hid hlow
      clear hr hT hmm hlow
      by_cases hm0 : m = 0
      · have t4 : ((m : Int) == 0) = true := by rw [beq_iff_eq]; omega
        have E := Lib.hid (stV_zero (HST.out.2 ⟨HZ.out, by rw [← HDD.out]; exact HLow.out.1 hm0⟩))
        clear hm0
        go_wp2
        go_ret
        exact ⟨ret_u64 (by rw [E.out]; rfl), rfl⟩
      · have t4 : ((m : Int) == 0) = false := by rw [beq_eq_false_iff_ne]; omega
        have E := Lib.hid (stV_one (n := n) (i := i) (fun h => hm0 (HLow.out.2 (by rw [HDD.out]; exact (HST.out.1 h).2))))
        go_wp2
        go_ret
        exact ⟨ret_u64 (by rw [E.out]; rfl), rfl⟩
end Go.Proofs.Ytlgnaioodnhkjaa

/-
Floats: round where nothing is to be rounded. No condition.
-/
namespace Go.Proofs.Ytlgnaioodnhkjaa
open Go.RowKit

theorem andNot_low {d s : Nat} (hs : s < 64) (hd : d < 18446744073709551616) (h : d % 2 ^ s = 0) : bits .andNot .u64 (d : Int) (((2 ^ s - 1 : Nat)) : Int) = (d : Int) := by
  have hS : 2 ^ s ≤ 9223372036854775808 := Nat.pow_le_pow_right (show 0 < 2 by decide) (show s ≤ 63 by omega)
  rw [u64_andNot_nat d (2 ^ s - 1) hd (by omega)]
  congr 1
  apply Nat.eq_of_testBit_eq
  intro i
  rw [Nat.testBit_and, show (18446744073709551615 : Nat) - (2 ^ s - 1) = 2 ^ 64 - ((2 ^ s - 1) + 1) by omega, Nat.testBit_two_pow_sub_succ (show 2 ^ s - 1 < 2 ^ 64 by omega), Nat.testBit_two_pow_sub_one]
  by_cases hi : i < s
  · have : d.testBit i = false := by
      have h2 : d = 2 ^ s * (d / 2 ^ s) := by have := Nat.div_add_mod d (2 ^ s); omega
      rw [h2, Nat.testBit_two_pow_mul]; simp [show ¬ s ≤ i by omega]
    rw [this]; rfl
  · by_cases h64 : i < 64
    · simp [hi, h64]
    · rw [Nat.testBit_lt_two_pow (Nat.lt_of_lt_of_le hd (show 18446744073709551616 ≤ 2 ^ i from Nat.pow_le_pow_right (show 0 < 2 by decide) (show 64 ≤ i by omega)))]; rfl
/-- Nothing is to be rounded: the words' bits fit, or all behind the precision are 0 and there is no word too many. -/
def Fits (ws : List Nat) (p : Nat) : Prop := 64 * ws.length ≤ p ∨ (p < 64 * ws.length ∧ wv ws % 2 ^ (64 * ws.length - p) = 0 ∧ ws.length = (p + 63) / 64)
set_option maxRecDepth 100000 in
set_option maxHeartbeats 1600000 in
theorem round_exact (b B p m : Nat) (a e : Int) (neg : Bool) (v : Value) (ws : List Nat) (w : World) (h : FltR w b p m a 1 neg v e) (hB : B ≤ b) (ho : Own w B 112 v (cellsW ws)) (hd : ∀ d ∈ ws, d < 18446744073709551616) (hf : Fits ws p) (h0 : 0 < ws.length) (hl : ws.length ≤ 1000000) (hp0 : 0 < p) (hp : p ≤ 64000000) :
    Calls Try.prog 78 #[.pointer (some ⟨b, 0, none⟩), .int .u64 0] w fun e' w' => e' = .returned (.tuple #[]) ∧ FltR w' b p m 0 1 neg v e ∧ Own w' B 112 v (cellsW ws) ∧ Below B w w' := by
  obtain ⟨c0, c1, c2, c3, c4, c5, c6⟩ := h.cells
  obtain ⟨f0, f1, f2, f3, f4, f5, f6⟩ := h.free
  have c3' : w.cell? ⟨b, 3, none⟩ = some (.int .u8 1) := c3
  have hS := ho.isS
  have hL : sLen v = ws.length := by rw [ho.len, cellsW_length]
  have R2 := h.s2 0
  have O2 := h.own ho 2 (.int .i8 0)
  have B2 := bset (i := 2) (u := .int .i8 0) (Below.refl B w) hB
  obtain ⟨L, hLw⟩ : ∃ L, L = ws.length := ⟨_, rfl⟩
  rw [← hLw] at hL h0 hl
  have HL := Lib.hid hLw
  unfold Fits at hf
  rw [← hLw] at hf
  rcases hf with hf | ⟨hf1, hf2, hf3⟩
  · have t1 : decide ((L : Int) * 64 ≤ p) = true := decide_eq_true (by omega)
    have FR := Lib.hid R2
    have FO := Lib.hid O2
    have FB := Lib.hid B2
    clear c3 h ho hd hLw R2 O2 B2 HL
    go_enter Try.func78, Try.ntmps78
    go_wp2
    refine bodyPost_ret (results_none rfl _ _ _) rfl ?_
    exact ⟨rfl, FR.out, FO.out, FB.out⟩
  · have t1 : decide ((L : Int) * 64 ≤ p) = false := decide_eq_false (by omega)
    have HD := Lib.hid hd
    have HO := Lib.hid ho
    have HR2 := Lib.hid R2
    have HO2 := Lib.hid O2
    have HB2 := Lib.hid B2
    have rwO := Lib.hid (O2.rw' hd)
    have e1 : (L : Int) * 64 - (p : Int) - 1 = ((L * 64 - p - 1 : Nat) : Int) := by omega
    obtain ⟨r, hr⟩ : ∃ r, r = L * 64 - p - 1 := ⟨_, rfl⟩
    rw [← hr] at e1
    have hbit : wv ws / 2 ^ r % 2 = 0 := by
      have e3 : 64 * L - p = r + 1 := by omega
      rw [e3] at hf2
      have := Nat.mod_pow_succ (x := wv ws) (b := 2) (k := r)
      rw [hf2] at this
      have hP : 0 < 2 ^ r := Nat.pow_pos (by decide)
      have h2 : 2 ^ r * (wv ws / 2 ^ r % 2) = 0 := by omega
      exact (Nat.mul_eq_zero.1 h2).resolve_left (by omega)
    have hlow : wv ws % 2 ^ r = 0 := by
      have e3 : 64 * L - p = r + 1 := by omega
      rw [e3] at hf2
      have := Nat.mod_pow_succ (x := wv ws) (b := 2) (k := r)
      omega
    have HBit := Lib.hid hbit
    have HLow := Lib.hid hlow
    have hrl : r < 64 * L := by omega
    have e4 : ((p : Int) + 63) / 64 = (L : Int) := by omega
    have e5 : (L : Int) * 64 - (p : Int) = ((L * 64 - p : Nat) : Int) := by omega
    obtain ⟨t, ht⟩ : ∃ t, t = L * 64 - p := ⟨_, rfl⟩
    rw [← ht] at e5
    have ht64 : t < 64 := by omega
    have e1' : (t : Int) - 1 = (r : Int) := by omega
    clear e1
    have hT64 : 2 ^ t ≤ 9223372036854775808 := Nat.pow_le_pow_right (show 0 < 2 by decide) (show t ≤ 63 by omega)
    have hw2 : IntKind.u64.wrap ((2 : Int) ^ t) = ((2 ^ t : Nat) : Int) := by
      rw [show (2 : Int) ^ t = ((2 ^ t : Nat) : Int) by simp, IntKind.wrap_u64]
      generalize 2 ^ t = T at hT64 ⊢
      omega
    have hT0 : 0 < 2 ^ t := Nat.pow_pos (by decide)
    have hcap : 0 < sCap v := by have := hS.le; omega
    have hne : sBlk v ≠ b := ho.ne_row h (by decide) hcap
    have hcw := (ho.rw' hd).cell 0 (by omega)
    rw [Nat.add_zero] at hcw
    have hzlow : ws.getD 0 0 % 2 ^ t = 0 := by
      rw [← wv_dig hd, wdg_zero_eq, ← word_split (show t ≤ 64 by omega), Nat.mul_comm, Nat.mod_mul_right_mod, show t = 64 * L - p by omega]
      exact hf2
    have han := andNot_low ht64 (getD_ltW hd 0) hzlow
    have hset : (cellsW ws).set 0 (.int .u64 ((ws.getD 0 0 : Nat) : Int)) = cellsW ws := by
      rw [cellsW_set]
      congr 1
      cases ws with
      | nil => rfl
      | cons x xs => rfl
    have O3 := O2.set (i := 0) (by rw [cellsW_length]; omega) (.int .u64 ((ws.getD 0 0 : Nat) : Int))
    rw [hset, Nat.add_zero] at O3
    have R3 : FltR ((w.setCell ⟨b, 2, none⟩ (.int .i8 0)).setCell ⟨sBlk v, sOff v, none⟩ (.int .u64 ((ws.getD 0 0 : Nat) : Int))) b p m 0 1 neg v e := (heap_setCell_other _ _ _ _ (by simpa using fun h => hne h.symm)).trans R2
    have B3 := bset (i := sOff v) (u := .int .u64 ((ws.getD 0 0 : Nat) : Int)) B2 (ho.lt hcap).1
    have fz := ho.frozen hcap (sOff v)
    have g0 := getD_ltW hd 0
    obtain ⟨d0, hd0⟩ : ∃ d, d = ws.getD 0 0 := ⟨_, rfl⟩
    rw [← hd0] at hcw han O3 R3 B3 g0
    obtain ⟨T, hT⟩ : ∃ T, T = 2 ^ t := ⟨_, rfl⟩
    rw [← hT] at hw2 hT0 han hT64
    have hT1 : (T : Int) - 1 = ((T - 1 : Nat) : Int) := by omega
    have hne1 : ¬ sBlk v = b := hne
    have hne2 : ¬ b = sBlk v := fun h => hne h.symm
    have FR := Lib.hid R3
    have FO := Lib.hid O3
    have FB := Lib.hid B3
    have z1 : bits .and .u64 0 1 = 0 := by decide +kernel
    have z2 : (bits .or .u64 0 0 != 0) = false := by decide +kernel
    have t2 : decide ((L : Int) < L) = false := decide_eq_false (by omega)
    have HF3 := Lib.hid hf3
    have Hr := Lib.hid hr
    clear hbit hlow hf3 hr hLw hf2 ho hd h R2 O2 B2 c3 ht hzlow hset O3 R3 B3 hd0 hT hne
    go_enter Try.func78, Try.ntmps78
    go_wp2_with fail
    refine (bit_any v ws r _ rwO.out (by rw [← HL.out]; exact hrl) (by rw [← HL.out]; omega)).mono ?_
    rintro _ _ ⟨rfl, rfl⟩
    rw [HBit.out]
    go_wp2_with fail
    refine (sticky_any v ws r _ rwO.out (by rw [← HL.out]; exact hrl) (by rw [← HL.out]; omega)).mono ?_
    rintro _ _ ⟨rfl, rfl⟩
    rw [stV_zero HLow.out]
    go_wp2
    go_end0
    exact ⟨rfl, FR.out, FO.out, FB.out⟩
end Go.Proofs.Ytlgnaioodnhkjaa

/-
Floats: setExpAndRound where nothing is rounded; SetInt of a new receiver. No condition.
-/
namespace Go.Proofs.Ytlgnaioodnhkjaa
open Go.RowKit

set_option maxRecDepth 100000 in
set_option maxHeartbeats 800000 in
theorem setExp_exact (b B p m f : Nat) (a e x : Int) (neg : Bool) (v : Value) (ws : List Nat) (w : World) (h : FltR w b p m a f neg v e) (hB : B ≤ b) (ho : Own w B 112 v (cellsW ws)) (hd : ∀ d ∈ ws, d < 18446744073709551616) (hf : Fits ws p) (h0 : 0 < ws.length) (hl : ws.length ≤ 1000000) (hp0 : 0 < p) (hp : p ≤ 64000000)
    (hx1 : -2147483648 ≤ x) (hx2 : x ≤ 2147483647) :
    Calls Try.prog 93 #[.pointer (some ⟨b, 0, none⟩), .int .i64 x, .int .u64 0] w fun e' w' => e' = .returned (.tuple #[]) ∧ FltR w' b p m 0 1 neg v x ∧ Own w' B 112 v (cellsW ws) ∧ Below B w w' := by
  obtain ⟨c0, c1, c2, c3, c4, c5, c6⟩ := h.cells
  obtain ⟨f0, f1, f2, f3, f4, f5, f6⟩ := h.free
  have hS := ho.isS
  have R2 := Lib.hid ((h.s3 1).s6 x)
  have O2 := Lib.hid ((h.s3 1).own (h.own ho 3 (.int .u8 (1 : Int))) 6 (.int .i32 x))
  have B2 := Lib.hid (bset (i := 6) (u := .int .i32 x) (bset (i := 3) (u := .int .u8 (1 : Int)) (Below.refl B w) hB) hB)
  have HD := Lib.hid hd
  have HF := Lib.hid hf
  clear h ho hd hf
  go_enter Try.func93, Try.ntmps93
  go_wp2_with fail
  refine (round_exact b B p m a x neg v ws _ R2.out hB O2.out HD.out HF.out h0 hl hp0 hp).mono ?_
  rintro _ w1 ⟨rfl, r1, r2, r3⟩
  have Q := Lib.hid (⟨r1, r2, B2.out.trans r3⟩ : FltR w1 b p m 0 1 neg v x ∧ Own w1 B 112 v (cellsW ws) ∧ Below B w w1)
  clear r1 r2 r3
  go_wp2
  go_end0
  exact ⟨rfl, Q.out⟩
theorem nw_bl {n : Nat} (h : 0 < n) : nw n = (bl n + 63) / 64 := by
  have e := bl_words h
  have h1 := bl_le64 (wdg_lt n (nw n - 1))
  have h2 := bl_pos (Nat.pos_of_ne_zero (wdg_last h))
  have h3 := nw_pos h
  omega
/-- The mantissa of a number: its bits at the top of its words. -/
def topN (M : Nat) : List Nat := wdsN (M * 2 ^ (64 * nw M - bl M)) (nw M)
theorem topN_length (M : Nat) : (topN M).length = nw M := wdsN_length _ _
theorem topN_wv {M : Nat} (h : 0 < M) : wv (topN M) = M * 2 ^ (64 * nw M - bl M) := by
  have hb := nw_bl h
  have hbp := bl_pos h
  unfold topN
  rw [wdsN_wv]
  refine Nat.mod_eq_of_lt ?_
  have e : (18446744073709551616 : Nat) ^ nw M = 2 ^ bl M * 2 ^ (64 * nw M - bl M) := by rw [show (18446744073709551616 : Nat) = 2 ^ 64 from rfl, ← Nat.pow_mul, ← Nat.pow_add]; congr 1; omega
  rw [e]
  exact Nat.mul_lt_mul_of_pos_right (lt_bl M) (Nat.pow_pos (by decide))
theorem topN_fits {M p : Nat} (h : 0 < M) (hp : bl M ≤ p) : Fits (topN M) p := by
  have hb := nw_bl h
  have hbp := bl_pos h
  unfold Fits
  rw [topN_length, topN_wv h]
  by_cases hc : 64 * nw M ≤ p
  · exact .inl hc
  · refine .inr ⟨by omega, ?_, by omega⟩
    have e : 64 * nw M - bl M = (64 * nw M - p) + (p - bl M) := by omega
    rw [e, Nat.pow_add, ← Nat.mul_assoc, Nat.mul_comm M, Nat.mul_assoc]
    exact Nat.mul_mod_right _ _
set_option maxRecDepth 100000 in
set_option maxHeartbeats 1600000 in
theorem setInt_exact (b B c Bc p m M : Nat) (a e : Int) (neg0 : Bool) (w : World) (h : FltR w b p m a 0 neg0 (.slice none 0 0) e) (hB : B ≤ b) (hx : IntP w Bc c false M) (hbc : b ≠ c) (h0 : 0 < M) (hM : bl M ≤ p) (hp : p ≤ 64000000) :
    Calls Try.prog 96 #[.pointer (some ⟨b, 0, none⟩), .pointer (some ⟨c, 0, none⟩)] w fun e' w' => e' = .returned (.pointer (some ⟨b, 0, none⟩)) ∧ ∃ v, FltR w' b p m 0 1 false v (bl M : Nat) ∧ Own w' B 112 v (cellsW (topN M)) ∧ Below B w w' := by
  obtain ⟨vx, hcB, hrc, hox⟩ := hx
  have hbp := bl_pos h0
  have hnb := nw_bl h0
  have hnp := nw_pos h0
  have hblt := h.lt
  obtain ⟨c0, c1, c2, c3, c4, c5, c6⟩ := h.cells
  obtain ⟨f0, f1, f2, f3, f4, f5, f6⟩ := h.free
  have d0 : w.cell? ⟨c, 0, none⟩ = some (.bool false) := (row_at (i := 0) hrc rfl).1
  have d1 : w.cell? ⟨c, 1, none⟩ = some vx := (row_at (i := 1) hrc rfl).1
  have hS := hox.isS
  have hLx : sLen vx = nw M := by rw [hox.len, cellsW_length, wds_length]
  have hbc1 : ¬ b = c := hbc
  have hbc2 : ¬ c = b := fun h => hbc h.symm
  have tp : ((p : Int) == 0) = false := by rw [beq_eq_false_iff_ne]; omega
  have tl : ((nw M : Int) == 0) = false := by rw [beq_eq_false_iff_ne]; omega
  have R4 := Lib.hid ((h.s2 0).s4 false)
  have V4 := Lib.hid (((h.s2 0).own (h.own hox 2 (.int .i8 0)) 4 (.bool false)).rw' (wds_all M))
  have B4 := Lib.hid (bset (i := 4) (u := .bool false) (bset (i := 2) (u := .int .i8 0) (Below.refl B w) hB) hB)
  have VX := Lib.hid (hox.rw' (wds_all M))
  have HT := Lib.hid (topN_fits h0 hM)
  have H0 := Lib.hid h0
  obtain ⟨L, hL⟩ : ∃ L, L = nw M := ⟨_, rfl⟩
  obtain ⟨l, hl⟩ : ∃ l, l = bl M := ⟨_, rfl⟩
  rw [← hL] at hLx tl hnp hnb
  rw [← hl] at hM hbp hnb ⊢
  have hLl : L ≤ 1000000 := by omega
  have HL := Lib.hid hL
  have Hl := Lib.hid hl
  clear h hrc hox h0 hL hl hnb
  go_enter Try.func96, Try.ntmps96
  go_wp2_with fail
  refine (intBitLen c 0 vx M w d1 VX.out (by rw [← HL.out]; omega)).mono ?_
  rintro _ _ ⟨rfl, rfl⟩
  rw [← Hl.out]
  go_wp2
  (refine wp_region_hoist 9 (by kernel_rfl) (by kernel_rfl) ⟨fun _ _ _ h => (by first | exact (hQp _ _ _ h).elim | cases h.2.1 | (obtain ⟨_, h3, _⟩ := h.2; cases h3)), fun _ _ h => (by first | exact (hQo _ _ h).elim | cases h.1 | (obtain ⟨_, h3, _⟩ := h; cases h3))⟩ ?_; simp only [List.take_succ_cons, List.take_zero, List.drop_succ_cons, List.drop_zero]; (repeat (go_big_quiet_step (fail))); refine wpQuiet_nil ?_; rintro _ ⟨nq, rfl⟩)
  go_wp2_with fail
  refine (set_nil vx (wds M) _ (V4.out.drewN _) (by rw [wds_length, ← HL.out]; omega)).mono ?_
  rintro _ w5 ⟨r, rfl, ho, hb⟩
  have hSr := ho.isS
  have hb' := undrewN hb
  have R5 := R4.out.below hb'
  have B5 := B4.out.trans (hb'.mono (by simp; omega))
  have O5 : Own w5 B 112 r (cellsW (wds M)) := ho.mono (show B ≤ _ by simp; omega)
  obtain ⟨g0, g1, g2, g3, g4, g5, g6⟩ := R5.cells
  obtain ⟨k0, k1, k2, k3, k4, k5, k6⟩ := R5.free
  have R6 := Lib.hid (R5.s5 r)
  have O6 := Lib.hid (R5.own O5 5 r)
  have B6 := Lib.hid (bset (i := 5) (u := r) B5 hB)
  clear ho hb hb' R5 B5 O5 c0 c1 c2 c3 c4 c5 c6 f0 f1 f2 f3 f4 f5 f6
  go_wp2_with fail
  refine (fnorm_any r M B _ O6.out H0.out (by rw [← HL.out]; omega)).mono ?_
  rintro _ w7 ⟨⟨z, rfl⟩, ho7, hb7, hon7⟩
  have hcap : 0 < sCap r := by
    have h1 := hSr.le
    have h2 : sLen r = nw M := by rw [O6.out.len, cellsW_length, wds_length]
    have := HL.out
    omega
  have hrb := O6.out.ne_row R6.out (by decide) hcap
  have R7 : FltR w7 b p m 0 0 false r e := (hon7 b R6.out.lt hrb.symm).trans R6.out
  have HR7 := Lib.hid R7
  have HO7 := Lib.hid ho7
  have B7 := Lib.hid (B6.out.trans hb7)
  clear R7 ho7 hb7 hon7 hrb g0 g1 g2 g3 g4 g5 g6 k0 k1 k2 k3 k4 k5 k6
  go_wp2_with fail
  refine (setExp_exact b B p m 0 0 e (l : Int) false r (topN M) w7 HR7.out hB HO7.out wdsN_lt HT.out (by rw [topN_length, ← HL.out]; exact hnp) (by rw [topN_length, ← HL.out]; exact hLl) (by omega) hp (by omega) (by omega)).mono ?_
  rintro _ w8 ⟨rfl, r1, r2, r3⟩
  have Q := Lib.hid (⟨r1, r2, B7.out.trans r3⟩ : FltR w8 b p m 0 1 false r (l : Int) ∧ Own w8 B 112 r (cellsW (topN M)) ∧ Below B w w8)
  clear r1 r2 r3
  go_wp2
  go_ret
  exact ⟨rfl, r, Q.out⟩
end Go.Proofs.Ytlgnaioodnhkjaa
