/-
Texts of this proof, joined: RgC WdB WdC CmA WdD WdE FlA DvA InA InB. No condition.
-/
import Derived.Test.YtoddjkpckpekcaaGreatDoorK01
import Derived.Test.YtoddjkpckpekcaaGreatDoorK03
import Derived.Laws.Cover2
import Derived.Laws.CopyOwn
namespace Go.Proofs.YtoddjkpckpekcaaGreatDoor
open Go.RowKit

def f64P (M : Nat) : Nat := (bl M + 1022) * 4503599627370496 + (M * 2 ^ (53 - bl M) - 4503599627370496)
theorem f64_top {M : Nat} (h0 : 0 < M) (hM : M < 9007199254740992) : 4503599627370496 ≤ M * 2 ^ (53 - bl M) ∧ M * 2 ^ (53 - bl M) < 9007199254740992 ∧ bl M ≤ 53 ∧ 1 ≤ bl M := by
  have hbl : bl M ≤ 53 := bl_le (k := 53) hM
  have hbp := bl_pos h0
  have h1 := bl_mul h0 (53 - bl M)
  have h2 := lt_bl (M * 2 ^ (53 - bl M))
  have h3 := bl_ge (Nat.mul_pos h0 (Nat.two_pow_pos (53 - bl M)))
  rw [h1, show bl M + (53 - bl M) = 53 by omega] at h2 h3
  exact ⟨h3, h2, hbl, hbp⟩
theorem foi {M : Nat} (h0 : 0 < M) (hM : M < 9007199254740992) : floatOfInt .f64 (M : Int) = f64P M := by
  obtain ⟨h1, h2, h3, h4⟩ := f64_top h0 hM
  have hlg := log2_bl h0
  unfold floatOfInt FloatKind.nearest FloatKind.encode
  rw [f64_fmt]
  simp only [Ieee.Format.write]
  rw [decide_eq_false (by omega), Int.natAbs_natCast]
  unfold Ieee.Format.nearest
  rw [if_neg (by omega), show M.log2 = bl M - 1 by omega, dbl_lp, show Ieee.double.fractionBits = 52 from rfl, dbl_bn, dbl_inf]
  have hlast : max ((0 : Int) + ((bl M - 1 : Nat) : Int) - ((52 : Nat) : Int)) (-1074) = (bl M : Int) - 53 := by omega
  simp only [hlast]
  rw [show ((0 : Int) - ((bl M : Int) - 53)).toNat = 53 - bl M by omega, show ((bl M : Int) - 53 - 0).toNat = 0 by omega, show ((bl M : Int) - 53 - -1074).toNat = bl M + 1021 by omega, Nat.shiftLeft_eq]
  have hc := even_cut false (M * 2 ^ (53 - bl M)) 0 (by omega)
  rw [Nat.pow_zero, Nat.mul_one] at hc
  rw [hc, Nat.min_eq_left (by omega)]
  unfold Ieee.Format.word f64P
  rw [dbl_sw]
  simp
  omega
set_option maxRecDepth 100000 in
set_option maxHeartbeats 800000 in
theorem mLdexp0 (b r : Nat) (E : Int) (w : World) (h : Calls Tryz.prog 141 #[.float .f64 b, .int .i64 E] w fun e w' => e = .returned (.float .f64 r) ∧ w = w') :
    Calls Tryz.prog 109 #[.float .f64 b, .int .i64 E] w fun e w' => e = .returned (.float .f64 r) ∧ w = w' := by
  have H := Lib.hid h
  clear h
  go_enter Tryz.func109, Tryz.ntmps109
  go_wp2_with fail
  refine H.out.mono ?_
  rintro _ _ ⟨rfl, rfl⟩
  go_wp2
  go_ret
  exact ⟨rfl, rfl⟩
theorem mLdexp (M : Nat) (E : Int) (w : World) (h0 : 0 < M) (hM : M < 9007199254740992) (hE : -1074 ≤ E) (hE2 : E ≤ 100000) (hn : E = -1074 ∨ 4503599627370496 ≤ M) :
    Calls Tryz.prog 109 #[.float .f64 (f64P M), .int .i64 E] w fun e w' => e = .returned (.float .f64 (min ((E + 1074).toNat * 4503599627370496 + M) 9218868437227405312)) ∧ w = w' := by
  obtain ⟨h1, h2, h3, h4⟩ := f64_top h0 hM
  obtain ⟨F, hF⟩ := Nat.exists_eq_add_of_le h1
  have hP : f64P M = (bl M + 1022) * 4503599627370496 + F := by unfold f64P; omega
  rw [hP]
  by_cases hb : 4503599627370496 ≤ M
  · have hbl : bl M = 53 := bl_of (k := 52) hb hM
    have hFM : F = M - 4503599627370496 := by rw [hbl, Nat.sub_self, Nat.pow_zero, Nat.mul_one] at hF; omega
    by_cases hc : E ≤ 971
    · obtain ⟨k, hk⟩ := Int.eq_ofNat_of_zero_le (show 0 ≤ E + 1075 by omega)
      have := mLdexp0 _ _ E w (mldexp_mid (bl M + 1022) F k E w (by omega) (by omega) (by omega) (by omega) (by omega) (by omega))
      rw [show k * 4503599627370496 + F = min ((E + 1074).toNat * 4503599627370496 + M) 9218868437227405312 by omega] at this
      exact this
    · have := mLdexp0 _ _ E w (mldexp_inf (bl M + 1022) F E w (by omega) (by omega) (by omega) (by omega) (by omega))
      rw [show min ((E + 1074).toNat * 4503599627370496 + M) 9218868437227405312 = 9218868437227405312 by omega]
      exact this
  · have hE' : E = -1074 := by omega
    have hbl : bl M ≤ 52 := bl_le (k := 52) (by omega)
    have := mLdexp0 _ _ E w (mldexp_low M (bl M + 1022) F (bl M + 1) E w (by omega) (by omega) (by omega) h0 (by omega) hF.symm rfl rfl hE')
    rw [show min ((E + 1074).toNat * 4503599627370496 + M) 9218868437227405312 = M by omega]
    exact this
theorem wv_take_succ {ws : List Nat} {i : Nat} (h : i < ws.length) : wv (ws.take (i + 1)) = wv (ws.take i) + 18446744073709551616 ^ i * ws.getD i 0 := by
  rw [List.take_succ_eq_append_getElem h, wv_snoc]
  simp [List.getD_eq_getElem?_getD, List.getElem?_eq_getElem h, Nat.min_eq_left (Nat.le_of_lt h)]
def OfRel (ws : List Nat) (B i d k : Nat) (w : World) (v : Value) (wr : World) : Prop :=
  ∃ os : List Nat, Own wr B 3 v (cellsN os) ∧ os.length = 4 * i + k ∧ (∀ d ∈ os, d < 65536) ∧ val os = wv (ws.take i) + 65536 ^ (4 * i) * (d % 65536 ^ k) ∧ Below B w wr
theorem OfRel.step {ws : List Nat} {B i d k : Nat} {w w1 : World} {v1 : Value} {os : List Nat} (hl : os.length = 4 * i + k) (hd : ∀ d ∈ os, d < 65536) (hv : val os = wv (ws.take i) + 65536 ^ (4 * i) * (d % 65536 ^ k))
    (ho : Own w1 B 3 v1 (cellsN os ++ [.int .i64 ((dig d k : Nat) : Int)])) (hb : Below B w w1) : OfRel ws B i d (k + 1) w v1 w1 := by
  rw [cellsN_snoc] at ho
  refine ⟨_, ho, by simp [hl]; omega, ?_, ?_, hb⟩
  · intro z hz
    rcases List.mem_append.1 hz with h | h
    · exact hd z h
    · rw [List.mem_singleton.1 h]; exact dig_lt d k
  · rw [val_snoc, hl, hv, mod_succ, Nat.pow_add]; grind
theorem OfRel.next {ws : List Nat} {B i : Nat} {w wr : World} {v : Value} (hi : i < ws.length) (hd : ws.getD i 0 < 18446744073709551616) (h : OfRel ws B i (ws.getD i 0) 4 w v wr) : OfRel ws B (i + 1) 0 0 w v wr := by
  obtain ⟨os, h1, h2, h3, h4, h5⟩ := h
  refine ⟨os, h1, by omega, h3, ?_, h5⟩
  rw [h4, wv_take_succ hi, wpow, Nat.mod_eq_of_lt (show ws.getD i 0 < 65536 ^ 4 by exact hd)]; simp
theorem and16 {m : Nat} (hm : m < 18446744073709551616) : bits .and .u64 (m : Int) 65535 = ((m % 65536 : Nat) : Int) := by
  rw [show (65535 : Int) = ((65535 : Nat) : Int) from rfl, bits_and_u64_nat _ _ hm (by decide), show (65535 : Nat) = 2 ^ 16 - 1 from rfl, Nat.and_two_pow_sub_one_eq_mod]
set_option maxRecDepth 100000 in
set_option maxHeartbeats 800000 in
theorem spOf (a : Value) (ws : List Nat) (w : World) (ha : RW w a ws) (hl : ws.length ≤ 200000000) :
    Calls Tryz.prog 27 #[a] w fun e w' => ∃ r, e = .returned r ∧ NPost (wv ws) w r w' := by
  have hSa := ha.isS
  have hLa := ha.len
  obtain ⟨la, hla⟩ : ∃ la, la = ws.length := ⟨_, rfl⟩
  rw [← hla] at hLa hl
  have Hla := Lib.hid hla
  have Ha := Lib.hid ha
  clear hla ha
  go_enter Tryz.func27, Tryz.ntmps27
  go_wp2
  go_loopw [3, 10] (fun v i wr => ∃ k : Nat, k ≤ la ∧ i = .int .i64 k ∧ OfRel ws w.heap.size k 0 0 w v wr) (fun _ i _ => la - (intOf i).toNat)
  case atStart => exact ⟨0, Nat.zero_le _, rfl, [], Own.zero _ _ _ _ _, by simp, by simp, by simp [val, wv], (Below.refl _ _).alloc (Nat.le_refl _) _⟩
  case round =>
    obtain ⟨i, hi, rfl, hM⟩ := hrel
    have hbl : Below w.heap.size w wr := by obtain ⟨_, _, _, _, _, h⟩ := hM; exact h
    have hSo : IsS u3 := by obtain ⟨_, h, _, _, _, _⟩ := hM; exact h.isS
    have HM := Lib.hid hM
    clear hM
    by_cases hia : i < la
    · have ca := (Ha.out.below hbl).cell i (by rw [← Hla.out]; exact hia)
      have g1 := getD_ltW Ha.out.lt i
      obtain ⟨d, hd⟩ : ∃ d, d = ws.getD i 0 := ⟨_, rfl⟩
      rw [← hd] at ca g1
      have Hd := Lib.hid hd
      clear hd
      go_wp2
      go_loopw [3, 6] (fun v i' wr => ∃ k : Nat, k ≤ 4 ∧ i' = .int .i64 k ∧ OfRel ws w.heap.size i d k w v wr) (fun _ i' _ => 4 - (intOf i').toNat)
      case atStart =>
        obtain ⟨os, h1, h2, h3, h4, h5⟩ := HM.out
        exact ⟨0, by decide, rfl, os, h1, by omega, h3, by rw [h4]; simp [Nat.mod_one], h5⟩
      case round =>
        clear ca
        obtain ⟨k, hk, rfl, os, ho, hol, hod, hov, hb2⟩ := hrel
        have hbz := hb2.size
        have Hol := Lib.hid hol
        have Hod := Lib.hid hod
        have Hov := Lib.hid hov
        have Hcl := Lib.hid (cellsN_length os)
        have hSo2 := ho.isS
        clear hod hov hol
        by_cases hk4 : k < 4
        · have hp : (2 : Int) ^ (16 * k) = ((65536 ^ k : Nat) : Int) := by rw [pow16]; simp
          have hdm : d / 65536 ^ k ≤ d := Nat.div_le_self _ _
          have hq : (d : Int) / ((65536 ^ k : Nat) : Int) = ((d / 65536 ^ k : Nat) : Int) := by simp
          have han := and16 (m := d / 65536 ^ k) (by omega)
          have hdg : d / 65536 ^ k % 65536 = dig d k := rfl
          have hdl := dig_lt d k
          rw [hdg] at han
          have HT : ∀ (v1 : Value) (w1 : World), Own w1 w.heap.size 3 v1 (cellsN os ++ [.int .i64 ((dig d k : Nat) : Int)]) → Below w.heap.size w w1 → OfRel ws w.heap.size i d (k + 1) w v1 w1 := fun v1 w1 h1 h2 => OfRel.step Hol.out Hod.out Hov.out h1 h2
          have hTT := Lib.hid HT
          obtain ⟨g, hg⟩ : ∃ g, g = dig d k := ⟨_, rfl⟩
          rw [← hg] at han hdl hTT
          obtain ⟨P, hP⟩ : ∃ P, P = 65536 ^ k := ⟨_, rfl⟩
          rw [← hP] at hp hq hdm han
          obtain ⟨q, hq'⟩ : ∃ q, q = d / P := ⟨_, rfl⟩
          rw [← hq'] at hq hdm han
          clear hdg hg hP hq' HT
          have hos : os.length ≤ 1000000000 := by have := Hol.out; omega
          go_wp2_with (at_builtin; refine wpList_append_O rfl _ _ _ _ rfl elemN w.heap.size _ _ rfl (ho.alloc _) _ rfl 1 [.int .i64 (g : Int)] (srcOne Tryz.underlying29 wr _ _) ?c3 ?c4 ?c5 ?_)
          case c3 => rw [Hcl.out]; unfold maxLen; omega
          case c4 => rw [Hcl.out]; omega
          case c5 => simp; omega
          rintro v1 w1 ho1 hb1 - - -
          have hs := hTT.out v1 w1 ho1 ((hb2.alloc hbz _).trans hb1)
          have Hs := Lib.hid hs
          clear hs ho1
          go_wp2
          go_roundw
          case rel => exact ⟨k + 1, by omega, by go_num, Hs.out⟩
          case measure => simp [intOf]; omega
        · have hk' : k = 4 := by omega
          subst hk'
          have M2 : OfRel ws w.heap.size (i + 1) 0 0 w u3 wr := OfRel.next (by rw [← Hla.out]; exact hia) (getD_ltW Ha.out.lt i) (by rw [← Hd.out]; exact ⟨os, ho, Hol.out, Hod.out, Hov.out, hb2⟩)
          have HM2 := Lib.hid M2
          clear M2
          go_wp2
          go_roundw
          case rel => exact ⟨i + 1, by omega, by go_num, HM2.out⟩
          case measure => simp [intOf]; omega
    · have hil : i = la := by omega
      subst hil
      obtain ⟨os, h1, h2, h3, h4, h5⟩ := HM.out
      have Ho := Lib.hid h1
      have Hl := Lib.hid h2
      have Hd := Lib.hid h3
      have Hv := Lib.hid h4
      clear h1 h2 h3 h4 h5
      go_wp2_with fail
      refine (spTrim _ os wr Ho.out.rl Hd.out (by rw [Hl.out]; omega)).mono ?_
      rintro _ _ ⟨r, rfl, hr, rfl⟩
      have Hr := Lib.hid hr
      clear hr
      go_wp2
      go_ret
      refine ⟨_, rfl, ?_, hbl⟩
      have e : wv ws = val os := by
        rw [Hv.out, List.take_of_length_le (by rw [Hla.out]; exact Nat.le_refl _)]; simp
      rw [e]; exact Hr.out
def WdRel (x B i : Nat) (w : World) (v : Value) (wr : World) : Prop :=
  ∃ ws : List Nat, Own wr B 83 v (cellsW ws) ∧ ws.length = (i + 3) / 4 ∧ (∀ d ∈ ws, d < 18446744073709551616) ∧ wv ws = x % 65536 ^ i ∧ Below B w wr
theorem pow_split4 (i : Nat) : (65536 : Nat) ^ i = 18446744073709551616 ^ (i / 4) * 65536 ^ (i % 4) := by
  rw [wpow, ← Nat.pow_add, Nat.div_add_mod]
theorem or_low {o d P : Nat} {r : Nat} (hP : P = 65536 ^ r) (ho : o < P) : o ||| d * P = o + d * P := by
  have e : P = 2 ^ (16 * r) := by rw [hP, pow16]
  have h := Nat.two_pow_add_eq_or_of_lt (i := 16 * r) (b := o) (by rw [← e]; exact ho) d
  rw [← e] at h
  rw [Nat.or_comm, Nat.mul_comm d P, ← h]; omega
theorem wd_word {x i : Nat} {ws : List Nat} (_hl : ws.length = i / 4 + 1) (hd : ∀ d ∈ ws, d < 18446744073709551616) (hv : wv ws = x % 65536 ^ i) : ws.getD (i / 4) 0 < 65536 ^ (i % 4) := by
  rw [← wv_dig hd, hv]
  have h1 := Nat.mod_lt x (pow_pos i)
  rw [pow_split4 i] at h1
  unfold wdg
  refine Nat.lt_of_le_of_lt (Nat.mod_le _ _) (Nat.div_lt_of_lt_mul ?_)
  rw [pow_split4 i]
  exact h1
theorem WdRel.step {x B i : Nat} {w wr : World} {v : Value} {ws : List Nat} (ho : Own wr B 83 v (cellsW ws)) (hl : ws.length = i / 4 + 1) (hd : ∀ d ∈ ws, d < 18446744073709551616) (hv : wv ws = x % 65536 ^ i) (hb : Below B w wr) :
    WdRel x B (i + 1) w v (wr.setCell ⟨sBlk v, sOff v + i / 4, none⟩ (.int .u64 ((ws.getD (i / 4) 0 ||| dig x i * 65536 ^ (i % 4) : Nat) : Int))) := by
  have hw := wd_word hl hd hv
  have hdl := dig_lt x i
  rw [or_low rfl hw]
  have hp : 65536 ^ (i % 4) * 65536 ≤ 18446744073709551616 := by
    rw [← Nat.pow_succ]
    exact Nat.pow_le_pow_right (show 0 < 65536 by decide) (show i % 4 + 1 ≤ 4 by omega)
  have hlt : ws.getD (i / 4) 0 + dig x i * 65536 ^ (i % 4) < 18446744073709551616 := by
    have : (dig x i + 1) * 65536 ^ (i % 4) ≤ 65536 * 65536 ^ (i % 4) := Nat.mul_le_mul_right _ hdl
    rw [Nat.add_mul, Nat.one_mul] at this
    omega
  have s1 := ho.set (i := i / 4) (by rw [cellsW_length]; omega) (.int .u64 ((ws.getD (i / 4) 0 + dig x i * 65536 ^ (i % 4) : Nat) : Int))
  rw [cellsW_set] at s1
  have hl2 := ho.len
  rw [cellsW_length] at hl2
  have hcp := ho.isS.le
  refine ⟨_, s1, by simp; omega, ?_, ?_, bset hb (ho.lt (by omega)).1⟩
  · intro z hz'
    rcases List.mem_or_eq_of_mem_set hz' with h | h
    · exact hd z h
    · rw [h]; exact hlt
  · have e1 := wv_set (a := ws) (i := i / 4) (by omega) (ws.getD (i / 4) 0 + dig x i * 65536 ^ (i % 4))
    rw [mod_succ, ← hv, pow_split4 i]
    generalize wv (ws.set _ _) = V at *
    generalize ws.getD (i / 4) 0 = o at *
    generalize dig x i = d at *
    generalize (18446744073709551616 : Nat) ^ (i / 4) = A at *
    generalize (65536 : Nat) ^ (i % 4) = P at *
    grind
def WPost (ws : List Nat) (w : World) (v : Value) (w' : World) : Prop := RW w' v ws ∧ Below w.heap.size w w'
set_option maxRecDepth 100000 in
set_option maxHeartbeats 800000 in
theorem spWords (a : Value) (x : Nat) (w : World) (ha : NatV w a x) (hx : nl x ≤ 1000000000) :
    Calls Tryz.prog 74 #[a] w fun e w' => ∃ r, e = .returned r ∧ WPost (wds x) w r w' := by
  have hSa := ha.isS
  have hLa := ha.len
  obtain ⟨la, hla⟩ : ∃ la, la = nl x := ⟨_, rfl⟩
  rw [← hla] at hLa hx
  have Hla := Lib.hid hla
  have Ha := Lib.hid ha
  clear hla ha
  go_enter Tryz.func74, Tryz.ntmps74
  go_wp2
  go_loopw [3, 9] (fun v i wr => ∃ k : Nat, k ≤ la ∧ i = .int .i64 k ∧ WdRel x w.heap.size k w v wr) (fun _ i _ => la - (intOf i).toNat)
  case atStart => exact ⟨0, Nat.zero_le _, rfl, [], Own.zero _ _ _ _ _, by simp, by simp, by simp [wv, Nat.mod_one], (Below.refl _ _).alloc (Nat.le_refl _) _⟩
  case round =>
    obtain ⟨i, hi, rfl, ws, ho, hol, hod, hov, hbl⟩ := hrel
    have hbz := hbl.size
    have hSo := ho.isS
    by_cases hia : i < la
    · have ca := (Ha.out.below hbl).cell i (by rw [← Hla.out]; exact hia)
      have g1 := dig_lt x i
      have hdX : ∃ d, d = dig x i := ⟨_, rfl⟩
      obtain ⟨d, hd⟩ := hdX
      rw [← hd] at ca g1
      have Hd := Lib.hid hd
      clear hd
      obtain ⟨q, hq⟩ : ∃ q, q = i / 4 := ⟨_, rfl⟩
      obtain ⟨r, hr⟩ : ∃ r, r = i % 4 := ⟨_, rfl⟩
      have e1 : (i : Int) / 4 = (q : Int) := by omega
      have e2 : (i : Int) % 4 = (r : Int) := by omega
      have hqi : q ≤ i := by omega
      have hr4 : r < 4 := by omega
      have Hq := Lib.hid hq
      have Hr := Lib.hid hr
      have Hol := Lib.hid hol
      have Hod := Lib.hid hod
      have Hov := Lib.hid hov
      have Hcl := Lib.hid (cellsW_length ws)
      have hwl : ws.length ≤ 1000000000 := by omega
      by_cases h0 : r = 0
      · have t1 : ((r : Int) == 0) = true := by rw [beq_iff_eq]; omega
        have hlq : ws.length = q := by omega
        have Hlq := Lib.hid hlq
        clear h0 hq hr hol hod hov hlq
        go_wp2_with (at_builtin; refine wpList_append_O rfl _ _ _ _ rfl elemU w.heap.size _ _ rfl (ho.alloc _) _ rfl 1 [.int .u64 (0 : Int)] (srcOne Tryz.underlying22 wr _ _) ?c3 ?c4 ?c5 ?_)
        case c3 => rw [Hcl.out]; unfold maxLen; omega
        case c4 => rw [Hcl.out]; omega
        case c5 => simp; omega
        rintro v1 w1 ho1 hb1 - - -
        rw [show cellsW ws ++ [Value.int .u64 (0 : Int)] = cellsW (ws ++ [0]) by simp [cellsW]] at ho1
        have HO := Lib.hid ho1
        have HL : Hid ((ws ++ [0]).length = q + 1) := Lib.hid (by have := Hlq.out; simp; omega)
        have HDD : Hid (∀ d ∈ ws ++ [0], d < 18446744073709551616) := Lib.hid (by
          intro z hz
          rcases List.mem_append.1 hz with h | h
          · exact Hod.out z h
          · rw [List.mem_singleton.1 h]; decide)
        have HV : Hid (wv (ws ++ [0]) = x % 65536 ^ i) := Lib.hid (by rw [wv_snoc, Hov.out]; omega)
        have HB : Hid (Below w.heap.size w w1) := Lib.hid ((hbl.alloc hbz _).trans hb1)
        have cap1 : 0 < sCap v1 := by have := HO.out.isS.le; rw [HO.out.len, cellsW_length] at this; have := HL.out; omega
        have fz := HO.out.frozen cap1 (sOff v1 + q)
        have co := (HO.out.rw' HDD.out).cell q (by rw [HL.out]; omega)
        have hwd := wd_word (by rw [← Hq.out]; exact HL.out) HDD.out HV.out
        have hSv := HO.out.isS
        have hLv : sLen v1 = q + 1 := by rw [HO.out.len, cellsW_length]; exact HL.out
        rw [← Hq.out, ← Hr.out] at hwd
        obtain ⟨o, ho'⟩ : ∃ o, o = (ws ++ [0]).getD q 0 := ⟨_, rfl⟩
        rw [← ho'] at co hwd
        have hp : (2 : Int) ^ (16 * r) = ((65536 ^ r : Nat) : Int) := by rw [pow16]; simp
        have hPb : 65536 ^ r ≤ 281474976710656 := Nat.pow_le_pow_right (show 0 < 65536 by decide) (show r ≤ 3 by omega)
        obtain ⟨P, hP⟩ : ∃ P, P = 65536 ^ r := ⟨_, rfl⟩
        rw [← hP] at hp hPb hwd
        have hmb : d * P ≤ 65535 * 281474976710656 := Nat.mul_le_mul (by omega) hPb
        obtain ⟨m, hm⟩ : ∃ m, m = d * P := ⟨_, rfl⟩
        rw [← hm] at hmb
        have hdm : (d : Int) * (P : Int) = (m : Int) := by rw [hm]; simp
        have hor := bits_or_u64_nat o m (by omega) (by omega)
        obtain ⟨z, hz⟩ : ∃ z, z = o ||| m := ⟨_, rfl⟩
        rw [← hz] at hor
        have st : ∀ n, WdRel x w.heap.size (i + 1) w v1 ((w1.drewN n).setCell ⟨sBlk v1, sOff v1 + q, none⟩ (.int .u64 (z : Int))) := fun n => by
          have := WdRel.step (HO.out.drewN n) (by rw [← Hq.out]; exact HL.out) HDD.out HV.out (undrewN' HB.out)
          rw [← Hq.out, ← Hr.out, ← Hd.out] at this
          rw [hz, hm, hP, ho']
          exact this
        have St := Lib.hid st
        clear st ho' hP hm hz
        go_wp2
        (refine wp_region_hoist 13 (by kernel_rfl) (by kernel_rfl) ⟨fun _ _ _ h => (by first | exact (hQp _ _ _ h).elim | cases h.2.1 | (obtain ⟨_, h3, _⟩ := h.2; cases h3)), fun _ _ h => (by first | exact (hQo _ _ h).elim | cases h.1 | (obtain ⟨_, h3, _⟩ := h; cases h3))⟩ ?_; simp only [List.take_succ_cons, List.take_zero, List.drop_succ_cons, List.drop_zero]; (repeat (go_big_quiet_step (fail))); refine wpQuiet_nil ?_; rintro _ ⟨nq, rfl⟩)
        go_wp2
        exact ⟨⟨i + 1, by omega, by go_num, St.out nq⟩, by simp [intOf]; omega⟩
      · have t1 : ((r : Int) == 0) = false := by rw [beq_eq_false_iff_ne]; omega
        have HO := Lib.hid ho
        have HL : Hid (ws.length = q + 1) := Lib.hid (by omega)
        have HDD : Hid (∀ d ∈ ws, d < 18446744073709551616) := Lib.hid hod
        have HV : Hid (wv ws = x % 65536 ^ i) := Lib.hid hov
        have HB : Hid (Below w.heap.size w wr) := Lib.hid hbl
        clear ho hol hod hov hq hr
        have cap1 : 0 < sCap u3 := by have := HO.out.isS.le; rw [HO.out.len, cellsW_length] at this; have := HL.out; omega
        have fz := HO.out.frozen cap1 (sOff u3 + q)
        have co := (HO.out.rw' HDD.out).cell q (by rw [HL.out]; omega)
        have hwd := wd_word (by rw [← Hq.out]; exact HL.out) HDD.out HV.out
        have hSv := HO.out.isS
        have hLv : sLen u3 = q + 1 := by rw [HO.out.len, cellsW_length]; exact HL.out
        rw [← Hq.out, ← Hr.out] at hwd
        obtain ⟨o, ho'⟩ : ∃ o, o = ws.getD q 0 := ⟨_, rfl⟩
        rw [← ho'] at co hwd
        have hp : (2 : Int) ^ (16 * r) = ((65536 ^ r : Nat) : Int) := by rw [pow16]; simp
        have hPb : 65536 ^ r ≤ 281474976710656 := Nat.pow_le_pow_right (show 0 < 65536 by decide) (show r ≤ 3 by omega)
        obtain ⟨P, hP⟩ : ∃ P, P = 65536 ^ r := ⟨_, rfl⟩
        rw [← hP] at hp hPb hwd
        have hmb : d * P ≤ 65535 * 281474976710656 := Nat.mul_le_mul (by omega) hPb
        obtain ⟨m, hm⟩ : ∃ m, m = d * P := ⟨_, rfl⟩
        rw [← hm] at hmb
        have hdm : (d : Int) * (P : Int) = (m : Int) := by rw [hm]; simp
        have hor := bits_or_u64_nat o m (by omega) (by omega)
        obtain ⟨z, hz⟩ : ∃ z, z = o ||| m := ⟨_, rfl⟩
        rw [← hz] at hor
        have st : ∀ n, WdRel x w.heap.size (i + 1) w u3 ((wr.drewN n).setCell ⟨sBlk u3, sOff u3 + q, none⟩ (.int .u64 (z : Int))) := fun n => by
          have := WdRel.step (HO.out.drewN n) (by rw [← Hq.out]; exact HL.out) HDD.out HV.out (undrewN' HB.out)
          rw [← Hq.out, ← Hr.out, ← Hd.out] at this
          rw [hz, hm, hP, ho']
          exact this
        have St := Lib.hid st
        clear st ho' hP hm hz
        go_wp2
        (refine wp_region_hoist 13 (by kernel_rfl) (by kernel_rfl) ⟨fun _ _ _ h => (by first | exact (hQp _ _ _ h).elim | cases h.2.1 | (obtain ⟨_, h3, _⟩ := h.2; cases h3)), fun _ _ h => (by first | exact (hQo _ _ h).elim | cases h.1 | (obtain ⟨_, h3, _⟩ := h; cases h3))⟩ ?_; simp only [List.take_succ_cons, List.take_zero, List.drop_succ_cons, List.drop_zero]; (repeat (go_big_quiet_step (fail))); refine wpQuiet_nil ?_; rintro _ ⟨nq, rfl⟩)
        go_wp2
        exact ⟨⟨i + 1, by omega, by go_num, St.out nq⟩, by simp [intOf]; omega⟩
    · have hil : i = la := by omega
      have Hol := Lib.hid hol
      have Hod := Lib.hid hod
      have Hov := Lib.hid hov
      subst hil
      clear hol hod hov
      go_wp2
      go_ret
      refine ⟨_, rfl, ?_, hbl⟩
      have e1 := Hov.out
      rw [mod_nl (by rw [← Hla.out]; exact Nat.le_refl _)] at e1
      have e2 : ws = wds x := by
        rw [← e1]
        refine wds_of Hod.out ?_
        rw [e1, Hol.out, Hla.out]; rfl
      rw [← e2]
      exact ho.rw' Hod.out
theorem heap_alloc_lt {w : World} {o x : Obj} {k : Nat} (h : w.heap[k]? = some x) : (w.alloc o).heap[k]? = some x ∧ k < w.heap.size := by
  have hlt : k < w.heap.size := by
    rcases Nat.lt_or_ge k w.heap.size with h' | h'
    · exact h'
    · rw [Array.getElem?_eq_none h'] at h; cases h
  exact ⟨(Below.heap_alloc w o k hlt).trans h, hlt⟩
theorem ret_boolE {a b : Bool} (h : a = b) : Ending.returned (.bool a) = Ending.returned (.bool b) := by rw [h]
set_option maxRecDepth 100000 in
set_option maxHeartbeats 800000 in
theorem spHasWords (v a : Value) (ws : List Nat) (x : Nat) (w : World) (hv : RW w v ws) (ha : NatV w a x) (_hl : ws.length ≤ 1000000000) (hx : nl x ≤ 1000000000) :
    Calls Tryz.prog 45 #[v, a] w fun e w' => e = .returned (.bool (decide (ws = wds x))) ∧ Below w.heap.size w w' := by
  have hSv := hv.isS
  have hLv := hv.len
  have hSa := ha.isS
  obtain ⟨lv, hlv⟩ : ∃ lv, lv = ws.length := ⟨_, rfl⟩
  rw [← hlv] at hLv _hl
  have Hlv := Lib.hid hlv
  have Hv := Lib.hid hv
  have Ha := Lib.hid ha
  clear hv ha hlv
  go_enter Tryz.func45, Tryz.ntmps45
  go_wp2_with fail
  refine (spWords a x w Ha.out hx).mono ?_
  rintro _ w1 ⟨r, rfl, hr, hb1⟩
  have hSr := hr.isS
  have hLr := hr.len
  rw [wds_length] at hLr
  have hnb : nw x ≤ nl x := by unfold nw; omega
  obtain ⟨lr, hlr⟩ : ∃ lr, lr = nw x := ⟨_, rfl⟩
  rw [← hlr] at hLr hnb
  have Hlr := Lib.hid hlr
  have Hr := Lib.hid hr
  clear hr hlr
  by_cases hne : lv = lr
  · have t1 : ((lv : Int) == lr) = true := by rw [beq_iff_eq]; omega
    have t1' : ((lv : Int) != lr) = false := by simp; omega
    have hlv2 : lv ≤ lr := by omega
    have Hne := Lib.hid hne
    clear hne
    go_wp2
    go_loopw [16] (fun i wr => ∃ k : Nat, k ≤ lr ∧ i = .int .i64 k ∧ (∀ j, j < k → ws.getD j 0 = wdg x j) ∧ Below w.heap.size w wr ∧ Below w1.heap.size w1 wr) (fun i _ => lr - (intOf i).toNat)
    case atStart => exact ⟨0, Nat.zero_le _, rfl, fun j hj => by omega, hb1, Below.refl _ _⟩
    case round =>
      obtain ⟨k, hk, rfl, he, hbl, hbl1⟩ := hrel
      have He := Lib.hid he
      clear he
      by_cases hkr : k < lr
      · have hkv : k < lv := by have := Hne.out; omega
        have cv := (Hv.out.below hbl).cell k (by rw [← Hlv.out]; exact hkv)
        have cr := (Hr.out.below hbl1).cell k (by rw [wds_length, ← Hlr.out]; exact hkr)
        rw [wds_getD] at cr
        obtain ⟨p, hp⟩ : ∃ p, p = ws.getD k 0 := ⟨_, rfl⟩
        obtain ⟨q, hq⟩ : ∃ q, q = wdg x k := ⟨_, rfl⟩
        rw [← hp] at cv
        rw [← hq] at cr
        have Hp := Lib.hid hp
        have Hq := Lib.hid hq
        clear hp hq
        by_cases hpq : p = q
        · have t2 : ((p : Int) == q) = true := by rw [beq_iff_eq]; omega
          have Hpq := Lib.hid hpq
          clear hpq
          go_wp2
          go_quiet (fail)
          go_wp2
          refine ⟨⟨k + 1, by omega, by go_num, ?_, undrewN' hbl, undrewN' hbl1⟩, by simp [intOf]; omega⟩
          intro j hj
          rcases (by omega : j < k ∨ j = k) with h | h
          · exact He.out j h
          · rw [h, ← Hp.out, ← Hq.out]; exact Hpq.out
        · have t2 : ((p : Int) == q) = false := by rw [beq_eq_false_iff_ne]; omega
          go_wp2
          go_quiet (fail)
          go_wp2
          go_ret
          refine ⟨ret_boolE ?_, undrewN' hbl⟩
          symm
          rw [decide_eq_false_iff_not]
          intro h
          apply hpq
          rw [Hp.out, Hq.out, h, wds_getD]
      · have hkl : k = lr := by omega
        have Hkl := Lib.hid hkl
        clear hkl
        go_wp2
        go_ret
        refine ⟨ret_boolE ?_, hbl⟩
        symm
        rw [decide_eq_true_iff]
        refine list_ext_getD (by rw [wds_length, ← Hlv.out, ← Hlr.out]; exact Hne.out) fun i => ?_
        rw [wds_getD]
        by_cases hi : i < lr
        · exact He.out i (by rw [Hkl.out]; exact hi)
        · rw [wdg_ge (by rw [← Hlr.out]; omega), List.getD_eq_getElem?_getD, List.getElem?_eq_none (by rw [← Hlv.out]; have := Hne.out; omega)]; rfl
  · have t1 : ((lv : Int) == lr) = false := by rw [beq_eq_false_iff_ne]; omega
    go_wp2
    go_ret
    refine ⟨ret_boolE ?_, hb1⟩
    symm
    rw [decide_eq_false_iff_not]
    intro h
    apply hne
    rw [Hlv.out, Hlr.out, h, wds_length]

set_option maxRecDepth 100000 in
theorem long_any (v : Value) (ws : List Nat) (n : Nat) (w : World) (hv : RW w v ws) :
    Calls Tryz.prog 26 #[v, .int .i64 n] w fun e w' => e = .returned (.bool (decide (n < ws.length))) ∧ w = w' := by
  have hSv := hv.isS
  have hLv := hv.len
  go_enter Tryz.func26, Tryz.ntmps26
  go_wp2
  go_ret
  exact ⟨rfl, rfl⟩
theorem box_cell {w w1 : World} {cs : Array Value} {T : TypeId} (hb : Below (w.alloc (.cells cs T)).heap.size (w.alloc (.cells cs T)) w1) {i : Nat} {v : Value} (h : cs[i]? = some v) : w1.cell? ⟨w.heap.size, i, none⟩ = some v := by
  have h1 : (w.alloc (.cells cs T)).heap[w.heap.size]? = some (.cells cs T) := heap_alloc_new w _
  have h2 := (heap_alloc_lt (o := .cells #[] 0) h1).2
  refine (hb.cell (p := ⟨w.heap.size, i, none⟩) h2).trans ?_
  rw [cell_of_row _ _ i _ _ _ h1]
  exact h
set_option maxRecDepth 100000 in
theorem zzFits2_any (b : Bool) (v : Value) (ws : List Nat) (w : World) (hv : RW w v ws) :
    Calls Tryz.prog 25 #[.agg #[.bool b, v]] w fun e w' => e = .returned (.bool (decide (ws.length ≤ 2147483647))) ∧ Below w.heap.size w w' := by
  have hSv := hv.isS
  have hLv := hv.len
  by_cases h : ws.length ≤ 2147483647
  · have t1 : decide ((2147483647 : Int) < ws.length) = false := by rw [decide_eq_false_iff_not]; omega
    have Hh := Lib.hid h
    clear h
    go_enter Tryz.func25, Tryz.ntmps25
    go_wp2
    go_ret
    exact ⟨ret_boolE (by symm; rw [decide_eq_true_iff]; exact Hh.out), (Below.refl _ _).alloc (Nat.le_refl _) _⟩
  · have t1 : decide ((2147483647 : Int) < ws.length) = true := by rw [decide_eq_true_iff]; omega
    have Hh := Lib.hid h
    clear h
    go_enter Tryz.func25, Tryz.ntmps25
    go_wp2
    go_ret
    exact ⟨ret_boolE (by symm; rw [decide_eq_false_iff_not]; exact Hh.out), (Below.refl _ _).alloc (Nat.le_refl _) _⟩
set_option maxRecDepth 100000 in
theorem zzFits3_any (b : Bool) (v d : Value) (ns ds : List Nat) (w : World) (hv : RW w v ns) (hd : RW w d ds) :
    Calls Tryz.prog 8 #[.agg #[.bool b, v, d]] w fun e w' => e = .returned (.bool (decide (ns.length ≤ 2147483647) && decide (ds.length ≤ 2147483647))) ∧ Below w.heap.size w w' := by
  have hSv := hv.isS
  have hSd := hd.isS
  have hLd := hd.len
  have Hv := Lib.hid hv
  have Hd := Lib.hid hd
  clear hv hd
  go_enter Tryz.func8, Tryz.ntmps8
  go_wp2_with fail
  refine (zzFits2_any b v ns _ (Hv.out.below ((Below.refl _ _).alloc (Nat.le_refl _) _))).mono ?_
  rintro _ w1 ⟨rfl, hb1⟩
  have hc := box_cell (i := 2) (v := d) hb1 rfl
  have hbb := ((Below.refl w.heap.size w).alloc (Nat.le_refl _) (.cells #[.bool b, v, d] 26)).trans (hb1.mono (by have := ((Below.refl w.heap.size w).alloc (Nat.le_refl _) (.cells #[.bool b, v, d] 26)).size; omega))
  by_cases h1 : ns.length ≤ 2147483647
  · have u1 : decide (ns.length ≤ 2147483647) = true := decide_eq_true h1
    rw [u1]
    have U1 := Lib.hid u1
    clear u1 h1
    by_cases h : ds.length ≤ 2147483647
    · have t1 : decide ((2147483647 : Int) < ds.length) = false := by rw [decide_eq_false_iff_not]; omega
      have Hh := Lib.hid h
      clear h
      go_wp2
      go_ret
      exact ⟨ret_boolE (by symm; rw [U1.out, Bool.true_and, decide_eq_true_iff]; exact Hh.out), hbb⟩
    · have t1 : decide ((2147483647 : Int) < ds.length) = true := by rw [decide_eq_true_iff]; omega
      have Hh := Lib.hid h
      clear h
      go_wp2
      go_ret
      exact ⟨ret_boolE (by symm; rw [U1.out, Bool.true_and, decide_eq_false_iff_not]; exact Hh.out), hbb⟩
  · have u1 : decide (ns.length ≤ 2147483647) = false := decide_eq_false h1
    rw [u1]
    have U1 := Lib.hid u1
    clear u1 h1
    go_wp2
    go_ret
    exact ⟨ret_boolE (by rw [U1.out]; rfl), hbb⟩
theorem IsS.form {v : Value} (h : IsS v) : ∃ a n c, v = .slice a n c := by
  cases v <;> first | exact ⟨_, _, _, rfl⟩ | exact h.elim
@[go_sem] theorem match_S {v : Value} (h : IsS v) : Value.cells.match_1 (motive := fun _ => Array Value) v (fun cs => cs) (fun v => #[v]) = #[v] := by
  obtain ⟨a1, n1, c1, rfl⟩ := h.form
  rfl
theorem nl_wv {ws : List Nat} (h : ∀ d ∈ ws, d < 18446744073709551616) : nl (wv ws) ≤ 4 * ws.length := nl_le (by rw [← wpow]; exact wv_lt h)
def isNum (b : Bool) (ws : List Nat) (neg : Bool) (n : Nat) : Bool := (b == (neg && decide (0 < n))) && decide (ws = wds n)
theorem len_pos_iff (n : Nat) : decide (0 < nl n) = decide (0 < n) := by
  rcases Nat.eq_zero_or_pos n with h | h
  · subst h; rfl
  · rw [decide_eq_true h, decide_eq_true (nl_pos h)]
set_option maxRecDepth 100000 in
set_option maxHeartbeats 400000 in
theorem isNumber_any (b neg : Bool) (v a : Value) (ws : List Nat) (n : Nat) (w : World) (hv : RW w v ws) (ha : NatV w a n) (hl : ws.length ≤ 1000000000) (hx : nl n ≤ 1000000000) :
    Calls Tryz.prog 44 #[.agg #[.bool b, v], .bool neg, a] w fun e w' => e = .returned (.bool (isNum b ws neg n)) ∧ Below w.heap.size w w' := by
  have hSv := hv.isS
  have hSa := ha.isS
  have hLa := ha.len
  have Hv := Lib.hid hv
  have Ha := Lib.hid ha
  clear hv ha
  obtain ⟨la, hla⟩ : ∃ la, la = nl n := ⟨_, rfl⟩
  rw [← hla] at hLa hx
  have hlp := len_pos_iff n
  rw [← hla] at hlp
  have Hla := Lib.hid hla
  have Hlp := Lib.hid hlp
  clear hla hlp
  have hab := (Below.refl w.heap.size w).alloc (Nat.le_refl _) (.cells #[.bool b, v] 24)
  have hasz := hab.size
  have hcall : ∀ w', w' = w.alloc (.cells #[.bool b, v] 24) → Calls Tryz.prog 45 #[v, a] w' fun e w'' => e = .returned (.bool (decide (ws = wds n))) ∧ Below w.heap.size w w'' := fun w' hw => by
    subst hw
    refine (spHasWords v a ws n _ (Hv.out.below hab) (Ha.out.below hab) hl (by rw [← Hla.out]; exact hx)).mono ?_
    rintro _ w2 ⟨rfl, hb2⟩
    exact ⟨rfl, hab.trans (hb2.mono hasz)⟩
  have Hc := Lib.hid hcall
  clear hcall
  have fin : isNum b ws neg n = ((b == (neg && decide (0 < la))) && decide (ws = wds n)) := by rw [Hlp.out]; rfl
  have Fin := Lib.hid fin
  clear fin
  obtain ⟨hw, hhw⟩ : ∃ hw, hw = decide (ws = wds n) := ⟨_, rfl⟩
  rw [← hhw] at Fin Hc
  clear hhw
  have hcb : decide (0 < la) = true ∨ decide (0 < la) = false := by cases decide (0 < la) <;> simp
  rw [Fin.out]
  cases b <;> cases neg <;> rcases hcb with t1 | t1 <;> rw [t1]
  all_goals
    go_enter Tryz.func44, Tryz.ntmps44
    go_wp2_with fail
    first
      | (go_ret
         exact ⟨rfl, hab⟩)
      | (refine (Hc.out _ rfl).mono ?_
         rintro _ w1 ⟨rfl, hb1⟩
         go_wp2
         go_ret
         exact ⟨by simp, hb1⟩)

def isFrac (b : Bool) (ns ds : List Nat) (neg : Bool) (n d : Nat) : Bool := isNum b ns neg n && decide (ds = wds d)
set_option maxRecDepth 100000 in
set_option maxHeartbeats 800000 in
theorem isFraction_any (b neg : Bool) (v1 v2 a1 a2 : Value) (ns ds : List Nat) (n d : Nat) (w : World) (h1 : RW w v1 ns) (h2 : RW w v2 ds) (h3 : NatV w a1 n) (h4 : NatV w a2 d) (hl1 : ns.length ≤ 1000000000) (hl2 : ds.length ≤ 1000000000) (hn : nl n ≤ 1000000000) (hd : nl d ≤ 1000000000) :
    Calls Tryz.prog 21 #[.agg #[.bool b, v1, v2], .agg #[.bool neg, a1, a2]] w fun e w' => e = .returned (.bool (isFrac b ns ds neg n d)) ∧ Below w.heap.size w w' := by
  have hS1 := h1.isS
  have hS2 := h2.isS
  have hS3 := h3.isS
  have hS4 := h4.isS
  have H1 := Lib.hid h1
  have H2 := Lib.hid h2
  have H3 := Lib.hid h3
  have H4 := Lib.hid h4
  clear h1 h2 h3 h4
  have hab := ((Below.refl w.heap.size w).alloc (Nat.le_refl _) (.cells #[.bool b, v1, v2] 26))
  have hac := hab.alloc hab.size (.cells #[.bool neg, a1, a2] 31)
  have hsz := hac.size
  obtain ⟨W, hW⟩ : ∃ W, W = (w.alloc (.cells #[.bool b, v1, v2] 26)).alloc (.cells #[.bool neg, a1, a2] 31) := ⟨_, rfl⟩
  rw [← hW] at hac hsz
  have hcW : W.cell? ⟨w.heap.size, 2, none⟩ = some v2 := by
    rw [hW]; exact box_cell (w := w) (cs := #[.bool b, v1, v2]) ((Below.refl _ _).alloc (Nat.le_refl _) _) rfl
  have hcW2 : W.cell? ⟨w.heap.size + 1, 2, none⟩ = some a2 := by
    rw [hW]
    simp
  have hWs : W.heap.size = w.heap.size + 2 := by rw [hW]; simp
  have HW := Lib.hid hW
  clear hW
  have hcall : ∀ w', w' = (w.alloc (.cells #[.bool b, v1, v2] 26)).alloc (.cells #[.bool neg, a1, a2] 31) → Calls Tryz.prog 44 #[.agg #[.bool b, v1], .bool neg, a1] w' fun e w'' => e = .returned (.bool (isNum b ns neg n)) ∧ Below W.heap.size W w'' := fun w' hw => by
    rw [hw, ← HW.out]
    exact isNumber_any b neg v1 a1 ns n W (H1.out.below hac) (H3.out.below hac) hl1 hn
  have Hc := Lib.hid hcall
  clear hcall
  obtain ⟨c, hc⟩ : ∃ c, c = isNum b ns neg n := ⟨_, rfl⟩
  have hfin : isFrac b ns ds neg n d = (c && decide (ds = wds d)) := by rw [hc]; rfl
  rw [← hc] at Hc
  rw [hfin]
  clear hc hfin
  go_enter Tryz.func21, Tryz.ntmps21
  go_wp2_with fail
  refine (Hc.out _ rfl).mono ?_
  rintro _ w1 ⟨rfl, hb1⟩
  have hbb := hac.trans (hb1.mono hsz)
  have c1 := (hb1.cell (p := ⟨w.heap.size, 2, none⟩) (by simp only; omega)).trans hcW
  have c2 := (hb1.cell (p := ⟨w.heap.size + 1, 2, none⟩) (by simp only; omega)).trans hcW2
  have hl2' := hl2
  cases c with
  | false =>
    go_wp2
    go_ret
    exact ⟨rfl, hbb⟩
  | true =>
    go_wp2_with fail
    refine (spHasWords v2 a2 ds d w1 (H2.out.below hbb) (H4.out.below hbb) hl2 hd).mono ?_
    rintro _ w2 ⟨rfl, hb2⟩
    go_wp2
    go_ret
    exact ⟨by simp, bthen hbb hb2⟩
end Go.Proofs.YtoddjkpckpekcaaGreatDoor
namespace Go.Proofs.YtoddjkpckpekcaaGreatDoor

theorem wdv_step (n i : Nat) : n / 18446744073709551616 ^ i = 18446744073709551616 * (n / 18446744073709551616 ^ (i + 1)) + wdg n i := by
  unfold wdg
  rw [Nat.pow_succ, ← Nat.div_div_eq_div_mul]
  omega
theorem word_split {s : Nat} (h : s ≤ 64) : 2 ^ (64 - s) * 2 ^ s = 18446744073709551616 := by
  rw [← Nat.pow_add, show 64 - s + s = 64 by omega]
theorem wdg_shl_zero (n : Nat) {s : Nat} (_hs : s ≤ 64) : wdg (n * 2 ^ s) 0 = wdg n 0 * 2 ^ s % 18446744073709551616 := by
  rw [wdg_zero_eq, wdg_zero_eq, Nat.mod_mul_mod]
theorem div_shl (n i : Nat) {s : Nat} (hs : s ≤ 64) : n * 2 ^ s / 18446744073709551616 ^ (i + 1) = wdg n i / 2 ^ (64 - s) + n / 18446744073709551616 ^ (i + 1) * 2 ^ s := by
  have hB := wpow_pos i
  have e := word_split hs
  have h1 : n = n % 18446744073709551616 ^ i + 18446744073709551616 ^ i * (wdg n i + 18446744073709551616 * (n / 18446744073709551616 ^ (i + 1))) := by
    have := wdv_step n i
    rw [Nat.add_comm (wdg n i), ← this]
    exact (Nat.mod_add_div n _).symm
  have hl := Nat.mod_lt n hB
  have hS : 0 < 2 ^ s := Nat.pow_pos (by decide)
  have hR : 0 < 2 ^ (64 - s) := Nat.pow_pos (by decide)
  have h3 : n * 2 ^ s / 18446744073709551616 ^ i = n % 18446744073709551616 ^ i * 2 ^ s / 18446744073709551616 ^ i + (wdg n i + 18446744073709551616 * (n / 18446744073709551616 ^ (i + 1))) * 2 ^ s := by
    conv => lhs; rw [h1]
    rw [Nat.add_mul, Nat.mul_assoc, Nat.add_mul_div_left _ _ hB]
  have h4 : n % 18446744073709551616 ^ i * 2 ^ s / 18446744073709551616 ^ i < 2 ^ s := Nat.div_lt_of_lt_mul (Nat.mul_lt_mul_of_pos_right hl hS)
  rw [Nat.pow_succ, ← Nat.div_div_eq_div_mul, h3]
  rw [Nat.pow_succ] at *
  generalize n % 18446744073709551616 ^ i * 2 ^ s / 18446744073709551616 ^ i = c at *
  generalize wdg n i = d at *
  generalize n / (18446744073709551616 ^ i * 18446744073709551616) = m at *
  generalize 2 ^ s = S at *
  generalize 2 ^ (64 - s) = R at *
  have h5 : c + (d + 18446744073709551616 * m) * S = (c + d * S) + 18446744073709551616 * (m * S) := by rw [Nat.add_mul, Nat.mul_assoc]; omega
  rw [h5, Nat.add_mul_div_left _ _ (by decide)]
  congr 1
  rw [← e, Nat.mul_comm R S, ← Nat.div_div_eq_div_mul, Nat.mul_comm d S, Nat.add_mul_div_left _ _ hS, Nat.div_eq_of_lt h4, Nat.zero_add]
theorem wdg_shl_succ (n i : Nat) {s : Nat} (hs : s < 64) : wdg (n * 2 ^ s) (i + 1) = wdg n i / 2 ^ (64 - s) + wdg n (i + 1) * 2 ^ s % 18446744073709551616 := by
  have e := word_split (show s ≤ 64 by omega)
  have h1 := div_shl n i (show s ≤ 64 by omega)
  have hd := wdg_lt n i
  have hS : 0 < 2 ^ s := Nat.pow_pos (by decide)
  have hR : 0 < 2 ^ (64 - s) := Nat.pow_pos (by decide)
  have h2 : wdg n i / 2 ^ (64 - s) < 2 ^ s := Nat.div_lt_of_lt_mul (by rw [e]; exact hd)
  show n * 2 ^ s / 18446744073709551616 ^ (i + 1) % 18446744073709551616 = _
  rw [h1]
  have h3 : wdg n (i + 1) * 2 ^ s % 18446744073709551616 = n / 18446744073709551616 ^ (i + 1) * 2 ^ s % 18446744073709551616 := by
    unfold wdg; rw [Nat.mod_mul_mod]
  rw [h3]
  have h4 : n / 18446744073709551616 ^ (i + 1) * 2 ^ s % 18446744073709551616 = n / 18446744073709551616 ^ (i + 1) % 2 ^ (64 - s) * 2 ^ s := by
    rw [← e, Nat.mul_mod_mul_right]
  have h5 : n / 18446744073709551616 ^ (i + 1) % 2 ^ (64 - s) < 2 ^ (64 - s) := Nat.mod_lt _ hR
  rw [h4]
  generalize wdg n i / 2 ^ (64 - s) = c at *
  generalize hm : n / 18446744073709551616 ^ (i + 1) = m at *
  have h6 : (m % 2 ^ (64 - s) + 1) * 2 ^ s ≤ 2 ^ (64 - s) * 2 ^ s := Nat.mul_le_mul_right _ h5
  rw [e, Nat.add_mul, Nat.one_mul] at h6
  rw [Nat.add_mod, h4, Nat.mod_eq_of_lt (show c < 18446744073709551616 by omega), Nat.mod_eq_of_lt (by omega)]
theorem shl_or {c m s : Nat} (hs : s < 64) (hc : c < 2 ^ s) : (m * 2 ^ s % 18446744073709551616) ||| c = c + m * 2 ^ s % 18446744073709551616 := by
  have e := word_split (show s ≤ 64 by omega)
  have h4 : m * 2 ^ s % 18446744073709551616 = 2 ^ s * (m % 2 ^ (64 - s)) := by
    rw [← e, Nat.mul_mod_mul_right, Nat.mul_comm]
  rw [h4, ← Nat.two_pow_add_eq_or_of_lt hc, Nat.add_comm]
end Go.Proofs.YtoddjkpckpekcaaGreatDoor
namespace Go.Proofs.YtoddjkpckpekcaaGreatDoor
open Go.RowKit

theorem dw_est {d v u1 u0 Q : Nat} (hd : d < 18446744073709551616) (hu1 : u1 < d) (hu0 : u0 < 18446744073709551616)
    (hv1 : v * d ≤ 340282366920938463463374607431768211455) (hv2 : 340282366920938463463374607431768211456 ≤ v * d + d)
    (hQ1 : Q * 18446744073709551616 ≤ v * u1 + u0) (hQ2 : v * u1 + u0 < Q * 18446744073709551616 + 18446744073709551616) :
    Q * d ≤ u1 * 18446744073709551616 + u0 ∧ u1 * 18446744073709551616 + u0 < Q * d + 18446744073709551616 + d := by
  have a1 := Nat.mul_le_mul_right d hQ1
  have a2 := Nat.mul_le_mul_right d (Nat.succ_le_of_lt hQ2)
  have b1 := Nat.mul_le_mul_right u1 hv1
  have b2 := Nat.mul_le_mul_right u1 hv2
  have e1 : Q * 18446744073709551616 * d = Q * d * 18446744073709551616 := by rw [Nat.mul_right_comm]
  have e2 : (v * u1 + u0) * d = v * d * u1 + u0 * d := by rw [Nat.add_mul, Nat.mul_right_comm]
  have e3 : (v * u1 + u0 + 1) * d = v * d * u1 + u0 * d + d := by rw [Nat.add_mul, e2, Nat.one_mul]
  have e4 : (Q * 18446744073709551616 + 18446744073709551616) * d = Q * d * 18446744073709551616 + 18446744073709551616 * d := by rw [Nat.add_mul, e1]
  have e5 : (v * d + d) * u1 = v * d * u1 + d * u1 := Nat.add_mul _ _ _
  rw [e1, e2] at a1
  rw [Nat.succ_eq_add_one, e3, e4] at a2
  rw [e5] at b2
  have c1 : u0 * d ≤ u0 * 18446744073709551616 := Nat.mul_le_mul_left _ (Nat.le_of_lt hd)
  obtain ⟨e, he⟩ : ∃ e, e + d = 18446744073709551616 := ⟨18446744073709551616 - d, by omega⟩
  have c2 : u0 * e ≤ 18446744073709551615 * e := Nat.mul_le_mul_right _ (by omega)
  have c3 : u0 * e + u0 * d = u0 * 18446744073709551616 := by rw [← Nat.mul_add, he]
  have c4 : d * u1 + d ≤ d * d := by
    have := Nat.mul_le_mul_left d (Nat.succ_le_of_lt hu1)
    rw [Nat.mul_succ] at this; exact this
  have c5 : d * d ≤ d * 18446744073709551616 := Nat.mul_le_mul_left _ (Nat.le_of_lt hd)
  generalize v * d * u1 = A at *
  generalize Q * d = C at *
  generalize u0 * d = D at *
  generalize u0 * e = F at *
  generalize d * u1 = G at *
  generalize d * d = H at *
  constructor <;> omega
theorem dw_fix {d v u1 u0 Q : Nat} (hd0 : 9223372036854775808 ≤ d) (hd : d < 18446744073709551616) (hu1 : u1 < d) (hu0 : u0 < 18446744073709551616)
    (hv1 : v * d ≤ 340282366920938463463374607431768211455) (hv2 : 340282366920938463463374607431768211456 ≤ v * d + d)
    (hQ : Q = (v * u1 + u0) / 18446744073709551616) : ∃ R, u1 * 18446744073709551616 + u0 = Q * d + R ∧ R < 18446744073709551616 + d ∧ Q < 18446744073709551616 ∧
      (18446744073709551616 ≤ R → (R - d < d → (u1 * 18446744073709551616 + u0) / d = Q + 1 ∧ (u1 * 18446744073709551616 + u0) % d = R - d) ∧ (d ≤ R - d → (u1 * 18446744073709551616 + u0) / d = Q + 2 ∧ (u1 * 18446744073709551616 + u0) % d = R - d - d)) ∧
      (R < 18446744073709551616 → (R < d → (u1 * 18446744073709551616 + u0) / d = Q ∧ (u1 * 18446744073709551616 + u0) % d = R) ∧ (d ≤ R → (u1 * 18446744073709551616 + u0) / d = Q + 1 ∧ (u1 * 18446744073709551616 + u0) % d = R - d)) ∧
      (u1 * 18446744073709551616 + u0) / d < 18446744073709551616 := by
  obtain ⟨h1, h2⟩ := dw_est (Q := Q) hd hu1 hu0 hv1 hv2 (by omega) (by omega)
  have dm : ∀ q r, r < d → u1 * 18446744073709551616 + u0 = q * d + r → (u1 * 18446744073709551616 + u0) / d = q ∧ (u1 * 18446744073709551616 + u0) % d = r := fun q r hr h => by
    rw [h, Nat.mul_comm q, Nat.mul_add_div (by omega), Nat.mul_add_mod, Nat.div_eq_of_lt hr, Nat.mod_eq_of_lt hr]
    exact ⟨rfl, rfl⟩
  have hqb : (u1 * 18446744073709551616 + u0) / d < 18446744073709551616 := by
    refine Nat.div_lt_of_lt_mul ?_
    have := Nat.mul_le_mul_right 18446744073709551616 (Nat.succ_le_of_lt hu1)
    rw [Nat.succ_mul] at this
    omega
  have hQle : Q ≤ (u1 * 18446744073709551616 + u0) / d := (Nat.le_div_iff_mul_le (by omega)).2 h1
  refine ⟨u1 * 18446744073709551616 + u0 - Q * d, by omega, by omega, by omega, fun h => ⟨fun h' => ?_, fun h' => ?_⟩, fun h => ⟨fun h' => ?_, fun h' => ?_⟩, hqb⟩
  · exact dm _ _ h' (by rw [Nat.add_mul, Nat.one_mul]; omega)
  · exact dm _ _ (by omega) (by rw [Nat.add_mul]; omega)
  · exact dm _ _ h' (by omega)
  · exact dm _ _ (by omega) (by rw [Nat.add_mul, Nat.one_mul]; omega)
theorem kn_low {b y1 y0 q r u un : Nat} (h : q * y1 + r = u) (hc : b * r + un < q * y0) : u * b + un < q * (y1 * b + y0) := by
  have e : q * (y1 * b + y0) = q * y1 * b + q * y0 := by rw [Nat.mul_add, Nat.mul_assoc]
  have e2 : u * b = q * y1 * b + b * r := by rw [← h, Nat.add_mul, Nat.mul_comm b r]
  rw [e, e2]; omega
theorem kn_ok {b y1 y0 q r u un : Nat} (h : q * y1 + r = u) (hc : q * y0 ≤ b * r + un) : q * (y1 * b + y0) ≤ u * b + un := by
  have e : q * (y1 * b + y0) = q * y1 * b + q * y0 := by rw [Nat.mul_add, Nat.mul_assoc]
  have e2 : u * b = q * y1 * b + b * r := by rw [← h, Nat.add_mul, Nat.mul_comm b r]
  rw [e, e2]; omega
set_option maxRecDepth 100000 in
theorem kn_start {y1 y0 u : Nat} (hy1 : 2147483648 ≤ y1) (hy0 : y0 < 4294967296) (hu : u < y1 * 4294967296 + y0) : u / y1 ≤ 4294967297 := by
  have e : y1 * 4294967298 = y1 * 4294967296 + y1 * 2 := by rw [← Nat.mul_add]
  have h2 : u < y1 * 4294967298 := by
    rw [e]
    obtain ⟨z, hz⟩ : ∃ z, z = y1 * 4294967296 := ⟨_, rfl⟩
    rw [← hz] at hu ⊢
    clear hz e
    omega
  exact Nat.le_of_lt_succ (Nat.div_lt_of_lt_mul h2)
theorem rec_ok {u : Nat} (hu : 9223372036854775808 ≤ u) (hu2 : u < 18446744073709551616) :
    18446744073709551615 - u < u ∧ ∃ v, v * u ≤ 340282366920938463463374607431768211455 ∧ 340282366920938463463374607431768211456 ≤ v * u + u ∧ v = 18446744073709551616 + ((18446744073709551615 - u) * 18446744073709551616 + 18446744073709551615) / u := by
  refine ⟨by omega, _, ?_, ?_, rfl⟩
  · rw [Nat.add_mul]
    have := Nat.div_mul_le_self ((18446744073709551615 - u) * 18446744073709551616 + 18446744073709551615) u
    omega
  · rw [Nat.add_mul]
    have := Nat.lt_div_mul_add (a := (18446744073709551615 - u) * 18446744073709551616 + 18446744073709551615) (b := u) (by omega)
    omega
theorem take_norm {ws : List Nat} (h : ∀ d ∈ ws, d < 18446744073709551616) {k : Nat} (hk : k ≤ ws.length) (hv : wv (ws.take k) = wv ws) (hl : k = 0 ∨ ws.getD (k - 1) 0 ≠ 0) : k = nw (wv ws) ∧ ws.take k = wds (wv ws) := by
  have h1 : ws.take k = wds (wv (ws.take k)) := by
    refine wds_norm (fun d hd => h d (List.mem_of_mem_take hd)) ?_
    rcases Nat.eq_zero_or_pos k with h0 | h0
    · exact .inl (by rw [h0]; rfl)
    · right
      have hl' := hl.resolve_left (by omega)
      have : (ws.take k).length = k := by simp; omega
      rw [this]
      simpa [List.getD_eq_getElem?_getD, show k - 1 < k by omega] using hl'
  rw [hv] at h1
  refine ⟨?_, h1⟩
  have := congrArg List.length h1
  rw [wds_length] at this
  simp at this
  omega
set_option maxRecDepth 100000 in
set_option maxHeartbeats 400000 in
theorem norm_any (v : Value) (ws : List Nat) (w : World) (hv : RW w v ws) (hl : ws.length ≤ 1000000000) :
    Calls Tryz.prog 89 #[v] w fun e w' => e = .returned (subS v 0 (nw (wv ws))) ∧ w = w' := by
  have hS := hv.isS
  have hL := hv.len
  have hC := hS.le
  have Hv := Lib.hid hv
  clear hv
  obtain ⟨n, hn⟩ : ∃ n, n = ws.length := ⟨_, rfl⟩
  rw [← hn] at hL hl
  have Hn := Lib.hid hn
  have hC' : n ≤ sCap v := by omega
  clear hn hC
  go_enter Tryz.func89, Tryz.ntmps89
  go_wp2
  go_loop [3] (fun i => ∃ k : Nat, k ≤ n ∧ i = .int .i64 k ∧ wv (ws.take k) = wv ws) (fun i => (intOf i).toNat)
  case atStart => exact ⟨n, Nat.le_refl _, rfl, by rw [List.take_of_length_le (by rw [Hn.out]; exact Nat.le_refl _)]⟩
  case round =>
    obtain ⟨k, hk, rfl, he⟩ := hrel
    have He := Lib.hid he
    clear he
    by_cases hk0 : k = 0
    · subst hk0
      go_wp2
      go_ret
      have := take_norm Hv.out.lt (k := 0) (Nat.zero_le _) He.out (.inl rfl)
      rw [← this.1]
      exact ⟨rfl, rfl⟩
    · have c := Hv.out.cell (k - 1) (by rw [← Hn.out]; omega)
      obtain ⟨d, hd⟩ : ∃ d, d = ws.getD (k - 1) 0 := ⟨_, rfl⟩
      rw [← hd] at c
      have Hd := Lib.hid hd
      have t1 : decide (0 < k) = true := by rw [decide_eq_true_iff]; omega
      clear hd
      by_cases hz : d = 0
      · have t2 : ((d : Int) == 0) = true := by rw [beq_iff_eq]; omega
        have Hz := Lib.hid hz
        clear hz
        go_wp2
        go_round
        case rel =>
          refine ⟨k - 1, by omega, by go_num, ?_⟩
          rw [← He.out]
          have := wv_take_succ (ws := ws) (i := k - 1) (by rw [← Hn.out]; omega)
          rw [show k - 1 + 1 = k by omega, ← Hd.out, Hz.out] at this
          omega
        case measure => simp [intOf]; omega
      · have t2 : ((d : Int) == 0) = false := by rw [beq_eq_false_iff_ne]; omega
        go_wp2
        go_ret
        have := take_norm Hv.out.lt (k := k) (by rw [← Hn.out]; exact hk) He.out (.inr (by rw [← Hd.out]; exact hz))
        rw [← this.1]
        exact ⟨rfl, rfl⟩
theorem add_none (b o j : Nat) : (⟨b, o, none⟩ : Addr).add j = ⟨b, o + j, none⟩ := by
  unfold Addr.add
  split
  · rename_i h; simp_all
  · rfl
theorem wpList_copy_O {P : Program} {w : World} {ops : Array Oper} {rest : List Oper} {o : Oper} {a : Act} {Q : Exit → Act → World → Prop} (hgd : o.guard = none) (d s : Operand) (dT sT : TypeId)
    (ho : o.op = .call { callee := .builtin .copy, args := #[d, s], argTypes := #[dT, sT] }) (elem : TypeId) (hu : P.underlying dT = some (.slice elem)) (hsz : (P.info? elem).map (·.size) = some 1)
    (v vx : Value) (hd : a.eval d = v) (hs : a.eval s = vx) (B : Nat) (xs : List Value) (hown : Own w B elem v xs) (cs : List Value) (hlen : cs.length = xs.length) (hsx : IsS vx) (hlx : sLen vx = cs.length)
    (hsrc : ∀ j u, cs[j]? = some u → w.cell? ⟨sBlk vx, sOff vx + j, none⟩ = some u) (h1 : ∀ v ∈ cs, v.oneCell' = true)
    (h : ∀ w', Own w' B elem v cs → Below B w w' → Only (sBlk v) w w' → wpList P ops Q rest (a.put o.dst (goInt cs.length)) w') : wpList P ops Q (o :: rest) a w := by
  have hL := hown.len
  have hC := hown.isS.le
  have hCx := hsx.le
  by_cases h0 : cs.length = 0
  · obtain rfl : cs = [] := List.eq_nil_of_length_eq_zero h0
    obtain rfl : xs = [] := List.eq_nil_of_length_eq_zero (by simpa using hlen.symm)
    obtain ⟨p, n, c, rfl⟩ := hown.isS.form
    obtain ⟨p', n', c', rfl⟩ := hsx.form
    have hn : n = 0 := by simpa [sLen] using hL
    subst hn
    exact wpList_copy_nothing hgd d s dT sT ho elem hu hsz p p' 0 c n' c' hd hs (by simp) (h w hown (Below.refl _ _) (Only.refl _ _))
  · rcases hown.row with hr | ⟨hb, cur, hg, hcs, ht⟩
    · omega
    · have hv := hown.isS.out (by omega)
      have hvx := hsx.out (by omega)
      refine wpList_copy_own hgd d s dT sT ho elem hu hsz (sBlk v) (sOff v) (sLen v) (sCap v) ⟨sBlk vx, sOff vx, none⟩ (sLen vx) (sCap vx) (hd.trans hv) (hs.trans hvx) cur elem hg cs (by rw [hlx, hL, hlen]; simp) (fun j u hj => by rw [add_none]; exact hsrc j u hj) (by omega) h1 ?_
      refine h _ ⟨hown.isS, by omega, hown.cap, .inr ⟨hb, _, setRow_heap w _ _ _ _ _ hg, ?_, ?_⟩⟩ (below_setRow (Below.refl _ _) hb _) (fun k hk hne => setRow_other w _ k _ hne)
      · simp; omega
      · have e1 : cur.toList.take (sOff v) ++ (cs ++ cur.toList.drop (sOff v + cs.length)) = laid cur.toList (sOff v) cs := by simp [laid]
        rw [e1]
        have hlt : (cur.toList.take (sOff v)).length = sOff v := by simp; omega
        rw [laid, List.append_assoc, List.drop_left' hlt, List.take_left' rfl]
theorem Own.grow {w : World} {B : Nat} {e : TypeId} {v : Value} {xs : List Value} (h : Own w B e v xs) {n : Nat} (hn : n ≤ sCap v) : ∃ ys, ys.length = n ∧ Own w B e (subS v 0 n) ys := by
  have hc2 := h.cap
  rcases h.row with h0 | ⟨hb, cur, hg, hsz, ht⟩
  · refine ⟨[], by simp; omega, subS_isS h.isS (Nat.zero_le _) hn, by rw [subS_len h.isS]; simp; omega, by rw [subS_cap h.isS]; omega, .inl (by rw [subS_cap h.isS]; omega)⟩
  · have hl : ((cur.toList.drop (sOff v)).take n).length = n := by simp; omega
    refine ⟨(cur.toList.drop (sOff v)).take n, hl, subS_isS h.isS (Nat.zero_le _) hn, by rw [subS_len h.isS, hl]; omega, by rw [subS_cap h.isS]; omega, .inr ⟨?_, cur, ?_, ?_, ?_⟩⟩
    · rw [subS_blk h.isS]; exact hb
    · rw [subS_blk h.isS]; exact hg
    · rw [subS_off0 h.isS, subS_cap h.isS]; omega
    · rw [subS_off0 h.isS, hl]
end Go.Proofs.YtoddjkpckpekcaaGreatDoor
