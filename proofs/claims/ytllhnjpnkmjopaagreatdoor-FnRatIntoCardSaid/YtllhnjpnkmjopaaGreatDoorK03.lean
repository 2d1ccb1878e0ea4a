/-
Texts of this proof, joined: SpH SpI SpJ WdA RoA WdB WdC CmA. No condition.
-/
import Derived.Test.YtllhnjpnkmjopaaGreatDoorK01
import Derived.Test.YtllhnjpnkmjopaaGreatDoorK02
import Derived.Laws.Bits64b
import Derived.ProofKit
import Derived.OpenShut
import Derived.ChangeOld
namespace Go.Proofs.YtllhnjpnkmjopaaGreatDoor
open Go.RowKit

theorem two_split (i : Nat) : (2 : Nat) ^ i = 65536 ^ (i / 16) * 2 ^ (i % 16) := by
  rw [pow16, ← Nat.pow_add, Nat.div_add_mod]
theorem two16 {s : Nat} (h : s < 16) : 0 < 2 ^ s ∧ 2 ^ s ≤ 32768 := by
  constructor
  · exact Nat.pow_pos (by decide)
  · exact Nat.pow_le_pow_right (show 0 < 2 by decide) (show s ≤ 15 by omega)
theorem getD_rep (n j : Nat) : (List.replicate n 0).getD j 0 = 0 := by
  rw [List.getD_eq_getElem?_getD, List.getElem?_replicate]; split <;> rfl
set_option maxRecDepth 100000 in
set_option maxHeartbeats 400000 in
theorem spBit (i : Nat) (w : World) (hi : i ≤ 16000000000) :
    Calls Tryz.prog 96 #[.int .i64 i] w fun e w' => ∃ r, e = .returned r ∧ NPost (2 ^ i) w r w' := by
  obtain ⟨q, hq⟩ : ∃ q, q = i / 16 := ⟨_, rfl⟩
  obtain ⟨s, hs⟩ : ∃ s, s = i % 16 := ⟨_, rfl⟩
  have h1 : (i : Int) / 16 = (q : Int) := by omega
  have h2 : (i : Int) % 16 = (s : Int) := by omega
  have hs16 : s < 16 := by omega
  have hqb : q ≤ 1000000000 := by omega
  obtain ⟨S, hS⟩ : ∃ S, S = 2 ^ s := ⟨_, rfl⟩
  have hS2 : (2 : Int) ^ s = (S : Int) := by rw [hS]; simp
  have hSb : 0 < S ∧ S ≤ 32768 := by rw [hS]; exact two16 hs16
  have hsp := two_split i
  rw [← hq, ← hs, ← hS] at hsp
  have Hsp := Lib.hid hsp
  clear hq hs hS hsp
  go_enter Tryz.func96, Tryz.ntmps96
  go_wp2_with (at_make; refine wpList_make_O rfl _ _ _ rfl elemN .i64 .i64 _ _ rfl rfl w.heap.size ?c1 ?c2 ?c3 ?c4 ?c5 ?_)
  case c1 => omega
  case c2 => omega
  case c3 => omega
  case c4 => omega
  case c5 => exact Nat.le_refl _
  rintro v0 w0 - ho0 hb0 -
  have e0 : List.replicate (q + 1) (Value.int .i64 0) = cellsN (List.replicate (q + 1) 0) := by simp [cellsN]
  rw [e0] at ho0
  have hSv := ho0.isS
  have hLv : sLen v0 = q + 1 := by rw [ho0.len, cellsN_length]; simp
  have hcp : q + 1 ≤ sCap v0 := by rw [← hLv]; exact hSv.le
  have co := ho0.rl.cell q (by simp)
  rw [getD_rep] at co
  have fz := ho0.frozen (by omega) (sOff v0 + q)
  have hst := ho0.set (i := q) (by rw [cellsN_length]; simp) (.int .i64 (S : Int))
  rw [cellsN_set] at hst
  have Hst := Lib.hid hst
  have hbs := bset (i := sOff v0 + q) (u := .int .i64 (S : Int)) hb0 (ho0.lt (by omega)).1
  clear e0 hst ho0
  go_wp2
  go_ret
  refine ⟨_, rfl, ?_, hbs⟩
  have hv := val_set (a := List.replicate (q + 1) 0) (i := q) (by simp) S
  rw [getD_rep, val_replicate] at hv
  have hr := Hst.out.rl
  have hv2 : val ((List.replicate (q + 1) 0).set q S) = 2 ^ i := by rw [Hsp.out]; omega
  rw [← hv2]
  refine NatV.ofRL hr ?_ (.inr ?_)
  · intro z hz
    rcases List.mem_or_eq_of_mem_set hz with h | h
    · rw [(List.mem_replicate.1 h).2]; decide
    · omega
  · rw [List.length_set, List.length_replicate, Nat.add_sub_cancel, getD_set _ _ _ _ (by simp), if_pos rfl]; omega

def ShlRel (x q S L B i : Nat) (w : World) (v : Value) (wr : World) : Prop :=
  ∃ os : List Nat, Own wr B 3 v (cellsN os) ∧ os.length = L ∧ (∀ d ∈ os, d < 65536) ∧ val os = 65536 ^ q * (x % 65536 ^ i * S) ∧ Below B w wr
theorem shl_carry {x q S i : Nat} (hS : 0 < S) (hS2 : S < 65536) : dig (65536 ^ q * (x % 65536 ^ i * S)) (q + i) = x % 65536 ^ i * S / 65536 ^ i ∧ x % 65536 ^ i * S / 65536 ^ i < S ∧ dig (65536 ^ q * (x % 65536 ^ i * S)) (q + i + 1) = 0 := by
  have h0 := Nat.mod_lt x (pow_pos i)
  have h1 : x % 65536 ^ i * S < 65536 ^ i * S := Nat.mul_lt_mul_of_pos_right h0 hS
  have h2 : x % 65536 ^ i * S / 65536 ^ i < S := Nat.div_lt_of_lt_mul h1
  refine ⟨?_, h2, ?_⟩
  · unfold dig
    rw [Nat.pow_add, ← Nat.div_div_eq_div_mul, Nat.mul_div_cancel_left _ (pow_pos q), Nat.mod_eq_of_lt (by omega)]
  · unfold dig
    rw [show q + i + 1 = q + (i + 1) by omega, Nat.pow_add, ← Nat.div_div_eq_div_mul, Nat.mul_div_cancel_left _ (pow_pos q), Nat.pow_succ, ← Nat.div_div_eq_div_mul]
    rw [Nat.div_eq_of_lt (show x % 65536 ^ i * S / 65536 ^ i < 65536 by omega)]
theorem shl_low {d s : Nat} (hs : s < 16) (c : Nat) (hc : c < 2 ^ s) : c + d * 2 ^ s % 65536 < 65536 := by
  have e : (65536 : Nat) = 2 ^ (16 - s) * 2 ^ s := by rw [← Nat.pow_add, show 16 - s + s = 16 by omega]
  have h1 : d * 2 ^ s % 65536 = d % 2 ^ (16 - s) * 2 ^ s := by conv => lhs; rw [e, Nat.mul_mod_mul_right]
  have h2 := Nat.mod_lt d (Nat.pow_pos (n := 16 - s) (show 0 < 2 by decide))
  have h3 : (d % 2 ^ (16 - s) + 1) * 2 ^ s ≤ 2 ^ (16 - s) * 2 ^ s := Nat.mul_le_mul_right _ h2
  rw [Nat.add_mul, ← e] at h3
  omega
theorem ShlRel.step {x q s S L B i : Nat} {w wr : World} {v : Value} {os : List Nat} (ho : Own wr B 3 v (cellsN os)) (hL : os.length = L) (hd : ∀ d ∈ os, d < 65536) (hv : val os = 65536 ^ q * (x % 65536 ^ i * S)) (hb : Below B w wr)
    (hi : q + i + 1 < L) (hs : s < 16) (hS : S = 2 ^ s) :
    os.getD (q + i) 0 < S ∧ os.getD (q + i + 1) 0 = 0 ∧ ShlRel x q S L B (i + 1) w v ((wr.setCell ⟨sBlk v, sOff v + (q + i), none⟩ (.int .i64 ((os.getD (q + i) 0 + dig x i * S % 65536 : Nat) : Int))).setCell ⟨sBlk v, sOff v + (q + i + 1), none⟩ (.int .i64 ((dig x i * S / 65536 : Nat) : Int))) := by
  have hSb := two16 hs
  rw [← hS] at hSb
  obtain ⟨h1, h2, h3⟩ := shl_carry (x := x) (q := q) (i := i) hSb.1 (by omega)
  rw [← hv, val_dig hd] at h1
  rw [← hv, val_dig hd] at h3
  rw [← h1] at h2
  refine ⟨h2, h3, ?_⟩
  have hlow := shl_low (d := dig x i) hs (os.getD (q + i) 0) (by rw [← hS]; exact h2)
  rw [← hS] at hlow
  have hdl := dig_lt x i
  have hhi : dig x i * S / 65536 < 65536 := by
    refine Nat.div_lt_of_lt_mul ?_
    exact Nat.mul_lt_mul_of_lt_of_le hdl (by omega) (by omega)
  have s1 := ho.set (i := q + i) (by rw [cellsN_length]; omega) (.int .i64 ((os.getD (q + i) 0 + dig x i * S % 65536 : Nat) : Int))
  rw [cellsN_set] at s1
  have s2 := s1.set (i := q + i + 1) (by rw [cellsN_length, List.length_set]; omega) (.int .i64 ((dig x i * S / 65536 : Nat) : Int))
  rw [cellsN_set] at s2
  have hl := ho.len
  rw [cellsN_length] at hl
  have hcp := ho.isS.le
  refine ⟨_, s2, by simpa using hL, ?_, ?_, bset (bset hb (ho.lt (by omega)).1) (ho.lt (by omega)).1⟩
  · intro z hz'
    rcases List.mem_or_eq_of_mem_set hz' with h | h
    · rcases List.mem_or_eq_of_mem_set h with h | h
      · exact hd z h
      · rw [h]; exact hlow
    · rw [h]; exact hhi
  · have e1 := val_set (a := os) (i := q + i) (by omega) (os.getD (q + i) 0 + dig x i * S % 65536)
    have e2 := val_set (a := os.set (q + i) (os.getD (q + i) 0 + dig x i * S % 65536)) (i := q + i + 1) (by simp; omega) (dig x i * S / 65536)
    rw [getD_set _ _ _ _ (by omega), if_neg (by omega), h3] at e2
    have e3 := Nat.div_add_mod (dig x i * S) 65536
    rw [mod_succ]
    rw [Nat.pow_succ, Nat.pow_add] at e2
    rw [Nat.pow_add] at e1
    generalize val (List.set _ (q + i + 1) _) = V2 at *
    generalize val (List.set _ (q + i) _) = V1 at *
    generalize dig x i * S / 65536 = hiD at *
    generalize dig x i * S % 65536 = loD at *
    rw [hv] at e1
    rw [Nat.add_mul, Nat.mul_add]
    rw [show 65536 ^ q * (65536 ^ i * dig x i * S) = 65536 ^ q * 65536 ^ i * (dig x i * S) by grind, ← e3]
    grind
set_option maxRecDepth 100000 in
set_option maxHeartbeats 800000 in
theorem spShl (a : Value) (x n : Nat) (w : World) (ha : NatV w a x) (hx : nl x ≤ 1000000000) (hn : n ≤ 16000000000) :
    Calls Tryz.prog 51 #[a, .int .i64 n] w fun e w' => ∃ r, e = .returned r ∧ NPost (x * 2 ^ n) w r w' := by
  have hSa := ha.isS
  have hLa := ha.len
  by_cases hx0 : x = 0
  · subst hx0
    have hLa0 := hLa
    rw [nl_zero] at hLa0
    have Ha := Lib.hid ha
    clear ha hLa
    go_enter Tryz.func51, Tryz.ntmps51
    go_wp2
    go_ret
    exact ⟨_, rfl, by rw [Nat.zero_mul]; exact Ha.out, Below.refl _ _⟩
  obtain ⟨q, hq⟩ : ∃ q, q = n / 16 := ⟨_, rfl⟩
  obtain ⟨s, hs⟩ : ∃ s, s = n % 16 := ⟨_, rfl⟩
  have h1 : (n : Int) / 16 = (q : Int) := by omega
  have h2 : (n : Int) % 16 = (s : Int) := by omega
  have hs16 : s < 16 := by omega
  have hqb : q ≤ 1000000000 := by omega
  obtain ⟨S, hS⟩ : ∃ S, S = 2 ^ s := ⟨_, rfl⟩
  have hS2 : (2 : Int) ^ s = (S : Int) := by rw [hS]; simp
  have hSb : 0 < S ∧ S ≤ 32768 := by rw [hS]; exact two16 hs16
  have HS := Lib.hid hS
  have hsp := two_split n
  rw [← hq, ← hs, ← hS] at hsp
  have Hsp := Lib.hid hsp
  obtain ⟨la, hla⟩ : ∃ la, la = nl x := ⟨_, rfl⟩
  have h0 := nl_pos (show 0 < x by omega)
  rw [← hla] at hLa hx h0
  have hz : ((la : Int) == 0) = false := by rw [beq_eq_false_iff_ne]; omega
  have Hla := Lib.hid hla
  have Ha := Lib.hid ha
  clear hq hs hS hsp hla ha
  go_enter Tryz.func51, Tryz.ntmps51
  go_wp2_with (at_make; refine wpList_make_O rfl _ _ _ rfl elemN .i64 .i64 _ _ rfl rfl w.heap.size ?c1 ?c2 ?c3 ?c4 ?c5 ?_)
  case c1 => omega
  case c2 => omega
  case c3 => omega
  case c4 => omega
  case c5 => exact Nat.le_refl _
  rintro v0 w0 - ho0 hb0 -
  have e0 : List.replicate ((q : Int) + la + 1).toNat (Value.int .i64 0) = cellsN (List.replicate (q + la + 1) 0) := by
    rw [show ((q : Int) + la + 1).toNat = q + la + 1 by omega]; simp [cellsN]
  rw [e0] at ho0
  have hSv := ho0.isS
  have hLv : sLen v0 = q + la + 1 := by rw [ho0.len, cellsN_length]; simp
  have hcap : q + la + 1 ≤ sCap v0 := by rw [← hLv]; exact hSv.le
  have M0 : ShlRel x q S (q + la + 1) w.heap.size 0 w v0 w0 :=
    ⟨_, ho0, by simp, fun d hd => by rw [(List.mem_replicate.1 hd).2]; decide, by rw [val_replicate]; simp [Nat.mod_one], hb0⟩
  have HM0 := Lib.hid M0
  clear ho0 e0 hb0 M0
  go_wp2
  go_loopw [21] (fun i wr => ∃ k : Nat, k ≤ la ∧ i = .int .i64 k ∧ ShlRel x q S (q + la + 1) w.heap.size k w v0 wr) (fun i _ => la - (intOf i).toNat)
  case atStart => exact ⟨0, Nat.zero_le _, rfl, HM0.out⟩
  case round =>
    obtain ⟨k, hk, rfl, os, ho, hoL, hod, hov, hbl⟩ := hrel
    have Ho := Lib.hid ho
    have HoL := Lib.hid hoL
    have Hod := Lib.hid hod
    have Hov := Lib.hid hov
    by_cases hka : k < la
    · have ca := (Ha.out.below hbl).cell k (by rw [← Hla.out]; exact hka)
      have st := ShlRel.step ho hoL hod hov hbl (by omega) hs16 HS.out
      have co := ho.rl.cell (q + k) (by omega)
      have co2 := ho.rl.cell (q + k + 1) (by omega)
      rw [st.2.1] at co2
      have g1 := dig_lt x k
      obtain ⟨p, hp⟩ : ∃ p, p = dig x k := ⟨_, rfl⟩
      rw [← hp] at ca g1 st
      obtain ⟨o, hoo⟩ : ∃ o, o = os.getD (q + k) 0 := ⟨_, rfl⟩
      rw [← hoo] at co st
      have hpS : p * S ≤ 65535 * 32768 := Nat.mul_le_mul (by omega) hSb.2
      obtain ⟨m, hm⟩ : ∃ m, m = p * S := ⟨_, rfl⟩
      rw [← hm] at st hpS
      have hpm : (p : Int) * (S : Int) = (m : Int) := by rw [hm]; simp
      have fz := ho.frozen (by omega) (sOff v0 + (q + k))
      have fz2 := ho.frozen (by omega) (sOff v0 + (q + k + 1))
      have ho1 := st.1
      have Hst := Lib.hid st.2.2
      clear ho hoL hod hov hp hoo hm st
      go_wp2
      refine ⟨⟨k + 1, by omega, by go_num, ?_⟩, by simp [intOf]; omega⟩
      have h := Hst.out
      rw [show ((o + m % 65536 : Nat) : Int) = (o : Int) + (m : Int) % 65536 by omega, show ((m / 65536 : Nat) : Int) = (m : Int) / 65536 by omega] at h
      exact h
    · have hkl : k = la := by omega
      subst hkl
      clear ho hoL hod hov
      go_wp2_with fail
      refine (spTrim _ os wr Ho.out.rl Hod.out (by rw [HoL.out]; omega)).mono ?_
      rintro _ _ ⟨r, rfl, hr, rfl⟩
      have Hr := Lib.hid hr
      clear hr
      go_wp2
      go_ret
      refine ⟨_, rfl, ?_, hbl⟩
      have e1 := Hov.out
      rw [mod_nl (n := x) (by rw [← Hla.out]; exact Nat.le_refl _)] at e1
      have e2 : x * 2 ^ n = val os := by rw [e1, Hsp.out]; grind
      rw [e2]; exact Hr.out
def DMPost (x y : Nat) (w : World) (v : Value) (w' : World) : Prop := ∃ q r, v = .tuple #[q, r] ∧ NatV w' q (x / y) ∧ NatV w' r (x % y) ∧ Below w.heap.size w w'
def DvRel (x y B : Nat) (w : World) (i : Int) (a q : Value) (wr : World) : Prop := ∃ m k : Nat, NatV wr a m ∧ NatV wr q k ∧ k * y + m = x ∧ m < y * 2 ^ (i + 1).toNat ∧ Below B w wr
theorem bl_mul_two {y : Nat} (hy : 0 < y) (i : Nat) : bl (y * 2 ^ i) = i + bl y := by
  refine bl_shift hy ?_
  rw [Nat.mul_mod_left]; grind
theorem dv_start {x y : Nat} (hy : 0 < y) : x < y * 2 ^ (((bl x : Nat) : Int) - (bl y : Nat) + 1).toNat := by
  have h1 := lt_bl x
  have h2 := bl_ge hy
  have h3 := bl_pos hy
  by_cases h : bl y ≤ bl x
  · rw [show (((bl x : Nat) : Int) - (bl y : Nat) + 1).toNat = bl x - bl y + 1 by omega]
    refine Nat.lt_of_lt_of_le h1 ?_
    have : 2 ^ bl x = 2 ^ (bl y - 1) * 2 ^ (bl x - bl y + 1) := by rw [← Nat.pow_add]; congr 1; omega
    rw [this]
    exact Nat.mul_le_mul_right _ h2
  · rw [show (((bl x : Nat) : Int) - (bl y : Nat) + 1).toNat = 0 by omega, Nat.pow_zero, Nat.mul_one]
    exact Nat.lt_of_lt_of_le h1 (Nat.le_trans (Nat.pow_le_pow_right (by decide) (by omega)) h2)
set_option maxRecDepth 100000 in
set_option maxHeartbeats 1600000 in
theorem spDivMod (a b : Value) (x y : Nat) (w : World) (ha : NatV w a x) (hb : NatV w b y) (hx : nl x ≤ 1000000000) (hy : nl y ≤ 1000000000) (hy0 : 0 < y) :
    Calls Tryz.prog 69 #[a, b] w fun e w' => ∃ v, e = .returned v ∧ DMPost x y w v w' := by
  have hSa := ha.isS
  have hSb := hb.isS
  have hLa := ha.len
  have hLb := hb.len
  have Ha := Lib.hid ha
  have Hb := Lib.hid hb
  clear ha hb
  have hny := nl_pos hy0
  by_cases h1 : nl y = 1
  · have c := Hb.out.cell 0 (by omega)
    have hd : dig y 0 = y := by
      rw [dig_zero_eq]
      have := lt_nl y
      rw [h1] at this
      omega
    have hyl : y < 65536 := by have := dig_lt y 0; omega
    rw [hd, Nat.add_zero] at c
    rw [h1] at hLb
    clear h1 hd hny hy
    have hyl4 := nl_le4 (n := x % y) (by have := Nat.mod_lt x hy0; omega)
    go_enter Tryz.func69, Tryz.ntmps69
    go_wp2_with fail
    refine (spByDigit a x y w Ha.out hx hy0 hyl).mono ?_
    rintro _ w1 ⟨q, rfl, hq, hb1⟩
    have Hq := Lib.hid hq
    clear hq
    go_wp2_with fail
    refine (spSmall (x % y) w1 (by have := Nat.mod_lt x hy0; omega)).mono ?_
    rintro _ w2 ⟨r, rfl, hr, hb2⟩
    have Hr := Lib.hid hr
    clear hr
    go_wp2
    go_ret2
    exact ⟨_, rfl, q, r, rfl, Hq.out.below hb2, Hr.out, bthen hb1 hb2⟩
  · have hz : ((nl y : Int) == 1) = false := by rw [beq_eq_false_iff_ne]; omega
    have hbx := bl_nl x
    have hby := bl_nl y
    have hst := dv_start (x := x) hy0
    have Hst := Lib.hid hst
    have hbp := bl_pos hy0
    clear hst h1
    obtain ⟨lb, hlb⟩ : ∃ lb, lb = nl y := ⟨_, rfl⟩
    rw [← hlb] at hLb hny hz hy hby
    have Hlb := Lib.hid hlb
    clear hlb
    go_enter Tryz.func69, Tryz.ntmps69
    go_wp2_with fail
    refine (spLen a x _ (Ha.out.below ((Below.refl _ _).alloc (Nat.le_refl _) _)) hx).mono ?_
    rintro _ _ ⟨rfl, rfl⟩
    go_wp2_with fail
    refine (spLen b y _ (Hb.out.below ((Below.refl _ _).alloc (Nat.le_refl _) _)) (by rw [← Hlb.out]; exact hy)).mono ?_
    rintro _ _ ⟨rfl, rfl⟩
    obtain ⟨bx, hbx'⟩ : ∃ bx, bx = bl x := ⟨_, rfl⟩
    obtain ⟨by', hby'⟩ : ∃ by', by' = bl y := ⟨_, rfl⟩
    rw [← hbx', ← hby'] at Hst
    rw [← hbx'] at hbx ⊢
    rw [← hby'] at hby hbp ⊢
    have Hbx := Lib.hid hbx'
    have Hby := Lib.hid hby'
    clear hbx' hby'
    go_wp2
    go_loopw [0, 8, 9] (fun u q i wr => ∃ ii : Int, -17000000000 ≤ ii ∧ ii ≤ (bx : Int) - by' ∧ i = .int .i64 ii ∧ DvRel x y w.heap.size w ii u q wr) (fun _ _ i _ => (intOf i + 1).toNat)
    case atStart =>
      refine ⟨(bx : Int) - by', by omega, Int.le_refl _, by go_num, x, 0, Ha.out.below ((Below.refl _ _).alloc (Nat.le_refl _) _), NatV.zero (IsS.mk (Nat.le_refl _)) rfl, by omega, Hst.out, (Below.refl _ _).alloc (Nat.le_refl _) _⟩
    case round =>
      clear Hst
      obtain ⟨ii, hi1, hi2, rfl, m, k, hm, hk, hv, hlt, hbl⟩ := hrel
      have hSu := hm.isS
      have hSq := hk.isS
      have Hm := Lib.hid hm
      have Hk := Lib.hid hk
      have Hv := Lib.hid hv
      have Hlt := Lib.hid hlt
      have hmx : m ≤ x := by omega
      have hkx : k ≤ x := by
        have : k * 1 ≤ k * y := Nat.mul_le_mul_left _ hy0
        omega
      have hnm := nl_mono hmx
      have hnk := nl_mono hkx
      clear hm hk hv hlt hmx hkx
      by_cases hi0 : 0 ≤ ii
      · obtain ⟨i, rfl⟩ : ∃ i : Nat, ii = (i : Int) := ⟨ii.toNat, by omega⟩
        have t1 : decide ((0:Int) ≤ (i : Int)) = true := by rw [decide_eq_true_iff]; omega
        have hs1 : nl (y * 2 ^ i) ≤ nl x := by
          refine nl_bl ?_
          rw [bl_mul_two hy0, ← Hby.out]
          omega
        have hs2 : nl (2 ^ i) ≤ nl x := by
          rw [nl_two]
          omega
        go_wp2_with fail
        refine (spShl b y i wr (Hb.out.below hbl) (by rw [← Hlb.out]; exact hy) (by omega)).mono ?_
        rintro _ w2 ⟨d, rfl, hd, hb2⟩
        have Hd := Lib.hid hd
        clear hd
        go_wp2_with fail
        refine (spCmp d u0 _ m w2 Hd.out (Hm.out.below hb2) (by omega) (by omega)).mono ?_
        rintro _ w3 ⟨rfl, hb3⟩
        have cb := cmpN_bd (y * 2 ^ i) m
        have cl := cmpN_le (y * 2 ^ i) m
        obtain ⟨c, hc⟩ : ∃ c, c = cmpN (y * 2 ^ i) m := ⟨_, rfl⟩
        rw [← hc] at cb cl ⊢
        obtain ⟨cb1, cb2⟩ := cb
        have Cl := Lib.hid cl
        have hlt2 := Hlt.out
        rw [show ((i : Int) + 1).toNat = i + 1 by omega, Nat.pow_succ] at hlt2
        have Hlt2 := Lib.hid hlt2
        clear cl hc hlt2
        have hb23 := bthen hb2 hb3
        by_cases hc0 : c ≤ 0
        · have t2 : decide (c ≤ 0) = true := by rw [decide_eq_true_iff]; exact hc0
          have hle := Cl.out.1 hc0
          go_wp2_with fail
          refine (spSub u0 d m _ w3 (Hm.out.below hb23) (Hd.out.below hb3) (by omega) hle).mono ?_
          rintro _ w4 ⟨r4, rfl, h4, hb4⟩
          have H4 := Lib.hid h4
          have Hle := Lib.hid hle
          clear h4 hle
          go_wp2_with fail
          refine (spBit i w4 (by omega)).mono ?_
          rintro _ w5 ⟨r5, rfl, h5, hb5⟩
          have H5 := Lib.hid h5
          clear h5
          go_wp2_with fail
          have hb45 := bthen (bthen hb23 hb4) hb5
          refine (spAdd u8 r5 k _ w5 (Hk.out.below hb45) H5.out (by omega) (by omega)).mono ?_
          rintro _ w6 ⟨r6, rfl, h6, hb6⟩
          have H6 := Lib.hid h6
          clear h6
          go_wp2
          refine ⟨⟨(i : Int) - 1, by omega, by omega, by go_num, m - y * 2 ^ i, k + 2 ^ i, H4.out.below (bthen hb5 hb6), H6.out, ?_, ?_, hbl.trans ((bthen hb45 hb6).mono hbl.size)⟩, by simp [intOf]⟩
          · have := Hv.out; have := Hle.out
            rw [Nat.add_mul, Nat.mul_comm (2 ^ i) y]; omega
          · rw [show ((i : Int) - 1 + 1).toNat = i by omega]
            have := Hlt2.out; have := Hle.out
            generalize 2 ^ i = P at *
            rw [show y * (P * 2) = y * P + y * P by grind] at *
            omega
        · have t2 : decide (c ≤ 0) = false := by rw [decide_eq_false_iff_not]; exact hc0
          have hgt : ¬ y * 2 ^ i ≤ m := fun h => hc0 (Cl.out.2 h)
          have Hgt := Lib.hid hgt
          clear hgt
          go_wp2
          refine ⟨⟨(i : Int) - 1, by omega, by omega, by go_num, m, k, Hm.out.below hb23, Hk.out.below hb23, Hv.out, ?_, hbl.trans (hb23.mono hbl.size)⟩, by simp [intOf]⟩
          rw [show ((i : Int) - 1 + 1).toNat = i by omega]
          have := Hgt.out
          omega
      · have t1 : decide ((0:Int) ≤ ii) = false := by rw [decide_eq_false_iff_not]; exact hi0
        go_wp2
        go_ret2
        have e1 := Hv.out
        have e2 := Hlt.out
        rw [show (ii + 1).toNat = 0 by omega, Nat.pow_zero, Nat.mul_one] at e2
        have e3 : x / y = k := by rw [← e1, Nat.mul_comm k y, Nat.mul_add_div hy0, Nat.div_eq_of_lt e2]; rfl
        have e4 : x % y = m := by rw [← e1, Nat.mul_comm k y, Nat.mul_add_mod, Nat.mod_eq_of_lt e2]
        exact ⟨_, rfl, _, _, rfl, by rw [e3]; exact Hk.out, by rw [e4]; exact Hm.out, hbl⟩
theorem NatV.uniq {w : World} {v : Value} {m n : Nat} (h : NatV w v m) (h' : NatV w v n) : m = n := by
  have hl : nl m = nl n := h.len.symm.trans h'.len
  have hd : digs m = digs n := by
    unfold digs
    rw [hl]
    refine List.map_congr_left fun i hi => ?_
    have hi := List.mem_range.1 hi
    have h1 := h.cell i (by omega)
    rw [h'.cell i hi] at h1
    simp at h1
    omega
  rw [← val_digs m, hd, val_digs]
open Classical in
noncomputable def natIn (w : World) (v : Value) : Nat := if h : ∃ n, NatV w v n then h.choose else 0
theorem natIn_of {w : World} {v : Value} {n : Nat} (h : NatV w v n) : natIn w v = n := by
  unfold natIn
  rw [dif_pos ⟨n, h⟩]
  exact NatV.uniq (Exists.choose_spec (⟨n, h⟩ : ∃ n, NatV w v n)) h
set_option maxRecDepth 100000 in
set_option maxHeartbeats 800000 in
theorem spGcd (a b : Value) (x y : Nat) (w : World) (ha : NatV w a x) (hb : NatV w b y) (hx : nl x ≤ 1000000000) (hy : nl y ≤ 1000000000) :
    Calls Tryz.prog 68 #[a, b] w fun e w' => ∃ r, e = .returned r ∧ NPost (Nat.gcd x y) w r w' := by
  have hSa := ha.isS
  have hSb := hb.isS
  have Ha := Lib.hid ha
  have Hb := Lib.hid hb
  clear ha hb
  go_enter Tryz.func68, Tryz.ntmps68
  go_wp2
  go_loopw [0, 1] (fun u v wr => ∃ m n : Nat, nl m ≤ 1000000000 ∧ nl n ≤ 1000000000 ∧ NatV wr u m ∧ NatV wr v n ∧ Nat.gcd m n = Nat.gcd x y ∧ Below w.heap.size w wr) (fun _ v wr => natIn wr v)
  case atStart => exact ⟨x, y, hx, hy, Ha.out, Hb.out, rfl, Below.refl _ _⟩
  case round =>
    obtain ⟨m, n, hm, hn, hu, hv, hg, hbl⟩ := hrel
    have hSu := hu.isS
    have hSv := hv.isS
    have hLv := hv.len
    have Hu := Lib.hid hu
    have Hv := Lib.hid hv
    have Hg := Lib.hid hg
    clear hu hv hg
    by_cases h0 : n = 0
    · subst h0
      rw [nl_zero] at hLv
      go_wp2
      go_ret
      refine ⟨_, rfl, ?_, hbl⟩
      rw [← Hg.out, Nat.gcd_zero_right]
      exact Hu.out
    · have hpos : 0 < nl n := nl_pos (by omega)
      have t1 : decide (0 < nl n) = true := by rw [decide_eq_true_iff]; exact hpos
      go_wp2_with fail
      refine (spDivMod _ _ m n wr Hu.out Hv.out hm hn (by omega)).mono ?_
      rintro _ w1 ⟨_, rfl, q, r, rfl, hq, hr, hb1⟩
      have Hr := Lib.hid hr
      have Hv1 := Lib.hid (Hv.out.below hb1)
      have hlt := Nat.mod_lt m (show 0 < n by omega)
      have hnr := nl_mono (Nat.le_of_lt hlt)
      have Hlt := Lib.hid hlt
      clear hq hr hlt
      go_wp2
      refine ⟨⟨n, m % n, hn, by omega, Hv1.out, Hr.out, ?_, hbl.trans (hb1.mono hbl.size)⟩, ?_⟩
      · rw [← Hg.out, Nat.gcd_comm n, ← Nat.gcd_rec, Nat.gcd_comm]
      · rw [natIn_of Hr.out, natIn_of Hv.out]; exact Hlt.out
def wdg (n i : Nat) : Nat := n / 18446744073709551616 ^ i % 18446744073709551616
def nw (n : Nat) : Nat := (nl n + 3) / 4
def wv : List Nat → Nat
  | [] => 0
  | d :: ds => d + 18446744073709551616 * wv ds
def wds (n : Nat) : List Nat := (List.range (nw n)).map (wdg n)
theorem wpow (i : Nat) : (18446744073709551616 : Nat) ^ i = 65536 ^ (4 * i) := by rw [Nat.pow_mul]
theorem wpow_pos (i : Nat) : 0 < 18446744073709551616 ^ i := Nat.pow_pos (by decide)
theorem wdg_lt (n i : Nat) : wdg n i < 18446744073709551616 := Nat.mod_lt _ (by decide)
theorem wmod_succ (n i : Nat) : n % 18446744073709551616 ^ (i + 1) = n % 18446744073709551616 ^ i + 18446744073709551616 ^ i * wdg n i := Nat.mod_pow_succ
theorem lt_nw (n : Nat) : n < 18446744073709551616 ^ nw n := by
  rw [wpow]
  exact Nat.lt_of_lt_of_le (lt_nl n) (Nat.pow_le_pow_right (by decide) (by unfold nw; omega))
theorem nw_le {n k : Nat} (h : n < 18446744073709551616 ^ k) : nw n ≤ k := by
  rw [wpow] at h
  have := nl_le h
  unfold nw; omega
theorem nw_zero : nw 0 = 0 := rfl
theorem nw_pos {n : Nat} (h : 0 < n) : 0 < nw n := by have := nl_pos h; unfold nw; omega
theorem nw_eq_zero {n : Nat} : nw n = 0 ↔ n = 0 := ⟨fun h => by rcases Nat.eq_zero_or_pos n with h' | h'; exact h'; have := nw_pos h'; omega, fun h => by rw [h]; rfl⟩
theorem nw_ge {n : Nat} (h : 0 < n) : 18446744073709551616 ^ (nw n - 1) ≤ n := by
  rw [wpow]
  refine Nat.le_trans (Nat.pow_le_pow_right (by decide) ?_) (nl_ge h)
  have := nl_pos h
  unfold nw; omega
theorem nw_mono {a b : Nat} (h : a ≤ b) : nw a ≤ nw b := nw_le (Nat.lt_of_le_of_lt h (lt_nw b))
theorem wmod_nw {n i : Nat} (h : nw n ≤ i) : n % 18446744073709551616 ^ i = n :=
  Nat.mod_eq_of_lt (Nat.lt_of_lt_of_le (lt_nw n) (Nat.pow_le_pow_right (by decide) h))
theorem wdg_ge {n i : Nat} (h : nw n ≤ i) : wdg n i = 0 := by
  unfold wdg
  rw [Nat.div_eq_of_lt (Nat.lt_of_lt_of_le (lt_nw n) (Nat.pow_le_pow_right (by decide) h))]
theorem wdg_last {n : Nat} (h : 0 < n) : wdg n (nw n - 1) ≠ 0 := by
  intro h0
  have h1 := wmod_succ n (nw n - 1)
  have := nw_pos h
  rw [show nw n - 1 + 1 = nw n by omega, wmod_nw (Nat.le_refl _), h0, Nat.mul_zero, Nat.add_zero] at h1
  have h2 := nw_ge h
  have h3 := Nat.mod_lt n (wpow_pos (nw n - 1))
  omega
theorem wv_append (a b : List Nat) : wv (a ++ b) = wv a + 18446744073709551616 ^ a.length * wv b := by
  induction a with
  | nil => simp [wv]
  | cons d ds ih => simp only [List.cons_append, wv, ih, List.length_cons, Nat.pow_succ]; grind
theorem wv_snoc (a : List Nat) (d : Nat) : wv (a ++ [d]) = wv a + 18446744073709551616 ^ a.length * d := by rw [wv_append]; simp [wv]
theorem wv_lt {a : List Nat} (h : ∀ d ∈ a, d < 18446744073709551616) : wv a < 18446744073709551616 ^ a.length := by
  induction a with
  | nil => decide
  | cons d ds ih =>
    have h1 := ih fun x hx => h x (by simp [hx])
    have h2 := h d (by simp)
    simp only [wv, List.length_cons, Nat.pow_succ]
    omega
theorem wdg_zero_eq (n : Nat) : wdg n 0 = n % 18446744073709551616 := by simp [wdg]
theorem wdg_succ (n i : Nat) : wdg n (i + 1) = wdg (n / 18446744073709551616) i := by
  unfold wdg; rw [Nat.pow_succ, Nat.mul_comm, Nat.div_div_eq_div_mul]
theorem wv_dig {a : List Nat} (h : ∀ d ∈ a, d < 18446744073709551616) : ∀ i, wdg (wv a) i = a.getD i 0 := by
  induction a with
  | nil => intro i; simp [wv, wdg]
  | cons d ds ih =>
    have h2 := h d (by simp)
    intro i
    cases i with
    | zero => rw [wdg_zero_eq]; simp [wv]; omega
    | succ i =>
      rw [wdg_succ, show wv (d :: ds) / 18446744073709551616 = wv ds by simp only [wv]; omega, ih (fun x hx => h x (by simp [hx]))]
      simp
theorem wv_set {a : List Nat} : ∀ {i : Nat}, i < a.length → ∀ d, wv (a.set i d) + 18446744073709551616 ^ i * a.getD i 0 = wv a + 18446744073709551616 ^ i * d := by
  induction a with
  | nil => intro i h; simp at h
  | cons x xs ih =>
    intro i h d
    cases i with
    | zero => simp [wv]; omega
    | succ i =>
      have := ih (show i < xs.length by simpa using h) d
      simp only [List.set_cons_succ, wv, Nat.pow_succ]
      simp only [List.getD_eq_getElem?_getD, List.getElem?_cons_succ] at this ⊢
      grind
theorem wds_length (n : Nat) : (wds n).length = nw n := by simp [wds]
theorem wds_lt {n d : Nat} (h : d ∈ wds n) : d < 18446744073709551616 := by
  obtain ⟨i, _, rfl⟩ := List.mem_map.1 h; exact wdg_lt n i
theorem wv_range (n : Nat) : ∀ k, wv ((List.range k).map (wdg n)) = n % 18446744073709551616 ^ k
  | 0 => by simp [wv, Nat.mod_one]
  | k + 1 => by
    rw [List.range_succ, List.map_append, List.map_cons, List.map_nil, wv_snoc, wv_range n k, wmod_succ]
    simp
theorem wv_wds (n : Nat) : wv (wds n) = n := by rw [wds, wv_range, wmod_nw (Nat.le_refl _)]
theorem wds_getD (n i : Nat) : (wds n).getD i 0 = wdg n i := by
  by_cases h : i < nw n
  · simp [wds, List.getD_eq_getElem?_getD, h]
  · rw [wdg_ge (by omega), List.getD_eq_getElem?_getD, List.getElem?_eq_none (by rw [wds_length]; omega)]; rfl
theorem list_ext_getD {a b : List Nat} (hl : a.length = b.length) (h : ∀ i, a.getD i 0 = b.getD i 0) : a = b := by
  apply List.ext_getElem hl
  intro i h1 h2
  have := h i
  simpa [List.getD_eq_getElem?_getD, List.getElem?_eq_getElem h1, List.getElem?_eq_getElem h2] using this
theorem wds_of {a : List Nat} (h : ∀ d ∈ a, d < 18446744073709551616) (hl : a.length = nw (wv a)) : a = wds (wv a) :=
  list_ext_getD (by rw [wds_length]; exact hl) fun i => by rw [wds_getD, wv_dig h]
theorem wv_inj {a b : List Nat} (ha : ∀ d ∈ a, d < 18446744073709551616) (hb : ∀ d ∈ b, d < 18446744073709551616) (hl : a.length = b.length) (h : wv a = wv b) : a = b :=
  list_ext_getD hl fun i => by rw [← wv_dig ha, ← wv_dig hb, h]
theorem wds_norm {a : List Nat} (h : ∀ d ∈ a, d < 18446744073709551616) (hl : a = [] ∨ a.getD (a.length - 1) 0 ≠ 0) : a = wds (wv a) := by
  refine wds_of h ?_
  rcases hl with rfl | hl
  · rfl
  · have h1 := nw_le (wv_lt h)
    refine Nat.le_antisymm (Nat.le_of_not_lt fun hc => hl ?_) h1
    rw [← wv_dig h]
    exact wdg_ge (by omega)

def cellsW (ds : List Nat) : List Value := ds.map fun (d : Nat) => Value.int .u64 (d : Int)
theorem cellsW_length (ds : List Nat) : (cellsW ds).length = ds.length := by simp [cellsW]
theorem cellsW_eq (ds : List Nat) : cellsW ds = (ints ds).map (Value.int .u64) := by simp [cellsW, ints]
theorem cellsW_snoc (ds : List Nat) (d : Nat) : cellsW ds ++ [.int .u64 (d : Int)] = cellsW (ds ++ [d]) := by simp [cellsW]
theorem cellsW_set (os : List Nat) (i d : Nat) : (cellsW os).set i (.int .u64 (d : Int)) = cellsW (os.set i d) := by simp [cellsW, List.map_set]
theorem cellsW_append (a b : List Nat) : cellsW a ++ cellsW b = cellsW (a ++ b) := by simp [cellsW]
structure RW (w : World) (v : Value) (ds : List Nat) : Prop where
  ri : RI .u64 w v (ints ds)
  lt : ∀ d ∈ ds, d < 18446744073709551616
theorem RW.isS {w : World} {v : Value} {ds : List Nat} (h : RW w v ds) : IsS v := h.ri.isS
theorem RW.len {w : World} {v : Value} {ds : List Nat} (h : RW w v ds) : sLen v = ds.length := h.ri.len.trans (ints_length ds)
theorem RW.cell {w : World} {v : Value} {ds : List Nat} (h : RW w v ds) (i : Nat) (hi : i < ds.length) : w.cell? ⟨sBlk v, sOff v + i, none⟩ = some (.int .u64 ((ds.getD i 0 : Nat) : Int)) := by
  rw [h.ri.cell i (by rw [ints_length]; exact hi)]
  simp [ints, List.getD_eq_getElem?_getD, List.getElem?_eq_getElem hi]
theorem getD_ltW {os : List Nat} (h : ∀ d ∈ os, d < 18446744073709551616) (i : Nat) : os.getD i 0 < 18446744073709551616 := by
  by_cases hi : i < os.length
  · rw [List.getD_eq_getElem?_getD, List.getElem?_eq_getElem hi]; exact h _ (List.getElem_mem hi)
  · rw [List.getD_eq_getElem?_getD, List.getElem?_eq_none (by omega)]; decide
theorem RW.below {w w' : World} {v : Value} {ds : List Nat} (h : RW w v ds) (hb : Below w.heap.size w w') : RW w' v ds := ⟨h.ri.below hb, h.lt⟩
theorem RW.take {w : World} {v : Value} {ds : List Nat} (h : RW w v ds) {n : Nat} (hn : n ≤ ds.length) : RW w (subS v 0 n) (ds.take n) := by
  refine ⟨?_, fun d hd => h.lt d (List.mem_of_mem_take hd)⟩
  have := h.ri.sub (l := 0) (n := n) (Nat.zero_le _) (by rw [ints_length]; exact hn)
  simpa [ints, List.map_take] using this
theorem Own.rw' {w : World} {B e : Nat} {v : Value} {ds : List Nat} (h : Own w B e v (cellsW ds)) (hd : ∀ d ∈ ds, d < 18446744073709551616) : RW w v ds := by
  rw [cellsW_eq] at h; exact ⟨h.rd, hd⟩
theorem RW.src {w : World} {v : Value} {ds : List Nat} {tx e : TypeId} (h : RW w v ds) (hk : Tryz.prog.underlying tx = some (.slice e)) : Src Tryz.prog 1 tx v ds.length (cellsW ds) w := by
  rw [cellsW_eq, ← ints_length]; exact RI.src h.ri hk
theorem elemU : ElemT Tryz.prog 22 40 8 (.int .u64 0) := .of (z := .int .u64 0) Tryz.underlying22 rfl (by kernel_rfl)
theorem elemW : ElemT Tryz.prog 107 116 8 (.int .u64 0) := .of (z := .int .u64 0) Tryz.underlying107 rfl (by kernel_rfl)
theorem elemT : ElemT Tryz.prog 108 116 8 (.int .u64 0) := .of (z := .int .u64 0) Tryz.underlying108 rfl (by kernel_rfl)
end Go.Proofs.YtllhnjpnkmjopaaGreatDoor
namespace Go.Proofs.YtllhnjpnkmjopaaGreatDoor
open Go.ChangeShapes Go.WideShapes Go.ChangeAt Go.RowKit

theorem words_of {zs : List Int} (h : ∀ n ∈ zs, (Lit.int .u64 n).wf = true) : ∃ us : List Nat, zs = ints us ∧ ∀ d ∈ us, d < 18446744073709551616 := by
  have hb : ∀ n ∈ zs, 0 ≤ n ∧ n ≤ 18446744073709551615 := fun n hn => by simpa [Lit.wf, IntKind.min, IntKind.max, IntKind.signed, IntKind.bits] using h n hn
  refine ⟨zs.map Int.toNat, ?_, ?_⟩
  · simp only [ints, List.map_map]
    refine ((List.map_congr_left (g := id) fun n hn => ?_).trans (List.map_id zs)).symm
    have := hb n hn
    simp only [Function.comp, id]; omega
  · intro d hd
    obtain ⟨n, hn, rfl⟩ := List.mem_map.1 hd
    have := hb n hn
    omega
section
variable {H : Type} {enc : TypeId × Value → H} {W : World} {base : Nat} {held : Bool}
theorem open_words {v : Value} {fuel : Nat} {x : DataW H × List MemPlace} (h : DataW.trod enc Tryz.prog W base (fun _ => true) held fuel 22 [v] = some x) : ∃ ws, RW W v ws := by
  have key : ∃ a len cap zs, v = .slice a len cap ∧ ((a = none ∧ len = 0 ∧ cap = 0 ∧ zs = []) ∨ ∃ x, a = some x ∧ len ≤ cap ∧ cap ≤ maxLen ∧ zs.length = cap ∧ (∀ i, i < zs.length → W.cell? (x.add i) = some (.int .u64 (zs.getD i 0))) ∧ ∀ n ∈ zs, (Lit.int .u64 n).wf = true) := by
    rcases open_ints Tryz.underlying22 Tryz.underlying40 (by kernel_rfl) h with ⟨hcs, _⟩ | ⟨x, l, c, zs, hcs, _, hl, hm, hz, _, hcell, hwz⟩
    · simp at hcs; exact ⟨_, _, _, [], hcs, .inl ⟨rfl, rfl, rfl, rfl⟩⟩
    · simp at hcs
      exact ⟨_, _, _, zs, hcs, .inr ⟨_, rfl, hl, hm, by simpa using hz, hcell, hwz⟩⟩
  obtain ⟨a, len, cap, zs, rfl, hr⟩ := key
  obtain ⟨h1, h2, _, _⟩ := row_RI hr
  obtain ⟨us, hus, hd⟩ := words_of h2
  rw [hus] at h1
  exact ⟨us, h1, hd⟩
set_option maxRecDepth 100000 in
theorem open_number {cs : List Value} {fuel : Nat} {x : DataW H × List MemPlace} (h : DataW.trod enc Tryz.prog W base (fun _ => true) held fuel 24 cs = some x) : ∃ b v ws, cs = [.bool b, v] ∧ RW W v ws := by
  obtain ⟨y0, y1, n, rfl, hl, h0, h1⟩ := trod_struct2 Tryz.underlying24 h
  have hc : Tryz.prog.cellsOf 24 = 2 := by kernel_rfl
  rw [hc] at hl
  match cs, hl with
  | [c0, c1], _ =>
    obtain ⟨b', hb, _⟩ := DataW.trod_bool Tryz.underlying4 h0
    have e0 : c0 = .bool b' := by
      have := hb
      have hcb : Tryz.prog.cellsOf 4 = 1 := by kernel_rfl
      simpa [hcb] using this
    subst e0
    have hcs : Tryz.prog.cellsOf 22 = 1 := by kernel_rfl
    have h1' : DataW.trod enc Tryz.prog W base (fun _ => true) held n 22 [c1] = some y1 := by simpa [hcs] using h1
    obtain ⟨ws, hw⟩ := open_words h1'
    exact ⟨b', c1, ws, rfl, hw⟩
set_option maxRecDepth 100000 in
theorem open_fraction {v : Value} {r : Reach} {b0 : Nat} {d : DataW H} {p : List MemPlace} (hval : Value.okWide Tryz.prog W r b0 26 v) (h : DataW.Trod enc Tryz.prog W base (fun _ => true) held 26 v d p) :
    ∃ b v1 v2 ns ds, v = .agg #[.bool b, v1, v2] ∧ RW W v1 ns ∧ RW W v2 ds := by
  obtain ⟨cs, rfl, hsz⟩ := okWide_struct Tryz.underlying26 hval
  have hc : Tryz.prog.cellsOf 26 = 3 := by kernel_rfl
  rw [hc] at hsz
  obtain ⟨fuel, hf⟩ := h
  obtain ⟨y0, y1, n, _, hl, h0, h1⟩ := trod_struct2 Tryz.underlying26 hf
  match cs, hsz with
  | ⟨[c0, c1, c2]⟩, _ =>
    have hcn : Tryz.prog.cellsOf 24 = 2 := by kernel_rfl
    have hcs : Tryz.prog.cellsOf 22 = 1 := by kernel_rfl
    have h0' : DataW.trod enc Tryz.prog W base (fun _ => true) held n 24 [c0, c1] = some y0 := by simpa [hcn, Value.cells] using h0
    have h1' : DataW.trod enc Tryz.prog W base (fun _ => true) held n 22 [c2] = some y1 := by simpa [hcs, Value.cells] using h1
    obtain ⟨b, v, ws, e, hw⟩ := open_number h0'
    obtain ⟨ds, hd⟩ := open_words h1'
    simp at e
    obtain ⟨rfl, rfl⟩ := e
    exact ⟨b, _, _, ws, ds, rfl, hw, hd⟩
end
end Go.Proofs.YtllhnjpnkmjopaaGreatDoor
namespace Go.Proofs.YtllhnjpnkmjopaaGreatDoor
open Go.RowKit

theorem wv_take_succ {ws : List Nat} {i : Nat} (h : i < ws.length) : wv (ws.take (i + 1)) = wv (ws.take i) + 18446744073709551616 ^ i * ws.getD i 0 := by
  rw [List.take_succ_eq_append_getElem h, wv_snoc]
  simp [List.getD_eq_getElem?_getD, List.getElem?_eq_getElem h, Nat.min_eq_left (Nat.le_of_lt h)]
def OfRel (ws : List Nat) (B i d k : Nat) (w : World) (v : Value) (wr : World) : Prop :=
  ∃ os : List Nat, Own wr B 3 v (cellsN os) ∧ os.length = 4 * i + k ∧ (∀ d ∈ os, d < 65536) ∧ val os = wv (ws.take i) + 65536 ^ (4 * i) * (d % 65536 ^ k) ∧ Below B w wr
theorem OfRel.step {ws : List Nat} {B i d k : Nat} {w w1 : World} {v1 : Value} {os : List Nat} (hl : os.length = 4 * i + k) (hd : ∀ d ∈ os, d < 65536) (hv : val os = wv (ws.take i) + 65536 ^ (4 * i) * (d % 65536 ^ k))
    (ho : Own w1 B 3 v1 (cellsN os ++ [.int .i64 ((dig d k : Nat) : Int)])) (hb : Below B w w1) : OfRel ws B i d (k + 1) w v1 w1 := by
  rw [cellsN_snoc] at ho
  refine ⟨_, ho, by simp [hl]; omega, ?_, ?_, hb⟩
  · intro z hz
    rcases List.mem_append.1 hz with h | h
    · exact hd z h
    · rw [List.mem_singleton.1 h]; exact dig_lt d k
  · rw [val_snoc, hl, hv, mod_succ, Nat.pow_add]; grind
theorem OfRel.next {ws : List Nat} {B i : Nat} {w wr : World} {v : Value} (hi : i < ws.length) (hd : ws.getD i 0 < 18446744073709551616) (h : OfRel ws B i (ws.getD i 0) 4 w v wr) : OfRel ws B (i + 1) 0 0 w v wr := by
  obtain ⟨os, h1, h2, h3, h4, h5⟩ := h
  refine ⟨os, h1, by omega, h3, ?_, h5⟩
  rw [h4, wv_take_succ hi, wpow, Nat.mod_eq_of_lt (show ws.getD i 0 < 65536 ^ 4 by exact hd)]; simp
theorem and16 {m : Nat} (hm : m < 18446744073709551616) : bits .and .u64 (m : Int) 65535 = ((m % 65536 : Nat) : Int) := by
  rw [show (65535 : Int) = ((65535 : Nat) : Int) from rfl, bits_and_u64_nat _ _ hm (by decide), show (65535 : Nat) = 2 ^ 16 - 1 from rfl, Nat.and_two_pow_sub_one_eq_mod]
set_option maxRecDepth 100000 in
set_option maxHeartbeats 800000 in
theorem spOf (a : Value) (ws : List Nat) (w : World) (ha : RW w a ws) (hl : ws.length ≤ 200000000) :
    Calls Tryz.prog 45 #[a] w fun e w' => ∃ r, e = .returned r ∧ NPost (wv ws) w r w' := by
  have hSa := ha.isS
  have hLa := ha.len
  obtain ⟨la, hla⟩ : ∃ la, la = ws.length := ⟨_, rfl⟩
  rw [← hla] at hLa hl
  have Hla := Lib.hid hla
  have Ha := Lib.hid ha
  clear hla ha
  go_enter Tryz.func45, Tryz.ntmps45
  go_wp2
  go_loopw [3, 10] (fun v i wr => ∃ k : Nat, k ≤ la ∧ i = .int .i64 k ∧ OfRel ws w.heap.size k 0 0 w v wr) (fun _ i _ => la - (intOf i).toNat)
  case atStart => exact ⟨0, Nat.zero_le _, rfl, [], Own.zero _ _ _ _ _, by simp, by simp, by simp [val, wv], (Below.refl _ _).alloc (Nat.le_refl _) _⟩
  case round =>
    obtain ⟨i, hi, rfl, hM⟩ := hrel
    have hbl : Below w.heap.size w wr := by obtain ⟨_, _, _, _, _, h⟩ := hM; exact h
    have hSo : IsS u3 := by obtain ⟨_, h, _, _, _, _⟩ := hM; exact h.isS
    have HM := Lib.hid hM
    clear hM
    by_cases hia : i < la
    · have ca := (Ha.out.below hbl).cell i (by rw [← Hla.out]; exact hia)
      have g1 := getD_ltW Ha.out.lt i
      obtain ⟨d, hd⟩ : ∃ d, d = ws.getD i 0 := ⟨_, rfl⟩
      rw [← hd] at ca g1
      have Hd := Lib.hid hd
      clear hd
      go_wp2
      go_loopw [3, 6] (fun v i' wr => ∃ k : Nat, k ≤ 4 ∧ i' = .int .i64 k ∧ OfRel ws w.heap.size i d k w v wr) (fun _ i' _ => 4 - (intOf i').toNat)
      case atStart =>
        obtain ⟨os, h1, h2, h3, h4, h5⟩ := HM.out
        exact ⟨0, by decide, rfl, os, h1, by omega, h3, by rw [h4]; simp [Nat.mod_one], h5⟩
      case round =>
        clear ca
        obtain ⟨k, hk, rfl, os, ho, hol, hod, hov, hb2⟩ := hrel
        have hbz := hb2.size
        have Hol := Lib.hid hol
        have Hod := Lib.hid hod
        have Hov := Lib.hid hov
        have Hcl := Lib.hid (cellsN_length os)
        have hSo2 := ho.isS
        clear hod hov hol
        by_cases hk4 : k < 4
        · have hp : (2 : Int) ^ (16 * k) = ((65536 ^ k : Nat) : Int) := by rw [pow16]; simp
          have hdm : d / 65536 ^ k ≤ d := Nat.div_le_self _ _
          have hq : (d : Int) / ((65536 ^ k : Nat) : Int) = ((d / 65536 ^ k : Nat) : Int) := by simp
          have han := and16 (m := d / 65536 ^ k) (by omega)
          have hdg : d / 65536 ^ k % 65536 = dig d k := rfl
          have hdl := dig_lt d k
          rw [hdg] at han
          have HT : ∀ (v1 : Value) (w1 : World), Own w1 w.heap.size 3 v1 (cellsN os ++ [.int .i64 ((dig d k : Nat) : Int)]) → Below w.heap.size w w1 → OfRel ws w.heap.size i d (k + 1) w v1 w1 := fun v1 w1 h1 h2 => OfRel.step Hol.out Hod.out Hov.out h1 h2
          have hTT := Lib.hid HT
          obtain ⟨g, hg⟩ : ∃ g, g = dig d k := ⟨_, rfl⟩
          rw [← hg] at han hdl hTT
          obtain ⟨P, hP⟩ : ∃ P, P = 65536 ^ k := ⟨_, rfl⟩
          rw [← hP] at hp hq hdm han
          obtain ⟨q, hq'⟩ : ∃ q, q = d / P := ⟨_, rfl⟩
          rw [← hq'] at hq hdm han
          clear hdg hg hP hq' HT
          have hos : os.length ≤ 1000000000 := by have := Hol.out; omega
          go_wp2_with (at_builtin; refine wpList_append_O rfl _ _ _ _ rfl elemN w.heap.size _ _ rfl (ho.alloc _) _ rfl 1 [.int .i64 (g : Int)] (srcOne Tryz.underlying29 wr _ _) ?c3 ?c4 ?c5 ?_)
          case c3 => rw [Hcl.out]; unfold maxLen; omega
          case c4 => rw [Hcl.out]; omega
          case c5 => simp; omega
          rintro v1 w1 ho1 hb1 - - -
          have hs := hTT.out v1 w1 ho1 ((hb2.alloc hbz _).trans hb1)
          have Hs := Lib.hid hs
          clear hs ho1
          go_wp2
          go_roundw
          case rel => exact ⟨k + 1, by omega, by go_num, Hs.out⟩
          case measure => simp [intOf]; omega
        · have hk' : k = 4 := by omega
          subst hk'
          have M2 : OfRel ws w.heap.size (i + 1) 0 0 w u3 wr := OfRel.next (by rw [← Hla.out]; exact hia) (getD_ltW Ha.out.lt i) (by rw [← Hd.out]; exact ⟨os, ho, Hol.out, Hod.out, Hov.out, hb2⟩)
          have HM2 := Lib.hid M2
          clear M2
          go_wp2
          go_roundw
          case rel => exact ⟨i + 1, by omega, by go_num, HM2.out⟩
          case measure => simp [intOf]; omega
    · have hil : i = la := by omega
      subst hil
      obtain ⟨os, h1, h2, h3, h4, h5⟩ := HM.out
      have Ho := Lib.hid h1
      have Hl := Lib.hid h2
      have Hd := Lib.hid h3
      have Hv := Lib.hid h4
      clear h1 h2 h3 h4 h5
      go_wp2_with fail
      refine (spTrim _ os wr Ho.out.rl Hd.out (by rw [Hl.out]; omega)).mono ?_
      rintro _ _ ⟨r, rfl, hr, rfl⟩
      have Hr := Lib.hid hr
      clear hr
      go_wp2
      go_ret
      refine ⟨_, rfl, ?_, hbl⟩
      have e : wv ws = val os := by
        rw [Hv.out, List.take_of_length_le (by rw [Hla.out]; exact Nat.le_refl _)]; simp
      rw [e]; exact Hr.out
def WdRel (x B i : Nat) (w : World) (v : Value) (wr : World) : Prop :=
  ∃ ws : List Nat, Own wr B 40 v (cellsW ws) ∧ ws.length = (i + 3) / 4 ∧ (∀ d ∈ ws, d < 18446744073709551616) ∧ wv ws = x % 65536 ^ i ∧ Below B w wr
theorem pow_split4 (i : Nat) : (65536 : Nat) ^ i = 18446744073709551616 ^ (i / 4) * 65536 ^ (i % 4) := by
  rw [wpow, ← Nat.pow_add, Nat.div_add_mod]
theorem or_low {o d P : Nat} {r : Nat} (hP : P = 65536 ^ r) (ho : o < P) : o ||| d * P = o + d * P := by
  have e : P = 2 ^ (16 * r) := by rw [hP, pow16]
  have h := Nat.two_pow_add_eq_or_of_lt (i := 16 * r) (b := o) (by rw [← e]; exact ho) d
  rw [← e] at h
  rw [Nat.or_comm, Nat.mul_comm d P, ← h]; omega
theorem wd_word {x i : Nat} {ws : List Nat} (_hl : ws.length = i / 4 + 1) (hd : ∀ d ∈ ws, d < 18446744073709551616) (hv : wv ws = x % 65536 ^ i) : ws.getD (i / 4) 0 < 65536 ^ (i % 4) := by
  rw [← wv_dig hd, hv]
  have h1 := Nat.mod_lt x (pow_pos i)
  rw [pow_split4 i] at h1
  unfold wdg
  refine Nat.lt_of_le_of_lt (Nat.mod_le _ _) (Nat.div_lt_of_lt_mul ?_)
  rw [pow_split4 i]
  exact h1
theorem WdRel.step {x B i : Nat} {w wr : World} {v : Value} {ws : List Nat} (ho : Own wr B 40 v (cellsW ws)) (hl : ws.length = i / 4 + 1) (hd : ∀ d ∈ ws, d < 18446744073709551616) (hv : wv ws = x % 65536 ^ i) (hb : Below B w wr) :
    WdRel x B (i + 1) w v (wr.setCell ⟨sBlk v, sOff v + i / 4, none⟩ (.int .u64 ((ws.getD (i / 4) 0 ||| dig x i * 65536 ^ (i % 4) : Nat) : Int))) := by
  have hw := wd_word hl hd hv
  have hdl := dig_lt x i
  rw [or_low rfl hw]
  have hp : 65536 ^ (i % 4) * 65536 ≤ 18446744073709551616 := by
    rw [← Nat.pow_succ]
    exact Nat.pow_le_pow_right (show 0 < 65536 by decide) (show i % 4 + 1 ≤ 4 by omega)
  have hlt : ws.getD (i / 4) 0 + dig x i * 65536 ^ (i % 4) < 18446744073709551616 := by
    have : (dig x i + 1) * 65536 ^ (i % 4) ≤ 65536 * 65536 ^ (i % 4) := Nat.mul_le_mul_right _ hdl
    rw [Nat.add_mul, Nat.one_mul] at this
    omega
  have s1 := ho.set (i := i / 4) (by rw [cellsW_length]; omega) (.int .u64 ((ws.getD (i / 4) 0 + dig x i * 65536 ^ (i % 4) : Nat) : Int))
  rw [cellsW_set] at s1
  have hl2 := ho.len
  rw [cellsW_length] at hl2
  have hcp := ho.isS.le
  refine ⟨_, s1, by simp; omega, ?_, ?_, bset hb (ho.lt (by omega)).1⟩
  · intro z hz'
    rcases List.mem_or_eq_of_mem_set hz' with h | h
    · exact hd z h
    · rw [h]; exact hlt
  · have e1 := wv_set (a := ws) (i := i / 4) (by omega) (ws.getD (i / 4) 0 + dig x i * 65536 ^ (i % 4))
    rw [mod_succ, ← hv, pow_split4 i]
    generalize wv (ws.set _ _) = V at *
    generalize ws.getD (i / 4) 0 = o at *
    generalize dig x i = d at *
    generalize (18446744073709551616 : Nat) ^ (i / 4) = A at *
    generalize (65536 : Nat) ^ (i % 4) = P at *
    grind
def WPost (ws : List Nat) (w : World) (v : Value) (w' : World) : Prop := RW w' v ws ∧ Below w.heap.size w w'
set_option maxRecDepth 100000 in
set_option maxHeartbeats 800000 in
theorem spWords (a : Value) (x : Nat) (w : World) (ha : NatV w a x) (hx : nl x ≤ 1000000000) :
    Calls Tryz.prog 70 #[a] w fun e w' => ∃ r, e = .returned r ∧ WPost (wds x) w r w' := by
  have hSa := ha.isS
  have hLa := ha.len
  obtain ⟨la, hla⟩ : ∃ la, la = nl x := ⟨_, rfl⟩
  rw [← hla] at hLa hx
  have Hla := Lib.hid hla
  have Ha := Lib.hid ha
  clear hla ha
  go_enter Tryz.func70, Tryz.ntmps70
  go_wp2
  go_loopw [3, 9] (fun v i wr => ∃ k : Nat, k ≤ la ∧ i = .int .i64 k ∧ WdRel x w.heap.size k w v wr) (fun _ i _ => la - (intOf i).toNat)
  case atStart => exact ⟨0, Nat.zero_le _, rfl, [], Own.zero _ _ _ _ _, by simp, by simp, by simp [wv, Nat.mod_one], (Below.refl _ _).alloc (Nat.le_refl _) _⟩
  case round =>
    obtain ⟨i, hi, rfl, ws, ho, hol, hod, hov, hbl⟩ := hrel
    have hbz := hbl.size
    have hSo := ho.isS
    by_cases hia : i < la
    · have ca := (Ha.out.below hbl).cell i (by rw [← Hla.out]; exact hia)
      have g1 := dig_lt x i
      have hdX : ∃ d, d = dig x i := ⟨_, rfl⟩
      obtain ⟨d, hd⟩ := hdX
      rw [← hd] at ca g1
      have Hd := Lib.hid hd
      clear hd
      obtain ⟨q, hq⟩ : ∃ q, q = i / 4 := ⟨_, rfl⟩
      obtain ⟨r, hr⟩ : ∃ r, r = i % 4 := ⟨_, rfl⟩
      have e1 : (i : Int) / 4 = (q : Int) := by omega
      have e2 : (i : Int) % 4 = (r : Int) := by omega
      have hqi : q ≤ i := by omega
      have hr4 : r < 4 := by omega
      have Hq := Lib.hid hq
      have Hr := Lib.hid hr
      have Hol := Lib.hid hol
      have Hod := Lib.hid hod
      have Hov := Lib.hid hov
      have Hcl := Lib.hid (cellsW_length ws)
      have hwl : ws.length ≤ 1000000000 := by omega
      by_cases h0 : r = 0
      · have t1 : ((r : Int) == 0) = true := by rw [beq_iff_eq]; omega
        have hlq : ws.length = q := by omega
        have Hlq := Lib.hid hlq
        clear h0 hq hr hol hod hov hlq
        go_wp2_with (at_builtin; refine wpList_append_O rfl _ _ _ _ rfl elemU w.heap.size _ _ rfl (ho.alloc _) _ rfl 1 [.int .u64 (0 : Int)] (srcOne Tryz.underlying22 wr _ _) ?c3 ?c4 ?c5 ?_)
        case c3 => rw [Hcl.out]; unfold maxLen; omega
        case c4 => rw [Hcl.out]; omega
        case c5 => simp; omega
        rintro v1 w1 ho1 hb1 - - -
        rw [show cellsW ws ++ [Value.int .u64 (0 : Int)] = cellsW (ws ++ [0]) by simp [cellsW]] at ho1
        have HO := Lib.hid ho1
        have HL : Hid ((ws ++ [0]).length = q + 1) := Lib.hid (by have := Hlq.out; simp; omega)
        have HDD : Hid (∀ d ∈ ws ++ [0], d < 18446744073709551616) := Lib.hid (by
          intro z hz
          rcases List.mem_append.1 hz with h | h
          · exact Hod.out z h
          · rw [List.mem_singleton.1 h]; decide)
        have HV : Hid (wv (ws ++ [0]) = x % 65536 ^ i) := Lib.hid (by rw [wv_snoc, Hov.out]; omega)
        have HB : Hid (Below w.heap.size w w1) := Lib.hid ((hbl.alloc hbz _).trans hb1)
        have cap1 : 0 < sCap v1 := by have := HO.out.isS.le; rw [HO.out.len, cellsW_length] at this; have := HL.out; omega
        have fz := HO.out.frozen cap1 (sOff v1 + q)
        have co := (HO.out.rw' HDD.out).cell q (by rw [HL.out]; omega)
        have hwd := wd_word (by rw [← Hq.out]; exact HL.out) HDD.out HV.out
        have hSv := HO.out.isS
        have hLv : sLen v1 = q + 1 := by rw [HO.out.len, cellsW_length]; exact HL.out
        rw [← Hq.out, ← Hr.out] at hwd
        obtain ⟨o, ho'⟩ : ∃ o, o = (ws ++ [0]).getD q 0 := ⟨_, rfl⟩
        rw [← ho'] at co hwd
        have hp : (2 : Int) ^ (16 * r) = ((65536 ^ r : Nat) : Int) := by rw [pow16]; simp
        have hPb : 65536 ^ r ≤ 281474976710656 := Nat.pow_le_pow_right (show 0 < 65536 by decide) (show r ≤ 3 by omega)
        obtain ⟨P, hP⟩ : ∃ P, P = 65536 ^ r := ⟨_, rfl⟩
        rw [← hP] at hp hPb hwd
        have hmb : d * P ≤ 65535 * 281474976710656 := Nat.mul_le_mul (by omega) hPb
        obtain ⟨m, hm⟩ : ∃ m, m = d * P := ⟨_, rfl⟩
        rw [← hm] at hmb
        have hdm : (d : Int) * (P : Int) = (m : Int) := by rw [hm]; simp
        have hor := bits_or_u64_nat o m (by omega) (by omega)
        obtain ⟨z, hz⟩ : ∃ z, z = o ||| m := ⟨_, rfl⟩
        rw [← hz] at hor
        have st : ∀ n, WdRel x w.heap.size (i + 1) w v1 ((w1.drewN n).setCell ⟨sBlk v1, sOff v1 + q, none⟩ (.int .u64 (z : Int))) := fun n => by
          have := WdRel.step (HO.out.drewN n) (by rw [← Hq.out]; exact HL.out) HDD.out HV.out (undrewN' HB.out)
          rw [← Hq.out, ← Hr.out, ← Hd.out] at this
          rw [hz, hm, hP, ho']
          exact this
        have St := Lib.hid st
        clear st ho' hP hm hz
        go_wp2
        (refine wp_region_hoist 13 (by kernel_rfl) (by kernel_rfl) ⟨fun _ _ _ h => (by first | exact (hQp _ _ _ h).elim | cases h.2.1 | (obtain ⟨_, h3, _⟩ := h.2; cases h3)), fun _ _ h => (by first | exact (hQo _ _ h).elim | cases h.1 | (obtain ⟨_, h3, _⟩ := h; cases h3))⟩ ?_; simp only [List.take_succ_cons, List.take_zero, List.drop_succ_cons, List.drop_zero]; (repeat (go_big_quiet_step (fail))); refine wpQuiet_nil ?_; rintro _ ⟨nq, rfl⟩)
        go_wp2
        exact ⟨⟨i + 1, by omega, by go_num, St.out nq⟩, by simp [intOf]; omega⟩
      · have t1 : ((r : Int) == 0) = false := by rw [beq_eq_false_iff_ne]; omega
        have HO := Lib.hid ho
        have HL : Hid (ws.length = q + 1) := Lib.hid (by omega)
        have HDD : Hid (∀ d ∈ ws, d < 18446744073709551616) := Lib.hid hod
        have HV : Hid (wv ws = x % 65536 ^ i) := Lib.hid hov
        have HB : Hid (Below w.heap.size w wr) := Lib.hid hbl
        clear ho hol hod hov hq hr
        have cap1 : 0 < sCap u3 := by have := HO.out.isS.le; rw [HO.out.len, cellsW_length] at this; have := HL.out; omega
        have fz := HO.out.frozen cap1 (sOff u3 + q)
        have co := (HO.out.rw' HDD.out).cell q (by rw [HL.out]; omega)
        have hwd := wd_word (by rw [← Hq.out]; exact HL.out) HDD.out HV.out
        have hSv := HO.out.isS
        have hLv : sLen u3 = q + 1 := by rw [HO.out.len, cellsW_length]; exact HL.out
        rw [← Hq.out, ← Hr.out] at hwd
        obtain ⟨o, ho'⟩ : ∃ o, o = ws.getD q 0 := ⟨_, rfl⟩
        rw [← ho'] at co hwd
        have hp : (2 : Int) ^ (16 * r) = ((65536 ^ r : Nat) : Int) := by rw [pow16]; simp
        have hPb : 65536 ^ r ≤ 281474976710656 := Nat.pow_le_pow_right (show 0 < 65536 by decide) (show r ≤ 3 by omega)
        obtain ⟨P, hP⟩ : ∃ P, P = 65536 ^ r := ⟨_, rfl⟩
        rw [← hP] at hp hPb hwd
        have hmb : d * P ≤ 65535 * 281474976710656 := Nat.mul_le_mul (by omega) hPb
        obtain ⟨m, hm⟩ : ∃ m, m = d * P := ⟨_, rfl⟩
        rw [← hm] at hmb
        have hdm : (d : Int) * (P : Int) = (m : Int) := by rw [hm]; simp
        have hor := bits_or_u64_nat o m (by omega) (by omega)
        obtain ⟨z, hz⟩ : ∃ z, z = o ||| m := ⟨_, rfl⟩
        rw [← hz] at hor
        have st : ∀ n, WdRel x w.heap.size (i + 1) w u3 ((wr.drewN n).setCell ⟨sBlk u3, sOff u3 + q, none⟩ (.int .u64 (z : Int))) := fun n => by
          have := WdRel.step (HO.out.drewN n) (by rw [← Hq.out]; exact HL.out) HDD.out HV.out (undrewN' HB.out)
          rw [← Hq.out, ← Hr.out, ← Hd.out] at this
          rw [hz, hm, hP, ho']
          exact this
        have St := Lib.hid st
        clear st ho' hP hm hz
        go_wp2
        (refine wp_region_hoist 13 (by kernel_rfl) (by kernel_rfl) ⟨fun _ _ _ h => (by first | exact (hQp _ _ _ h).elim | cases h.2.1 | (obtain ⟨_, h3, _⟩ := h.2; cases h3)), fun _ _ h => (by first | exact (hQo _ _ h).elim | cases h.1 | (obtain ⟨_, h3, _⟩ := h; cases h3))⟩ ?_; simp only [List.take_succ_cons, List.take_zero, List.drop_succ_cons, List.drop_zero]; (repeat (go_big_quiet_step (fail))); refine wpQuiet_nil ?_; rintro _ ⟨nq, rfl⟩)
        go_wp2
        exact ⟨⟨i + 1, by omega, by go_num, St.out nq⟩, by simp [intOf]; omega⟩
    · have hil : i = la := by omega
      have Hol := Lib.hid hol
      have Hod := Lib.hid hod
      have Hov := Lib.hid hov
      subst hil
      clear hol hod hov
      go_wp2
      go_ret
      refine ⟨_, rfl, ?_, hbl⟩
      have e1 := Hov.out
      rw [mod_nl (by rw [← Hla.out]; exact Nat.le_refl _)] at e1
      have e2 : ws = wds x := by
        rw [← e1]
        refine wds_of Hod.out ?_
        rw [e1, Hol.out, Hla.out]; rfl
      rw [← e2]
      exact ho.rw' Hod.out
theorem heap_alloc_lt {w : World} {o x : Obj} {k : Nat} (h : w.heap[k]? = some x) : (w.alloc o).heap[k]? = some x ∧ k < w.heap.size := by
  have hlt : k < w.heap.size := by
    rcases Nat.lt_or_ge k w.heap.size with h' | h'
    · exact h'
    · rw [Array.getElem?_eq_none h'] at h; cases h
  exact ⟨(Below.heap_alloc w o k hlt).trans h, hlt⟩
end Go.Proofs.YtllhnjpnkmjopaaGreatDoor
