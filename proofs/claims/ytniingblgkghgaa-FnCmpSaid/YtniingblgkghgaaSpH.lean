/-
Natural numbers of the reference: Bit, Shl. No condition.
-/
import Derived.Test.YtniingblgkghgaaSpG
namespace Go.Proofs.Ytniingblgkghgaa
open Go.RowKit

theorem two_split (i : Nat) : (2 : Nat) ^ i = 65536 ^ (i / 16) * 2 ^ (i % 16) := by
  rw [pow16, ← Nat.pow_add, Nat.div_add_mod]
theorem two16 {s : Nat} (h : s < 16) : 0 < 2 ^ s ∧ 2 ^ s ≤ 32768 := by
  constructor
  · exact Nat.pow_pos (by decide)
  · exact Nat.pow_le_pow_right (show 0 < 2 by decide) (show s ≤ 15 by omega)
theorem getD_rep (n j : Nat) : (List.replicate n 0).getD j 0 = 0 := by
  rw [List.getD_eq_getElem?_getD, List.getElem?_replicate]; split <;> rfl
set_option maxRecDepth 100000 in
set_option maxHeartbeats 400000 in
theorem spBit (i : Nat) (w : World) (hi : i ≤ 16000000000) :
    Calls Try.prog 96 #[.int .i64 i] w fun e w' => ∃ r, e = .returned r ∧ NPost (2 ^ i) w r w' := by
  obtain ⟨q, hq⟩ : ∃ q, q = i / 16 := ⟨_, rfl⟩
  obtain ⟨s, hs⟩ : ∃ s, s = i % 16 := ⟨_, rfl⟩
  have h1 : (i : Int) / 16 = (q : Int) := by omega
  have h2 : (i : Int) % 16 = (s : Int) := by omega
  have hs16 : s < 16 := by omega
  have hqb : q ≤ 1000000000 := by omega
  obtain ⟨S, hS⟩ : ∃ S, S = 2 ^ s := ⟨_, rfl⟩
  have hS2 : (2 : Int) ^ s = (S : Int) := by rw [hS]; simp
  have hSb : 0 < S ∧ S ≤ 32768 := by rw [hS]; exact two16 hs16
  have hsp := two_split i
  rw [← hq, ← hs, ← hS] at hsp
  have Hsp := Lib.hid hsp
  clear hq hs hS hsp
  go_enter Try.func96, Try.ntmps96
  go_wp2_with (at_make; refine wpList_make_O rfl _ _ _ rfl elemN .i64 .i64 _ _ rfl rfl w.heap.size ?c1 ?c2 ?c3 ?c4 ?c5 ?_)
  case c1 => omega
  case c2 => omega
  case c3 => omega
  case c4 => omega
  case c5 => exact Nat.le_refl _
  rintro v0 w0 - ho0 hb0 -
  have e0 : List.replicate (q + 1) (Value.int .i64 0) = cellsN (List.replicate (q + 1) 0) := by simp [cellsN]
  rw [e0] at ho0
  have hSv := ho0.isS
  have hLv : sLen v0 = q + 1 := by rw [ho0.len, cellsN_length]; simp
  have hcp : q + 1 ≤ sCap v0 := by rw [← hLv]; exact hSv.le
  have co := ho0.rl.cell q (by simp)
  rw [getD_rep] at co
  have fz := ho0.frozen (by omega) (sOff v0 + q)
  have hst := ho0.set (i := q) (by rw [cellsN_length]; simp) (.int .i64 (S : Int))
  rw [cellsN_set] at hst
  have Hst := Lib.hid hst
  have hbs := bset (i := sOff v0 + q) (u := .int .i64 (S : Int)) hb0 (ho0.lt (by omega)).1
  clear e0 hst ho0
  go_wp2
  go_ret
  refine ⟨_, rfl, ?_, hbs⟩
  have hv := val_set (a := List.replicate (q + 1) 0) (i := q) (by simp) S
  rw [getD_rep, val_replicate] at hv
  have hr := Hst.out.rl
  have hv2 : val ((List.replicate (q + 1) 0).set q S) = 2 ^ i := by rw [Hsp.out]; omega
  rw [← hv2]
  refine NatV.ofRL hr ?_ (.inr ?_)
  · intro z hz
    rcases List.mem_or_eq_of_mem_set hz with h | h
    · rw [(List.mem_replicate.1 h).2]; decide
    · omega
  · rw [List.length_set, List.length_replicate, Nat.add_sub_cancel, getD_set _ _ _ _ (by simp), if_pos rfl]; omega

/-- Shl's relation. -/
def ShlRel (x q S L B i : Nat) (w : World) (v : Value) (wr : World) : Prop :=
  ∃ os : List Nat, Own wr B 3 v (cellsN os) ∧ os.length = L ∧ (∀ d ∈ os, d < 65536) ∧ val os = 65536 ^ q * (x % 65536 ^ i * S) ∧ Below B w wr
theorem shl_carry {x q S i : Nat} (hS : 0 < S) (hS2 : S < 65536) : dig (65536 ^ q * (x % 65536 ^ i * S)) (q + i) = x % 65536 ^ i * S / 65536 ^ i ∧ x % 65536 ^ i * S / 65536 ^ i < S ∧ dig (65536 ^ q * (x % 65536 ^ i * S)) (q + i + 1) = 0 := by
  have h0 := Nat.mod_lt x (pow_pos i)
  have h1 : x % 65536 ^ i * S < 65536 ^ i * S := Nat.mul_lt_mul_of_pos_right h0 hS
  have h2 : x % 65536 ^ i * S / 65536 ^ i < S := Nat.div_lt_of_lt_mul h1
  refine ⟨?_, h2, ?_⟩
  · unfold dig
    rw [Nat.pow_add, ← Nat.div_div_eq_div_mul, Nat.mul_div_cancel_left _ (pow_pos q), Nat.mod_eq_of_lt (by omega)]
  · unfold dig
    rw [show q + i + 1 = q + (i + 1) by omega, Nat.pow_add, ← Nat.div_div_eq_div_mul, Nat.mul_div_cancel_left _ (pow_pos q), Nat.pow_succ, ← Nat.div_div_eq_div_mul]
    rw [Nat.div_eq_of_lt (show x % 65536 ^ i * S / 65536 ^ i < 65536 by omega)]
theorem shl_low {d s : Nat} (hs : s < 16) (c : Nat) (hc : c < 2 ^ s) : c + d * 2 ^ s % 65536 < 65536 := by
  have e : (65536 : Nat) = 2 ^ (16 - s) * 2 ^ s := by rw [← Nat.pow_add, show 16 - s + s = 16 by omega]
  have h1 : d * 2 ^ s % 65536 = d % 2 ^ (16 - s) * 2 ^ s := by conv => lhs; rw [e, Nat.mul_mod_mul_right]
  have h2 := Nat.mod_lt d (Nat.pow_pos (n := 16 - s) (show 0 < 2 by decide))
  have h3 : (d % 2 ^ (16 - s) + 1) * 2 ^ s ≤ 2 ^ (16 - s) * 2 ^ s := Nat.mul_le_mul_right _ h2
  rw [Nat.add_mul, ← e] at h3
  omega
theorem ShlRel.step {x q s S L B i : Nat} {w wr : World} {v : Value} {os : List Nat} (ho : Own wr B 3 v (cellsN os)) (hL : os.length = L) (hd : ∀ d ∈ os, d < 65536) (hv : val os = 65536 ^ q * (x % 65536 ^ i * S)) (hb : Below B w wr)
    (hi : q + i + 1 < L) (hs : s < 16) (hS : S = 2 ^ s) :
    os.getD (q + i) 0 < S ∧ os.getD (q + i + 1) 0 = 0 ∧ ShlRel x q S L B (i + 1) w v ((wr.setCell ⟨sBlk v, sOff v + (q + i), none⟩ (.int .i64 ((os.getD (q + i) 0 + dig x i * S % 65536 : Nat) : Int))).setCell ⟨sBlk v, sOff v + (q + i + 1), none⟩ (.int .i64 ((dig x i * S / 65536 : Nat) : Int))) := by
  have hSb := two16 hs
  rw [← hS] at hSb
  obtain ⟨h1, h2, h3⟩ := shl_carry (x := x) (q := q) (i := i) hSb.1 (by omega)
  rw [← hv, val_dig hd] at h1
  rw [← hv, val_dig hd] at h3
  rw [← h1] at h2
  refine ⟨h2, h3, ?_⟩
  have hlow := shl_low (d := dig x i) hs (os.getD (q + i) 0) (by rw [← hS]; exact h2)
  rw [← hS] at hlow
  have hdl := dig_lt x i
  have hhi : dig x i * S / 65536 < 65536 := by
    refine Nat.div_lt_of_lt_mul ?_
    exact Nat.mul_lt_mul_of_lt_of_le hdl (by omega) (by omega)
  have s1 := ho.set (i := q + i) (by rw [cellsN_length]; omega) (.int .i64 ((os.getD (q + i) 0 + dig x i * S % 65536 : Nat) : Int))
  rw [cellsN_set] at s1
  have s2 := s1.set (i := q + i + 1) (by rw [cellsN_length, List.length_set]; omega) (.int .i64 ((dig x i * S / 65536 : Nat) : Int))
  rw [cellsN_set] at s2
  have hl := ho.len
  rw [cellsN_length] at hl
  have hcp := ho.isS.le
  refine ⟨_, s2, by simpa using hL, ?_, ?_, bset (bset hb (ho.lt (by omega)).1) (ho.lt (by omega)).1⟩
  · intro z hz'
    rcases List.mem_or_eq_of_mem_set hz' with h | h
    · rcases List.mem_or_eq_of_mem_set h with h | h
      · exact hd z h
      · rw [h]; exact hlow
    · rw [h]; exact hhi
  · have e1 := val_set (a := os) (i := q + i) (by omega) (os.getD (q + i) 0 + dig x i * S % 65536)
    have e2 := val_set (a := os.set (q + i) (os.getD (q + i) 0 + dig x i * S % 65536)) (i := q + i + 1) (by simp; omega) (dig x i * S / 65536)
    rw [getD_set _ _ _ _ (by omega), if_neg (by omega), h3] at e2
    have e3 := Nat.div_add_mod (dig x i * S) 65536
    rw [mod_succ]
    rw [Nat.pow_succ, Nat.pow_add] at e2
    rw [Nat.pow_add] at e1
    generalize val (List.set _ (q + i + 1) _) = V2 at *
    generalize val (List.set _ (q + i) _) = V1 at *
    generalize dig x i * S / 65536 = hiD at *
    generalize dig x i * S % 65536 = loD at *
    rw [hv] at e1
    rw [Nat.add_mul, Nat.mul_add]
    rw [show 65536 ^ q * (65536 ^ i * dig x i * S) = 65536 ^ q * 65536 ^ i * (dig x i * S) by grind, ← e3]
    grind
set_option maxRecDepth 100000 in
set_option maxHeartbeats 800000 in
theorem spShl (a : Value) (x n : Nat) (w : World) (ha : NatV w a x) (hx : nl x ≤ 1000000000) (hn : n ≤ 16000000000) :
    Calls Try.prog 66 #[a, .int .i64 n] w fun e w' => ∃ r, e = .returned r ∧ NPost (x * 2 ^ n) w r w' := by
  have hSa := ha.isS
  have hLa := ha.len
  by_cases hx0 : x = 0
  · subst hx0
    have hLa0 := hLa
    rw [nl_zero] at hLa0
    have Ha := Lib.hid ha
    clear ha hLa
    go_enter Try.func66, Try.ntmps66
    go_wp2
    go_ret
    exact ⟨_, rfl, by rw [Nat.zero_mul]; exact Ha.out, Below.refl _ _⟩
  obtain ⟨q, hq⟩ : ∃ q, q = n / 16 := ⟨_, rfl⟩
  obtain ⟨s, hs⟩ : ∃ s, s = n % 16 := ⟨_, rfl⟩
  have h1 : (n : Int) / 16 = (q : Int) := by omega
  have h2 : (n : Int) % 16 = (s : Int) := by omega
  have hs16 : s < 16 := by omega
  have hqb : q ≤ 1000000000 := by omega
  obtain ⟨S, hS⟩ : ∃ S, S = 2 ^ s := ⟨_, rfl⟩
  have hS2 : (2 : Int) ^ s = (S : Int) := by rw [hS]; simp
  have hSb : 0 < S ∧ S ≤ 32768 := by rw [hS]; exact two16 hs16
  have HS := Lib.hid hS
  have hsp := two_split n
  rw [← hq, ← hs, ← hS] at hsp
  have Hsp := Lib.hid hsp
  obtain ⟨la, hla⟩ : ∃ la, la = nl x := ⟨_, rfl⟩
  have h0 := nl_pos (show 0 < x by omega)
  rw [← hla] at hLa hx h0
  have hz : ((la : Int) == 0) = false := by rw [beq_eq_false_iff_ne]; omega
  have Hla := Lib.hid hla
  have Ha := Lib.hid ha
  clear hq hs hS hsp hla ha
  go_enter Try.func66, Try.ntmps66
  go_wp2_with (at_make; refine wpList_make_O rfl _ _ _ rfl elemN .i64 .i64 _ _ rfl rfl w.heap.size ?c1 ?c2 ?c3 ?c4 ?c5 ?_)
  case c1 => omega
  case c2 => omega
  case c3 => omega
  case c4 => omega
  case c5 => exact Nat.le_refl _
  rintro v0 w0 - ho0 hb0 -
  have e0 : List.replicate ((q : Int) + la + 1).toNat (Value.int .i64 0) = cellsN (List.replicate (q + la + 1) 0) := by
    rw [show ((q : Int) + la + 1).toNat = q + la + 1 by omega]; simp [cellsN]
  rw [e0] at ho0
  have hSv := ho0.isS
  have hLv : sLen v0 = q + la + 1 := by rw [ho0.len, cellsN_length]; simp
  have hcap : q + la + 1 ≤ sCap v0 := by rw [← hLv]; exact hSv.le
  have M0 : ShlRel x q S (q + la + 1) w.heap.size 0 w v0 w0 :=
    ⟨_, ho0, by simp, fun d hd => by rw [(List.mem_replicate.1 hd).2]; decide, by rw [val_replicate]; simp [Nat.mod_one], hb0⟩
  have HM0 := Lib.hid M0
  clear ho0 e0 hb0 M0
  go_wp2
  go_loopw [21] (fun i wr => ∃ k : Nat, k ≤ la ∧ i = .int .i64 k ∧ ShlRel x q S (q + la + 1) w.heap.size k w v0 wr) (fun i _ => la - (intOf i).toNat)
  case atStart => exact ⟨0, Nat.zero_le _, rfl, HM0.out⟩
  case round =>
    obtain ⟨k, hk, rfl, os, ho, hoL, hod, hov, hbl⟩ := hrel
    have Ho := Lib.hid ho
    have HoL := Lib.hid hoL
    have Hod := Lib.hid hod
    have Hov := Lib.hid hov
    by_cases hka : k < la
    · have ca := (Ha.out.below hbl).cell k (by rw [← Hla.out]; exact hka)
      have st := ShlRel.step ho hoL hod hov hbl (by omega) hs16 HS.out
      have co := ho.rl.cell (q + k) (by omega)
      have co2 := ho.rl.cell (q + k + 1) (by omega)
      rw [st.2.1] at co2
      have g1 := dig_lt x k
      obtain ⟨p, hp⟩ : ∃ p, p = dig x k := ⟨_, rfl⟩
      rw [← hp] at ca g1 st
      obtain ⟨o, hoo⟩ : ∃ o, o = os.getD (q + k) 0 := ⟨_, rfl⟩
      rw [← hoo] at co st
      have hpS : p * S ≤ 65535 * 32768 := Nat.mul_le_mul (by omega) hSb.2
      obtain ⟨m, hm⟩ : ∃ m, m = p * S := ⟨_, rfl⟩
      rw [← hm] at st hpS
      have hpm : (p : Int) * (S : Int) = (m : Int) := by rw [hm]; simp
      have fz := ho.frozen (by omega) (sOff v0 + (q + k))
      have fz2 := ho.frozen (by omega) (sOff v0 + (q + k + 1))
      have ho1 := st.1
      have Hst := Lib.hid st.2.2
      clear ho hoL hod hov hp hoo hm st
      go_wp2
      refine ⟨⟨k + 1, by omega, by go_num, ?_⟩, by simp [intOf]; omega⟩
      have h := Hst.out
      rw [show ((o + m % 65536 : Nat) : Int) = (o : Int) + (m : Int) % 65536 by omega, show ((m / 65536 : Nat) : Int) = (m : Int) / 65536 by omega] at h
      exact h
    · have hkl : k = la := by omega
      subst hkl
      clear ho hoL hod hov
      go_wp2_with fail
      refine (spTrim _ os wr Ho.out.rl Hod.out (by rw [HoL.out]; omega)).mono ?_
      rintro _ _ ⟨r, rfl, hr, rfl⟩
      have Hr := Lib.hid hr
      clear hr
      go_wp2
      go_ret
      refine ⟨_, rfl, ?_, hbl⟩
      have e1 := Hov.out
      rw [mod_nl (n := x) (by rw [← Hla.out]; exact Nat.le_refl _)] at e1
      have e2 : x * 2 ^ n = val os := by rw [e1, Hsp.out]; grind
      rw [e2]; exact Hr.out
end Go.Proofs.Ytniingblgkghgaa
