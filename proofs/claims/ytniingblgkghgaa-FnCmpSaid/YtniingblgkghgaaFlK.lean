/-
Floats: fnorm; a bit of words, and whether there is one below. No condition.
-/
import Derived.Test.YtniingblgkghgaaFlJ
namespace Go.Proofs.Ytniingblgkghgaa
open Go.RowKit

theorem ret_u64 {a b : Int} (h : a = b) : Ending.returned (.int .u64 a) = Ending.returned (.int .u64 b) := by rw [h]
set_option maxRecDepth 100000 in
set_option maxHeartbeats 800000 in
theorem fnorm_any (v : Value) (M B : Nat) (w : World) (ho : Own w B 132 v (cellsW (wds M))) (h0 : 0 < M) (hl : nw M ≤ 1000000000) :
    Calls Try.prog 92 #[v] w fun e w' => (∃ r, e = .returned r) ∧ Own w' B 132 v (cellsW (wdsN (M * 2 ^ (64 * nw M - bl M)) (nw M))) ∧ Below B w w' ∧ Only (sBlk v) w w' := by
  have hS := ho.isS
  have hL : sLen v = nw M := by rw [ho.len, cellsW_length, wds_length]
  have hp := nw_pos h0
  have e := bl_words h0
  have hc := (ho.rw' (wds_all M)).cell (nw M - 1) (by rw [wds_length]; omega)
  rw [wds_getD] at hc
  have ht := wdg_lt M (nw M - 1)
  have htp : 0 < wdg M (nw M - 1) := Nat.pos_of_ne_zero (wdg_last h0)
  obtain ⟨j, hj⟩ : ∃ j, nw M = j + 1 := ⟨nw M - 1, by omega⟩
  obtain ⟨t, htt⟩ : ∃ t, t = wdg M (nw M - 1) := ⟨_, rfl⟩
  rw [← htt] at e hc ht htp
  have hbt := bl_le64 ht
  have hbp := bl_pos htp
  have es : 64 * nw M - bl M = 64 - bl t := by rw [e]; omega
  rw [es]
  obtain ⟨s, hs⟩ : ∃ s, s = 64 - bl t := ⟨_, rfl⟩
  rw [← hs]
  have hs64 : s < 64 := by omega
  rw [hj, Nat.add_sub_cancel] at hc
  rw [hj] at hL hl
  have HO := Lib.hid ho
  have HJ := Lib.hid hj
  have HS := Lib.hid hs
  have HT := Lib.hid ht
  clear ho h0 hp e htp hbt hbp es hs hj ht htt
  rcases Nat.eq_zero_or_pos s with hs0 | hs0
  · subst hs0
    go_enter Try.func92, Try.ntmps92
    go_wp2_with fail
    refine (nlz_any t w HT.out).mono ?_
    rintro _ _ ⟨rfl, rfl⟩
    rw [← HS.out]
    go_wp2
    go_ret
    refine ⟨⟨_, rfl⟩, ?_, Below.refl _ _, Only.refl _ _⟩
    rw [Nat.pow_zero, Nat.mul_one, wdsN_nw]
    exact HO.out
  · have t1 : decide (0 < s) = true := decide_eq_true hs0
    go_enter Try.func92, Try.ntmps92
    go_wp2_with fail
    refine (nlz_any t w HT.out).mono ?_
    rintro _ _ ⟨rfl, rfl⟩
    rw [← HS.out]
    go_wp2_with fail
    refine (lshVU_any v (wds M) M s B w HO.out (wds_all M) (wv_wds M) (by rw [wds_length, HJ.out]; omega) (by rw [wds_length, HJ.out]; exact hl) hs0 hs64).mono ?_
    rintro _ w1 ⟨rfl, h1, h2, h3⟩
    rw [wds_length] at h1
    have H1 := Lib.hid h1
    clear h1
    go_wp2
    go_ret
    exact ⟨⟨_, rfl⟩, H1.out, h2, h3⟩
set_option maxRecDepth 100000 in
set_option maxHeartbeats 800000 in
theorem bit_any (v : Value) (ws : List Nat) (i : Nat) (w : World) (hv : RW w v ws) (hi : i < 64 * ws.length) (hl : ws.length ≤ 100000000) :
    Calls Try.prog 103 #[v, .int .u64 i] w fun e w' => e = .returned (.int .u64 (wv ws / 2 ^ i % 2 : Nat)) ∧ w = w' := by
  have hS := hv.isS
  have hL := hv.len
  have hc := hv.cell (i / 64) (by omega)
  rw [← wv_dig hv.lt] at hc
  have hb := wdg_bit (wv ws) i
  rw [← hb]
  have ht := wdg_lt (wv ws) (i / 64)
  obtain ⟨l, hl'⟩ : ∃ l, l = ws.length := ⟨_, rfl⟩
  rw [← hl'] at hL hi hl
  obtain ⟨t, htt⟩ : ∃ t, t = wdg (wv ws) (i / 64) := ⟨_, rfl⟩
  rw [← htt] at hc ht ⊢
  have e1 : (i : Int) / 64 = ((i / 64 : Nat) : Int) := by omega
  have e2 : (i : Int) % 64 = ((i % 64 : Nat) : Int) := by omega
  obtain ⟨j, hj⟩ : ∃ j, j = i / 64 := ⟨_, rfl⟩
  obtain ⟨s, hs⟩ : ∃ s, s = i % 64 := ⟨_, rfl⟩
  rw [← hj] at e1 hc
  rw [← hs] at e2 ⊢
  have hjl : j < l := by omega
  have hs64 : s < 64 := by omega
  have t1 : decide (l ≤ j) = false := decide_eq_false (by omega)
  have hS2 : (2 : Int) ^ s = ((2 ^ s : Nat) : Int) := by simp
  obtain ⟨S, hSS⟩ : ∃ S, S = 2 ^ s := ⟨_, rfl⟩
  rw [← hSS] at hS2 ⊢
  have hq : (t : Int) / (S : Int) = ((t / S : Nat) : Int) := by simp
  have hqt : t / S ≤ t := Nat.div_le_self _ _
  obtain ⟨q, hqq⟩ : ∃ q, q = t / S := ⟨_, rfl⟩
  rw [← hqq] at hq hqt ⊢
  have ha : bits .and .u64 (q : Int) 1 = ((q % 2 : Nat) : Int) := by
    rw [show (1 : Int) = ((1 : Nat) : Int) from rfl, bits_and_u64_nat q 1 (by omega) (by decide), Nat.and_one_is_mod]
  obtain ⟨u, hu⟩ : ∃ u, u = q % 2 := ⟨_, rfl⟩
  rw [← hu] at ha ⊢
  clear hv hb htt hj hs hSS hqq hu hl'
  go_enter Try.func103, Try.ntmps103
  go_wp2
  go_ret
  exact ⟨rfl, rfl⟩
/-- Whether there is a bit below. -/
def stV (n i : Nat) : Nat := if n % 2 ^ i = 0 then 0 else 1
theorem stV_zero {n i : Nat} (h : n % 2 ^ i = 0) : stV n i = 0 := if_pos h
theorem stV_one {n i : Nat} (h : n % 2 ^ i ≠ 0) : stV n i = 1 := if_neg h
theorem low_shl {d s : Nat} (hs : s < 64) : d * 2 ^ (64 - s) % 18446744073709551616 = 0 ↔ d % 2 ^ s = 0 := by
  have e := word_split (show s ≤ 64 by omega)
  have hR : 0 < 2 ^ (64 - s) := Nat.pow_pos (by decide)
  rw [← e, Nat.mul_comm (2 ^ (64 - s)), Nat.mul_mod_mul_right]
  constructor
  · intro h; exact (Nat.mul_eq_zero.1 h).resolve_right (by omega)
  · intro h; rw [h, Nat.zero_mul]
set_option maxRecDepth 100000 in
set_option maxHeartbeats 800000 in
theorem sticky_any (v : Value) (ws : List Nat) (i : Nat) (w : World) (hv : RW w v ws) (hi : i < 64 * ws.length) (hl : ws.length ≤ 100000000) :
    Calls Try.prog 70 #[v, .int .u64 i] w fun e w' => e = .returned (.int .u64 (stV (wv ws) i : Nat)) ∧ w = w' := by
  have hS := hv.isS
  have hL := hv.len
  have hC := hS.le
  have hc := hv.cell (i / 64) (by omega)
  rw [← wv_dig hv.lt] at hc
  have hst := sticky_iff (wv ws) i
  have ht := wdg_lt (wv ws) (i / 64)
  obtain ⟨l, hl'⟩ : ∃ l, l = ws.length := ⟨_, rfl⟩
  have hcell : ∀ k, k < l → w.cell? ⟨sBlk v, sOff v + k, none⟩ = some (.int .u64 ((wdg (wv ws) k : Nat) : Int)) := fun k hk => by
    rw [wv_dig hv.lt]; exact hv.cell k (by rw [← hl']; exact hk)
  rw [← hl'] at hL hi hl
  obtain ⟨n, hn⟩ : ∃ n, n = wv ws := ⟨_, rfl⟩
  rw [← hn] at hc hst ht hcell ⊢
  have e1 : (i : Int) / 64 = ((i / 64 : Nat) : Int) := by omega
  have e2 : (i : Int) % 64 = ((i % 64 : Nat) : Int) := by omega
  obtain ⟨j, hj⟩ : ∃ j, j = i / 64 := ⟨_, rfl⟩
  obtain ⟨s, hs⟩ : ∃ s, s = i % 64 := ⟨_, rfl⟩
  rw [← hj] at e1 hc hst ht
  rw [← hs] at e2 hst
  have hjl : j < l := by omega
  have hs64 : s < 64 := by omega
  have t1 : decide (l ≤ j) = false := decide_eq_false (by omega)
  have hS3 : IsS (subS v 0 j) := subS_isS hS (Nat.zero_le _) (by omega)
  have hL3 : sLen (subS v 0 j) = j := by rw [subS_len hS]; omega
  have hB3 : sBlk (subS v 0 j) = sBlk v := subS_blk hS
  have hO3 : sOff (subS v 0 j) = sOff v := subS_off0 hS
  have hjc : j ≤ sCap v := by omega
  have HB3 := Lib.hid hB3
  have HO3 := Lib.hid hO3
  have HC := Lib.hid hcell
  have HST := Lib.hid hst
  obtain ⟨d, hdd⟩ : ∃ d, d = wdg n j := ⟨_, rfl⟩
  rw [← hdd] at hc ht
  have HDD := Lib.hid hdd
  clear hv hn hj hs hl' hB3 hO3 hcell hst hdd
  go_enter Try.func70, Try.ntmps70
  go_wp2
  go_loop [22] (fun i' => ∃ k : Nat, k ≤ j ∧ i' = .int .i64 k ∧ ∀ m, m < k → wdg n m = 0) (fun i' => j - (intOf i').toNat)
  case atStart => exact ⟨0, Nat.zero_le _, rfl, fun m hm => by omega⟩
  case round =>
    obtain ⟨k, hk, rfl, hz⟩ := hrel
    have HZ := Lib.hid hz
    clear hz
    by_cases hkj : k < j
    · have ck : w.cell? ⟨sBlk (subS v 0 j), sOff (subS v 0 j) + k, none⟩ = some (.int .u64 ((wdg n k : Nat) : Int)) := by rw [HB3.out, HO3.out]; exact HC.out k (by omega)
      obtain ⟨x, hx⟩ : ∃ x, x = wdg n k := ⟨_, rfl⟩
      rw [← hx] at ck
      have HX := Lib.hid hx
      clear hx
      by_cases hx0 : x = 0
      · have t2 : ((x : Int) == 0) = true := by rw [beq_iff_eq]; omega
        have HX0 := Lib.hid hx0
        clear hx0
        go_wp2
        go_round
        case rel => exact ⟨k + 1, by omega, by go_num, fun m hm => by
          rcases (by omega : m < k ∨ m = k) with h | h
          · exact HZ.out m h
          · rw [h, ← HX.out]; exact HX0.out⟩
        case measure => simp [intOf]; omega
      · have t2 : ((x : Int) == 0) = false := by rw [beq_eq_false_iff_ne]; omega
        go_wp2
        go_ret
        exact ⟨ret_u64 (by rw [stV_one (fun h => hx0 (by rw [HX.out]; exact (HST.out.1 h).1 k hkj))]; rfl), rfl⟩
    · obtain rfl : k = j := by omega
      have t3 : (64 : Int) - (s : Int) = ((64 - s : Nat) : Int) := by omega
      have hT2 : (2 : Int) ^ (64 - s) = ((2 ^ (64 - s) : Nat) : Int) := by simp
      have hlow := low_shl (d := d) hs64
      obtain ⟨r, hr⟩ : ∃ r, r = 64 - s := ⟨_, rfl⟩
      rw [← hr] at t3 hT2 hlow
      have hr64 : r ≤ 64 := by omega
      have hr0 : 0 < r := by omega
      obtain ⟨T, hT⟩ : ∃ T, T = 2 ^ r := ⟨_, rfl⟩
      rw [← hT] at hT2 hlow
      have hm := wrapU d T
      obtain ⟨m, hmm⟩ : ∃ m, m = d * T % 18446744073709551616 := ⟨_, rfl⟩
      rw [← hmm] at hm hlow
      have HLow := Lib.hid hlow
      clear hr hT hmm hlow
      by_cases hm0 : m = 0
      · have t4 : ((m : Int) == 0) = true := by rw [beq_iff_eq]; omega
        have E := Lib.hid (stV_zero (HST.out.2 ⟨HZ.out, by rw [← HDD.out]; exact HLow.out.1 hm0⟩))
        clear hm0
        go_wp2
        go_ret
        exact ⟨ret_u64 (by rw [E.out]; rfl), rfl⟩
      · have t4 : ((m : Int) == 0) = false := by rw [beq_eq_false_iff_ne]; omega
        have E := Lib.hid (stV_one (n := n) (i := i) (fun h => hm0 (HLow.out.2 (by rw [HDD.out]; exact (HST.out.1 h).2))))
        go_wp2
        go_ret
        exact ⟨ret_u64 (by rw [E.out]; rfl), rfl⟩
end Go.Proofs.Ytniingblgkghgaa
