/-
Texts of this proof, joined: FdB. No condition.
-/
import Derived.Test.YtlgnaioodnhkjaaK15
import Derived.Test.YtlgnaioodnhkjaaK22
import Derived.Test.YtlgnaioodnhkjaaK26
/-
The reference's pattern of bits of the nearest float. No condition.
-/
namespace Go.Proofs.Ytlgnaioodnhkjaa
open Go.RowKit

theorem btQ_le (n : Bool) (M k : Nat) (E L : Int) : btQ n M E (btU M E k L) ≤ 2 ^ (k + 1) := by
  obtain ⟨u, hu⟩ : ∃ u, u = btU M E k L := ⟨_, rfl⟩
  have hu2 : u = max L (E + bl M - 1 - k) := hu
  rw [← hu]
  clear hu
  unfold btQ
  by_cases h : u ≤ E
  · rw [if_pos h]
    refine Nat.le_of_lt (Nat.lt_of_lt_of_le (lt_bl _) (Nat.pow_le_pow_right (by decide) ?_))
    have := bl_two M (E - u).toNat
    omega
  · rw [if_neg h]
    have h1 : M / 2 ^ (u - E).toNat < 2 ^ (k + 1) := by
      refine Nat.div_lt_of_lt_mul ?_
      rw [← Nat.pow_add]
      exact Nat.lt_of_lt_of_le (lt_bl M) (Nat.pow_le_pow_right (by decide) (by omega))
    have h2 : ctQ 0 n M (u - E).toNat ≤ M / 2 ^ (u - E).toNat + 1 := by unfold ctQ; split <;> omega
    omega
theorem btA_bd (n : Bool) (M : Nat) (E u : Int) : -1 ≤ btA n M E u ∧ btA n M E u ≤ 1 := by
  unfold btA ctA
  repeat' split
  all_goals omega
theorem cut0 (n : Bool) (a : Value) (M : Nat) (E u : Int) (w : World) (ha : NatV w a M) (hM : nl M ≤ 10000000) (hE : -100000000 ≤ u - E ∧ u - E ≤ 100000000) :
    Calls Try.prog 51 #[.bool n, a, .int .i64 (u - E), .int .i64 0] w fun e w' => ∃ r, e = .returned (.tuple #[r, .int .i64 (btA n M E u)]) ∧ NPost (btQ n M E u) w r w' := by
  by_cases h : u ≤ E
  · obtain ⟨k, hk⟩ := Int.eq_ofNat_of_zero_le (show 0 ≤ E - u by omega)
    rw [btA, btQ, if_pos h, if_pos h, show (E - u).toNat = k by omega]
    exact spCut_neg n a M k (u - E) 0 w ha hM (by omega) (by omega)
  · obtain ⟨k, hk⟩ := Int.eq_ofNat_of_zero_le (show 0 ≤ u - E by omega)
    have h1 := spCut_any n a M k 0 w ha hM (by omega) (by decide)
    rw [btA, btQ, if_neg h, if_neg h, show (u - E).toNat = k by omega, hk]
    exact h1
set_option maxRecDepth 100000 in
set_option maxHeartbeats 3200000 in
theorem spBits52 (n : Bool) (a : Value) (E : Int) (M : Nat) (w : World) (ha : NatV w a M) (hM : bl M ≤ 60000) (hE : -100000 ≤ E ∧ E ≤ 100000) :
    Calls Try.prog 27 #[.agg #[.bool n, a, .int .i64 E], .int .i64 52, .int .i64 (-1074), .int .i64 2047] w fun e' w' => e' = .returned (.tuple #[.int .i64 ((btV n M E 52 (-1074) 2047 : Nat) : Int), .int .i64 (btS n M E 52 (-1074) 2047)]) ∧ Below w.heap.size w w' := by
  have hS := ha.isS
  have hab := (Below.refl w.heap.size w).alloc (Nat.le_refl _) (.cells #[.bool n, a, .int .i64 E] 32)
  obtain ⟨X, hX⟩ : ∃ X, X = w.alloc (.cells #[.bool n, a, .int .i64 E] 32) := ⟨_, rfl⟩
  have hr1 : X.heap[w.heap.size]? = some (.cells #[.bool n, a, .int .i64 E] 32 (0, 0)) := by rw [hX]; exact row_chain11
  rw [← hX] at hab
  obtain ⟨x0, x1, x2, -, -, -⟩ := row3 hr1
  have HA := Lib.hid (ha.below hab)
  have HR := Lib.hid hr1
  have HB := Lib.hid hab
  have hXs := hab.size
  obtain ⟨hE1, hE2⟩ := hE
  obtain ⟨l, hl⟩ : ∃ l, l = bl M := ⟨_, rfl⟩
  have hll : l ≤ 60000 := by omega
  have hnl : nl M ≤ 60000 := nl_of_bl (by omega)
  obtain ⟨u, hu⟩ : ∃ u, u = btU M E 52 (-1074) := ⟨_, rfl⟩
  have emax : max (-1074 : Int) (E + (l : Int) - 1 - 52) = u := by rw [hu, hl]; rfl
  have hub : -1074 ≤ u ∧ u ≤ 200000 := by omega
  have hQb := btQ_le n M 52 E (-1074)
  have hAb := btA_bd n M E u
  rw [← hu] at hQb
  rw [show (2 : Nat) ^ (52 + 1) = 9007199254740992 from rfl] at hQb
  obtain ⟨d, hd⟩ := Int.eq_ofNat_of_zero_le (show 0 ≤ u - (-1074) by omega)
  have hd2 : u + 1074 = (d : Int) := by omega
  obtain ⟨Q, hQ⟩ : ∃ Q, Q = btQ n M E u := ⟨_, rfl⟩
  obtain ⟨A, hA⟩ : ∃ A, A = btA n M E u := ⟨_, rfl⟩
  have HC := Lib.hid (fun (j : Nat) => cut0 n a M E u (X.drewN j) (HA.out.below (undrewN' (Below.refl _ _))) (by omega) (by omega))
  rw [← hQ, ← hA] at HC
  rw [← hQ] at hQb
  rw [← hA] at hAb
  have HV1 : Hid ((2046 ≤ d ∨ 9218868437227405312 ≤ d * 4503599627370496 + Q) → btV n M E 52 (-1074) 2047 = 9218868437227405312 ∧ btS n M E 52 (-1074) 2047 = if n then -1 else 1) := Lib.hid (fun h => by
    have hi : btI Q u 52 (-1074) 2047 = true := by
      unfold btI
      refine decide_eq_true ?_
      rw [show (u - (-1074)).toNat = d by omega]
      rcases h with h | h
      · exact .inl (by omega)
      · exact .inr (by omega)
    unfold btV btS
    rw [← hu, ← hQ, hi]
    exact ⟨rfl, rfl⟩)
  have HV2 : Hid (¬ 2046 ≤ d → ¬ 9218868437227405312 ≤ d * 4503599627370496 + Q → btV n M E 52 (-1074) 2047 = d * 4503599627370496 + Q ∧ btS n M E 52 (-1074) 2047 = A) := Lib.hid (fun h1 h2 => by
    have hi : btI Q u 52 (-1074) 2047 = false := by
      unfold btI
      refine decide_eq_false ?_
      rw [show (u - (-1074)).toNat = d by omega]
      rintro (h | h)
      · omega
      · omega
    unfold btV btS
    rw [← hu, ← hQ, ← hA, hi, show (u - (-1074)).toNat = d by omega]
    exact ⟨rfl, rfl⟩)
  obtain ⟨BV, hBV⟩ : ∃ BV, BV = btV n M E 52 (-1074) 2047 := ⟨_, rfl⟩
  obtain ⟨BS, hBS⟩ : ∃ BS, BS = btS n M E 52 (-1074) 2047 := ⟨_, rfl⟩
  rw [← hBV, ← hBS] at HV1 HV2
  rw [← hBV, ← hBS]
  obtain ⟨L, hL⟩ : ∃ L, L = nl Q := ⟨_, rfl⟩
  have HLB : L ≤ 4 := by
    rw [hL]
    exact nl_le4 (by omega)
  have HL := Lib.hid hL
  have HLN : Hid (∀ j : Nat, Calls Try.prog 18 #[a] (X.drewN j) fun e' w' => e' = .returned (.int .i64 (l : Int)) ∧ w' = X.drewN j) := Lib.hid (fun j => by
    rw [hl]
    exact (spLen a M (X.drewN j) (HA.out.below (undrewN' (Below.refl _ _))) (by omega)).mono (fun _ _ h => ⟨h.1, h.2.symm⟩))
  clear ha hab hr1 hM hu hd hQ hA hBV hBS hL hl
  go_enter Try.func27, Try.ntmps27
  go_upto_region 1 with fail
  rw [← hX]
  clear hX
  go_quiet ((go_at_call 18; exact Calls.quiet_of_same (HLN.out _)))
  go_wp2_with fail
  refine (HC.out _).mono ?_
  rintro _ w7 ⟨q, rfl, hq, hb7⟩
  have hSq := hq.isS
  have hLq := hq.len
  rw [← HL.out] at hLq
  have HQ := Lib.hid hq
  have hb7 := undrewN hb7
  have HB7 := Lib.hid (HB.out.trans (hb7.mono hXs))
  have h7s := HB7.out.size
  have HR7 := Lib.hid (keep_row hb7 HR.out)
  clear hq hb7 x0 x1 x2
  go_wp2
  go_loopw [13, 14] (fun nv iv wr => ∃ k : Nat, k ≤ L ∧ iv = .int .i64 ((k : Int) - 1) ∧ nv = .int .i64 ((Q / 65536 ^ k : Nat) : Int) ∧ Below w7.heap.size w7 wr) (fun _ iv _ => (intOf iv + 1).toNat)
  case atStart =>
    refine ⟨L, Nat.le_refl _, by go_num, ?_, Below.refl _ _⟩
    have e1 := lt_nl Q
    rw [← HL.out] at e1
    rw [Nat.div_eq_of_lt e1]; rfl
  case round =>
    obtain ⟨k, hk, rfl, rfl, hbl⟩ := hrel
    by_cases hk0 : 0 < k
    · obtain ⟨j, rfl⟩ : ∃ j, k = j + 1 := ⟨k - 1, by omega⟩
      have ca := (HQ.out.below hbl).cell j (by rw [← HL.out]; omega)
      obtain ⟨p, hp⟩ : ∃ p, p = dig Q j := ⟨_, rfl⟩
      have hw := div_pow_step Q j
      have hpb : p < 65536 := by rw [hp]; exact dig_lt _ _
      rw [← hp] at ca hw
      have hu3 : Q / 65536 ^ j ≤ 9007199254740992 := Nat.le_trans (Nat.div_le_self _ _) hQb
      obtain ⟨U, hU⟩ : ∃ U, U = Q / 65536 ^ (j + 1) := ⟨_, rfl⟩
      rw [← hU] at hw ⊢
      obtain ⟨V, hV⟩ : ∃ V, V = Q / 65536 ^ j := ⟨_, rfl⟩
      rw [← hV] at hw hu3
      have HV := Lib.hid hV
      have hw2 : (U : Int) * 65536 + (p : Int) = (V : Int) := by omega
      have hub2 : (U : Int) * 65536 ≤ 9007199254740992 := by omega
      clear hp hU hV hw
      rw [show ((j + 1 : Nat) : Int) - 1 = (j : Int) by omega]
      have t3 : decide ((0:Int) ≤ (j : Int)) = true := by rw [decide_eq_true_iff]; omega
      have hjL : j < L := by omega
      go_wp2
      exact ⟨⟨j, by omega, by go_num, by rw [HV.out], hbl⟩, by simp [intOf]⟩
    · have hk1 : k = 0 := by omega
      subst hk1
      rw [Nat.pow_zero, Nat.div_one]
      obtain ⟨x0, x1, x2, -, -, -⟩ := row3 (keep_row hbl HR7.out)
      have HB8 := Lib.hid (HB7.out.trans (hbl.mono h7s))
      clear hbl
      by_cases h1 : 2046 ≤ d
      · have t1 : decide ((2046 : Int) ≤ (d : Int)) = true := decide_eq_true (by omega)
        have t1' : decide (2046 ≤ d) = true := decide_eq_true h1
        have K := Lib.hid (HV1.out (.inl h1))
        clear h1 HV1 HV2
        cases n
        · go_wp2
          go_quiet (fail)
          go_wp2
          go_ret2
          rw [K.out.1, K.out.2]
          exact ⟨rfl, undrewN' HB8.out⟩
        · go_wp2
          go_quiet (fail)
          go_wp2
          go_ret2
          rw [K.out.1, K.out.2]
          exact ⟨rfl, undrewN' HB8.out⟩
      · have t1 : decide ((2046 : Int) ≤ (d : Int)) = false := decide_eq_false (by omega)
        have t1' : decide (2046 ≤ d) = false := decide_eq_false h1
        have hdb : d ≤ 2045 := by omega
        obtain ⟨D, hD⟩ : ∃ D, D = d * 4503599627370496 := ⟨_, rfl⟩
        have hD2 : (d : Int) * 4503599627370496 = (D : Int) := by omega
        have hDb : D ≤ 9209861237972664320 := by omega
        by_cases h2 : 9218868437227405312 ≤ d * 4503599627370496 + Q
        · have t2 : decide ((9218868437227405312 : Int) ≤ (D : Int) + (Q : Int)) = true := decide_eq_true (by omega)
          have t2' : decide (9218868437227405312 ≤ D + Q) = true := decide_eq_true (by omega)
          have K := Lib.hid (HV1.out (.inr h2))
          clear h1 h2 hD HV1 HV2
          cases n
          · go_wp2
            go_quiet (fail)
            go_wp2
            go_ret2
            rw [K.out.1, K.out.2]
            exact ⟨rfl, undrewN' HB8.out⟩
          · go_wp2
            go_quiet (fail)
            go_wp2
            go_ret2
            rw [K.out.1, K.out.2]
            exact ⟨rfl, undrewN' HB8.out⟩
        · have t2 : decide ((9218868437227405312 : Int) ≤ (D : Int) + (Q : Int)) = false := decide_eq_false (by omega)
          have t2' : decide (9218868437227405312 ≤ D + Q) = false := decide_eq_false (by omega)
          have K := HV2.out h1 h2
          rw [← hD] at K
          have K := Lib.hid K
          have hsum : (D : Int) + (Q : Int) ≤ 9218868437227405312 := by omega
          clear h1 h2 hD HV1 HV2
          go_wp2
          go_quiet (fail)
          go_wp2
          go_ret2
          rw [K.out.1, K.out.2]
          exact ⟨rfl, undrewN' HB8.out⟩
set_option maxRecDepth 100000 in
set_option maxHeartbeats 3200000 in
theorem spBits23 (n : Bool) (a : Value) (E : Int) (M : Nat) (w : World) (ha : NatV w a M) (hM : bl M ≤ 60000) (hE : -100000 ≤ E ∧ E ≤ 100000) :
    Calls Try.prog 27 #[.agg #[.bool n, a, .int .i64 E], .int .i64 23, .int .i64 (-149), .int .i64 255] w fun e' w' => e' = .returned (.tuple #[.int .i64 ((btV n M E 23 (-149) 255 : Nat) : Int), .int .i64 (btS n M E 23 (-149) 255)]) ∧ Below w.heap.size w w' := by
  have hS := ha.isS
  have hab := (Below.refl w.heap.size w).alloc (Nat.le_refl _) (.cells #[.bool n, a, .int .i64 E] 32)
  obtain ⟨X, hX⟩ : ∃ X, X = w.alloc (.cells #[.bool n, a, .int .i64 E] 32) := ⟨_, rfl⟩
  have hr1 : X.heap[w.heap.size]? = some (.cells #[.bool n, a, .int .i64 E] 32 (0, 0)) := by rw [hX]; exact row_chain11
  rw [← hX] at hab
  obtain ⟨x0, x1, x2, -, -, -⟩ := row3 hr1
  have HA := Lib.hid (ha.below hab)
  have HR := Lib.hid hr1
  have HB := Lib.hid hab
  have hXs := hab.size
  obtain ⟨hE1, hE2⟩ := hE
  obtain ⟨l, hl⟩ : ∃ l, l = bl M := ⟨_, rfl⟩
  have hll : l ≤ 60000 := by omega
  have hnl : nl M ≤ 60000 := nl_of_bl (by omega)
  obtain ⟨u, hu⟩ : ∃ u, u = btU M E 23 (-149) := ⟨_, rfl⟩
  have emax : max (-149 : Int) (E + (l : Int) - 1 - 23) = u := by rw [hu, hl]; rfl
  have hub : -149 ≤ u ∧ u ≤ 200000 := by omega
  have hQb := btQ_le n M 23 E (-149)
  have hAb := btA_bd n M E u
  rw [← hu] at hQb
  rw [show (2 : Nat) ^ (23 + 1) = 16777216 from rfl] at hQb
  obtain ⟨d, hd⟩ := Int.eq_ofNat_of_zero_le (show 0 ≤ u - (-149) by omega)
  have hd2 : u + 149 = (d : Int) := by omega
  obtain ⟨Q, hQ⟩ : ∃ Q, Q = btQ n M E u := ⟨_, rfl⟩
  obtain ⟨A, hA⟩ : ∃ A, A = btA n M E u := ⟨_, rfl⟩
  have HC := Lib.hid (fun (j : Nat) => cut0 n a M E u (X.drewN j) (HA.out.below (undrewN' (Below.refl _ _))) (by omega) (by omega))
  rw [← hQ, ← hA] at HC
  rw [← hQ] at hQb
  rw [← hA] at hAb
  have HV1 : Hid ((254 ≤ d ∨ 2139095040 ≤ d * 8388608 + Q) → btV n M E 23 (-149) 255 = 2139095040 ∧ btS n M E 23 (-149) 255 = if n then -1 else 1) := Lib.hid (fun h => by
    have hi : btI Q u 23 (-149) 255 = true := by
      unfold btI
      refine decide_eq_true ?_
      rw [show (u - (-149)).toNat = d by omega]
      rcases h with h | h
      · exact .inl (by omega)
      · exact .inr (by omega)
    unfold btV btS
    rw [← hu, ← hQ, hi]
    exact ⟨rfl, rfl⟩)
  have HV2 : Hid (¬ 254 ≤ d → ¬ 2139095040 ≤ d * 8388608 + Q → btV n M E 23 (-149) 255 = d * 8388608 + Q ∧ btS n M E 23 (-149) 255 = A) := Lib.hid (fun h1 h2 => by
    have hi : btI Q u 23 (-149) 255 = false := by
      unfold btI
      refine decide_eq_false ?_
      rw [show (u - (-149)).toNat = d by omega]
      rintro (h | h)
      · omega
      · omega
    unfold btV btS
    rw [← hu, ← hQ, ← hA, hi, show (u - (-149)).toNat = d by omega]
    exact ⟨rfl, rfl⟩)
  obtain ⟨BV, hBV⟩ : ∃ BV, BV = btV n M E 23 (-149) 255 := ⟨_, rfl⟩
  obtain ⟨BS, hBS⟩ : ∃ BS, BS = btS n M E 23 (-149) 255 := ⟨_, rfl⟩
  rw [← hBV, ← hBS] at HV1 HV2
  rw [← hBV, ← hBS]
  obtain ⟨L, hL⟩ : ∃ L, L = nl Q := ⟨_, rfl⟩
  have HLB : L ≤ 4 := by
    rw [hL]
    exact nl_le4 (by omega)
  have HL := Lib.hid hL
  have HLN : Hid (∀ j : Nat, Calls Try.prog 18 #[a] (X.drewN j) fun e' w' => e' = .returned (.int .i64 (l : Int)) ∧ w' = X.drewN j) := Lib.hid (fun j => by
    rw [hl]
    exact (spLen a M (X.drewN j) (HA.out.below (undrewN' (Below.refl _ _))) (by omega)).mono (fun _ _ h => ⟨h.1, h.2.symm⟩))
  clear ha hab hr1 hM hu hd hQ hA hBV hBS hL hl
  go_enter Try.func27, Try.ntmps27
  go_upto_region 1 with fail
  rw [← hX]
  clear hX
  go_quiet ((go_at_call 18; exact Calls.quiet_of_same (HLN.out _)))
  go_wp2_with fail
  refine (HC.out _).mono ?_
  rintro _ w7 ⟨q, rfl, hq, hb7⟩
  have hSq := hq.isS
  have hLq := hq.len
  rw [← HL.out] at hLq
  have HQ := Lib.hid hq
  have hb7 := undrewN hb7
  have HB7 := Lib.hid (HB.out.trans (hb7.mono hXs))
  have h7s := HB7.out.size
  have HR7 := Lib.hid (keep_row hb7 HR.out)
  clear hq hb7 x0 x1 x2
  go_wp2
  go_loopw [13, 14] (fun nv iv wr => ∃ k : Nat, k ≤ L ∧ iv = .int .i64 ((k : Int) - 1) ∧ nv = .int .i64 ((Q / 65536 ^ k : Nat) : Int) ∧ Below w7.heap.size w7 wr) (fun _ iv _ => (intOf iv + 1).toNat)
  case atStart =>
    refine ⟨L, Nat.le_refl _, by go_num, ?_, Below.refl _ _⟩
    have e1 := lt_nl Q
    rw [← HL.out] at e1
    rw [Nat.div_eq_of_lt e1]; rfl
  case round =>
    obtain ⟨k, hk, rfl, rfl, hbl⟩ := hrel
    by_cases hk0 : 0 < k
    · obtain ⟨j, rfl⟩ : ∃ j, k = j + 1 := ⟨k - 1, by omega⟩
      have ca := (HQ.out.below hbl).cell j (by rw [← HL.out]; omega)
      obtain ⟨p, hp⟩ : ∃ p, p = dig Q j := ⟨_, rfl⟩
      have hw := div_pow_step Q j
      have hpb : p < 65536 := by rw [hp]; exact dig_lt _ _
      rw [← hp] at ca hw
      have hu3 : Q / 65536 ^ j ≤ 16777216 := Nat.le_trans (Nat.div_le_self _ _) hQb
      obtain ⟨U, hU⟩ : ∃ U, U = Q / 65536 ^ (j + 1) := ⟨_, rfl⟩
      rw [← hU] at hw ⊢
      obtain ⟨V, hV⟩ : ∃ V, V = Q / 65536 ^ j := ⟨_, rfl⟩
      rw [← hV] at hw hu3
      have HV := Lib.hid hV
      have hw2 : (U : Int) * 65536 + (p : Int) = (V : Int) := by omega
      have hub2 : (U : Int) * 65536 ≤ 16777216 := by omega
      clear hp hU hV hw
      rw [show ((j + 1 : Nat) : Int) - 1 = (j : Int) by omega]
      have t3 : decide ((0:Int) ≤ (j : Int)) = true := by rw [decide_eq_true_iff]; omega
      have hjL : j < L := by omega
      go_wp2
      exact ⟨⟨j, by omega, by go_num, by rw [HV.out], hbl⟩, by simp [intOf]⟩
    · have hk1 : k = 0 := by omega
      subst hk1
      rw [Nat.pow_zero, Nat.div_one]
      obtain ⟨x0, x1, x2, -, -, -⟩ := row3 (keep_row hbl HR7.out)
      have HB8 := Lib.hid (HB7.out.trans (hbl.mono h7s))
      clear hbl
      by_cases h1 : 254 ≤ d
      · have t1 : decide ((254 : Int) ≤ (d : Int)) = true := decide_eq_true (by omega)
        have t1' : decide (254 ≤ d) = true := decide_eq_true h1
        have K := Lib.hid (HV1.out (.inl h1))
        clear h1 HV1 HV2
        cases n
        · go_wp2
          go_quiet (fail)
          go_wp2
          go_ret2
          rw [K.out.1, K.out.2]
          exact ⟨rfl, undrewN' HB8.out⟩
        · go_wp2
          go_quiet (fail)
          go_wp2
          go_ret2
          rw [K.out.1, K.out.2]
          exact ⟨rfl, undrewN' HB8.out⟩
      · have t1 : decide ((254 : Int) ≤ (d : Int)) = false := decide_eq_false (by omega)
        have t1' : decide (254 ≤ d) = false := decide_eq_false h1
        have hdb : d ≤ 253 := by omega
        obtain ⟨D, hD⟩ : ∃ D, D = d * 8388608 := ⟨_, rfl⟩
        have hD2 : (d : Int) * 8388608 = (D : Int) := by omega
        have hDb : D ≤ 2122317824 := by omega
        by_cases h2 : 2139095040 ≤ d * 8388608 + Q
        · have t2 : decide ((2139095040 : Int) ≤ (D : Int) + (Q : Int)) = true := decide_eq_true (by omega)
          have t2' : decide (2139095040 ≤ D + Q) = true := decide_eq_true (by omega)
          have K := Lib.hid (HV1.out (.inr h2))
          clear h1 h2 hD HV1 HV2
          cases n
          · go_wp2
            go_quiet (fail)
            go_wp2
            go_ret2
            rw [K.out.1, K.out.2]
            exact ⟨rfl, undrewN' HB8.out⟩
          · go_wp2
            go_quiet (fail)
            go_wp2
            go_ret2
            rw [K.out.1, K.out.2]
            exact ⟨rfl, undrewN' HB8.out⟩
        · have t2 : decide ((2139095040 : Int) ≤ (D : Int) + (Q : Int)) = false := decide_eq_false (by omega)
          have t2' : decide (2139095040 ≤ D + Q) = false := decide_eq_false (by omega)
          have K := HV2.out h1 h2
          rw [← hD] at K
          have K := Lib.hid K
          have hsum : (D : Int) + (Q : Int) ≤ 2139095040 := by omega
          clear h1 h2 hD HV1 HV2
          go_wp2
          go_quiet (fail)
          go_wp2
          go_ret2
          rw [K.out.1, K.out.2]
          exact ⟨rfl, undrewN' HB8.out⟩
end Go.Proofs.Ytlgnaioodnhkjaa
