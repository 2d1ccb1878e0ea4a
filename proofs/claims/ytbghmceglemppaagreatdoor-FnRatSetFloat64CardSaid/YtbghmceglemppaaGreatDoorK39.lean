/-
Texts of this proof, joined: SfC ObS. No condition.
-/
import Derived.Test.YtbghmceglemppaaGreatDoorK02
import Derived.Test.YtbghmceglemppaaGreatDoorK05
import Derived.Test.YtbghmceglemppaaGreatDoorK33
import Derived.Test.YtbghmceglemppaaGreatDoorK38
import Derived.Test.YtbghmceglemppaaGreatDoorK41
/-
Rat.SetFloat64 of a new fraction: the walk. No condition but the threshold of recursive division.
-/
namespace Go.Proofs.YtbghmceglemppaaGreatDoor
open Go.RowKit

theorem and_one {m r : Nat} (hm : m < 18446744073709551616) (hr : r = m % 2) : bits .and .u64 (m : Int) 1 = (r : Int) := by
  rw [show (1 : Int) = ((1 : Nat) : Int) from rfl, bits_and_u64_nat m 1 hm (by decide), Nat.and_one_is_mod, hr]
/-- The fraction's parts. -/
def sfN (x : Nat) : Nat := obM x * 2 ^ (obE x).toNat
def sfD (x : Nat) : Nat := 2 ^ (-obE x).toNat
theorem sfD_pos (x : Nat) : 0 < sfD x := Nat.two_pow_pos _
theorem sf_pos (x : Nat) : decide (0 < sfN x) = decide (0 < obM x) := by
  unfold sfN
  rw [decide_eq_decide]
  constructor
  · intro h; exact Nat.pos_of_mul_pos_right h
  · intro h; exact Nat.mul_pos h (Nat.two_pow_pos _)
theorem bl_sfN {x : Nat} (h : obF x) : bl (sfN x) ≤ 1100 ∧ bl (sfD x) ≤ 1100 := by
  have hE := obE_bd h
  have hM := bl_le (n := obM x) (k := 53) (by have := obM_bd x; omega)
  have h1 := bl_two (obM x) (obE x).toNat
  have h2 := bl_two 1 (-obE x).toNat
  rw [Nat.one_mul, show bl 1 = 1 from rfl] at h2
  unfold sfN sfD
  omega
theorem sf_same {N D n d k : Nat} (hk : 0 < k) (h1 : n = N * k) (h2 : d = D * k) : N / Nat.gcd N D = n / Nat.gcd n d ∧ D / Nat.gcd N D = d / Nat.gcd n d := by
  subst h1 h2
  have e1 := red_mul N D k hk
  have e2 := red_mul D N k hk
  rw [Nat.gcd_comm (D * k), Nat.gcd_comm D] at e2
  exact ⟨e1.symm, e2.symm⟩
theorem nw_of_bl2 {n k : Nat} (h : bl n ≤ 64 * k) : nw n ≤ k :=
  nw_le (Nat.lt_of_lt_of_le (lt_bl n) (by
    rw [show (18446744073709551616 : Nat) = 2 ^ 64 from rfl, ← Nat.pow_mul]
    exact Nat.pow_le_pow_right (by decide) h))
theorem nw_low {n : Nat} (h : bl n ≤ 1200) : nw n < 40 := Nat.lt_of_le_of_lt (nw_of_bl2 (k := 19) (by omega)) (by decide)
theorem bl_left {a b : Nat} (hb : 0 < b) : bl a ≤ bl (a * b) := bl_mono (Nat.le_mul_of_pos_right a hb)
set_option maxRecDepth 100000 in
set_option maxHeartbeats 1600000 in
/-- Behind the loop. -/
theorem sf_tail (x : Nat) (hf : obF x) (m j : Nat) (s : Int) (hm : m * 2 ^ j = obM x) (hs : s = -obE x - (j : Int)) (hj : j = 0 ∨ 0 ≤ s) :
    (0 < s → m / Nat.gcd m (2 ^ s.toNat) = sfN x / Nat.gcd (sfN x) (sfD x) ∧ 2 ^ s.toNat / Nat.gcd m (2 ^ s.toNat) = sfD x / Nat.gcd (sfN x) (sfD x) ∧ nw m < 40 ∧ nw (2 ^ s.toNat) < 40) ∧
    (s ≤ 0 → m * 2 ^ (-s).toNat / Nat.gcd (m * 2 ^ (-s).toNat) 1 = sfN x / Nat.gcd (sfN x) (sfD x) ∧ 1 / Nat.gcd (m * 2 ^ (-s).toNat) 1 = sfD x / Nat.gcd (sfN x) (sfD x) ∧ nw (m * 2 ^ (-s).toNat) < 40) := by
  obtain ⟨b1, b2⟩ := bl_sfN hf
  have hE := obE_bd hf
  have hk := Nat.two_pow_pos j
  have bm : bl m ≤ 60 := by
    have h1 := bl_left (a := m) hk
    rw [hm] at h1
    have hM := bl_le (n := obM x) (k := 53) (by have := obM_bd x; omega)
    omega
  refine ⟨fun h => ?_, fun h => ?_⟩
  · have e1 : sfN x = m * 2 ^ j := by
      unfold sfN
      rw [hm, show (obE x).toNat = 0 by omega, Nat.pow_zero, Nat.mul_one]
    have e2 : sfD x = 2 ^ s.toNat * 2 ^ j := by
      unfold sfD
      rw [← Nat.pow_add]; congr 1; omega
    obtain ⟨k1, k2⟩ := sf_same hk e1 e2
    refine ⟨k1, k2, nw_low (by omega), nw_low ?_⟩
    have := bl_left (a := 2 ^ s.toNat) hk
    rw [← e2] at this
    omega
  · have e1 : sfN x = m * 2 ^ (-s).toNat * 2 ^ j := by
      unfold sfN
      rw [← hm, Nat.mul_assoc, Nat.mul_assoc, ← Nat.pow_add, ← Nat.pow_add]
      rcases hj with h0 | h0
      · congr 2; omega
      · congr 2; omega
    have e2 : sfD x = 1 * 2 ^ j := by
      unfold sfD
      rw [Nat.one_mul]
      rcases hj with h0 | h0
      · congr 1; omega
      · congr 1; omega
    obtain ⟨k1, k2⟩ := sf_same hk e1 e2
    refine ⟨k1, k2, nw_low ?_⟩
    have := bl_left (a := m * 2 ^ (-s).toNat) hk
    rw [← e1] at this
    omega
/-- Where the loop is. -/
def SfL (x m : Nat) (s : Int) : Prop := ∃ j : Nat, m * 2 ^ j = obM x ∧ s = -obE x - (j : Int) ∧ (j = 0 ∨ 0 ≤ s)
theorem SfL.step {x m : Nat} {s : Int} (h : SfL x m s) (h0 : m % 2 = 0) (hs : 0 < s) : SfL x (m / 2) (s - 1) := by
  obtain ⟨j, h1, h2, h3⟩ := h
  refine ⟨j + 1, ?_, by omega, .inr (by omega)⟩
  rw [Nat.pow_succ, Nat.mul_comm (2 ^ j), ← Nat.mul_assoc, show m / 2 * 2 = m by omega]
  exact h1
theorem sf_nn {x m k : Nat} {s : Int} (h : SfL x m s) (hk : 0 < k) : ((obN x && decide (0 < obM x)) && decide (0 < m * k)) = (obN x && decide (0 < obM x)) := by
  obtain ⟨j, h1, -⟩ := h
  rcases Nat.eq_zero_or_pos m with h0 | h0
  · rw [h0, Nat.zero_mul] at h1
    rw [← h1]; simp
  · rw [decide_eq_true (Nat.mul_pos h0 hk), Bool.and_true]
set_option maxRecDepth 100000 in
set_option maxHeartbeats 6400000 in
theorem ratSF (g B x : Nat) (w : World) (hx : x < 18446744073709551616) (hf : obF x) (row : w.heap[g]? = some (.cells #[.bool false, .slice none 0 0, .bool false, .slice none 0 0] 113 (0, 0))) (hB : B ≤ g) (hT : DivW w) (dg : 4 < B) :
    Calls Tryz.prog 70 #[.pointer (some ⟨g, 0, none⟩), .float .f64 x] w fun e w' => e = .returned (.pointer (some ⟨g, 0, none⟩)) ∧
      RatP w' B g (obN x && decide (0 < obM x)) (sfN x / Nat.gcd (sfN x) (sfD x)) (sfD x / Nat.gcd (sfN x) (sfD x)) ∧ Below B w w' := by
  have q1 : (x : Int) / 4503599627370496 = ((x / 4503599627370496 : Nat) : Int) := by omega
  have q2 : x / 4503599627370496 < 18446744073709551616 := by omega
  have q3 := and_2047 q2
  have hg7 : x / 4503599627370496 % 2048 ≠ 2047 := by unfold obF at hf; omega
  obtain ⟨q, hq⟩ : ∃ q, q = x / 4503599627370496 := ⟨_, rfl⟩
  rw [← hq] at q1 q2 q3 hg7
  obtain ⟨e, he⟩ : ∃ g, g = q % 2048 := ⟨_, rfl⟩
  rw [← he] at q3 hg7
  have q4 := and_frac hx
  have q6 := ord_neg hx hf
  have t7 : ((e : Int) == 2047) = false := by rw [beq_eq_false_iff_ne]; omega
  obtain ⟨nn, hnn⟩ : ∃ n, n = (obN x && decide (0 < obM x)) := ⟨_, rfl⟩
  rw [← hnn] at q6 ⊢
  have HNN := Lib.hid hnn
  have HS0 := Lib.hid (SfS.start (B := B) row hT)
  obtain ⟨m0, hm0⟩ : ∃ m, m = obM x := ⟨_, rfl⟩
  obtain ⟨s0, hs0⟩ : ∃ s : Int, s = -obE x := ⟨_, rfl⟩
  have HL0 : Hid (SfL x m0 s0) := Lib.hid ⟨0, by rw [Nat.pow_zero, Nat.mul_one, hm0], by rw [hs0]; simp, .inl rfl⟩
  have hm0b : m0 ≤ 9007199254740991 := by rw [hm0]; exact obM_bd x
  have hs0b1 : -971 ≤ s0 := by have := obE_bd hf; omega
  have hs0b2 : s0 ≤ 1074 := by have := obE_bd hf; omega
  have HTAIL := Lib.hid (fun (m : Nat) (s : Int) (h : SfL x m s) => by
    obtain ⟨j, k1, k2, k3⟩ := h
    exact sf_tail x hf m j s k1 k2 k3)
  obtain ⟨N, hN⟩ : ∃ N, N = sfN x / Nat.gcd (sfN x) (sfD x) := ⟨_, rfl⟩
  obtain ⟨D, hD⟩ : ∃ D, D = sfD x / Nat.gcd (sfN x) (sfD x) := ⟨_, rfl⟩
  rw [← hN, ← hD] at HTAIL ⊢
  have hel : e < 2048 := by omega
  by_cases he0 : e = 0
  · have t0 : ((e : Int) == 0) = true := by rw [he0]; rfl
    have hmm : x % 4503599627370496 = m0 := by rw [hm0]; unfold obM; rw [if_pos (by omega)]; omega
    rw [hmm] at q4
    have hss : 52 - ((e : Int) - 1022) = s0 := by rw [hs0]; unfold obE; omega
    clear row hT hf hx hq he hnn hm0 hs0 hN hD he0 hmm
    go_enter Tryz.func70, Tryz.ntmps70
    go_wp2_with (simp only [f64bits])
    go_loopw [6, 8] (fun mv sv wr => ∃ (m : Nat) (s : Int), mv = .int .u64 m ∧ sv = .int .i64 s ∧ SfL x m s ∧ m ≤ 9007199254740991 ∧ -971 ≤ s ∧ s ≤ 1074 ∧ w = wr) (fun _ sv _ => (intOf sv).toNat)
    case atStart => exact ⟨m0, s0, rfl, rfl, HL0.out, hm0b, hs0b1, hs0b2, rfl⟩
    case round =>
      obtain ⟨m, s, rfl, rfl, hl, hmb, hsb1, hsb2, rfl⟩ := hrel
      have HL := Lib.hid hl
      rcases (by omega : (m % 2 = 0 ∧ 0 < s) ∨ m % 2 = 1 ∨ (m % 2 = 0 ∧ s ≤ 0)) with ⟨h0, h1⟩ | h0 | ⟨h0, h1⟩
      · have hst := Lib.hid (hl.step h0 h1)
        have a1 : bits .and .u64 (m : Int) 1 = 0 := and_one (r := 0) (by omega) h0.symm
        have t2 : decide (0 < s) = true := decide_eq_true h1
        have e1 : (m : Int) / 2 = ((m / 2 : Nat) : Int) := by omega
        have hm2 : m / 2 ≤ 9007199254740991 := by omega
        obtain ⟨m2, hm2'⟩ : ∃ k, k = m / 2 := ⟨_, rfl⟩
        rw [← hm2'] at e1 hm2 hst
        clear hl h0 hm2'
        go_wp2
        go_roundw
        case rel => exact ⟨m2, s - 1, rfl, rfl, hst.out, hm2, by omega, by omega, trivial⟩
        case measure => simp [intOf]; omega
      · have a1 : bits .and .u64 (m : Int) 1 = 1 := and_one (r := 1) (by omega) h0.symm
        clear hl h0
        go_wp2_with fail
        refine (HS0.out.setA hB dg m (by omega)).mono ?_
        rintro _ w1 ⟨rfl, va, hA, hz⟩
        obtain ⟨k0, f0⟩ := row_at (i := 0) hA.row rfl
        have hN := hA.neg hB dg nn
        obtain ⟨W2, hW2⟩ : ∃ W2, W2 = w1.setCell ⟨g, 0, none⟩ (.bool nn) := ⟨_, rfl⟩
        rw [← hW2] at hN
        have HN := Lib.hid hN
        have HZ := Lib.hid hz
        clear hA hN hz
        go_upto_region 17 with fail
        rw [← hW2]
        clear hW2 k0 f0
        (refine wp_region_hoistP [0, 1, 2] [] [] [3, 4] (by kernel_rfl) (by kernel_rfl) ⟨fun _ _ _ h => (by first | exact (hQp _ _ _ h).elim | cases h.2.1 | (obtain ⟨_, h3, _⟩ := h.2; cases h3)), fun _ _ h => (by first | exact (hQo _ _ h).elim | cases h.1 | (obtain ⟨_, h3, _⟩ := h; cases h3))⟩ ?_; simp only [pickOps, List.flatMap_cons, List.flatMap_nil, Option.toList_some, List.cons_append, List.nil_append, List.getElem?_toArray, List.getElem?_cons_zero, List.getElem?_cons_succ]; (repeat (go_big_quiet_step (fail))); refine wpQuiet_nil ?_; (repeat (go_big_quiet_step (fail))); refine wpQuiet_nil ?_; rintro _ ⟨nq, rfl⟩; (repeat (go_big_quiet_step (fail))); refine wpQuiet_nil ?_)
        go_wp2_with fail
        refine ((HN.out.drewN nq).setB hB dg).mono ?_
        rintro _ w3 ⟨c, rfl, hb3, hset⟩
        have HSET := Lib.hid hset
        clear hset hb3
        go_wp2_with fail
        refine HSET.out.mono ?_
        rintro _ w4 ⟨rfl, vb, hB4⟩
        have H4 := Lib.hid hB4
        clear hB4 HSET
        rcases Int.lt_or_le 0 s with hsp | hsp
        · have HT := Lib.hid ((HTAIL.out m s HL.out).1 hsp)
          have HP := Lib.hid (sf_nn (k := 1) HL.out (by decide))
          have t2 : decide (0 < s) = true := decide_eq_true hsp
          obtain ⟨k, hk⟩ := Int.eq_ofNat_of_zero_le (Int.le_of_lt hsp)
          subst hk
          have hkb : k ≤ 1074 := by omega
          have e1 : IntKind.u64.wrap (k : Int) = (k : Int) := by rw [IntKind.wrap_u64]; omega
          go_upto_region 19 with fail
          (refine wp_region_hoist 8 (by kernel_rfl) (by kernel_rfl) ⟨fun _ _ _ h => (by first | exact (hQp _ _ _ h).elim | cases h.2.1 | (obtain ⟨_, h3, _⟩ := h.2; cases h3)), fun _ _ h => (by first | exact (hQo _ _ h).elim | cases h.1 | (obtain ⟨_, h3, _⟩ := h; cases h3))⟩ ?_; simp only [List.take_succ_cons, List.take_zero, List.drop_succ_cons, List.drop_zero]; (repeat (go_big_quiet_step (fail))); refine wpQuiet_nil ?_; rintro _ ⟨nq, rfl⟩)
          go_wp2_with fail
          refine ((H4.out.drewN nq).lshB hB dg (by decide) (by decide) k (by omega)).mono ?_
          rintro _ w5 ⟨rfl, vb', h5⟩
          have H5 := Lib.hid h5
          clear h5
          have HF : Hid (Calls Tryz.prog 124 #[.pointer (some ⟨g, 0, none⟩)] w5 fun e w' => e = .returned (.pointer (some ⟨g, 0, none⟩)) ∧ RatP w' B g nn N D ∧ Below B w w') := Lib.hid (by
            obtain ⟨t1, t2, t3, t4⟩ := HT.out
            have t5 := HP.out
            simp only [Int.toNat_natCast] at t1 t2 t4
            rw [Nat.mul_one] at t5
            have h5 := H5.out
            rw [Nat.one_mul] at h5
            have := h5.norm hB dg (Nat.two_pow_pos _) t3 t4
            rw [t1, t2, HNN.out, t5] at this
            rw [HNN.out]
            exact this)
          go_wp2_with fail
          refine HF.out.mono ?_
          rintro _ w6 ⟨rfl, h6, hb6⟩
          have Q := Lib.hid (And.intro h6 hb6)
          clear h6 hb6
          go_wp2
          go_ret
          exact ⟨rfl, Q.out⟩
        · have HT := Lib.hid ((HTAIL.out m s HL.out).2 hsp)
          have t2 : decide (0 < s) = false := decide_eq_false (by omega)
          obtain ⟨k, hk⟩ := Int.eq_ofNat_of_zero_le (show 0 ≤ -s by omega)
          have HP := Lib.hid (sf_nn (k := 2 ^ k) HL.out (Nat.two_pow_pos _))
          have hkb : k ≤ 1074 := by omega
          have hk' : s = -(k : Int) := by omega
          subst hk'
          have e0 : IntKind.i64.wrap (- -(k : Int)) = (k : Int) := by rw [IntKind.wrap_i64]; omega
          have e0' : IntKind.i64.wrap (k : Int) = (k : Int) := by rw [IntKind.wrap_i64]; omega
          have e1 : IntKind.u64.wrap (k : Int) = (k : Int) := by rw [IntKind.wrap_u64]; omega
          clear hk
          go_upto_region 20 with fail
          (refine wp_region_hoist 9 (by kernel_rfl) (by kernel_rfl) ⟨fun _ _ _ h => (by first | exact (hQp _ _ _ h).elim | cases h.2.1 | (obtain ⟨_, h3, _⟩ := h.2; cases h3)), fun _ _ h => (by first | exact (hQo _ _ h).elim | cases h.1 | (obtain ⟨_, h3, _⟩ := h; cases h3))⟩ ?_; simp only [List.take_succ_cons, List.take_zero, List.drop_succ_cons, List.drop_zero]; (repeat (go_big_quiet_step (fail))); refine wpQuiet_nil ?_; rintro _ ⟨nq, rfl⟩)
          go_wp2_with fail
          refine ((H4.out.drewN nq).lshA hB dg HZ.out (by have := nw_low (n := m) (Nat.le_trans (bl_le (k := 53) (by omega)) (by decide)); omega) k (by omega)).mono ?_
          rintro _ w5 ⟨rfl, va', h5⟩
          have H5 := Lib.hid h5
          clear h5
          have HF : Hid (Calls Tryz.prog 124 #[.pointer (some ⟨g, 0, none⟩)] w5 fun e w' => e = .returned (.pointer (some ⟨g, 0, none⟩)) ∧ RatP w' B g nn N D ∧ Below B w w') := Lib.hid (by
            obtain ⟨t1, t2, t3⟩ := HT.out
            have t5 := HP.out
            rw [Int.neg_neg, Int.toNat_natCast] at t1 t2 t3
            have := H5.out.norm hB dg (by decide) t3 (by decide)
            rw [t1, t2, HNN.out, t5] at this
            rw [HNN.out]
            exact this)
          go_wp2_with fail
          refine HF.out.mono ?_
          rintro _ w6 ⟨rfl, h6, hb6⟩
          have Q := Lib.hid (And.intro h6 hb6)
          clear h6 hb6
          go_wp2
          go_ret
          exact ⟨rfl, Q.out⟩
      · have a1 : bits .and .u64 (m : Int) 1 = 0 := and_one (r := 0) (by omega) h0.symm
        have t2' : decide (0 < s) = false := decide_eq_false (by omega)
        clear hl h0
        go_wp2_with fail
        refine (HS0.out.setA hB dg m (by omega)).mono ?_
        rintro _ w1 ⟨rfl, va, hA, hz⟩
        obtain ⟨k0, f0⟩ := row_at (i := 0) hA.row rfl
        have hN := hA.neg hB dg nn
        obtain ⟨W2, hW2⟩ : ∃ W2, W2 = w1.setCell ⟨g, 0, none⟩ (.bool nn) := ⟨_, rfl⟩
        rw [← hW2] at hN
        have HN := Lib.hid hN
        have HZ := Lib.hid hz
        clear hA hN hz
        go_upto_region 17 with fail
        rw [← hW2]
        clear hW2 k0 f0
        (refine wp_region_hoistP [0, 1, 2] [] [] [3, 4] (by kernel_rfl) (by kernel_rfl) ⟨fun _ _ _ h => (by first | exact (hQp _ _ _ h).elim | cases h.2.1 | (obtain ⟨_, h3, _⟩ := h.2; cases h3)), fun _ _ h => (by first | exact (hQo _ _ h).elim | cases h.1 | (obtain ⟨_, h3, _⟩ := h; cases h3))⟩ ?_; simp only [pickOps, List.flatMap_cons, List.flatMap_nil, Option.toList_some, List.cons_append, List.nil_append, List.getElem?_toArray, List.getElem?_cons_zero, List.getElem?_cons_succ]; (repeat (go_big_quiet_step (fail))); refine wpQuiet_nil ?_; (repeat (go_big_quiet_step (fail))); refine wpQuiet_nil ?_; rintro _ ⟨nq, rfl⟩; (repeat (go_big_quiet_step (fail))); refine wpQuiet_nil ?_)
        go_wp2_with fail
        refine ((HN.out.drewN nq).setB hB dg).mono ?_
        rintro _ w3 ⟨c, rfl, hb3, hset⟩
        have HSET := Lib.hid hset
        clear hset hb3
        go_wp2_with fail
        refine HSET.out.mono ?_
        rintro _ w4 ⟨rfl, vb, hB4⟩
        have H4 := Lib.hid hB4
        clear hB4 HSET
        rcases Int.lt_or_le 0 s with hsp | hsp
        · exfalso; omega
        · have HT := Lib.hid ((HTAIL.out m s HL.out).2 hsp)
          have t2 : decide (0 < s) = false := decide_eq_false (by omega)
          obtain ⟨k, hk⟩ := Int.eq_ofNat_of_zero_le (show 0 ≤ -s by omega)
          have HP := Lib.hid (sf_nn (k := 2 ^ k) HL.out (Nat.two_pow_pos _))
          have hkb : k ≤ 1074 := by omega
          have hk' : s = -(k : Int) := by omega
          subst hk'
          have e0 : IntKind.i64.wrap (- -(k : Int)) = (k : Int) := by rw [IntKind.wrap_i64]; omega
          have e0' : IntKind.i64.wrap (k : Int) = (k : Int) := by rw [IntKind.wrap_i64]; omega
          have e1 : IntKind.u64.wrap (k : Int) = (k : Int) := by rw [IntKind.wrap_u64]; omega
          clear hk
          go_upto_region 20 with fail
          (refine wp_region_hoist 9 (by kernel_rfl) (by kernel_rfl) ⟨fun _ _ _ h => (by first | exact (hQp _ _ _ h).elim | cases h.2.1 | (obtain ⟨_, h3, _⟩ := h.2; cases h3)), fun _ _ h => (by first | exact (hQo _ _ h).elim | cases h.1 | (obtain ⟨_, h3, _⟩ := h; cases h3))⟩ ?_; simp only [List.take_succ_cons, List.take_zero, List.drop_succ_cons, List.drop_zero]; (repeat (go_big_quiet_step (fail))); refine wpQuiet_nil ?_; rintro _ ⟨nq, rfl⟩)
          go_wp2_with fail
          refine ((H4.out.drewN nq).lshA hB dg HZ.out (by have := nw_low (n := m) (Nat.le_trans (bl_le (k := 53) (by omega)) (by decide)); omega) k (by omega)).mono ?_
          rintro _ w5 ⟨rfl, va', h5⟩
          have H5 := Lib.hid h5
          clear h5
          have HF : Hid (Calls Tryz.prog 124 #[.pointer (some ⟨g, 0, none⟩)] w5 fun e w' => e = .returned (.pointer (some ⟨g, 0, none⟩)) ∧ RatP w' B g nn N D ∧ Below B w w') := Lib.hid (by
            obtain ⟨t1, t2, t3⟩ := HT.out
            have t5 := HP.out
            rw [Int.neg_neg, Int.toNat_natCast] at t1 t2 t3
            have := H5.out.norm hB dg (by decide) t3 (by decide)
            rw [t1, t2, HNN.out, t5] at this
            rw [HNN.out]
            exact this)
          go_wp2_with fail
          refine HF.out.mono ?_
          rintro _ w6 ⟨rfl, h6, hb6⟩
          have Q := Lib.hid (And.intro h6 hb6)
          clear h6 hb6
          go_wp2
          go_ret
          exact ⟨rfl, Q.out⟩
  · have t0 : ((e : Int) == 0) = false := by rw [beq_eq_false_iff_ne]; omega
    obtain ⟨f, hff⟩ : ∃ f, f = x % 4503599627370496 := ⟨_, rfl⟩
    rw [← hff] at q4
    have q5 := or_hid (f := f) (by omega)
    have hmm : f + 4503599627370496 = m0 := by rw [hm0, hff]; unfold obM; rw [if_neg (by omega)]; omega
    rw [hmm] at q5
    have hss : 52 - ((e : Int) - 1023) = s0 := by rw [hs0]; unfold obE; omega
    clear row hT hf hx hq he hnn hm0 hs0 hN hD he0 hmm hff
    go_enter Tryz.func70, Tryz.ntmps70
    go_wp2_with (simp only [f64bits])
    go_loopw [6, 8] (fun mv sv wr => ∃ (m : Nat) (s : Int), mv = .int .u64 m ∧ sv = .int .i64 s ∧ SfL x m s ∧ m ≤ 9007199254740991 ∧ -971 ≤ s ∧ s ≤ 1074 ∧ w = wr) (fun _ sv _ => (intOf sv).toNat)
    case atStart => exact ⟨m0, s0, rfl, rfl, HL0.out, hm0b, hs0b1, hs0b2, rfl⟩
    case round =>
      obtain ⟨m, s, rfl, rfl, hl, hmb, hsb1, hsb2, rfl⟩ := hrel
      have HL := Lib.hid hl
      rcases (by omega : (m % 2 = 0 ∧ 0 < s) ∨ m % 2 = 1 ∨ (m % 2 = 0 ∧ s ≤ 0)) with ⟨h0, h1⟩ | h0 | ⟨h0, h1⟩
      · have hst := Lib.hid (hl.step h0 h1)
        have a1 : bits .and .u64 (m : Int) 1 = 0 := and_one (r := 0) (by omega) h0.symm
        have t2 : decide (0 < s) = true := decide_eq_true h1
        have e1 : (m : Int) / 2 = ((m / 2 : Nat) : Int) := by omega
        have hm2 : m / 2 ≤ 9007199254740991 := by omega
        obtain ⟨m2, hm2'⟩ : ∃ k, k = m / 2 := ⟨_, rfl⟩
        rw [← hm2'] at e1 hm2 hst
        clear hl h0 hm2'
        go_wp2
        go_roundw
        case rel => exact ⟨m2, s - 1, rfl, rfl, hst.out, hm2, by omega, by omega, trivial⟩
        case measure => simp [intOf]; omega
      · have a1 : bits .and .u64 (m : Int) 1 = 1 := and_one (r := 1) (by omega) h0.symm
        clear hl h0
        go_wp2_with fail
        refine (HS0.out.setA hB dg m (by omega)).mono ?_
        rintro _ w1 ⟨rfl, va, hA, hz⟩
        obtain ⟨k0, f0⟩ := row_at (i := 0) hA.row rfl
        have hN := hA.neg hB dg nn
        obtain ⟨W2, hW2⟩ : ∃ W2, W2 = w1.setCell ⟨g, 0, none⟩ (.bool nn) := ⟨_, rfl⟩
        rw [← hW2] at hN
        have HN := Lib.hid hN
        have HZ := Lib.hid hz
        clear hA hN hz
        go_upto_region 17 with fail
        rw [← hW2]
        clear hW2 k0 f0
        (refine wp_region_hoistP [0, 1, 2] [] [] [3, 4] (by kernel_rfl) (by kernel_rfl) ⟨fun _ _ _ h => (by first | exact (hQp _ _ _ h).elim | cases h.2.1 | (obtain ⟨_, h3, _⟩ := h.2; cases h3)), fun _ _ h => (by first | exact (hQo _ _ h).elim | cases h.1 | (obtain ⟨_, h3, _⟩ := h; cases h3))⟩ ?_; simp only [pickOps, List.flatMap_cons, List.flatMap_nil, Option.toList_some, List.cons_append, List.nil_append, List.getElem?_toArray, List.getElem?_cons_zero, List.getElem?_cons_succ]; (repeat (go_big_quiet_step (fail))); refine wpQuiet_nil ?_; (repeat (go_big_quiet_step (fail))); refine wpQuiet_nil ?_; rintro _ ⟨nq, rfl⟩; (repeat (go_big_quiet_step (fail))); refine wpQuiet_nil ?_)
        go_wp2_with fail
        refine ((HN.out.drewN nq).setB hB dg).mono ?_
        rintro _ w3 ⟨c, rfl, hb3, hset⟩
        have HSET := Lib.hid hset
        clear hset hb3
        go_wp2_with fail
        refine HSET.out.mono ?_
        rintro _ w4 ⟨rfl, vb, hB4⟩
        have H4 := Lib.hid hB4
        clear hB4 HSET
        rcases Int.lt_or_le 0 s with hsp | hsp
        · have HT := Lib.hid ((HTAIL.out m s HL.out).1 hsp)
          have HP := Lib.hid (sf_nn (k := 1) HL.out (by decide))
          have t2 : decide (0 < s) = true := decide_eq_true hsp
          obtain ⟨k, hk⟩ := Int.eq_ofNat_of_zero_le (Int.le_of_lt hsp)
          subst hk
          have hkb : k ≤ 1074 := by omega
          have e1 : IntKind.u64.wrap (k : Int) = (k : Int) := by rw [IntKind.wrap_u64]; omega
          go_upto_region 19 with fail
          (refine wp_region_hoist 8 (by kernel_rfl) (by kernel_rfl) ⟨fun _ _ _ h => (by first | exact (hQp _ _ _ h).elim | cases h.2.1 | (obtain ⟨_, h3, _⟩ := h.2; cases h3)), fun _ _ h => (by first | exact (hQo _ _ h).elim | cases h.1 | (obtain ⟨_, h3, _⟩ := h; cases h3))⟩ ?_; simp only [List.take_succ_cons, List.take_zero, List.drop_succ_cons, List.drop_zero]; (repeat (go_big_quiet_step (fail))); refine wpQuiet_nil ?_; rintro _ ⟨nq, rfl⟩)
          go_wp2_with fail
          refine ((H4.out.drewN nq).lshB hB dg (by decide) (by decide) k (by omega)).mono ?_
          rintro _ w5 ⟨rfl, vb', h5⟩
          have H5 := Lib.hid h5
          clear h5
          have HF : Hid (Calls Tryz.prog 124 #[.pointer (some ⟨g, 0, none⟩)] w5 fun e w' => e = .returned (.pointer (some ⟨g, 0, none⟩)) ∧ RatP w' B g nn N D ∧ Below B w w') := Lib.hid (by
            obtain ⟨t1, t2, t3, t4⟩ := HT.out
            have t5 := HP.out
            simp only [Int.toNat_natCast] at t1 t2 t4
            rw [Nat.mul_one] at t5
            have h5 := H5.out
            rw [Nat.one_mul] at h5
            have := h5.norm hB dg (Nat.two_pow_pos _) t3 t4
            rw [t1, t2, HNN.out, t5] at this
            rw [HNN.out]
            exact this)
          go_wp2_with fail
          refine HF.out.mono ?_
          rintro _ w6 ⟨rfl, h6, hb6⟩
          have Q := Lib.hid (And.intro h6 hb6)
          clear h6 hb6
          go_wp2
          go_ret
          exact ⟨rfl, Q.out⟩
        · have HT := Lib.hid ((HTAIL.out m s HL.out).2 hsp)
          have t2 : decide (0 < s) = false := decide_eq_false (by omega)
          obtain ⟨k, hk⟩ := Int.eq_ofNat_of_zero_le (show 0 ≤ -s by omega)
          have HP := Lib.hid (sf_nn (k := 2 ^ k) HL.out (Nat.two_pow_pos _))
          have hkb : k ≤ 1074 := by omega
          have hk' : s = -(k : Int) := by omega
          subst hk'
          have e0 : IntKind.i64.wrap (- -(k : Int)) = (k : Int) := by rw [IntKind.wrap_i64]; omega
          have e0' : IntKind.i64.wrap (k : Int) = (k : Int) := by rw [IntKind.wrap_i64]; omega
          have e1 : IntKind.u64.wrap (k : Int) = (k : Int) := by rw [IntKind.wrap_u64]; omega
          clear hk
          go_upto_region 20 with fail
          (refine wp_region_hoist 9 (by kernel_rfl) (by kernel_rfl) ⟨fun _ _ _ h => (by first | exact (hQp _ _ _ h).elim | cases h.2.1 | (obtain ⟨_, h3, _⟩ := h.2; cases h3)), fun _ _ h => (by first | exact (hQo _ _ h).elim | cases h.1 | (obtain ⟨_, h3, _⟩ := h; cases h3))⟩ ?_; simp only [List.take_succ_cons, List.take_zero, List.drop_succ_cons, List.drop_zero]; (repeat (go_big_quiet_step (fail))); refine wpQuiet_nil ?_; rintro _ ⟨nq, rfl⟩)
          go_wp2_with fail
          refine ((H4.out.drewN nq).lshA hB dg HZ.out (by have := nw_low (n := m) (Nat.le_trans (bl_le (k := 53) (by omega)) (by decide)); omega) k (by omega)).mono ?_
          rintro _ w5 ⟨rfl, va', h5⟩
          have H5 := Lib.hid h5
          clear h5
          have HF : Hid (Calls Tryz.prog 124 #[.pointer (some ⟨g, 0, none⟩)] w5 fun e w' => e = .returned (.pointer (some ⟨g, 0, none⟩)) ∧ RatP w' B g nn N D ∧ Below B w w') := Lib.hid (by
            obtain ⟨t1, t2, t3⟩ := HT.out
            have t5 := HP.out
            rw [Int.neg_neg, Int.toNat_natCast] at t1 t2 t3
            have := H5.out.norm hB dg (by decide) t3 (by decide)
            rw [t1, t2, HNN.out, t5] at this
            rw [HNN.out]
            exact this)
          go_wp2_with fail
          refine HF.out.mono ?_
          rintro _ w6 ⟨rfl, h6, hb6⟩
          have Q := Lib.hid (And.intro h6 hb6)
          clear h6 hb6
          go_wp2
          go_ret
          exact ⟨rfl, Q.out⟩
      · have a1 : bits .and .u64 (m : Int) 1 = 0 := and_one (r := 0) (by omega) h0.symm
        have t2' : decide (0 < s) = false := decide_eq_false (by omega)
        clear hl h0
        go_wp2_with fail
        refine (HS0.out.setA hB dg m (by omega)).mono ?_
        rintro _ w1 ⟨rfl, va, hA, hz⟩
        obtain ⟨k0, f0⟩ := row_at (i := 0) hA.row rfl
        have hN := hA.neg hB dg nn
        obtain ⟨W2, hW2⟩ : ∃ W2, W2 = w1.setCell ⟨g, 0, none⟩ (.bool nn) := ⟨_, rfl⟩
        rw [← hW2] at hN
        have HN := Lib.hid hN
        have HZ := Lib.hid hz
        clear hA hN hz
        go_upto_region 17 with fail
        rw [← hW2]
        clear hW2 k0 f0
        (refine wp_region_hoistP [0, 1, 2] [] [] [3, 4] (by kernel_rfl) (by kernel_rfl) ⟨fun _ _ _ h => (by first | exact (hQp _ _ _ h).elim | cases h.2.1 | (obtain ⟨_, h3, _⟩ := h.2; cases h3)), fun _ _ h => (by first | exact (hQo _ _ h).elim | cases h.1 | (obtain ⟨_, h3, _⟩ := h; cases h3))⟩ ?_; simp only [pickOps, List.flatMap_cons, List.flatMap_nil, Option.toList_some, List.cons_append, List.nil_append, List.getElem?_toArray, List.getElem?_cons_zero, List.getElem?_cons_succ]; (repeat (go_big_quiet_step (fail))); refine wpQuiet_nil ?_; (repeat (go_big_quiet_step (fail))); refine wpQuiet_nil ?_; rintro _ ⟨nq, rfl⟩; (repeat (go_big_quiet_step (fail))); refine wpQuiet_nil ?_)
        go_wp2_with fail
        refine ((HN.out.drewN nq).setB hB dg).mono ?_
        rintro _ w3 ⟨c, rfl, hb3, hset⟩
        have HSET := Lib.hid hset
        clear hset hb3
        go_wp2_with fail
        refine HSET.out.mono ?_
        rintro _ w4 ⟨rfl, vb, hB4⟩
        have H4 := Lib.hid hB4
        clear hB4 HSET
        rcases Int.lt_or_le 0 s with hsp | hsp
        · exfalso; omega
        · have HT := Lib.hid ((HTAIL.out m s HL.out).2 hsp)
          have t2 : decide (0 < s) = false := decide_eq_false (by omega)
          obtain ⟨k, hk⟩ := Int.eq_ofNat_of_zero_le (show 0 ≤ -s by omega)
          have HP := Lib.hid (sf_nn (k := 2 ^ k) HL.out (Nat.two_pow_pos _))
          have hkb : k ≤ 1074 := by omega
          have hk' : s = -(k : Int) := by omega
          subst hk'
          have e0 : IntKind.i64.wrap (- -(k : Int)) = (k : Int) := by rw [IntKind.wrap_i64]; omega
          have e0' : IntKind.i64.wrap (k : Int) = (k : Int) := by rw [IntKind.wrap_i64]; omega
          have e1 : IntKind.u64.wrap (k : Int) = (k : Int) := by rw [IntKind.wrap_u64]; omega
          clear hk
          go_upto_region 20 with fail
          (refine wp_region_hoist 9 (by kernel_rfl) (by kernel_rfl) ⟨fun _ _ _ h => (by first | exact (hQp _ _ _ h).elim | cases h.2.1 | (obtain ⟨_, h3, _⟩ := h.2; cases h3)), fun _ _ h => (by first | exact (hQo _ _ h).elim | cases h.1 | (obtain ⟨_, h3, _⟩ := h; cases h3))⟩ ?_; simp only [List.take_succ_cons, List.take_zero, List.drop_succ_cons, List.drop_zero]; (repeat (go_big_quiet_step (fail))); refine wpQuiet_nil ?_; rintro _ ⟨nq, rfl⟩)
          go_wp2_with fail
          refine ((H4.out.drewN nq).lshA hB dg HZ.out (by have := nw_low (n := m) (Nat.le_trans (bl_le (k := 53) (by omega)) (by decide)); omega) k (by omega)).mono ?_
          rintro _ w5 ⟨rfl, va', h5⟩
          have H5 := Lib.hid h5
          clear h5
          have HF : Hid (Calls Tryz.prog 124 #[.pointer (some ⟨g, 0, none⟩)] w5 fun e w' => e = .returned (.pointer (some ⟨g, 0, none⟩)) ∧ RatP w' B g nn N D ∧ Below B w w') := Lib.hid (by
            obtain ⟨t1, t2, t3⟩ := HT.out
            have t5 := HP.out
            rw [Int.neg_neg, Int.toNat_natCast] at t1 t2 t3
            have := H5.out.norm hB dg (by decide) t3 (by decide)
            rw [t1, t2, HNN.out, t5] at this
            rw [HNN.out]
            exact this)
          go_wp2_with fail
          refine HF.out.mono ?_
          rintro _ w6 ⟨rfl, h6, hb6⟩
          have Q := Lib.hid (And.intro h6 hb6)
          clear h6 hb6
          go_wp2
          go_ret
          exact ⟨rfl, Q.out⟩
end Go.Proofs.YtbghmceglemppaaGreatDoor

/-
The reference's value of a float64's pattern. No condition.
-/
namespace Go.Proofs.YtbghmceglemppaaGreatDoor
open Go.RowKit

/-- The exponent's field. -/
theorem ob_field {x : Nat} (_hx : x < 18446744073709551616) : (x : Int) / 4503599627370496 = ((x / 4503599627370496 : Nat) : Int) ∧ x / 4503599627370496 < 18446744073709551616 := by omega
theorem obF_field {x : Nat} : obF x ↔ x / 4503599627370496 % 2048 ≠ 2047 := by unfold obF; omega
set_option maxRecDepth 100000 in
set_option maxHeartbeats 800000 in
theorem spOfBits' (x : Nat) (w : World) (hx : x < 18446744073709551616) :
    Calls Tryz.prog 24 #[.int .u64 x] w fun e' w' => ∃ b, e' = .returned (.agg #[.bool (obN x), b, .int .i64 (obE x)]) ∧ NatV w' b (obM x) ∧ Below w.heap.size w w' := by
  have hac := (Below.refl w.heap.size w).alloc (Nat.le_refl _) (.cells #[.bool false, .slice none 0 0, .int .i64 0] 30)
  obtain ⟨X, hX⟩ : ∃ X, X = w.alloc (.cells #[.bool false, .slice none 0 0, .int .i64 0] 30) := ⟨_, rfl⟩
  have hr1 : X.heap[w.heap.size]? = some (.cells #[.bool false, .slice none 0 0, .int .i64 0] 30 (0, 0)) := by
    rw [hX]; exact box_row (Below.refl _ _)
  rw [← hX] at hac
  have HB := Lib.hid hac
  have HR1 := Lib.hid hr1
  have hXs := hac.size
  obtain ⟨q1, q2⟩ := ob_field hx
  have q3 := and_2047 q2
  obtain ⟨q, hq⟩ : ∃ q, q = x / 4503599627370496 := ⟨_, rfl⟩
  rw [← hq] at q1 q2 q3
  obtain ⟨g, hg⟩ : ∃ g, g = q % 2048 := ⟨_, rfl⟩
  rw [← hg] at q3
  have q4 := and_frac hx
  obtain ⟨f, hff⟩ : ∃ f, f = x % 4503599627370496 := ⟨_, rfl⟩
  rw [← hff] at q4
  have q5 : (x : Int) / 9223372036854775808 = ((x / 9223372036854775808 : Nat) : Int) := by omega
  have q6 : (((x / 9223372036854775808 : Nat) : Int) == 1) = obN x := by
    unfold obN
    by_cases h : 9223372036854775808 ≤ x
    · rw [decide_eq_true h, show x / 9223372036854775808 = 1 by omega]; rfl
    · rw [decide_eq_false h, show x / 9223372036854775808 = 0 by omega]; rfl
  obtain ⟨s, hs⟩ : ∃ s, s = x / 9223372036854775808 := ⟨_, rfl⟩
  rw [← hs] at q5 q6
  have hsb : s ≤ 1 := by omega
  obtain ⟨n, hn⟩ : ∃ n, n = obN x := ⟨_, rfl⟩
  rw [← hn] at q6 ⊢
  have hgl : g < 2048 := by omega
  have hfl : f < 4503599627370496 := by omega
  by_cases h0 : g = 0
  · have t : decide ((0 : Int) < (g : Int)) = false := decide_eq_false (by omega)
    have t' : decide (0 < g) = false := decide_eq_false (by omega)
    have hM : obM x = f := by unfold obM; rw [if_pos (by omega)]; omega
    have hE : obE x = (g : Int) - 1074 := by unfold obE; omega
    have e1 : (g : Int) - 1074 = ((-1074 : Int)) := by omega
    rw [hM, hE, e1]
    have HSM := Lib.hid (fun W => spSmall f W (by omega))
    clear hq hg hff hs hn hM hE hac hr1
    go_enter Tryz.func24, Tryz.ntmps24
    go_upto_region 1 with fail
    rw [← hX]
    clear hX
    go_wp2_with fail
    refine (HSM.out _).mono ?_
    rintro _ w3 ⟨d, rfl, hd, hb3⟩
    have hSd := hd.isS
    have hvr := keep_row hb3 HR1.out
    obtain ⟨v0, v1, v2, f0, f1, f2⟩ := row3 hvr
    have HD := Lib.hid hd
    have HV := Lib.hid hvr
    have HB3 := Lib.hid (HB.out.trans (hb3.mono hXs))
    clear hd hvr hb3
    go_wp2
    obtain ⟨hx0, hx1, hx2, -, -, -⟩ := row3 (row3_set (x := .bool n) (y := d) (z := .int .i64 (-1074)) HV.out)
    refine bodyPost_ret (v := .agg #[.bool n, d, .int .i64 (-1074)]) ?_ rfl ⟨d, rfl, natv_dyad (x := .bool n) (y := d) (z := .int .i64 (-1074)) IsS.nil HD.out HV.out, bset (bset (bset HB3.out (Nat.le_refl _)) (Nat.le_refl _)) (Nat.le_refl _)⟩
    simp [results, Tryz.results24, go_sem, hx0, hx1, hx2]
  · have t : decide ((0 : Int) < (g : Int)) = true := decide_eq_true (by omega)
    have t' : decide (0 < g) = true := decide_eq_true (by omega)
    have hM : obM x = f + 4503599627370496 := by unfold obM; rw [if_neg (by omega)]; omega
    have hE : obE x = (g : Int) - 1 - 1074 := by unfold obE; omega
    have e2 : (f : Int) + 4503599627370496 = ((f + 4503599627370496 : Nat) : Int) := by omega
    obtain ⟨M, hMM⟩ : ∃ M, M = f + 4503599627370496 := ⟨_, rfl⟩
    rw [← hMM] at hM e2
    obtain ⟨E, hEE⟩ : ∃ E : Int, E = (g : Int) - 1 - 1074 := ⟨_, rfl⟩
    have e3 : (g : Int) - 1 - 1074 = E := hEE.symm
    rw [e3] at hE
    rw [hM, hE]
    have HSM := Lib.hid (fun W => spSmall M W (by omega))
    have hEb : -1074 ≤ E ∧ E ≤ 2000 := by omega
    clear hq hg hff hs hn hM hE hMM hEE hac hr1
    go_enter Tryz.func24, Tryz.ntmps24
    go_upto_region 1 with fail
    rw [← hX]
    clear hX
    go_wp2_with fail
    refine (HSM.out _).mono ?_
    rintro _ w3 ⟨d, rfl, hd, hb3⟩
    have hSd := hd.isS
    have hvr := keep_row hb3 HR1.out
    obtain ⟨v0, v1, v2, f0, f1, f2⟩ := row3 hvr
    have HD := Lib.hid hd
    have HV := Lib.hid hvr
    have HB3 := Lib.hid (HB.out.trans (hb3.mono hXs))
    clear hd hvr hb3
    go_wp2
    obtain ⟨hx0, hx1, hx2, -, -, -⟩ := row3 (row3_set (x := .bool n) (y := d) (z := .int .i64 E) HV.out)
    refine bodyPost_ret (v := .agg #[.bool n, d, .int .i64 E]) ?_ rfl ⟨d, rfl, natv_dyad (x := .bool n) (y := d) (z := .int .i64 E) IsS.nil HD.out HV.out, bset (bset (bset HB3.out (Nat.le_refl _)) (Nat.le_refl _)) (Nat.le_refl _)⟩
    simp [results, Tryz.results24, go_sem, hx0, hx1, hx2]
theorem spOfBits (x : Nat) (w : World) (hx : x < 18446744073709551616) (_hf : obF x) :
    Calls Tryz.prog 24 #[.int .u64 x] w fun e' w' => ∃ b, e' = .returned (.agg #[.bool (obN x), b, .int .i64 (obE x)]) ∧ NatV w' b (obM x) ∧ Below w.heap.size w w' := spOfBits' x w hx
end Go.Proofs.YtbghmceglemppaaGreatDoor
