/-
Texts of this proof, joined: RnA WdB WdC CmA WdD InA WdE InB InC. No condition.
-/
import Derived.Test.YtgbmlaffilccnaaGreatDoorK01
import Derived.Test.YtgbmlaffilccnaaGreatDoorK02
import Derived.Laws.CopyOwn
import Derived.Outline
/-
Rounding of dyadic values, in plain numbers: equal values, odd parts, what is left, which way. No condition.
-/
namespace Go.Proofs.YtgbmlaffilccnaaGreatDoor
open Go.RowKit

/-- M times 2 to E is N times 2 to F. -/
def deq (M : Nat) (E : Int) (N : Nat) (F : Int) : Prop := ∃ i j : Nat, M * 2 ^ i = N * 2 ^ j ∧ E - i = F - j
theorem deq.refl (M : Nat) (E : Int) : deq M E M E := ⟨0, 0, rfl, rfl⟩
theorem deq.symm {M N : Nat} {E F : Int} (h : deq M E N F) : deq N F M E := by
  obtain ⟨i, j, h1, h2⟩ := h; exact ⟨j, i, h1.symm, h2.symm⟩
theorem deq.trans {M N K : Nat} {E F G : Int} (h : deq M E N F) (k : deq N F K G) : deq M E K G := by
  obtain ⟨i, j, h1, h2⟩ := h
  obtain ⟨a, b, k1, k2⟩ := k
  refine ⟨i + a, b + j, ?_, by omega⟩
  rw [Nat.pow_add, ← Nat.mul_assoc, h1, Nat.mul_assoc, Nat.mul_comm (2 ^ j), ← Nat.mul_assoc, k1, Nat.mul_assoc, ← Nat.pow_add]
theorem deq.shl (M : Nat) (E : Int) (t : Nat) : deq (M * 2 ^ t) E M (E + t) := ⟨0, t, by simp, by omega⟩
theorem deq.exp {M N : Nat} {E F : Int} (h : deq M E N F) (x : Int) : deq M (E + x) N (F + x) := by
  obtain ⟨i, j, h1, h2⟩ := h; exact ⟨i, j, h1, by omega⟩
theorem deq.pos {M N : Nat} {E F : Int} (h : deq M E N F) (hM : 0 < M) : 0 < N := by
  obtain ⟨i, j, h1, -⟩ := h
  have := Nat.mul_pos hM (Nat.two_pow_pos i)
  rw [h1] at this
  exact Nat.pos_of_mul_pos_right this
theorem bl_mul {x : Nat} (h : 0 < x) (n : Nat) : bl (x * 2 ^ n) = bl x + n := by
  have h1 := bl_ge h
  have h2 := lt_bl x
  have h3 := bl_pos h
  have e : bl x + n = (bl x - 1 + n) + 1 := by omega
  rw [e]
  refine bl_of ?_ ?_
  · rw [Nat.pow_add]; exact Nat.mul_le_mul_right _ h1
  · rw [show bl x - 1 + n + 1 = bl x + n by omega, Nat.pow_add]
    exact Nat.mul_lt_mul_of_pos_right h2 (Nat.two_pow_pos n)
theorem deq.bl {M N : Nat} {E F : Int} (h : deq M E N F) (hM : 0 < M) : (bl M : Int) + E = (bl N : Int) + F := by
  have hN := h.pos hM
  obtain ⟨i, j, h1, h2⟩ := h
  have := congrArg Go.Proofs.YtgbmlaffilccnaaGreatDoor.bl h1
  rw [bl_mul hM, bl_mul hN] at this
  omega
/-- Values with the same exponent. -/
theorem deq.same {M N : Nat} {E : Int} (h : deq M E N E) : M = N := by
  obtain ⟨i, j, h1, h2⟩ := h
  have : i = j := by omega
  subst this
  exact Nat.eq_of_mul_eq_mul_right (Nat.two_pow_pos i) h1

/-! ### Odd parts -/
def tzF : Nat → Nat → Nat
  | 0, _ => 0
  | f + 1, n => if n % 2 = 1 then 0 else tzF f (n / 2) + 1
/-- How often 2 divides a number above 0. -/
def tz (n : Nat) : Nat := tzF n n
/-- A number without its divisors 2. -/
def od (n : Nat) : Nat := n / 2 ^ tz n
theorem tzF_ok : ∀ f n : Nat, 0 < n → n ≤ f → ∃ o : Nat, n = o * 2 ^ tzF f n ∧ o % 2 = 1
  | 0, n, h, hf => by omega
  | f + 1, n, h, hf => by
    unfold tzF
    by_cases h1 : n % 2 = 1
    · rw [if_pos h1]; exact ⟨n, by simp, h1⟩
    · rw [if_neg h1]
      obtain ⟨o, h2, h3⟩ := tzF_ok f (n / 2) (by omega) (by omega)
      refine ⟨o, ?_, h3⟩
      rw [Nat.pow_succ, ← Nat.mul_assoc, ← h2]; omega
theorem od_tz {n : Nat} (h : 0 < n) : n = od n * 2 ^ tz n ∧ od n % 2 = 1 := by
  obtain ⟨o, h1, h2⟩ := tzF_ok n n h (Nat.le_refl _)
  have h3 : od n = o := by
    unfold od
    conv => lhs; lhs; rw [h1]
    exact Nat.mul_div_cancel _ (Nat.two_pow_pos _)
  rw [h3]; exact ⟨h1, h2⟩
theorem odd_two {o p s t : Nat} (ho : o % 2 = 1) (hp : p % 2 = 1) (h : o * 2 ^ s = p * 2 ^ t) : s = t ∧ o = p := by
  rcases Nat.lt_trichotomy s t with c | c | c
  · obtain ⟨k, rfl⟩ : ∃ k, t = s + (k + 1) := ⟨t - s - 1, by omega⟩
    rw [Nat.pow_add, Nat.mul_comm (2 ^ s), ← Nat.mul_assoc] at h
    have := Nat.eq_of_mul_eq_mul_right (Nat.two_pow_pos s) h
    rw [Nat.pow_succ, ← Nat.mul_assoc] at this
    omega
  · subst c
    exact ⟨rfl, Nat.eq_of_mul_eq_mul_right (Nat.two_pow_pos s) h⟩
  · obtain ⟨k, rfl⟩ : ∃ k, s = t + (k + 1) := ⟨s - t - 1, by omega⟩
    rw [Nat.pow_add, Nat.mul_comm (2 ^ t), ← Nat.mul_assoc] at h
    have := Nat.eq_of_mul_eq_mul_right (Nat.two_pow_pos t) h
    rw [Nat.pow_succ, ← Nat.mul_assoc] at this
    omega
theorem od_pos {n : Nat} (h : 0 < n) : 0 < od n := by have := (od_tz h).2; omega
theorem od_of {n o t : Nat} (h : n = o * 2 ^ t) (ho : o % 2 = 1) : od n = o ∧ tz n = t := by
  have hn : 0 < n := by rw [h]; exact Nat.mul_pos (by omega) (Nat.two_pow_pos t)
  have h2 := od_tz hn
  have h3 := odd_two h2.2 ho (h2.1.symm.trans h)
  exact ⟨h3.2, h3.1⟩
theorem od_deq {n : Nat} (h : 0 < n) (E : Int) : deq n E (od n) (E + tz n) := ⟨0, tz n, by rw [Nat.pow_zero, Nat.mul_one]; exact (od_tz h).1, by omega⟩
theorem deq.od {M N : Nat} {E F : Int} (h : deq M E N F) (hM : 0 < M) : od M = od N ∧ E + tz M = F + tz N := by
  have hN := h.pos hM
  have h1 := ((od_deq hM E).symm.trans h).trans (od_deq hN F)
  obtain ⟨i, j, a, b⟩ := h1
  have := odd_two (od_tz hM).2 (od_tz hN).2 a
  exact ⟨this.2, by omega⟩
theorem bl_od {n : Nat} (h : 0 < n) : bl n = bl (od n) + tz n := by
  conv => lhs; rw [(od_tz h).1]
  exact bl_mul (od_pos h) _
theorem tz_le {n : Nat} (h : 0 < n) : tz n < bl n := by have := bl_od h; have := bl_pos (od_pos h); omega
theorem tz_dvd {n k : Nat} (h : 0 < n) (hk : n % 2 ^ k = 0) : k ≤ tz n := by
  obtain ⟨q, hq⟩ : ∃ q, n = q * 2 ^ k := ⟨n / 2 ^ k, by have := Nat.div_add_mod n (2 ^ k); rw [hk] at this; rw [Nat.mul_comm]; omega⟩
  have hq0 : 0 < q := by rcases Nat.eq_zero_or_pos q with rfl | h1; simp at hq; omega; exact h1
  have h1 := (od_tz hq0).1
  rw [h1, Nat.mul_assoc, ← Nat.pow_add] at hq
  have := (od_of hq (od_tz hq0).2).2
  omega
theorem tz_low {n k : Nat} (h : 0 < n) (hk : k ≤ tz n) : n % 2 ^ k = 0 := by
  have h1 := (od_tz h).1
  rw [h1, show tz n = (tz n - k) + k by omega, Nat.pow_add, ← Nat.mul_assoc]
  exact Nat.mul_mod_left _ _

/-! ### Rounding -/
/-- What is left of the next unit: 0 nothing, 1 less than a half, 2 a half, 3 more; s tells that there is more behind. -/
def lef (R D s : Nat) : Nat := if R = 0 ∧ s = 0 then 0 else if 2 * R < D then 1 else if 2 * R = D ∧ s = 0 then 2 else 3
/-- Whether a magnitude is rounded up. -/
def awy (neg odd : Bool) (left mode : Nat) : Bool :=
  if mode = 0 then decide (left = 3) || (decide (left = 2) && odd) else if mode = 1 then decide (2 ≤ left) else if mode = 3 then decide (0 < left)
  else if mode = 4 then decide (0 < left) && neg else if mode = 5 then decide (0 < left) && !neg else false
/-- How many bits are cut off. -/
def rk (p M : Nat) : Nat := bl M - p
def rL (p s M : Nat) : Nat := lef (M % 2 ^ rk p M) (2 ^ rk p M) s
def rU (p m : Nat) (neg : Bool) (s M : Nat) : Bool := awy neg (decide (M / 2 ^ rk p M % 2 = 1)) (rL p s M) m
/-- The rounded magnitude, in units of 2 to rk. -/
def rQ (p m : Nat) (neg : Bool) (s M : Nat) : Nat := M / 2 ^ rk p M + if rU p m neg s M then 1 else 0
/-- The side of the exact value on which it is. -/
def rA (p m : Nat) (neg : Bool) (s M : Nat) : Int := if rL p s M = 0 then 0 else if rU p m neg s M != neg then 1 else -1
theorem awy_zero (neg odd : Bool) (mode : Nat) : awy neg odd 0 mode = false := by
  unfold awy; repeat' split
  all_goals simp
theorem lef_scale (R D s : Nat) {S : Nat} (h : 0 < S) : lef (R * S) (D * S) s = lef R D s := by
  unfold lef
  have e1 : R * S = 0 ↔ R = 0 := by rw [Nat.mul_eq_zero]; exact ⟨fun h' => h'.resolve_right (by omega), .inl⟩
  have e2 : 2 * (R * S) < D * S ↔ 2 * R < D := by rw [← Nat.mul_assoc]; exact ⟨fun h' => Nat.lt_of_mul_lt_mul_right h', fun h' => Nat.mul_lt_mul_of_pos_right h' h⟩
  have e3 : 2 * (R * S) = D * S ↔ 2 * R = D := by rw [← Nat.mul_assoc]; exact ⟨fun h' => Nat.eq_of_mul_eq_mul_right h h', fun h' => by rw [h']⟩
  simp only [e1, e2, e3]
theorem lef_exact (D : Nat) : lef 0 D 0 = 0 := by simp [lef]
theorem lef_zero {R D s : Nat} : lef R D s = 0 ↔ R = 0 ∧ s = 0 := by
  unfold lef
  split
  · simp_all
  · rename_i h; refine ⟨fun h' => ?_, fun h' => absurd h' h⟩
    split at h'
    · omega
    · split at h' <;> omega
/-- What fits is exact. -/
theorem rQ_fits {p m M : Nat} (neg : Bool) (h : bl M ≤ p) : rk p M = 0 ∧ rQ p m neg 0 M = M ∧ rA p m neg 0 M = 0 := by
  have h0 : rk p M = 0 := by unfold rk; omega
  have h1 : rL p 0 M = 0 := by unfold rL; rw [h0, Nat.pow_zero, Nat.mod_one]; exact lef_exact _
  refine ⟨h0, ?_, ?_⟩
  · unfold rQ rU; rw [h1, awy_zero, h0]; simp
  · unfold rA; rw [if_pos h1]
theorem rnd_shl {p m M : Nat} (neg : Bool) (hM : 0 < M) (t : Nat) (E : Int) :
    deq (rQ p m neg 0 (M * 2 ^ t)) (E + rk p (M * 2 ^ t)) (rQ p m neg 0 M) (E + t + rk p M) ∧ rA p m neg 0 (M * 2 ^ t) = rA p m neg 0 M := by
  have hb := bl_mul hM t
  rcases Nat.lt_or_ge p (bl M) with hp | hp
  · have k1 : rk p (M * 2 ^ t) = rk p M + t := by unfold rk; omega
    have hP := Nat.two_pow_pos t
    have d1 : M * 2 ^ t / 2 ^ rk p (M * 2 ^ t) = M / 2 ^ rk p M := by rw [k1, Nat.pow_add]; exact Nat.mul_div_mul_right _ _ hP
    have l1 : rL p 0 (M * 2 ^ t) = rL p 0 M := by
      unfold rL
      rw [k1, Nat.pow_add, Nat.mul_mod_mul_right, lef_scale _ _ _ hP]
    have u1 : rU p m neg 0 (M * 2 ^ t) = rU p m neg 0 M := by unfold rU; rw [d1, l1]
    have q1 : rQ p m neg 0 (M * 2 ^ t) = rQ p m neg 0 M := by unfold rQ; rw [d1, u1]
    refine ⟨?_, by unfold rA; rw [l1, u1]⟩
    rw [q1, k1]
    exact ⟨0, 0, rfl, by omega⟩
  · obtain ⟨k0, q0, a0⟩ := rQ_fits (m := m) neg hp
    rw [k0, q0, a0]
    obtain ⟨c, hc⟩ : ∃ c, rk p (M * 2 ^ t) = c := ⟨_, rfl⟩
    have hct : c ≤ t := by unfold rk at hc; omega
    have hm : M * 2 ^ t % 2 ^ c = 0 := by
      rw [show t = (t - c) + c by omega, Nat.pow_add, ← Nat.mul_assoc]; exact Nat.mul_mod_left _ _
    have l1 : rL p 0 (M * 2 ^ t) = 0 := by unfold rL; rw [hc, hm]; exact lef_exact _
    have q1 : rQ p m neg 0 (M * 2 ^ t) = M * 2 ^ (t - c) := by
      unfold rQ rU
      rw [l1, awy_zero, hc, show t = (t - c) + c by omega, Nat.pow_add, ← Nat.mul_assoc, Nat.mul_div_cancel _ (Nat.two_pow_pos c)]
      simp
    refine ⟨?_, by unfold rA; rw [if_pos l1]⟩
    rw [q1, hc]
    exact ⟨0, t - c, by simp, by omega⟩
/-- Equal values are rounded to equal values. -/
theorem rnd_deq {p m M N : Nat} {E F : Int} (neg : Bool) (hM : 0 < M) (h : deq M E N F) :
    deq (rQ p m neg 0 M) (E + rk p M) (rQ p m neg 0 N) (F + rk p N) ∧ rA p m neg 0 M = rA p m neg 0 N := by
  have hN := h.pos hM
  obtain ⟨i, j, h1, h2⟩ := h
  obtain ⟨a1, a2⟩ := rnd_shl (p := p) (m := m) neg hM i (E - i)
  obtain ⟨b1, b2⟩ := rnd_shl (p := p) (m := m) neg hN j (F - j)
  rw [h1] at a1 a2
  rw [h2] at a1
  have := a1.symm.trans b1
  exact ⟨by simpa [show F - (j : Int) + (i : Int) = E by omega] using this, a2.symm.trans b2⟩
/-- The rounded magnitude has as many bits as are asked for, or is the next power of 2. -/
theorem rQ_bound {p m M : Nat} (neg : Bool) (s : Nat) (hp0 : 0 < p) (hp : p < bl M) : 2 ^ (p - 1) ≤ M / 2 ^ rk p M ∧ M / 2 ^ rk p M < 2 ^ p ∧ rQ p m neg s M ≤ 2 ^ p := by
  have hM : 0 < M := by rcases Nat.eq_zero_or_pos M with rfl | h; rw [bl_zero] at hp; omega; exact h
  have h1 := bl_ge hM
  have h2 := lt_bl M
  have hk : rk p M + p = bl M := by unfold rk; omega
  have h3 : M / 2 ^ rk p M < 2 ^ p := by
    refine Nat.div_lt_of_lt_mul ?_
    rw [← Nat.pow_add, hk]; exact h2
  have h4 : 2 ^ (p - 1) ≤ M / 2 ^ rk p M := by
    rw [Nat.le_div_iff_mul_le (Nat.two_pow_pos _), ← Nat.pow_add]
    refine Nat.le_trans (Nat.pow_le_pow_right (by decide) ?_) h1
    omega
  refine ⟨h4, h3, ?_⟩
  unfold rQ; split <;> omega
end Go.Proofs.YtgbmlaffilccnaaGreatDoor

/-
Natural numbers of the reference and words: Of, Words, HasWords. No condition.
-/
namespace Go.Proofs.YtgbmlaffilccnaaGreatDoor
open Go.RowKit

theorem wv_take_succ {ws : List Nat} {i : Nat} (h : i < ws.length) : wv (ws.take (i + 1)) = wv (ws.take i) + 18446744073709551616 ^ i * ws.getD i 0 := by
  rw [List.take_succ_eq_append_getElem h, wv_snoc]
  simp [List.getD_eq_getElem?_getD, List.getElem?_eq_getElem h, Nat.min_eq_left (Nat.le_of_lt h)]
/-- Of's relation: i words and k digits of the next one, d. -/
def OfRel (ws : List Nat) (B i d k : Nat) (w : World) (v : Value) (wr : World) : Prop :=
  ∃ os : List Nat, Own wr B 3 v (cellsN os) ∧ os.length = 4 * i + k ∧ (∀ d ∈ os, d < 65536) ∧ val os = wv (ws.take i) + 65536 ^ (4 * i) * (d % 65536 ^ k) ∧ Below B w wr
theorem OfRel.step {ws : List Nat} {B i d k : Nat} {w w1 : World} {v1 : Value} {os : List Nat} (hl : os.length = 4 * i + k) (hd : ∀ d ∈ os, d < 65536) (hv : val os = wv (ws.take i) + 65536 ^ (4 * i) * (d % 65536 ^ k))
    (ho : Own w1 B 3 v1 (cellsN os ++ [.int .i64 ((dig d k : Nat) : Int)])) (hb : Below B w w1) : OfRel ws B i d (k + 1) w v1 w1 := by
  rw [cellsN_snoc] at ho
  refine ⟨_, ho, by simp [hl]; omega, ?_, ?_, hb⟩
  · intro z hz
    rcases List.mem_append.1 hz with h | h
    · exact hd z h
    · rw [List.mem_singleton.1 h]; exact dig_lt d k
  · rw [val_snoc, hl, hv, mod_succ, Nat.pow_add]; grind
theorem OfRel.next {ws : List Nat} {B i : Nat} {w wr : World} {v : Value} (hi : i < ws.length) (hd : ws.getD i 0 < 18446744073709551616) (h : OfRel ws B i (ws.getD i 0) 4 w v wr) : OfRel ws B (i + 1) 0 0 w v wr := by
  obtain ⟨os, h1, h2, h3, h4, h5⟩ := h
  refine ⟨os, h1, by omega, h3, ?_, h5⟩
  rw [h4, wv_take_succ hi, wpow, Nat.mod_eq_of_lt (show ws.getD i 0 < 65536 ^ 4 by exact hd)]; simp
theorem and16 {m : Nat} (hm : m < 18446744073709551616) : bits .and .u64 (m : Int) 65535 = ((m % 65536 : Nat) : Int) := by
  rw [show (65535 : Int) = ((65535 : Nat) : Int) from rfl, bits_and_u64_nat _ _ hm (by decide), show (65535 : Nat) = 2 ^ 16 - 1 from rfl, Nat.and_two_pow_sub_one_eq_mod]
set_option maxRecDepth 100000 in
set_option maxHeartbeats 800000 in
theorem spOf (a : Value) (ws : List Nat) (w : World) (ha : RW w a ws) (hl : ws.length ≤ 200000000) :
    Calls Tryz.prog 25 #[a] w fun e w' => ∃ r, e = .returned r ∧ NPost (wv ws) w r w' := by
  have hSa := ha.isS
  have hLa := ha.len
  obtain ⟨la, hla⟩ : ∃ la, la = ws.length := ⟨_, rfl⟩
  rw [← hla] at hLa hl
  have Hla := Lib.hid hla
  have Ha := Lib.hid ha
  clear hla ha
  go_enter Tryz.func25, Tryz.ntmps25
  go_wp2
  go_loopw [3, 10] (fun v i wr => ∃ k : Nat, k ≤ la ∧ i = .int .i64 k ∧ OfRel ws w.heap.size k 0 0 w v wr) (fun _ i _ => la - (intOf i).toNat)
  case atStart => exact ⟨0, Nat.zero_le _, rfl, [], Own.zero _ _ _ _ _, by simp, by simp, by simp [val, wv], (Below.refl _ _).alloc (Nat.le_refl _) _⟩
  case round =>
    obtain ⟨i, hi, rfl, hM⟩ := hrel
    have hbl : Below w.heap.size w wr := by obtain ⟨_, _, _, _, _, h⟩ := hM; exact h
    have hSo : IsS u3 := by obtain ⟨_, h, _, _, _, _⟩ := hM; exact h.isS
    have HM := Lib.hid hM
    clear hM
    by_cases hia : i < la
    · have ca := (Ha.out.below hbl).cell i (by rw [← Hla.out]; exact hia)
      have g1 := getD_ltW Ha.out.lt i
      obtain ⟨d, hd⟩ : ∃ d, d = ws.getD i 0 := ⟨_, rfl⟩
      rw [← hd] at ca g1
      have Hd := Lib.hid hd
      clear hd
      go_wp2
      go_loopw [3, 6] (fun v i' wr => ∃ k : Nat, k ≤ 4 ∧ i' = .int .i64 k ∧ OfRel ws w.heap.size i d k w v wr) (fun _ i' _ => 4 - (intOf i').toNat)
      case atStart =>
        obtain ⟨os, h1, h2, h3, h4, h5⟩ := HM.out
        exact ⟨0, by decide, rfl, os, h1, by omega, h3, by rw [h4]; simp [Nat.mod_one], h5⟩
      case round =>
        clear ca
        obtain ⟨k, hk, rfl, os, ho, hol, hod, hov, hb2⟩ := hrel
        have hbz := hb2.size
        have Hol := Lib.hid hol
        have Hod := Lib.hid hod
        have Hov := Lib.hid hov
        have Hcl := Lib.hid (cellsN_length os)
        have hSo2 := ho.isS
        clear hod hov hol
        by_cases hk4 : k < 4
        · have hp : (2 : Int) ^ (16 * k) = ((65536 ^ k : Nat) : Int) := by rw [pow16]; simp
          have hdm : d / 65536 ^ k ≤ d := Nat.div_le_self _ _
          have hq : (d : Int) / ((65536 ^ k : Nat) : Int) = ((d / 65536 ^ k : Nat) : Int) := by simp
          have han := and16 (m := d / 65536 ^ k) (by omega)
          have hdg : d / 65536 ^ k % 65536 = dig d k := rfl
          have hdl := dig_lt d k
          rw [hdg] at han
          have HT : ∀ (v1 : Value) (w1 : World), Own w1 w.heap.size 3 v1 (cellsN os ++ [.int .i64 ((dig d k : Nat) : Int)]) → Below w.heap.size w w1 → OfRel ws w.heap.size i d (k + 1) w v1 w1 := fun v1 w1 h1 h2 => OfRel.step Hol.out Hod.out Hov.out h1 h2
          have hTT := Lib.hid HT
          obtain ⟨g, hg⟩ : ∃ g, g = dig d k := ⟨_, rfl⟩
          rw [← hg] at han hdl hTT
          obtain ⟨P, hP⟩ : ∃ P, P = 65536 ^ k := ⟨_, rfl⟩
          rw [← hP] at hp hq hdm han
          obtain ⟨q, hq'⟩ : ∃ q, q = d / P := ⟨_, rfl⟩
          rw [← hq'] at hq hdm han
          clear hdg hg hP hq' HT
          have hos : os.length ≤ 1000000000 := by have := Hol.out; omega
          go_wp2_with (at_builtin; refine wpList_append_O rfl _ _ _ _ rfl elemN w.heap.size _ _ rfl (ho.alloc _) _ rfl 1 [.int .i64 (g : Int)] (srcOne Tryz.underlying34 wr _ _) ?c3 ?c4 ?c5 ?_)
          case c3 => rw [Hcl.out]; unfold maxLen; omega
          case c4 => rw [Hcl.out]; omega
          case c5 => simp; omega
          rintro v1 w1 ho1 hb1 - - -
          have hs := hTT.out v1 w1 ho1 ((hb2.alloc hbz _).trans hb1)
          have Hs := Lib.hid hs
          clear hs ho1
          go_wp2
          go_roundw
          case rel => exact ⟨k + 1, by omega, by go_num, Hs.out⟩
          case measure => simp [intOf]; omega
        · have hk' : k = 4 := by omega
          subst hk'
          have M2 : OfRel ws w.heap.size (i + 1) 0 0 w u3 wr := OfRel.next (by rw [← Hla.out]; exact hia) (getD_ltW Ha.out.lt i) (by rw [← Hd.out]; exact ⟨os, ho, Hol.out, Hod.out, Hov.out, hb2⟩)
          have HM2 := Lib.hid M2
          clear M2
          go_wp2
          go_roundw
          case rel => exact ⟨i + 1, by omega, by go_num, HM2.out⟩
          case measure => simp [intOf]; omega
    · have hil : i = la := by omega
      subst hil
      obtain ⟨os, h1, h2, h3, h4, h5⟩ := HM.out
      have Ho := Lib.hid h1
      have Hl := Lib.hid h2
      have Hd := Lib.hid h3
      have Hv := Lib.hid h4
      clear h1 h2 h3 h4 h5
      go_wp2_with fail
      refine (spTrim _ os wr Ho.out.rl Hd.out (by rw [Hl.out]; omega)).mono ?_
      rintro _ _ ⟨r, rfl, hr, rfl⟩
      have Hr := Lib.hid hr
      clear hr
      go_wp2
      go_ret
      refine ⟨_, rfl, ?_, hbl⟩
      have e : wv ws = val os := by
        rw [Hv.out, List.take_of_length_le (by rw [Hla.out]; exact Nat.le_refl _)]; simp
      rw [e]; exact Hr.out
end Go.Proofs.YtgbmlaffilccnaaGreatDoor

/-
Natural numbers of the reference and words: Words, HasWords. No condition.
-/
namespace Go.Proofs.YtgbmlaffilccnaaGreatDoor
open Go.RowKit

/-- Words' relation: i digits are laid. -/
def WdRel (x B i : Nat) (w : World) (v : Value) (wr : World) : Prop :=
  ∃ ws : List Nat, Own wr B 23 v (cellsW ws) ∧ ws.length = (i + 3) / 4 ∧ (∀ d ∈ ws, d < 18446744073709551616) ∧ wv ws = x % 65536 ^ i ∧ Below B w wr
theorem pow_split4 (i : Nat) : (65536 : Nat) ^ i = 18446744073709551616 ^ (i / 4) * 65536 ^ (i % 4) := by
  rw [wpow, ← Nat.pow_add, Nat.div_add_mod]
theorem or_low {o d P : Nat} {r : Nat} (hP : P = 65536 ^ r) (ho : o < P) : o ||| d * P = o + d * P := by
  have e : P = 2 ^ (16 * r) := by rw [hP, pow16]
  have h := Nat.two_pow_add_eq_or_of_lt (i := 16 * r) (b := o) (by rw [← e]; exact ho) d
  rw [← e] at h
  rw [Nat.or_comm, Nat.mul_comm d P, ← h]; omega
/-- The word in which the next digit lies. -/
theorem wd_word {x i : Nat} {ws : List Nat} (_hl : ws.length = i / 4 + 1) (hd : ∀ d ∈ ws, d < 18446744073709551616) (hv : wv ws = x % 65536 ^ i) : ws.getD (i / 4) 0 < 65536 ^ (i % 4) := by
  rw [← wv_dig hd, hv]
  have h1 := Nat.mod_lt x (pow_pos i)
  rw [pow_split4 i] at h1
  unfold wdg
  refine Nat.lt_of_le_of_lt (Nat.mod_le _ _) (Nat.div_lt_of_lt_mul ?_)
  rw [pow_split4 i]
  exact h1
theorem WdRel.step {x B i : Nat} {w wr : World} {v : Value} {ws : List Nat} (ho : Own wr B 23 v (cellsW ws)) (hl : ws.length = i / 4 + 1) (hd : ∀ d ∈ ws, d < 18446744073709551616) (hv : wv ws = x % 65536 ^ i) (hb : Below B w wr) :
    WdRel x B (i + 1) w v (wr.setCell ⟨sBlk v, sOff v + i / 4, none⟩ (.int .u64 ((ws.getD (i / 4) 0 ||| dig x i * 65536 ^ (i % 4) : Nat) : Int))) := by
  have hw := wd_word hl hd hv
  have hdl := dig_lt x i
  rw [or_low rfl hw]
  have hp : 65536 ^ (i % 4) * 65536 ≤ 18446744073709551616 := by
    rw [← Nat.pow_succ]
    exact Nat.pow_le_pow_right (show 0 < 65536 by decide) (show i % 4 + 1 ≤ 4 by omega)
  have hlt : ws.getD (i / 4) 0 + dig x i * 65536 ^ (i % 4) < 18446744073709551616 := by
    have : (dig x i + 1) * 65536 ^ (i % 4) ≤ 65536 * 65536 ^ (i % 4) := Nat.mul_le_mul_right _ hdl
    rw [Nat.add_mul, Nat.one_mul] at this
    omega
  have s1 := ho.set (i := i / 4) (by rw [cellsW_length]; omega) (.int .u64 ((ws.getD (i / 4) 0 + dig x i * 65536 ^ (i % 4) : Nat) : Int))
  rw [cellsW_set] at s1
  have hl2 := ho.len
  rw [cellsW_length] at hl2
  have hcp := ho.isS.le
  refine ⟨_, s1, by simp; omega, ?_, ?_, bset hb (ho.lt (by omega)).1⟩
  · intro z hz'
    rcases List.mem_or_eq_of_mem_set hz' with h | h
    · exact hd z h
    · rw [h]; exact hlt
  · have e1 := wv_set (a := ws) (i := i / 4) (by omega) (ws.getD (i / 4) 0 + dig x i * 65536 ^ (i % 4))
    rw [mod_succ, ← hv, pow_split4 i]
    generalize wv (ws.set _ _) = V at *
    generalize ws.getD (i / 4) 0 = o at *
    generalize dig x i = d at *
    generalize (18446744073709551616 : Nat) ^ (i / 4) = A at *
    generalize (65536 : Nat) ^ (i % 4) = P at *
    grind
def WPost (ws : List Nat) (w : World) (v : Value) (w' : World) : Prop := RW w' v ws ∧ Below w.heap.size w w'
set_option maxRecDepth 100000 in
set_option maxHeartbeats 800000 in
theorem spWords (a : Value) (x : Nat) (w : World) (ha : NatV w a x) (hx : nl x ≤ 1000000000) :
    Calls Tryz.prog 59 #[a] w fun e w' => ∃ r, e = .returned r ∧ WPost (wds x) w r w' := by
  have hSa := ha.isS
  have hLa := ha.len
  obtain ⟨la, hla⟩ : ∃ la, la = nl x := ⟨_, rfl⟩
  rw [← hla] at hLa hx
  have Hla := Lib.hid hla
  have Ha := Lib.hid ha
  clear hla ha
  go_enter Tryz.func59, Tryz.ntmps59
  go_wp2
  go_loopw [3, 9] (fun v i wr => ∃ k : Nat, k ≤ la ∧ i = .int .i64 k ∧ WdRel x w.heap.size k w v wr) (fun _ i _ => la - (intOf i).toNat)
  case atStart => exact ⟨0, Nat.zero_le _, rfl, [], Own.zero _ _ _ _ _, by simp, by simp, by simp [wv, Nat.mod_one], (Below.refl _ _).alloc (Nat.le_refl _) _⟩
  case round =>
    obtain ⟨i, hi, rfl, ws, ho, hol, hod, hov, hbl⟩ := hrel
    have hbz := hbl.size
    have hSo := ho.isS
    by_cases hia : i < la
    · have ca := (Ha.out.below hbl).cell i (by rw [← Hla.out]; exact hia)
      have g1 := dig_lt x i
      have hdX : ∃ d, d = dig x i := ⟨_, rfl⟩
      obtain ⟨d, hd⟩ := hdX
      rw [← hd] at ca g1
      have Hd := Lib.hid hd
      clear hd
      obtain ⟨q, hq⟩ : ∃ q, q = i / 4 := ⟨_, rfl⟩
      obtain ⟨r, hr⟩ : ∃ r, r = i % 4 := ⟨_, rfl⟩
      have e1 : (i : Int) / 4 = (q : Int) := by omega
      have e2 : (i : Int) % 4 = (r : Int) := by omega
      have hqi : q ≤ i := by omega
      have hr4 : r < 4 := by omega
      have Hq := Lib.hid hq
      have Hr := Lib.hid hr
      have Hol := Lib.hid hol
      have Hod := Lib.hid hod
      have Hov := Lib.hid hov
      have Hcl := Lib.hid (cellsW_length ws)
      have hwl : ws.length ≤ 1000000000 := by omega
      by_cases h0 : r = 0
      · have t1 : ((r : Int) == 0) = true := by rw [beq_iff_eq]; omega
        have hlq : ws.length = q := by omega
        have Hlq := Lib.hid hlq
        clear h0 hq hr hol hod hov hlq
        go_wp2_with (at_builtin; refine wpList_append_O rfl _ _ _ _ rfl elemU w.heap.size _ _ rfl (ho.alloc _) _ rfl 1 [.int .u64 (0 : Int)] (srcOne Tryz.underlying24 wr _ _) ?c3 ?c4 ?c5 ?_)
        case c3 => rw [Hcl.out]; unfold maxLen; omega
        case c4 => rw [Hcl.out]; omega
        case c5 => simp; omega
        rintro v1 w1 ho1 hb1 - - -
        rw [show cellsW ws ++ [Value.int .u64 (0 : Int)] = cellsW (ws ++ [0]) by simp [cellsW]] at ho1
        have HO := Lib.hid ho1
        have HL : Hid ((ws ++ [0]).length = q + 1) := Lib.hid (by have := Hlq.out; simp; omega)
        have HDD : Hid (∀ d ∈ ws ++ [0], d < 18446744073709551616) := Lib.hid (by
          intro z hz
          rcases List.mem_append.1 hz with h | h
          · exact Hod.out z h
          · rw [List.mem_singleton.1 h]; decide)
        have HV : Hid (wv (ws ++ [0]) = x % 65536 ^ i) := Lib.hid (by rw [wv_snoc, Hov.out]; omega)
        have HB : Hid (Below w.heap.size w w1) := Lib.hid ((hbl.alloc hbz _).trans hb1)
        have cap1 : 0 < sCap v1 := by have := HO.out.isS.le; rw [HO.out.len, cellsW_length] at this; have := HL.out; omega
        have fz := HO.out.frozen cap1 (sOff v1 + q)
        have co := (HO.out.rw' HDD.out).cell q (by rw [HL.out]; omega)
        have hwd := wd_word (by rw [← Hq.out]; exact HL.out) HDD.out HV.out
        have hSv := HO.out.isS
        have hLv : sLen v1 = q + 1 := by rw [HO.out.len, cellsW_length]; exact HL.out
        rw [← Hq.out, ← Hr.out] at hwd
        obtain ⟨o, ho'⟩ : ∃ o, o = (ws ++ [0]).getD q 0 := ⟨_, rfl⟩
        rw [← ho'] at co hwd
        have hp : (2 : Int) ^ (16 * r) = ((65536 ^ r : Nat) : Int) := by rw [pow16]; simp
        have hPb : 65536 ^ r ≤ 281474976710656 := Nat.pow_le_pow_right (show 0 < 65536 by decide) (show r ≤ 3 by omega)
        obtain ⟨P, hP⟩ : ∃ P, P = 65536 ^ r := ⟨_, rfl⟩
        rw [← hP] at hp hPb hwd
        have hmb : d * P ≤ 65535 * 281474976710656 := Nat.mul_le_mul (by omega) hPb
        obtain ⟨m, hm⟩ : ∃ m, m = d * P := ⟨_, rfl⟩
        rw [← hm] at hmb
        have hdm : (d : Int) * (P : Int) = (m : Int) := by rw [hm]; simp
        have hor := bits_or_u64_nat o m (by omega) (by omega)
        obtain ⟨z, hz⟩ : ∃ z, z = o ||| m := ⟨_, rfl⟩
        rw [← hz] at hor
        have st : ∀ n, WdRel x w.heap.size (i + 1) w v1 ((w1.drewN n).setCell ⟨sBlk v1, sOff v1 + q, none⟩ (.int .u64 (z : Int))) := fun n => by
          have := WdRel.step (HO.out.drewN n) (by rw [← Hq.out]; exact HL.out) HDD.out HV.out (undrewN' HB.out)
          rw [← Hq.out, ← Hr.out, ← Hd.out] at this
          rw [hz, hm, hP, ho']
          exact this
        have St := Lib.hid st
        clear st ho' hP hm hz
        go_wp2
        (refine wp_region_hoist 13 (by kernel_rfl) (by kernel_rfl) ⟨fun _ _ _ h => (by first | exact (hQp _ _ _ h).elim | cases h.2.1 | (obtain ⟨_, h3, _⟩ := h.2; cases h3)), fun _ _ h => (by first | exact (hQo _ _ h).elim | cases h.1 | (obtain ⟨_, h3, _⟩ := h; cases h3))⟩ ?_; simp only [List.take_succ_cons, List.take_zero, List.drop_succ_cons, List.drop_zero]; (repeat (go_big_quiet_step (fail))); refine wpQuiet_nil ?_; rintro _ ⟨nq, rfl⟩)
        go_wp2
        exact ⟨⟨i + 1, by omega, by go_num, St.out nq⟩, by simp [intOf]; omega⟩
      · have t1 : ((r : Int) == 0) = false := by rw [beq_eq_false_iff_ne]; omega
        have HO := Lib.hid ho
        have HL : Hid (ws.length = q + 1) := Lib.hid (by omega)
        have HDD : Hid (∀ d ∈ ws, d < 18446744073709551616) := Lib.hid hod
        have HV : Hid (wv ws = x % 65536 ^ i) := Lib.hid hov
        have HB : Hid (Below w.heap.size w wr) := Lib.hid hbl
        clear ho hol hod hov hq hr
        have cap1 : 0 < sCap u3 := by have := HO.out.isS.le; rw [HO.out.len, cellsW_length] at this; have := HL.out; omega
        have fz := HO.out.frozen cap1 (sOff u3 + q)
        have co := (HO.out.rw' HDD.out).cell q (by rw [HL.out]; omega)
        have hwd := wd_word (by rw [← Hq.out]; exact HL.out) HDD.out HV.out
        have hSv := HO.out.isS
        have hLv : sLen u3 = q + 1 := by rw [HO.out.len, cellsW_length]; exact HL.out
        rw [← Hq.out, ← Hr.out] at hwd
        obtain ⟨o, ho'⟩ : ∃ o, o = ws.getD q 0 := ⟨_, rfl⟩
        rw [← ho'] at co hwd
        have hp : (2 : Int) ^ (16 * r) = ((65536 ^ r : Nat) : Int) := by rw [pow16]; simp
        have hPb : 65536 ^ r ≤ 281474976710656 := Nat.pow_le_pow_right (show 0 < 65536 by decide) (show r ≤ 3 by omega)
        obtain ⟨P, hP⟩ : ∃ P, P = 65536 ^ r := ⟨_, rfl⟩
        rw [← hP] at hp hPb hwd
        have hmb : d * P ≤ 65535 * 281474976710656 := Nat.mul_le_mul (by omega) hPb
        obtain ⟨m, hm⟩ : ∃ m, m = d * P := ⟨_, rfl⟩
        rw [← hm] at hmb
        have hdm : (d : Int) * (P : Int) = (m : Int) := by rw [hm]; simp
        have hor := bits_or_u64_nat o m (by omega) (by omega)
        obtain ⟨z, hz⟩ : ∃ z, z = o ||| m := ⟨_, rfl⟩
        rw [← hz] at hor
        have st : ∀ n, WdRel x w.heap.size (i + 1) w u3 ((wr.drewN n).setCell ⟨sBlk u3, sOff u3 + q, none⟩ (.int .u64 (z : Int))) := fun n => by
          have := WdRel.step (HO.out.drewN n) (by rw [← Hq.out]; exact HL.out) HDD.out HV.out (undrewN' HB.out)
          rw [← Hq.out, ← Hr.out, ← Hd.out] at this
          rw [hz, hm, hP, ho']
          exact this
        have St := Lib.hid st
        clear st ho' hP hm hz
        go_wp2
        (refine wp_region_hoist 13 (by kernel_rfl) (by kernel_rfl) ⟨fun _ _ _ h => (by first | exact (hQp _ _ _ h).elim | cases h.2.1 | (obtain ⟨_, h3, _⟩ := h.2; cases h3)), fun _ _ h => (by first | exact (hQo _ _ h).elim | cases h.1 | (obtain ⟨_, h3, _⟩ := h; cases h3))⟩ ?_; simp only [List.take_succ_cons, List.take_zero, List.drop_succ_cons, List.drop_zero]; (repeat (go_big_quiet_step (fail))); refine wpQuiet_nil ?_; rintro _ ⟨nq, rfl⟩)
        go_wp2
        exact ⟨⟨i + 1, by omega, by go_num, St.out nq⟩, by simp [intOf]; omega⟩
    · have hil : i = la := by omega
      have Hol := Lib.hid hol
      have Hod := Lib.hid hod
      have Hov := Lib.hid hov
      subst hil
      clear hol hod hov
      go_wp2
      go_ret
      refine ⟨_, rfl, ?_, hbl⟩
      have e1 := Hov.out
      rw [mod_nl (by rw [← Hla.out]; exact Nat.le_refl _)] at e1
      have e2 : ws = wds x := by
        rw [← e1]
        refine wds_of Hod.out ?_
        rw [e1, Hol.out, Hla.out]; rfl
      rw [← e2]
      exact ho.rw' Hod.out
end Go.Proofs.YtgbmlaffilccnaaGreatDoor

/-
A word on a world that has grown. No condition.
-/
namespace Go.Proofs.YtgbmlaffilccnaaGreatDoor
open Go.RowKit

theorem heap_alloc_lt {w : World} {o x : Obj} {k : Nat} (h : w.heap[k]? = some x) : (w.alloc o).heap[k]? = some x ∧ k < w.heap.size := by
  have hlt : k < w.heap.size := by
    rcases Nat.lt_or_ge k w.heap.size with h' | h'
    · exact h'
    · rw [Array.getElem?_eq_none h'] at h; cases h
  exact ⟨(Below.heap_alloc w o k hlt).trans h, hlt⟩
end Go.Proofs.YtgbmlaffilccnaaGreatDoor

/-
Words: HasWords; the sizes of the statements' structs. No condition.
-/

namespace Go.Proofs.YtgbmlaffilccnaaGreatDoor
open Go.RowKit

theorem ret_boolE {a b : Bool} (h : a = b) : Ending.returned (.bool a) = Ending.returned (.bool b) := by rw [h]
set_option maxRecDepth 100000 in
set_option maxHeartbeats 800000 in
theorem spHasWords (v a : Value) (ws : List Nat) (x : Nat) (w : World) (hv : RW w v ws) (ha : NatV w a x) (_hl : ws.length ≤ 1000000000) (hx : nl x ≤ 1000000000) :
    Calls Tryz.prog 24 #[v, a] w fun e w' => e = .returned (.bool (decide (ws = wds x))) ∧ Below w.heap.size w w' := by
  have hSv := hv.isS
  have hLv := hv.len
  have hSa := ha.isS
  obtain ⟨lv, hlv⟩ : ∃ lv, lv = ws.length := ⟨_, rfl⟩
  rw [← hlv] at hLv _hl
  have Hlv := Lib.hid hlv
  have Hv := Lib.hid hv
  have Ha := Lib.hid ha
  clear hv ha hlv
  go_enter Tryz.func24, Tryz.ntmps24
  go_wp2_with fail
  refine (spWords a x w Ha.out hx).mono ?_
  rintro _ w1 ⟨r, rfl, hr, hb1⟩
  have hSr := hr.isS
  have hLr := hr.len
  rw [wds_length] at hLr
  have hnb : nw x ≤ nl x := by unfold nw; omega
  obtain ⟨lr, hlr⟩ : ∃ lr, lr = nw x := ⟨_, rfl⟩
  rw [← hlr] at hLr hnb
  have Hlr := Lib.hid hlr
  have Hr := Lib.hid hr
  clear hr hlr
  by_cases hne : lv = lr
  · have t1 : ((lv : Int) == lr) = true := by rw [beq_iff_eq]; omega
    have t1' : ((lv : Int) != lr) = false := by simp; omega
    have hlv2 : lv ≤ lr := by omega
    have Hne := Lib.hid hne
    clear hne
    go_wp2
    go_loopw [16] (fun i wr => ∃ k : Nat, k ≤ lr ∧ i = .int .i64 k ∧ (∀ j, j < k → ws.getD j 0 = wdg x j) ∧ Below w.heap.size w wr ∧ Below w1.heap.size w1 wr) (fun i _ => lr - (intOf i).toNat)
    case atStart => exact ⟨0, Nat.zero_le _, rfl, fun j hj => by omega, hb1, Below.refl _ _⟩
    case round =>
      obtain ⟨k, hk, rfl, he, hbl, hbl1⟩ := hrel
      have He := Lib.hid he
      clear he
      by_cases hkr : k < lr
      · have hkv : k < lv := by have := Hne.out; omega
        have cv := (Hv.out.below hbl).cell k (by rw [← Hlv.out]; exact hkv)
        have cr := (Hr.out.below hbl1).cell k (by rw [wds_length, ← Hlr.out]; exact hkr)
        rw [wds_getD] at cr
        obtain ⟨p, hp⟩ : ∃ p, p = ws.getD k 0 := ⟨_, rfl⟩
        obtain ⟨q, hq⟩ : ∃ q, q = wdg x k := ⟨_, rfl⟩
        rw [← hp] at cv
        rw [← hq] at cr
        have Hp := Lib.hid hp
        have Hq := Lib.hid hq
        clear hp hq
        by_cases hpq : p = q
        · have t2 : ((p : Int) == q) = true := by rw [beq_iff_eq]; omega
          have Hpq := Lib.hid hpq
          clear hpq
          go_wp2
          go_quiet (fail)
          go_wp2
          refine ⟨⟨k + 1, by omega, by go_num, ?_, undrewN' hbl, undrewN' hbl1⟩, by simp [intOf]; omega⟩
          intro j hj
          rcases (by omega : j < k ∨ j = k) with h | h
          · exact He.out j h
          · rw [h, ← Hp.out, ← Hq.out]; exact Hpq.out
        · have t2 : ((p : Int) == q) = false := by rw [beq_eq_false_iff_ne]; omega
          go_wp2
          go_quiet (fail)
          go_wp2
          go_ret
          refine ⟨ret_boolE ?_, undrewN' hbl⟩
          symm
          rw [decide_eq_false_iff_not]
          intro h
          apply hpq
          rw [Hp.out, Hq.out, h, wds_getD]
      · have hkl : k = lr := by omega
        have Hkl := Lib.hid hkl
        clear hkl
        go_wp2
        go_ret
        refine ⟨ret_boolE ?_, hbl⟩
        symm
        rw [decide_eq_true_iff]
        refine list_ext_getD (by rw [wds_length, ← Hlv.out, ← Hlr.out]; exact Hne.out) fun i => ?_
        rw [wds_getD]
        by_cases hi : i < lr
        · exact He.out i (by rw [Hkl.out]; exact hi)
        · rw [wdg_ge (by rw [← Hlr.out]; omega), List.getD_eq_getElem?_getD, List.getElem?_eq_none (by rw [← Hlv.out]; have := Hne.out; omega)]; rfl
  · have t1 : ((lv : Int) == lr) = false := by rw [beq_eq_false_iff_ne]; omega
    go_wp2
    go_ret
    refine ⟨ret_boolE ?_, hb1⟩
    symm
    rw [decide_eq_false_iff_not]
    intro h
    apply hne
    rw [Hlv.out, Hlr.out, h, wds_length]

/-- A cell of a box, behind whatever leaves the old memory as it was. -/
theorem box_cell {w w1 : World} {cs : Array Value} {T : TypeId} (hb : Below (w.alloc (.cells cs T)).heap.size (w.alloc (.cells cs T)) w1) {i : Nat} {v : Value} (h : cs[i]? = some v) : w1.cell? ⟨w.heap.size, i, none⟩ = some v := by
  have h1 : (w.alloc (.cells cs T)).heap[w.heap.size]? = some (.cells cs T) := heap_alloc_new w _
  have h2 := (heap_alloc_lt (o := .cells #[] 0) h1).2
  refine (hb.cell (p := ⟨w.heap.size, i, none⟩) h2).trans ?_
  rw [cell_of_row _ _ i _ _ _ h1]
  exact h
end Go.Proofs.YtgbmlaffilccnaaGreatDoor

/-
The package's numbers: norm, make. No condition.
-/
namespace Go.Proofs.YtgbmlaffilccnaaGreatDoor
open Go.RowKit

theorem take_norm {ws : List Nat} (h : ∀ d ∈ ws, d < 18446744073709551616) {k : Nat} (hk : k ≤ ws.length) (hv : wv (ws.take k) = wv ws) (hl : k = 0 ∨ ws.getD (k - 1) 0 ≠ 0) : k = nw (wv ws) ∧ ws.take k = wds (wv ws) := by
  have h1 : ws.take k = wds (wv (ws.take k)) := by
    refine wds_norm (fun d hd => h d (List.mem_of_mem_take hd)) ?_
    rcases Nat.eq_zero_or_pos k with h0 | h0
    · exact .inl (by rw [h0]; rfl)
    · right
      have hl' := hl.resolve_left (by omega)
      have : (ws.take k).length = k := by simp; omega
      rw [this]
      simpa [List.getD_eq_getElem?_getD, show k - 1 < k by omega] using hl'
  rw [hv] at h1
  refine ⟨?_, h1⟩
  have := congrArg List.length h1
  rw [wds_length] at this
  simp at this
  omega
set_option maxRecDepth 100000 in
set_option maxHeartbeats 400000 in
theorem norm_any (v : Value) (ws : List Nat) (w : World) (hv : RW w v ws) (hl : ws.length ≤ 1000000000) :
    Calls Tryz.prog 77 #[v] w fun e w' => e = .returned (subS v 0 (nw (wv ws))) ∧ w = w' := by
  have hS := hv.isS
  have hL := hv.len
  have hC := hS.le
  have Hv := Lib.hid hv
  clear hv
  obtain ⟨n, hn⟩ : ∃ n, n = ws.length := ⟨_, rfl⟩
  rw [← hn] at hL hl
  have Hn := Lib.hid hn
  have hC' : n ≤ sCap v := by omega
  clear hn hC
  go_enter Tryz.func77, Tryz.ntmps77
  go_wp2
  go_loop [3] (fun i => ∃ k : Nat, k ≤ n ∧ i = .int .i64 k ∧ wv (ws.take k) = wv ws) (fun i => (intOf i).toNat)
  case atStart => exact ⟨n, Nat.le_refl _, rfl, by rw [List.take_of_length_le (by rw [Hn.out]; exact Nat.le_refl _)]⟩
  case round =>
    obtain ⟨k, hk, rfl, he⟩ := hrel
    have He := Lib.hid he
    clear he
    by_cases hk0 : k = 0
    · subst hk0
      go_wp2
      go_ret
      have := take_norm Hv.out.lt (k := 0) (Nat.zero_le _) He.out (.inl rfl)
      rw [← this.1]
      exact ⟨rfl, rfl⟩
    · have c := Hv.out.cell (k - 1) (by rw [← Hn.out]; omega)
      obtain ⟨d, hd⟩ : ∃ d, d = ws.getD (k - 1) 0 := ⟨_, rfl⟩
      rw [← hd] at c
      have Hd := Lib.hid hd
      have t1 : decide (0 < k) = true := by rw [decide_eq_true_iff]; omega
      clear hd
      by_cases hz : d = 0
      · have t2 : ((d : Int) == 0) = true := by rw [beq_iff_eq]; omega
        have Hz := Lib.hid hz
        clear hz
        go_wp2
        go_round
        case rel =>
          refine ⟨k - 1, by omega, by go_num, ?_⟩
          rw [← He.out]
          have := wv_take_succ (ws := ws) (i := k - 1) (by rw [← Hn.out]; omega)
          rw [show k - 1 + 1 = k by omega, ← Hd.out, Hz.out] at this
          omega
        case measure => simp [intOf]; omega
      · have t2 : ((d : Int) == 0) = false := by rw [beq_eq_false_iff_ne]; omega
        go_wp2
        go_ret
        have := take_norm Hv.out.lt (k := k) (by rw [← Hn.out]; exact hk) He.out (.inr (by rw [← Hd.out]; exact hz))
        rw [← this.1]
        exact ⟨rfl, rfl⟩
end Go.Proofs.YtgbmlaffilccnaaGreatDoor

/-
Fractions of the statements: IsNumber, IsFraction. No condition.
-/
namespace Go.Proofs.YtgbmlaffilccnaaGreatDoor
open Go.RowKit

theorem IsS.form {v : Value} (h : IsS v) : ∃ a n c, v = .slice a n c := by
  cases v <;> first | exact ⟨_, _, _, rfl⟩ | exact h.elim
@[go_sem] theorem match_S {v : Value} (h : IsS v) : Value.cells.match_1 (motive := fun _ => Array Value) v (fun cs => cs) (fun v => #[v]) = #[v] := by
  obtain ⟨a1, n1, c1, rfl⟩ := h.form
  rfl
theorem nl_wv {ws : List Nat} (h : ∀ d ∈ ws, d < 18446744073709551616) : nl (wv ws) ≤ 4 * ws.length := nl_le (by rw [← wpow]; exact wv_lt h)
def isNum (b : Bool) (ws : List Nat) (neg : Bool) (n : Nat) : Bool := (b == (neg && decide (0 < n))) && decide (ws = wds n)
theorem len_pos_iff (n : Nat) : decide (0 < nl n) = decide (0 < n) := by
  rcases Nat.eq_zero_or_pos n with h | h
  · subst h; rfl
  · rw [decide_eq_true h, decide_eq_true (nl_pos h)]
def isFrac (b : Bool) (ns ds : List Nat) (neg : Bool) (n d : Nat) : Bool := isNum b ns neg n && decide (ds = wds d)
end Go.Proofs.YtgbmlaffilccnaaGreatDoor

/-
copy onto an owned slice. No condition.
-/
namespace Go.Proofs.YtgbmlaffilccnaaGreatDoor
open Go.RowKit

theorem add_none (b o j : Nat) : (⟨b, o, none⟩ : Addr).add j = ⟨b, o + j, none⟩ := by
  unfold Addr.add
  split
  · rename_i h; simp_all
  · rfl
theorem wpList_copy_O {P : Program} {w : World} {ops : Array Oper} {rest : List Oper} {o : Oper} {a : Act} {Q : Exit → Act → World → Prop} (hgd : o.guard = none) (d s : Operand) (dT sT : TypeId)
    (ho : o.op = .call { callee := .builtin .copy, args := #[d, s], argTypes := #[dT, sT] }) (elem : TypeId) (hu : P.underlying dT = some (.slice elem)) (hsz : (P.info? elem).map (·.size) = some 1)
    (v vx : Value) (hd : a.eval d = v) (hs : a.eval s = vx) (B : Nat) (xs : List Value) (hown : Own w B elem v xs) (cs : List Value) (hlen : cs.length = xs.length) (hsx : IsS vx) (hlx : sLen vx = cs.length)
    (hsrc : ∀ j u, cs[j]? = some u → w.cell? ⟨sBlk vx, sOff vx + j, none⟩ = some u) (h1 : ∀ v ∈ cs, v.oneCell' = true)
    (h : ∀ w', Own w' B elem v cs → Below B w w' → Only (sBlk v) w w' → wpList P ops Q rest (a.put o.dst (goInt cs.length)) w') : wpList P ops Q (o :: rest) a w := by
  have hL := hown.len
  have hC := hown.isS.le
  have hCx := hsx.le
  by_cases h0 : cs.length = 0
  · obtain rfl : cs = [] := List.eq_nil_of_length_eq_zero h0
    obtain rfl : xs = [] := List.eq_nil_of_length_eq_zero (by simpa using hlen.symm)
    obtain ⟨p, n, c, rfl⟩ := hown.isS.form
    obtain ⟨p', n', c', rfl⟩ := hsx.form
    have hn : n = 0 := by simpa [sLen] using hL
    subst hn
    exact wpList_copy_nothing hgd d s dT sT ho elem hu hsz p p' 0 c n' c' hd hs (by simp) (h w hown (Below.refl _ _) (Only.refl _ _))
  · rcases hown.row with hr | ⟨hb, cur, hg, hcs, ht⟩
    · omega
    · have hv := hown.isS.out (by omega)
      have hvx := hsx.out (by omega)
      refine wpList_copy_own hgd d s dT sT ho elem hu hsz (sBlk v) (sOff v) (sLen v) (sCap v) ⟨sBlk vx, sOff vx, none⟩ (sLen vx) (sCap vx) (hd.trans hv) (hs.trans hvx) cur elem hg cs (by rw [hlx, hL, hlen]; simp) (fun j u hj => by rw [add_none]; exact hsrc j u hj) (by omega) h1 ?_
      refine h _ ⟨hown.isS, by omega, hown.cap, .inr ⟨hb, _, setRow_heap w _ _ _ _ _ hg, ?_, ?_⟩⟩ (below_setRow (Below.refl _ _) hb _) (fun k hk hne => setRow_other w _ k _ hne)
      · simp; omega
      · have e1 : cur.toList.take (sOff v) ++ (cs ++ cur.toList.drop (sOff v + cs.length)) = laid cur.toList (sOff v) cs := by simp [laid]
        rw [e1]
        have hlt : (cur.toList.take (sOff v)).length = sOff v := by simp; omega
        rw [laid, List.append_assoc, List.drop_left' hlt, List.take_left' rfl]
/-- A slice within its capacity is owned, with some contents. -/
theorem Own.grow {w : World} {B : Nat} {e : TypeId} {v : Value} {xs : List Value} (h : Own w B e v xs) {n : Nat} (hn : n ≤ sCap v) : ∃ ys, ys.length = n ∧ Own w B e (subS v 0 n) ys := by
  have hc2 := h.cap
  rcases h.row with h0 | ⟨hb, cur, hg, hsz, ht⟩
  · refine ⟨[], by simp; omega, subS_isS h.isS (Nat.zero_le _) hn, by rw [subS_len h.isS]; simp; omega, by rw [subS_cap h.isS]; omega, .inl (by rw [subS_cap h.isS]; omega)⟩
  · have hl : ((cur.toList.drop (sOff v)).take n).length = n := by simp; omega
    refine ⟨(cur.toList.drop (sOff v)).take n, hl, subS_isS h.isS (Nat.zero_le _) hn, by rw [subS_len h.isS, hl]; omega, by rw [subS_cap h.isS]; omega, .inr ⟨?_, cur, ?_, ?_, ?_⟩⟩
    · rw [subS_blk h.isS]; exact hb
    · rw [subS_blk h.isS]; exact hg
    · rw [subS_off0 h.isS, subS_cap h.isS]; omega
    · rw [subS_off0 h.isS, hl]
end Go.Proofs.YtgbmlaffilccnaaGreatDoor

/-
The package's numbers: make, set, setWord of a receiver without room. No condition.
-/
namespace Go.Proofs.YtgbmlaffilccnaaGreatDoor
open Go.RowKit

theorem subS_nil0 : subS (.slice none 0 0) 0 0 = .slice none 0 0 := rfl
set_option maxRecDepth 100000 in
theorem make_nil (n : Nat) (w : World) (hn : n ≤ 1000000000) :
    Calls Tryz.prog 75 #[.slice none 0 0, .int .i64 n] w fun e w' => ∃ v, e = .returned v ∧ Own w' w.heap.size 116 v (List.replicate n (.int .u64 0)) ∧ Below w.heap.size w w' ∧ (0 < n → 0 < sCap v) := by
  have hS := IsS.nil
  by_cases h0 : n = 0
  · subst h0
    go_enter Tryz.func75, Tryz.ntmps75
    go_wp2
    go_ret
    exact ⟨_, rfl, Own.nil _ _ _, Below.refl _ _, by simp⟩
  · have t1 : decide (n ≤ 0) = false := by rw [decide_eq_false_iff_not]; omega
    have t1' : decide ((n : Int) ≤ 0) = false := by rw [decide_eq_false_iff_not]; omega
    by_cases h1 : n = 1
    · subst h1
      go_enter Tryz.func75, Tryz.ntmps75
      go_wp2_with (at_make; refine wpList_make_O rfl _ _ _ rfl elemT .i64 .i64 _ _ rfl rfl w.heap.size ?c1 ?c2 ?c3 ?c4 ?c5 ?_)
      case c1 => omega
      case c2 => omega
      case c3 => omega
      case c4 => omega
      case c5 => exact Nat.le_refl _
      rintro v w1 rfl ho hb hz
      go_wp2
      go_ret
      exact ⟨.slice (some ⟨w.heap.size, 0, none⟩) 1 1, rfl, ho, hb, fun _ => by rw [sCap_mk]; decide⟩
    · have t2 : ((n : Int) == 1) = false := by rw [beq_eq_false_iff_ne]; omega
      have Hh := Lib.hid h0
      clear h0 h1
      go_enter Tryz.func75, Tryz.ntmps75
      go_wp2_with (at_make; refine wpList_make_O rfl _ _ _ rfl elemT .i64 .i64 _ _ rfl rfl w.heap.size ?c1 ?c2 ?c3 ?c4 ?c5 ?_)
      case c1 => omega
      case c2 => omega
      case c3 => omega
      case c4 => omega
      case c5 => exact Nat.le_refl _
      rintro v w1 rfl ho hb hz
      go_wp2
      go_ret
      exact ⟨.slice (some ⟨w.heap.size, 0, none⟩) n ((n : Int) + 4).toNat, rfl, by simpa using ho, hb, fun _ => by rw [sCap_mk]; omega⟩
theorem cellsW_one (ws : List Nat) : ∀ v ∈ cellsW ws, v.oneCell' = true := by
  intro v hv
  obtain ⟨d, _, rfl⟩ := List.mem_map.1 hv
  rfl
theorem RW.at {w : World} {v : Value} {ds : List Nat} (h : RW w v ds) : ∀ j u, (cellsW ds)[j]? = some u → w.cell? ⟨sBlk v, sOff v + j, none⟩ = some u := by
  intro j u hj
  have hlt : j < ds.length := by have := (List.getElem?_eq_some_iff.1 hj).1; rwa [cellsW_length] at this
  rw [h.cell j hlt]
  simp only [cellsW, List.getElem?_map, Option.map_eq_some_iff] at hj
  obtain ⟨x, hx, rfl⟩ := hj
  rw [List.getD_eq_getElem?_getD, hx]; rfl
theorem sizeW : (Tryz.prog.info? 116).map (·.size) = some 1 := by kernel_rfl
set_option maxRecDepth 100000 in
theorem set_nil (v : Value) (ws : List Nat) (w : World) (hv : RW w v ws) (hl : ws.length ≤ 1000000000) :
    Calls Tryz.prog 67 #[.slice none 0 0, v] w fun e w' => ∃ r, e = .returned r ∧ Own w' w.heap.size 116 r (cellsW ws) ∧ Below w.heap.size w w' := by
  have hS := hv.isS
  have hL := hv.len
  have Hv := Lib.hid hv
  clear hv
  go_enter Tryz.func67, Tryz.ntmps67
  go_wp2_with fail
  refine (make_nil ws.length w hl).mono ?_
  rintro _ w1 ⟨r, rfl, ho, hb, -⟩
  have hSr := ho.isS
  have hLr : sLen r = ws.length := by rw [ho.len]; simp
  have HO := Lib.hid ho
  clear ho
  go_wp2_with (refine wpList_copy_O (o := ⟨some 11, _, _, _, _, _⟩) rfl (.tmp 9) (.tmp 10) 84 84 rfl 116 Tryz.underlying84 sizeW _ _ rfl rfl w.heap.size (List.replicate ws.length (.int .u64 0)) HO.out (cellsW ws) ?d1 hS ?d2 ?d3 (cellsW_one ws) ?_)
  case d1 => rw [cellsW_length]; simp
  case d2 => rw [cellsW_length]; exact hL
  case d3 => exact (Hv.out.below hb).at
  intro w2 ho2 hb2 _
  go_wp2
  go_ret
  exact ⟨_, rfl, ho2, hb.trans hb2⟩
set_option maxRecDepth 100000 in
theorem setWord_nil (d : Nat) (w : World) (h0 : 0 < d) (hd : d < 18446744073709551616) :
    Calls Tryz.prog 112 #[.slice none 0 0, .int .u64 d] w fun e w' => ∃ r, e = .returned r ∧ Own w' w.heap.size 116 r (cellsW [d]) ∧ Below w.heap.size w w' := by
  have t1 : ((d : Int) == 0) = false := by rw [beq_eq_false_iff_ne]; omega
  have HD := Lib.hid hd
  clear hd
  go_enter Tryz.func112, Tryz.ntmps112
  go_wp2_with fail
  refine (make_nil 1 w (by decide)).mono ?_
  rintro _ w1 ⟨r, rfl, ho, hb, hc⟩
  have hSr := ho.isS
  have hLr : sLen r = 1 := by rw [ho.len]; simp
  have hcap := hc (by decide)
  have fz := ho.frozen hcap (sOff r)
  have ce := ho.cell (i := 0) (u := .int .u64 0) rfl
  have hset := ho.set (i := 0) (by decide) (.int .u64 (d : Int))
  have hlt := (ho.lt hcap).1
  rw [Nat.add_zero] at hset ce
  have HS := Lib.hid hset
  have HC := Lib.hid hc
  clear hset ho hc
  go_wp2
  go_ret
  exact ⟨_, rfl, HS.out, bset hb hlt⟩
end Go.Proofs.YtgbmlaffilccnaaGreatDoor
