/-
Texts of this proof, joined: SpG RnA SpH WdA WdB WdC CmA InA WdE InB InC. No condition.
-/
import Derived.Test.YtllhnjpnkmjopaaGreatDoorK01
import Derived.Laws.Bits64b
import Derived.Laws.CopyOwn
import Derived.Outline
namespace Go.Proofs.YtllhnjpnkmjopaaGreatDoor
open Go.RowKit

def bl (n : Nat) : Nat := if n = 0 then 0 else n.log2 + 1
theorem bl_zero : bl 0 = 0 := rfl
theorem lt_bl (n : Nat) : n < 2 ^ bl n := by
  unfold bl
  split
  · rename_i h; subst h; decide
  · exact Nat.lt_log2_self
theorem bl_ge {n : Nat} (h : 0 < n) : 2 ^ (bl n - 1) ≤ n := by
  unfold bl
  rw [if_neg (by omega), Nat.add_sub_cancel]
  exact Nat.log2_self_le (by omega)
theorem bl_le {n k : Nat} (h : n < 2 ^ k) : bl n ≤ k := by
  rcases Nat.eq_zero_or_pos n with rfl | hp
  · exact Nat.zero_le _
  · have h1 := bl_ge hp
    have h2 : 2 ^ (bl n - 1) < 2 ^ k := by omega
    have h3 := (Nat.pow_lt_pow_iff_right (show 1 < 2 by decide)).1 h2
    omega
theorem bl_gt {n k : Nat} (h : 2 ^ k ≤ n) : k < bl n := by
  have h1 := lt_bl n
  have h2 : 2 ^ k < 2 ^ bl n := by omega
  exact (Nat.pow_lt_pow_iff_right (show 1 < 2 by decide)).1 h2
theorem bl_pos {n : Nat} (h : 0 < n) : 0 < bl n := bl_gt (k := 0) (by omega)
theorem bl_of {n k : Nat} (h1 : 2 ^ k ≤ n) (h2 : n < 2 ^ (k + 1)) : bl n = k + 1 := by
  have := bl_le h2
  have := bl_gt h1
  omega
theorem bl_mono {a b : Nat} (h : a ≤ b) : bl a ≤ bl b := bl_le (Nat.lt_of_le_of_lt h (lt_bl b))
theorem bl_half {n : Nat} (h : 0 < n) : bl (n / 2) + 1 = bl n := by
  have h1 := bl_ge h
  have h2 := lt_bl n
  have h3 := bl_pos h
  obtain ⟨k, hk⟩ : ∃ k, bl n = k + 1 := ⟨bl n - 1, by omega⟩
  rw [hk] at h1 h2 ⊢
  rw [Nat.add_sub_cancel] at h1
  cases k with
  | zero =>
    rw [show n / 2 = 0 by simp at h2; omega]; rfl
  | succ k => rw [bl_of (n := n / 2) (k := k) (by rw [Nat.pow_succ] at h1; omega) (by rw [Nat.pow_succ] at h2; omega)]
theorem bl_shift {n t k : Nat} (ht : 0 < t) (hn : n = n % 2 ^ k + 2 ^ k * t) : bl n = k + bl t := by
  have h1 := bl_ge ht
  have h2 := lt_bl t
  have h3 := bl_pos ht
  have h4 := Nat.mod_lt n (Nat.pow_pos (n := k) (show 0 < 2 by decide))
  have h5 := bl_of (n := n) (k := k + (bl t - 1)) (by
    rw [Nat.pow_add, hn]
    have := Nat.mul_le_mul_left (2 ^ k) h1
    omega) (by
    rw [show k + (bl t - 1) + 1 = k + bl t by omega, Nat.pow_add, hn]
    have : 2 ^ k * (t + 1) ≤ 2 ^ k * 2 ^ bl t := Nat.mul_le_mul_left _ h2
    rw [Nat.mul_add] at this
    omega)
  omega
def deq (M : Nat) (E : Int) (N : Nat) (F : Int) : Prop := ∃ i j : Nat, M * 2 ^ i = N * 2 ^ j ∧ E - i = F - j
theorem deq.refl (M : Nat) (E : Int) : deq M E M E := ⟨0, 0, rfl, rfl⟩
theorem deq.symm {M N : Nat} {E F : Int} (h : deq M E N F) : deq N F M E := by
  obtain ⟨i, j, h1, h2⟩ := h; exact ⟨j, i, h1.symm, h2.symm⟩
theorem deq.trans {M N K : Nat} {E F G : Int} (h : deq M E N F) (k : deq N F K G) : deq M E K G := by
  obtain ⟨i, j, h1, h2⟩ := h
  obtain ⟨a, b, k1, k2⟩ := k
  refine ⟨i + a, b + j, ?_, by omega⟩
  rw [Nat.pow_add, ← Nat.mul_assoc, h1, Nat.mul_assoc, Nat.mul_comm (2 ^ j), ← Nat.mul_assoc, k1, Nat.mul_assoc, ← Nat.pow_add]
theorem deq.shl (M : Nat) (E : Int) (t : Nat) : deq (M * 2 ^ t) E M (E + t) := ⟨0, t, by simp, by omega⟩
theorem deq.pos {M N : Nat} {E F : Int} (h : deq M E N F) (hM : 0 < M) : 0 < N := by
  obtain ⟨i, j, h1, -⟩ := h
  have := Nat.mul_pos hM (Nat.two_pow_pos i)
  rw [h1] at this
  exact Nat.pos_of_mul_pos_right this
theorem bl_mul {x : Nat} (h : 0 < x) (n : Nat) : bl (x * 2 ^ n) = bl x + n := by
  have h1 := bl_ge h
  have h2 := lt_bl x
  have h3 := bl_pos h
  have e : bl x + n = (bl x - 1 + n) + 1 := by omega
  rw [e]
  refine bl_of ?_ ?_
  · rw [Nat.pow_add]; exact Nat.mul_le_mul_right _ h1
  · rw [show bl x - 1 + n + 1 = bl x + n by omega, Nat.pow_add]
    exact Nat.mul_lt_mul_of_pos_right h2 (Nat.two_pow_pos n)
theorem deq.bl {M N : Nat} {E F : Int} (h : deq M E N F) (hM : 0 < M) : (bl M : Int) + E = (bl N : Int) + F := by
  have hN := h.pos hM
  obtain ⟨i, j, h1, h2⟩ := h
  have := congrArg Go.Proofs.YtllhnjpnkmjopaaGreatDoor.bl h1
  rw [bl_mul hM, bl_mul hN] at this
  omega
theorem deq.same {M N : Nat} {E : Int} (h : deq M E N E) : M = N := by
  obtain ⟨i, j, h1, h2⟩ := h
  have : i = j := by omega
  subst this
  exact Nat.eq_of_mul_eq_mul_right (Nat.two_pow_pos i) h1

/-! ### Odd parts -/
def tzF : Nat → Nat → Nat
  | 0, _ => 0
  | f + 1, n => if n % 2 = 1 then 0 else tzF f (n / 2) + 1
def tz (n : Nat) : Nat := tzF n n
def od (n : Nat) : Nat := n / 2 ^ tz n
theorem tzF_ok : ∀ f n : Nat, 0 < n → n ≤ f → ∃ o : Nat, n = o * 2 ^ tzF f n ∧ o % 2 = 1
  | 0, n, h, hf => by omega
  | f + 1, n, h, hf => by
    unfold tzF
    by_cases h1 : n % 2 = 1
    · rw [if_pos h1]; exact ⟨n, by simp, h1⟩
    · rw [if_neg h1]
      obtain ⟨o, h2, h3⟩ := tzF_ok f (n / 2) (by omega) (by omega)
      refine ⟨o, ?_, h3⟩
      rw [Nat.pow_succ, ← Nat.mul_assoc, ← h2]; omega
theorem od_tz {n : Nat} (h : 0 < n) : n = od n * 2 ^ tz n ∧ od n % 2 = 1 := by
  obtain ⟨o, h1, h2⟩ := tzF_ok n n h (Nat.le_refl _)
  have h3 : od n = o := by
    unfold od
    conv => lhs; lhs; rw [h1]
    exact Nat.mul_div_cancel _ (Nat.two_pow_pos _)
  rw [h3]; exact ⟨h1, h2⟩
theorem odd_two {o p s t : Nat} (ho : o % 2 = 1) (hp : p % 2 = 1) (h : o * 2 ^ s = p * 2 ^ t) : s = t ∧ o = p := by
  rcases Nat.lt_trichotomy s t with c | c | c
  · obtain ⟨k, rfl⟩ : ∃ k, t = s + (k + 1) := ⟨t - s - 1, by omega⟩
    rw [Nat.pow_add, Nat.mul_comm (2 ^ s), ← Nat.mul_assoc] at h
    have := Nat.eq_of_mul_eq_mul_right (Nat.two_pow_pos s) h
    rw [Nat.pow_succ, ← Nat.mul_assoc] at this
    omega
  · subst c
    exact ⟨rfl, Nat.eq_of_mul_eq_mul_right (Nat.two_pow_pos s) h⟩
  · obtain ⟨k, rfl⟩ : ∃ k, s = t + (k + 1) := ⟨s - t - 1, by omega⟩
    rw [Nat.pow_add, Nat.mul_comm (2 ^ t), ← Nat.mul_assoc] at h
    have := Nat.eq_of_mul_eq_mul_right (Nat.two_pow_pos t) h
    rw [Nat.pow_succ, ← Nat.mul_assoc] at this
    omega
theorem od_pos {n : Nat} (h : 0 < n) : 0 < od n := by have := (od_tz h).2; omega
theorem od_of {n o t : Nat} (h : n = o * 2 ^ t) (ho : o % 2 = 1) : od n = o ∧ tz n = t := by
  have hn : 0 < n := by rw [h]; exact Nat.mul_pos (by omega) (Nat.two_pow_pos t)
  have h2 := od_tz hn
  have h3 := odd_two h2.2 ho (h2.1.symm.trans h)
  exact ⟨h3.2, h3.1⟩
theorem od_deq {n : Nat} (h : 0 < n) (E : Int) : deq n E (od n) (E + tz n) := ⟨0, tz n, by rw [Nat.pow_zero, Nat.mul_one]; exact (od_tz h).1, by omega⟩
theorem deq.od {M N : Nat} {E F : Int} (h : deq M E N F) (hM : 0 < M) : od M = od N ∧ E + tz M = F + tz N := by
  have hN := h.pos hM
  have h1 := ((od_deq hM E).symm.trans h).trans (od_deq hN F)
  obtain ⟨i, j, a, b⟩ := h1
  have := odd_two (od_tz hM).2 (od_tz hN).2 a
  exact ⟨this.2, by omega⟩
theorem bl_od {n : Nat} (h : 0 < n) : bl n = bl (od n) + tz n := by
  conv => lhs; rw [(od_tz h).1]
  exact bl_mul (od_pos h) _
theorem tz_le {n : Nat} (h : 0 < n) : tz n < bl n := by have := bl_od h; have := bl_pos (od_pos h); omega
/-! ### Rounding -/
def lef (R D s : Nat) : Nat := if R = 0 ∧ s = 0 then 0 else if 2 * R < D then 1 else if 2 * R = D ∧ s = 0 then 2 else 3
def awy (neg odd : Bool) (left mode : Nat) : Bool :=
  if mode = 0 then decide (left = 3) || (decide (left = 2) && odd) else if mode = 1 then decide (2 ≤ left) else if mode = 3 then decide (0 < left)
  else if mode = 4 then decide (0 < left) && neg else if mode = 5 then decide (0 < left) && !neg else false
def rk (p M : Nat) : Nat := bl M - p
def rL (p s M : Nat) : Nat := lef (M % 2 ^ rk p M) (2 ^ rk p M) s
def rU (p m : Nat) (neg : Bool) (s M : Nat) : Bool := awy neg (decide (M / 2 ^ rk p M % 2 = 1)) (rL p s M) m
def rQ (p m : Nat) (neg : Bool) (s M : Nat) : Nat := M / 2 ^ rk p M + if rU p m neg s M then 1 else 0
def rA (p m : Nat) (neg : Bool) (s M : Nat) : Int := if rL p s M = 0 then 0 else if rU p m neg s M != neg then 1 else -1
theorem awy_zero (neg odd : Bool) (mode : Nat) : awy neg odd 0 mode = false := by
  unfold awy; repeat' split
  all_goals simp
theorem lef_scale (R D s : Nat) {S : Nat} (h : 0 < S) : lef (R * S) (D * S) s = lef R D s := by
  unfold lef
  have e1 : R * S = 0 ↔ R = 0 := by rw [Nat.mul_eq_zero]; exact ⟨fun h' => h'.resolve_right (by omega), .inl⟩
  have e2 : 2 * (R * S) < D * S ↔ 2 * R < D := by rw [← Nat.mul_assoc]; exact ⟨fun h' => Nat.lt_of_mul_lt_mul_right h', fun h' => Nat.mul_lt_mul_of_pos_right h' h⟩
  have e3 : 2 * (R * S) = D * S ↔ 2 * R = D := by rw [← Nat.mul_assoc]; exact ⟨fun h' => Nat.eq_of_mul_eq_mul_right h h', fun h' => by rw [h']⟩
  simp only [e1, e2, e3]
theorem lef_exact (D : Nat) : lef 0 D 0 = 0 := by simp [lef]
theorem rQ_fits {p m M : Nat} (neg : Bool) (h : bl M ≤ p) : rk p M = 0 ∧ rQ p m neg 0 M = M ∧ rA p m neg 0 M = 0 := by
  have h0 : rk p M = 0 := by unfold rk; omega
  have h1 : rL p 0 M = 0 := by unfold rL; rw [h0, Nat.pow_zero, Nat.mod_one]; exact lef_exact _
  refine ⟨h0, ?_, ?_⟩
  · unfold rQ rU; rw [h1, awy_zero, h0]; simp
  · unfold rA; rw [if_pos h1]
theorem rnd_shl {p m M : Nat} (neg : Bool) (hM : 0 < M) (t : Nat) (E : Int) :
    deq (rQ p m neg 0 (M * 2 ^ t)) (E + rk p (M * 2 ^ t)) (rQ p m neg 0 M) (E + t + rk p M) ∧ rA p m neg 0 (M * 2 ^ t) = rA p m neg 0 M := by
  have hb := bl_mul hM t
  rcases Nat.lt_or_ge p (bl M) with hp | hp
  · have k1 : rk p (M * 2 ^ t) = rk p M + t := by unfold rk; omega
    have hP := Nat.two_pow_pos t
    have d1 : M * 2 ^ t / 2 ^ rk p (M * 2 ^ t) = M / 2 ^ rk p M := by rw [k1, Nat.pow_add]; exact Nat.mul_div_mul_right _ _ hP
    have l1 : rL p 0 (M * 2 ^ t) = rL p 0 M := by
      unfold rL
      rw [k1, Nat.pow_add, Nat.mul_mod_mul_right, lef_scale _ _ _ hP]
    have u1 : rU p m neg 0 (M * 2 ^ t) = rU p m neg 0 M := by unfold rU; rw [d1, l1]
    have q1 : rQ p m neg 0 (M * 2 ^ t) = rQ p m neg 0 M := by unfold rQ; rw [d1, u1]
    refine ⟨?_, by unfold rA; rw [l1, u1]⟩
    rw [q1, k1]
    exact ⟨0, 0, rfl, by omega⟩
  · obtain ⟨k0, q0, a0⟩ := rQ_fits (m := m) neg hp
    rw [k0, q0, a0]
    obtain ⟨c, hc⟩ : ∃ c, rk p (M * 2 ^ t) = c := ⟨_, rfl⟩
    have hct : c ≤ t := by unfold rk at hc; omega
    have hm : M * 2 ^ t % 2 ^ c = 0 := by
      rw [show t = (t - c) + c by omega, Nat.pow_add, ← Nat.mul_assoc]; exact Nat.mul_mod_left _ _
    have l1 : rL p 0 (M * 2 ^ t) = 0 := by unfold rL; rw [hc, hm]; exact lef_exact _
    have q1 : rQ p m neg 0 (M * 2 ^ t) = M * 2 ^ (t - c) := by
      unfold rQ rU
      rw [l1, awy_zero, hc, show t = (t - c) + c by omega, Nat.pow_add, ← Nat.mul_assoc, Nat.mul_div_cancel _ (Nat.two_pow_pos c)]
      simp
    refine ⟨?_, by unfold rA; rw [if_pos l1]⟩
    rw [q1, hc]
    exact ⟨0, t - c, by simp, by omega⟩
theorem rnd_deq {p m M N : Nat} {E F : Int} (neg : Bool) (hM : 0 < M) (h : deq M E N F) :
    deq (rQ p m neg 0 M) (E + rk p M) (rQ p m neg 0 N) (F + rk p N) ∧ rA p m neg 0 M = rA p m neg 0 N := by
  have hN := h.pos hM
  obtain ⟨i, j, h1, h2⟩ := h
  obtain ⟨a1, a2⟩ := rnd_shl (p := p) (m := m) neg hM i (E - i)
  obtain ⟨b1, b2⟩ := rnd_shl (p := p) (m := m) neg hN j (F - j)
  rw [h1] at a1 a2
  rw [h2] at a1
  have := a1.symm.trans b1
  exact ⟨by simpa [show F - (j : Int) + (i : Int) = E by omega] using this, a2.symm.trans b2⟩
theorem rQ_bound {p m M : Nat} (neg : Bool) (s : Nat) (hp0 : 0 < p) (hp : p < bl M) : 2 ^ (p - 1) ≤ M / 2 ^ rk p M ∧ M / 2 ^ rk p M < 2 ^ p ∧ rQ p m neg s M ≤ 2 ^ p := by
  have hM : 0 < M := by rcases Nat.eq_zero_or_pos M with rfl | h; rw [bl_zero] at hp; omega; exact h
  have h1 := bl_ge hM
  have h2 := lt_bl M
  have hk : rk p M + p = bl M := by unfold rk; omega
  have h3 : M / 2 ^ rk p M < 2 ^ p := by
    refine Nat.div_lt_of_lt_mul ?_
    rw [← Nat.pow_add, hk]; exact h2
  have h4 : 2 ^ (p - 1) ≤ M / 2 ^ rk p M := by
    rw [Nat.le_div_iff_mul_le (Nat.two_pow_pos _), ← Nat.pow_add]
    refine Nat.le_trans (Nat.pow_le_pow_right (by decide) ?_) h1
    omega
  refine ⟨h4, h3, ?_⟩
  unfold rQ; split <;> omega
theorem two16 {s : Nat} (h : s < 16) : 0 < 2 ^ s ∧ 2 ^ s ≤ 32768 := by
  constructor
  · exact Nat.pow_pos (by decide)
  · exact Nat.pow_le_pow_right (show 0 < 2 by decide) (show s ≤ 15 by omega)
def ShlRel (x q S L B i : Nat) (w : World) (v : Value) (wr : World) : Prop :=
  ∃ os : List Nat, Own wr B 3 v (cellsN os) ∧ os.length = L ∧ (∀ d ∈ os, d < 65536) ∧ val os = 65536 ^ q * (x % 65536 ^ i * S) ∧ Below B w wr
theorem shl_carry {x q S i : Nat} (hS : 0 < S) (hS2 : S < 65536) : dig (65536 ^ q * (x % 65536 ^ i * S)) (q + i) = x % 65536 ^ i * S / 65536 ^ i ∧ x % 65536 ^ i * S / 65536 ^ i < S ∧ dig (65536 ^ q * (x % 65536 ^ i * S)) (q + i + 1) = 0 := by
  have h0 := Nat.mod_lt x (pow_pos i)
  have h1 : x % 65536 ^ i * S < 65536 ^ i * S := Nat.mul_lt_mul_of_pos_right h0 hS
  have h2 : x % 65536 ^ i * S / 65536 ^ i < S := Nat.div_lt_of_lt_mul h1
  refine ⟨?_, h2, ?_⟩
  · unfold dig
    rw [Nat.pow_add, ← Nat.div_div_eq_div_mul, Nat.mul_div_cancel_left _ (pow_pos q), Nat.mod_eq_of_lt (by omega)]
  · unfold dig
    rw [show q + i + 1 = q + (i + 1) by omega, Nat.pow_add, ← Nat.div_div_eq_div_mul, Nat.mul_div_cancel_left _ (pow_pos q), Nat.pow_succ, ← Nat.div_div_eq_div_mul]
    rw [Nat.div_eq_of_lt (show x % 65536 ^ i * S / 65536 ^ i < 65536 by omega)]
theorem shl_low {d s : Nat} (hs : s < 16) (c : Nat) (hc : c < 2 ^ s) : c + d * 2 ^ s % 65536 < 65536 := by
  have e : (65536 : Nat) = 2 ^ (16 - s) * 2 ^ s := by rw [← Nat.pow_add, show 16 - s + s = 16 by omega]
  have h1 : d * 2 ^ s % 65536 = d % 2 ^ (16 - s) * 2 ^ s := by conv => lhs; rw [e, Nat.mul_mod_mul_right]
  have h2 := Nat.mod_lt d (Nat.pow_pos (n := 16 - s) (show 0 < 2 by decide))
  have h3 : (d % 2 ^ (16 - s) + 1) * 2 ^ s ≤ 2 ^ (16 - s) * 2 ^ s := Nat.mul_le_mul_right _ h2
  rw [Nat.add_mul, ← e] at h3
  omega
theorem ShlRel.step {x q s S L B i : Nat} {w wr : World} {v : Value} {os : List Nat} (ho : Own wr B 3 v (cellsN os)) (hL : os.length = L) (hd : ∀ d ∈ os, d < 65536) (hv : val os = 65536 ^ q * (x % 65536 ^ i * S)) (hb : Below B w wr)
    (hi : q + i + 1 < L) (hs : s < 16) (hS : S = 2 ^ s) :
    os.getD (q + i) 0 < S ∧ os.getD (q + i + 1) 0 = 0 ∧ ShlRel x q S L B (i + 1) w v ((wr.setCell ⟨sBlk v, sOff v + (q + i), none⟩ (.int .i64 ((os.getD (q + i) 0 + dig x i * S % 65536 : Nat) : Int))).setCell ⟨sBlk v, sOff v + (q + i + 1), none⟩ (.int .i64 ((dig x i * S / 65536 : Nat) : Int))) := by
  have hSb := two16 hs
  rw [← hS] at hSb
  obtain ⟨h1, h2, h3⟩ := shl_carry (x := x) (q := q) (i := i) hSb.1 (by omega)
  rw [← hv, val_dig hd] at h1
  rw [← hv, val_dig hd] at h3
  rw [← h1] at h2
  refine ⟨h2, h3, ?_⟩
  have hlow := shl_low (d := dig x i) hs (os.getD (q + i) 0) (by rw [← hS]; exact h2)
  rw [← hS] at hlow
  have hdl := dig_lt x i
  have hhi : dig x i * S / 65536 < 65536 := by
    refine Nat.div_lt_of_lt_mul ?_
    exact Nat.mul_lt_mul_of_lt_of_le hdl (by omega) (by omega)
  have s1 := ho.set (i := q + i) (by rw [cellsN_length]; omega) (.int .i64 ((os.getD (q + i) 0 + dig x i * S % 65536 : Nat) : Int))
  rw [cellsN_set] at s1
  have s2 := s1.set (i := q + i + 1) (by rw [cellsN_length, List.length_set]; omega) (.int .i64 ((dig x i * S / 65536 : Nat) : Int))
  rw [cellsN_set] at s2
  have hl := ho.len
  rw [cellsN_length] at hl
  have hcp := ho.isS.le
  refine ⟨_, s2, by simpa using hL, ?_, ?_, bset (bset hb (ho.lt (by omega)).1) (ho.lt (by omega)).1⟩
  · intro z hz'
    rcases List.mem_or_eq_of_mem_set hz' with h | h
    · rcases List.mem_or_eq_of_mem_set h with h | h
      · exact hd z h
      · rw [h]; exact hlow
    · rw [h]; exact hhi
  · have e1 := val_set (a := os) (i := q + i) (by omega) (os.getD (q + i) 0 + dig x i * S % 65536)
    have e2 := val_set (a := os.set (q + i) (os.getD (q + i) 0 + dig x i * S % 65536)) (i := q + i + 1) (by simp; omega) (dig x i * S / 65536)
    rw [getD_set _ _ _ _ (by omega), if_neg (by omega), h3] at e2
    have e3 := Nat.div_add_mod (dig x i * S) 65536
    rw [mod_succ]
    rw [Nat.pow_succ, Nat.pow_add] at e2
    rw [Nat.pow_add] at e1
    generalize val (List.set _ (q + i + 1) _) = V2 at *
    generalize val (List.set _ (q + i) _) = V1 at *
    generalize dig x i * S / 65536 = hiD at *
    generalize dig x i * S % 65536 = loD at *
    rw [hv] at e1
    rw [Nat.add_mul, Nat.mul_add]
    rw [show 65536 ^ q * (65536 ^ i * dig x i * S) = 65536 ^ q * 65536 ^ i * (dig x i * S) by grind, ← e3]
    grind
def wdg (n i : Nat) : Nat := n / 18446744073709551616 ^ i % 18446744073709551616
def nw (n : Nat) : Nat := (nl n + 3) / 4
def wv : List Nat → Nat
  | [] => 0
  | d :: ds => d + 18446744073709551616 * wv ds
def wds (n : Nat) : List Nat := (List.range (nw n)).map (wdg n)
theorem wpow (i : Nat) : (18446744073709551616 : Nat) ^ i = 65536 ^ (4 * i) := by rw [Nat.pow_mul]
theorem wpow_pos (i : Nat) : 0 < 18446744073709551616 ^ i := Nat.pow_pos (by decide)
theorem wdg_lt (n i : Nat) : wdg n i < 18446744073709551616 := Nat.mod_lt _ (by decide)
theorem wmod_succ (n i : Nat) : n % 18446744073709551616 ^ (i + 1) = n % 18446744073709551616 ^ i + 18446744073709551616 ^ i * wdg n i := Nat.mod_pow_succ
theorem lt_nw (n : Nat) : n < 18446744073709551616 ^ nw n := by
  rw [wpow]
  exact Nat.lt_of_lt_of_le (lt_nl n) (Nat.pow_le_pow_right (by decide) (by unfold nw; omega))
theorem nw_le {n k : Nat} (h : n < 18446744073709551616 ^ k) : nw n ≤ k := by
  rw [wpow] at h
  have := nl_le h
  unfold nw; omega
theorem nw_zero : nw 0 = 0 := rfl
theorem nw_pos {n : Nat} (h : 0 < n) : 0 < nw n := by have := nl_pos h; unfold nw; omega
theorem nw_eq_zero {n : Nat} : nw n = 0 ↔ n = 0 := ⟨fun h => by rcases Nat.eq_zero_or_pos n with h' | h'; exact h'; have := nw_pos h'; omega, fun h => by rw [h]; rfl⟩
theorem nw_ge {n : Nat} (h : 0 < n) : 18446744073709551616 ^ (nw n - 1) ≤ n := by
  rw [wpow]
  refine Nat.le_trans (Nat.pow_le_pow_right (by decide) ?_) (nl_ge h)
  have := nl_pos h
  unfold nw; omega
theorem nw_mono {a b : Nat} (h : a ≤ b) : nw a ≤ nw b := nw_le (Nat.lt_of_le_of_lt h (lt_nw b))
theorem wmod_nw {n i : Nat} (h : nw n ≤ i) : n % 18446744073709551616 ^ i = n :=
  Nat.mod_eq_of_lt (Nat.lt_of_lt_of_le (lt_nw n) (Nat.pow_le_pow_right (by decide) h))
theorem wdg_ge {n i : Nat} (h : nw n ≤ i) : wdg n i = 0 := by
  unfold wdg
  rw [Nat.div_eq_of_lt (Nat.lt_of_lt_of_le (lt_nw n) (Nat.pow_le_pow_right (by decide) h))]
theorem wdg_last {n : Nat} (h : 0 < n) : wdg n (nw n - 1) ≠ 0 := by
  intro h0
  have h1 := wmod_succ n (nw n - 1)
  have := nw_pos h
  rw [show nw n - 1 + 1 = nw n by omega, wmod_nw (Nat.le_refl _), h0, Nat.mul_zero, Nat.add_zero] at h1
  have h2 := nw_ge h
  have h3 := Nat.mod_lt n (wpow_pos (nw n - 1))
  omega
theorem wv_append (a b : List Nat) : wv (a ++ b) = wv a + 18446744073709551616 ^ a.length * wv b := by
  induction a with
  | nil => simp [wv]
  | cons d ds ih => simp only [List.cons_append, wv, ih, List.length_cons, Nat.pow_succ]; grind
theorem wv_snoc (a : List Nat) (d : Nat) : wv (a ++ [d]) = wv a + 18446744073709551616 ^ a.length * d := by rw [wv_append]; simp [wv]
theorem wv_lt {a : List Nat} (h : ∀ d ∈ a, d < 18446744073709551616) : wv a < 18446744073709551616 ^ a.length := by
  induction a with
  | nil => decide
  | cons d ds ih =>
    have h1 := ih fun x hx => h x (by simp [hx])
    have h2 := h d (by simp)
    simp only [wv, List.length_cons, Nat.pow_succ]
    omega
theorem wdg_zero_eq (n : Nat) : wdg n 0 = n % 18446744073709551616 := by simp [wdg]
theorem wdg_succ (n i : Nat) : wdg n (i + 1) = wdg (n / 18446744073709551616) i := by
  unfold wdg; rw [Nat.pow_succ, Nat.mul_comm, Nat.div_div_eq_div_mul]
theorem wv_dig {a : List Nat} (h : ∀ d ∈ a, d < 18446744073709551616) : ∀ i, wdg (wv a) i = a.getD i 0 := by
  induction a with
  | nil => intro i; simp [wv, wdg]
  | cons d ds ih =>
    have h2 := h d (by simp)
    intro i
    cases i with
    | zero => rw [wdg_zero_eq]; simp [wv]; omega
    | succ i =>
      rw [wdg_succ, show wv (d :: ds) / 18446744073709551616 = wv ds by simp only [wv]; omega, ih (fun x hx => h x (by simp [hx]))]
      simp
theorem wv_set {a : List Nat} : ∀ {i : Nat}, i < a.length → ∀ d, wv (a.set i d) + 18446744073709551616 ^ i * a.getD i 0 = wv a + 18446744073709551616 ^ i * d := by
  induction a with
  | nil => intro i h; simp at h
  | cons x xs ih =>
    intro i h d
    cases i with
    | zero => simp [wv]; omega
    | succ i =>
      have := ih (show i < xs.length by simpa using h) d
      simp only [List.set_cons_succ, wv, Nat.pow_succ]
      simp only [List.getD_eq_getElem?_getD, List.getElem?_cons_succ] at this ⊢
      grind
theorem wds_length (n : Nat) : (wds n).length = nw n := by simp [wds]
theorem wds_lt {n d : Nat} (h : d ∈ wds n) : d < 18446744073709551616 := by
  obtain ⟨i, _, rfl⟩ := List.mem_map.1 h; exact wdg_lt n i
theorem wv_range (n : Nat) : ∀ k, wv ((List.range k).map (wdg n)) = n % 18446744073709551616 ^ k
  | 0 => by simp [wv, Nat.mod_one]
  | k + 1 => by
    rw [List.range_succ, List.map_append, List.map_cons, List.map_nil, wv_snoc, wv_range n k, wmod_succ]
    simp
theorem wv_wds (n : Nat) : wv (wds n) = n := by rw [wds, wv_range, wmod_nw (Nat.le_refl _)]
theorem wds_getD (n i : Nat) : (wds n).getD i 0 = wdg n i := by
  by_cases h : i < nw n
  · simp [wds, List.getD_eq_getElem?_getD, h]
  · rw [wdg_ge (by omega), List.getD_eq_getElem?_getD, List.getElem?_eq_none (by rw [wds_length]; omega)]; rfl
theorem list_ext_getD {a b : List Nat} (hl : a.length = b.length) (h : ∀ i, a.getD i 0 = b.getD i 0) : a = b := by
  apply List.ext_getElem hl
  intro i h1 h2
  have := h i
  simpa [List.getD_eq_getElem?_getD, List.getElem?_eq_getElem h1, List.getElem?_eq_getElem h2] using this
theorem wds_of {a : List Nat} (h : ∀ d ∈ a, d < 18446744073709551616) (hl : a.length = nw (wv a)) : a = wds (wv a) :=
  list_ext_getD (by rw [wds_length]; exact hl) fun i => by rw [wds_getD, wv_dig h]
theorem wv_inj {a b : List Nat} (ha : ∀ d ∈ a, d < 18446744073709551616) (hb : ∀ d ∈ b, d < 18446744073709551616) (hl : a.length = b.length) (h : wv a = wv b) : a = b :=
  list_ext_getD hl fun i => by rw [← wv_dig ha, ← wv_dig hb, h]
theorem wds_norm {a : List Nat} (h : ∀ d ∈ a, d < 18446744073709551616) (hl : a = [] ∨ a.getD (a.length - 1) 0 ≠ 0) : a = wds (wv a) := by
  refine wds_of h ?_
  rcases hl with rfl | hl
  · rfl
  · have h1 := nw_le (wv_lt h)
    refine Nat.le_antisymm (Nat.le_of_not_lt fun hc => hl ?_) h1
    rw [← wv_dig h]
    exact wdg_ge (by omega)

def cellsW (ds : List Nat) : List Value := ds.map fun (d : Nat) => Value.int .u64 (d : Int)
theorem cellsW_length (ds : List Nat) : (cellsW ds).length = ds.length := by simp [cellsW]
theorem cellsW_eq (ds : List Nat) : cellsW ds = (ints ds).map (Value.int .u64) := by simp [cellsW, ints]
theorem cellsW_snoc (ds : List Nat) (d : Nat) : cellsW ds ++ [.int .u64 (d : Int)] = cellsW (ds ++ [d]) := by simp [cellsW]
theorem cellsW_set (os : List Nat) (i d : Nat) : (cellsW os).set i (.int .u64 (d : Int)) = cellsW (os.set i d) := by simp [cellsW, List.map_set]
theorem cellsW_append (a b : List Nat) : cellsW a ++ cellsW b = cellsW (a ++ b) := by simp [cellsW]
structure RW (w : World) (v : Value) (ds : List Nat) : Prop where
  ri : RI .u64 w v (ints ds)
  lt : ∀ d ∈ ds, d < 18446744073709551616
theorem RW.isS {w : World} {v : Value} {ds : List Nat} (h : RW w v ds) : IsS v := h.ri.isS
theorem RW.len {w : World} {v : Value} {ds : List Nat} (h : RW w v ds) : sLen v = ds.length := h.ri.len.trans (ints_length ds)
theorem RW.cell {w : World} {v : Value} {ds : List Nat} (h : RW w v ds) (i : Nat) (hi : i < ds.length) : w.cell? ⟨sBlk v, sOff v + i, none⟩ = some (.int .u64 ((ds.getD i 0 : Nat) : Int)) := by
  rw [h.ri.cell i (by rw [ints_length]; exact hi)]
  simp [ints, List.getD_eq_getElem?_getD, List.getElem?_eq_getElem hi]
theorem getD_ltW {os : List Nat} (h : ∀ d ∈ os, d < 18446744073709551616) (i : Nat) : os.getD i 0 < 18446744073709551616 := by
  by_cases hi : i < os.length
  · rw [List.getD_eq_getElem?_getD, List.getElem?_eq_getElem hi]; exact h _ (List.getElem_mem hi)
  · rw [List.getD_eq_getElem?_getD, List.getElem?_eq_none (by omega)]; decide
theorem RW.below {w w' : World} {v : Value} {ds : List Nat} (h : RW w v ds) (hb : Below w.heap.size w w') : RW w' v ds := ⟨h.ri.below hb, h.lt⟩
theorem RW.take {w : World} {v : Value} {ds : List Nat} (h : RW w v ds) {n : Nat} (hn : n ≤ ds.length) : RW w (subS v 0 n) (ds.take n) := by
  refine ⟨?_, fun d hd => h.lt d (List.mem_of_mem_take hd)⟩
  have := h.ri.sub (l := 0) (n := n) (Nat.zero_le _) (by rw [ints_length]; exact hn)
  simpa [ints, List.map_take] using this
theorem Own.rw' {w : World} {B e : Nat} {v : Value} {ds : List Nat} (h : Own w B e v (cellsW ds)) (hd : ∀ d ∈ ds, d < 18446744073709551616) : RW w v ds := by
  rw [cellsW_eq] at h; exact ⟨h.rd, hd⟩
theorem RW.src {w : World} {v : Value} {ds : List Nat} {tx e : TypeId} (h : RW w v ds) (hk : Tryz.prog.underlying tx = some (.slice e)) : Src Tryz.prog 1 tx v ds.length (cellsW ds) w := by
  rw [cellsW_eq, ← ints_length]; exact RI.src h.ri hk
theorem elemU : ElemT Tryz.prog 22 40 8 (.int .u64 0) := .of (z := .int .u64 0) Tryz.underlying22 rfl (by kernel_rfl)
theorem elemW : ElemT Tryz.prog 107 116 8 (.int .u64 0) := .of (z := .int .u64 0) Tryz.underlying107 rfl (by kernel_rfl)
theorem elemT : ElemT Tryz.prog 108 116 8 (.int .u64 0) := .of (z := .int .u64 0) Tryz.underlying108 rfl (by kernel_rfl)
theorem wv_take_succ {ws : List Nat} {i : Nat} (h : i < ws.length) : wv (ws.take (i + 1)) = wv (ws.take i) + 18446744073709551616 ^ i * ws.getD i 0 := by
  rw [List.take_succ_eq_append_getElem h, wv_snoc]
  simp [List.getD_eq_getElem?_getD, List.getElem?_eq_getElem h, Nat.min_eq_left (Nat.le_of_lt h)]
def OfRel (ws : List Nat) (B i d k : Nat) (w : World) (v : Value) (wr : World) : Prop :=
  ∃ os : List Nat, Own wr B 3 v (cellsN os) ∧ os.length = 4 * i + k ∧ (∀ d ∈ os, d < 65536) ∧ val os = wv (ws.take i) + 65536 ^ (4 * i) * (d % 65536 ^ k) ∧ Below B w wr
theorem OfRel.step {ws : List Nat} {B i d k : Nat} {w w1 : World} {v1 : Value} {os : List Nat} (hl : os.length = 4 * i + k) (hd : ∀ d ∈ os, d < 65536) (hv : val os = wv (ws.take i) + 65536 ^ (4 * i) * (d % 65536 ^ k))
    (ho : Own w1 B 3 v1 (cellsN os ++ [.int .i64 ((dig d k : Nat) : Int)])) (hb : Below B w w1) : OfRel ws B i d (k + 1) w v1 w1 := by
  rw [cellsN_snoc] at ho
  refine ⟨_, ho, by simp [hl]; omega, ?_, ?_, hb⟩
  · intro z hz
    rcases List.mem_append.1 hz with h | h
    · exact hd z h
    · rw [List.mem_singleton.1 h]; exact dig_lt d k
  · rw [val_snoc, hl, hv, mod_succ, Nat.pow_add]; grind
theorem OfRel.next {ws : List Nat} {B i : Nat} {w wr : World} {v : Value} (hi : i < ws.length) (hd : ws.getD i 0 < 18446744073709551616) (h : OfRel ws B i (ws.getD i 0) 4 w v wr) : OfRel ws B (i + 1) 0 0 w v wr := by
  obtain ⟨os, h1, h2, h3, h4, h5⟩ := h
  refine ⟨os, h1, by omega, h3, ?_, h5⟩
  rw [h4, wv_take_succ hi, wpow, Nat.mod_eq_of_lt (show ws.getD i 0 < 65536 ^ 4 by exact hd)]; simp
def WdRel (x B i : Nat) (w : World) (v : Value) (wr : World) : Prop :=
  ∃ ws : List Nat, Own wr B 40 v (cellsW ws) ∧ ws.length = (i + 3) / 4 ∧ (∀ d ∈ ws, d < 18446744073709551616) ∧ wv ws = x % 65536 ^ i ∧ Below B w wr
theorem pow_split4 (i : Nat) : (65536 : Nat) ^ i = 18446744073709551616 ^ (i / 4) * 65536 ^ (i % 4) := by
  rw [wpow, ← Nat.pow_add, Nat.div_add_mod]
theorem or_low {o d P : Nat} {r : Nat} (hP : P = 65536 ^ r) (ho : o < P) : o ||| d * P = o + d * P := by
  have e : P = 2 ^ (16 * r) := by rw [hP, pow16]
  have h := Nat.two_pow_add_eq_or_of_lt (i := 16 * r) (b := o) (by rw [← e]; exact ho) d
  rw [← e] at h
  rw [Nat.or_comm, Nat.mul_comm d P, ← h]; omega
theorem wd_word {x i : Nat} {ws : List Nat} (_hl : ws.length = i / 4 + 1) (hd : ∀ d ∈ ws, d < 18446744073709551616) (hv : wv ws = x % 65536 ^ i) : ws.getD (i / 4) 0 < 65536 ^ (i % 4) := by
  rw [← wv_dig hd, hv]
  have h1 := Nat.mod_lt x (pow_pos i)
  rw [pow_split4 i] at h1
  unfold wdg
  refine Nat.lt_of_le_of_lt (Nat.mod_le _ _) (Nat.div_lt_of_lt_mul ?_)
  rw [pow_split4 i]
  exact h1
theorem WdRel.step {x B i : Nat} {w wr : World} {v : Value} {ws : List Nat} (ho : Own wr B 40 v (cellsW ws)) (hl : ws.length = i / 4 + 1) (hd : ∀ d ∈ ws, d < 18446744073709551616) (hv : wv ws = x % 65536 ^ i) (hb : Below B w wr) :
    WdRel x B (i + 1) w v (wr.setCell ⟨sBlk v, sOff v + i / 4, none⟩ (.int .u64 ((ws.getD (i / 4) 0 ||| dig x i * 65536 ^ (i % 4) : Nat) : Int))) := by
  have hw := wd_word hl hd hv
  have hdl := dig_lt x i
  rw [or_low rfl hw]
  have hp : 65536 ^ (i % 4) * 65536 ≤ 18446744073709551616 := by
    rw [← Nat.pow_succ]
    exact Nat.pow_le_pow_right (show 0 < 65536 by decide) (show i % 4 + 1 ≤ 4 by omega)
  have hlt : ws.getD (i / 4) 0 + dig x i * 65536 ^ (i % 4) < 18446744073709551616 := by
    have : (dig x i + 1) * 65536 ^ (i % 4) ≤ 65536 * 65536 ^ (i % 4) := Nat.mul_le_mul_right _ hdl
    rw [Nat.add_mul, Nat.one_mul] at this
    omega
  have s1 := ho.set (i := i / 4) (by rw [cellsW_length]; omega) (.int .u64 ((ws.getD (i / 4) 0 + dig x i * 65536 ^ (i % 4) : Nat) : Int))
  rw [cellsW_set] at s1
  have hl2 := ho.len
  rw [cellsW_length] at hl2
  have hcp := ho.isS.le
  refine ⟨_, s1, by simp; omega, ?_, ?_, bset hb (ho.lt (by omega)).1⟩
  · intro z hz'
    rcases List.mem_or_eq_of_mem_set hz' with h | h
    · exact hd z h
    · rw [h]; exact hlt
  · have e1 := wv_set (a := ws) (i := i / 4) (by omega) (ws.getD (i / 4) 0 + dig x i * 65536 ^ (i % 4))
    rw [mod_succ, ← hv, pow_split4 i]
    generalize wv (ws.set _ _) = V at *
    generalize ws.getD (i / 4) 0 = o at *
    generalize dig x i = d at *
    generalize (18446744073709551616 : Nat) ^ (i / 4) = A at *
    generalize (65536 : Nat) ^ (i % 4) = P at *
    grind
theorem heap_alloc_lt {w : World} {o x : Obj} {k : Nat} (h : w.heap[k]? = some x) : (w.alloc o).heap[k]? = some x ∧ k < w.heap.size := by
  have hlt : k < w.heap.size := by
    rcases Nat.lt_or_ge k w.heap.size with h' | h'
    · exact h'
    · rw [Array.getElem?_eq_none h'] at h; cases h
  exact ⟨(Below.heap_alloc w o k hlt).trans h, hlt⟩
theorem take_norm {ws : List Nat} (h : ∀ d ∈ ws, d < 18446744073709551616) {k : Nat} (hk : k ≤ ws.length) (hv : wv (ws.take k) = wv ws) (hl : k = 0 ∨ ws.getD (k - 1) 0 ≠ 0) : k = nw (wv ws) ∧ ws.take k = wds (wv ws) := by
  have h1 : ws.take k = wds (wv (ws.take k)) := by
    refine wds_norm (fun d hd => h d (List.mem_of_mem_take hd)) ?_
    rcases Nat.eq_zero_or_pos k with h0 | h0
    · exact .inl (by rw [h0]; rfl)
    · right
      have hl' := hl.resolve_left (by omega)
      have : (ws.take k).length = k := by simp; omega
      rw [this]
      simpa [List.getD_eq_getElem?_getD, show k - 1 < k by omega] using hl'
  rw [hv] at h1
  refine ⟨?_, h1⟩
  have := congrArg List.length h1
  rw [wds_length] at this
  simp at this
  omega
set_option maxRecDepth 100000 in
set_option maxHeartbeats 400000 in
theorem norm_any (v : Value) (ws : List Nat) (w : World) (hv : RW w v ws) (hl : ws.length ≤ 1000000000) :
    Calls Tryz.prog 117 #[v] w fun e w' => e = .returned (subS v 0 (nw (wv ws))) ∧ w = w' := by
  have hS := hv.isS
  have hL := hv.len
  have hC := hS.le
  have Hv := Lib.hid hv
  clear hv
  obtain ⟨n, hn⟩ : ∃ n, n = ws.length := ⟨_, rfl⟩
  rw [← hn] at hL hl
  have Hn := Lib.hid hn
  have hC' : n ≤ sCap v := by omega
  clear hn hC
  go_enter Tryz.func117, Tryz.ntmps117
  go_wp2
  go_loop [3] (fun i => ∃ k : Nat, k ≤ n ∧ i = .int .i64 k ∧ wv (ws.take k) = wv ws) (fun i => (intOf i).toNat)
  case atStart => exact ⟨n, Nat.le_refl _, rfl, by rw [List.take_of_length_le (by rw [Hn.out]; exact Nat.le_refl _)]⟩
  case round =>
    obtain ⟨k, hk, rfl, he⟩ := hrel
    have He := Lib.hid he
    clear he
    by_cases hk0 : k = 0
    · subst hk0
      go_wp2
      go_ret
      have := take_norm Hv.out.lt (k := 0) (Nat.zero_le _) He.out (.inl rfl)
      rw [← this.1]
      exact ⟨rfl, rfl⟩
    · have c := Hv.out.cell (k - 1) (by rw [← Hn.out]; omega)
      obtain ⟨d, hd⟩ : ∃ d, d = ws.getD (k - 1) 0 := ⟨_, rfl⟩
      rw [← hd] at c
      have Hd := Lib.hid hd
      have t1 : decide (0 < k) = true := by rw [decide_eq_true_iff]; omega
      clear hd
      by_cases hz : d = 0
      · have t2 : ((d : Int) == 0) = true := by rw [beq_iff_eq]; omega
        have Hz := Lib.hid hz
        clear hz
        go_wp2
        go_round
        case rel =>
          refine ⟨k - 1, by omega, by go_num, ?_⟩
          rw [← He.out]
          have := wv_take_succ (ws := ws) (i := k - 1) (by rw [← Hn.out]; omega)
          rw [show k - 1 + 1 = k by omega, ← Hd.out, Hz.out] at this
          omega
        case measure => simp [intOf]; omega
      · have t2 : ((d : Int) == 0) = false := by rw [beq_eq_false_iff_ne]; omega
        go_wp2
        go_ret
        have := take_norm Hv.out.lt (k := k) (by rw [← Hn.out]; exact hk) He.out (.inr (by rw [← Hd.out]; exact hz))
        rw [← this.1]
        exact ⟨rfl, rfl⟩
theorem IsS.form {v : Value} (h : IsS v) : ∃ a n c, v = .slice a n c := by
  cases v <;> first | exact ⟨_, _, _, rfl⟩ | exact h.elim
@[go_sem] theorem match_S {v : Value} (h : IsS v) : Value.cells.match_1 (motive := fun _ => Array Value) v (fun cs => cs) (fun v => #[v]) = #[v] := by
  obtain ⟨a1, n1, c1, rfl⟩ := h.form
  rfl
theorem add_none (b o j : Nat) : (⟨b, o, none⟩ : Addr).add j = ⟨b, o + j, none⟩ := by
  unfold Addr.add
  split
  · rename_i h; simp_all
  · rfl
theorem wpList_copy_O {P : Program} {w : World} {ops : Array Oper} {rest : List Oper} {o : Oper} {a : Act} {Q : Exit → Act → World → Prop} (hgd : o.guard = none) (d s : Operand) (dT sT : TypeId)
    (ho : o.op = .call { callee := .builtin .copy, args := #[d, s], argTypes := #[dT, sT] }) (elem : TypeId) (hu : P.underlying dT = some (.slice elem)) (hsz : (P.info? elem).map (·.size) = some 1)
    (v vx : Value) (hd : a.eval d = v) (hs : a.eval s = vx) (B : Nat) (xs : List Value) (hown : Own w B elem v xs) (cs : List Value) (hlen : cs.length = xs.length) (hsx : IsS vx) (hlx : sLen vx = cs.length)
    (hsrc : ∀ j u, cs[j]? = some u → w.cell? ⟨sBlk vx, sOff vx + j, none⟩ = some u) (h1 : ∀ v ∈ cs, v.oneCell' = true)
    (h : ∀ w', Own w' B elem v cs → Below B w w' → Only (sBlk v) w w' → wpList P ops Q rest (a.put o.dst (goInt cs.length)) w') : wpList P ops Q (o :: rest) a w := by
  have hL := hown.len
  have hC := hown.isS.le
  have hCx := hsx.le
  by_cases h0 : cs.length = 0
  · obtain rfl : cs = [] := List.eq_nil_of_length_eq_zero h0
    obtain rfl : xs = [] := List.eq_nil_of_length_eq_zero (by simpa using hlen.symm)
    obtain ⟨p, n, c, rfl⟩ := hown.isS.form
    obtain ⟨p', n', c', rfl⟩ := hsx.form
    have hn : n = 0 := by simpa [sLen] using hL
    subst hn
    exact wpList_copy_nothing hgd d s dT sT ho elem hu hsz p p' 0 c n' c' hd hs (by simp) (h w hown (Below.refl _ _) (Only.refl _ _))
  · rcases hown.row with hr | ⟨hb, cur, hg, hcs, ht⟩
    · omega
    · have hv := hown.isS.out (by omega)
      have hvx := hsx.out (by omega)
      refine wpList_copy_own hgd d s dT sT ho elem hu hsz (sBlk v) (sOff v) (sLen v) (sCap v) ⟨sBlk vx, sOff vx, none⟩ (sLen vx) (sCap vx) (hd.trans hv) (hs.trans hvx) cur elem hg cs (by rw [hlx, hL, hlen]; simp) (fun j u hj => by rw [add_none]; exact hsrc j u hj) (by omega) h1 ?_
      refine h _ ⟨hown.isS, by omega, hown.cap, .inr ⟨hb, _, setRow_heap w _ _ _ _ _ hg, ?_, ?_⟩⟩ (below_setRow (Below.refl _ _) hb _) (fun k hk hne => setRow_other w _ k _ hne)
      · simp; omega
      · have e1 : cur.toList.take (sOff v) ++ (cs ++ cur.toList.drop (sOff v + cs.length)) = laid cur.toList (sOff v) cs := by simp [laid]
        rw [e1]
        have hlt : (cur.toList.take (sOff v)).length = sOff v := by simp; omega
        rw [laid, List.append_assoc, List.drop_left' hlt, List.take_left' rfl]
theorem Own.grow {w : World} {B : Nat} {e : TypeId} {v : Value} {xs : List Value} (h : Own w B e v xs) {n : Nat} (hn : n ≤ sCap v) : ∃ ys, ys.length = n ∧ Own w B e (subS v 0 n) ys := by
  have hc2 := h.cap
  rcases h.row with h0 | ⟨hb, cur, hg, hsz, ht⟩
  · refine ⟨[], by simp; omega, subS_isS h.isS (Nat.zero_le _) hn, by rw [subS_len h.isS]; simp; omega, by rw [subS_cap h.isS]; omega, .inl (by rw [subS_cap h.isS]; omega)⟩
  · have hl : ((cur.toList.drop (sOff v)).take n).length = n := by simp; omega
    refine ⟨(cur.toList.drop (sOff v)).take n, hl, subS_isS h.isS (Nat.zero_le _) hn, by rw [subS_len h.isS, hl]; omega, by rw [subS_cap h.isS]; omega, .inr ⟨?_, cur, ?_, ?_, ?_⟩⟩
    · rw [subS_blk h.isS]; exact hb
    · rw [subS_blk h.isS]; exact hg
    · rw [subS_off0 h.isS, subS_cap h.isS]; omega
    · rw [subS_off0 h.isS, hl]
set_option maxRecDepth 100000 in
theorem make_nil (n : Nat) (w : World) (hn : n ≤ 1000000000) :
    Calls Tryz.prog 152 #[.slice none 0 0, .int .i64 n] w fun e w' => ∃ v, e = .returned v ∧ Own w' w.heap.size 116 v (List.replicate n (.int .u64 0)) ∧ Below w.heap.size w w' ∧ (0 < n → 0 < sCap v) := by
  have hS := IsS.nil
  by_cases h0 : n = 0
  · subst h0
    go_enter Tryz.func152, Tryz.ntmps152
    go_wp2
    go_ret
    exact ⟨_, rfl, Own.nil _ _ _, Below.refl _ _, by simp⟩
  · have t1 : decide (n ≤ 0) = false := by rw [decide_eq_false_iff_not]; omega
    have t1' : decide ((n : Int) ≤ 0) = false := by rw [decide_eq_false_iff_not]; omega
    by_cases h1 : n = 1
    · subst h1
      go_enter Tryz.func152, Tryz.ntmps152
      go_wp2_with (at_make; refine wpList_make_O rfl _ _ _ rfl elemT .i64 .i64 _ _ rfl rfl w.heap.size ?c1 ?c2 ?c3 ?c4 ?c5 ?_)
      case c1 => omega
      case c2 => omega
      case c3 => omega
      case c4 => omega
      case c5 => exact Nat.le_refl _
      rintro v w1 rfl ho hb hz
      go_wp2
      go_ret
      exact ⟨.slice (some ⟨w.heap.size, 0, none⟩) 1 1, rfl, ho, hb, fun _ => by rw [sCap_mk]; decide⟩
    · have t2 : ((n : Int) == 1) = false := by rw [beq_eq_false_iff_ne]; omega
      have Hh := Lib.hid h0
      clear h0 h1
      go_enter Tryz.func152, Tryz.ntmps152
      go_wp2_with (at_make; refine wpList_make_O rfl _ _ _ rfl elemT .i64 .i64 _ _ rfl rfl w.heap.size ?c1 ?c2 ?c3 ?c4 ?c5 ?_)
      case c1 => omega
      case c2 => omega
      case c3 => omega
      case c4 => omega
      case c5 => exact Nat.le_refl _
      rintro v w1 rfl ho hb hz
      go_wp2
      go_ret
      exact ⟨.slice (some ⟨w.heap.size, 0, none⟩) n ((n : Int) + 4).toNat, rfl, by simpa using ho, hb, fun _ => by rw [sCap_mk]; omega⟩
theorem cellsW_one (ws : List Nat) : ∀ v ∈ cellsW ws, v.oneCell' = true := by
  intro v hv
  obtain ⟨d, _, rfl⟩ := List.mem_map.1 hv
  rfl
theorem RW.at {w : World} {v : Value} {ds : List Nat} (h : RW w v ds) : ∀ j u, (cellsW ds)[j]? = some u → w.cell? ⟨sBlk v, sOff v + j, none⟩ = some u := by
  intro j u hj
  have hlt : j < ds.length := by have := (List.getElem?_eq_some_iff.1 hj).1; rwa [cellsW_length] at this
  rw [h.cell j hlt]
  simp only [cellsW, List.getElem?_map, Option.map_eq_some_iff] at hj
  obtain ⟨x, hx, rfl⟩ := hj
  rw [List.getD_eq_getElem?_getD, hx]; rfl
theorem sizeW : (Tryz.prog.info? 116).map (·.size) = some 1 := by kernel_rfl
set_option maxRecDepth 100000 in
theorem set_nil (v : Value) (ws : List Nat) (w : World) (hv : RW w v ws) (hl : ws.length ≤ 1000000000) :
    Calls Tryz.prog 135 #[.slice none 0 0, v] w fun e w' => ∃ r, e = .returned r ∧ Own w' w.heap.size 116 r (cellsW ws) ∧ Below w.heap.size w w' := by
  have hS := hv.isS
  have hL := hv.len
  have Hv := Lib.hid hv
  clear hv
  go_enter Tryz.func135, Tryz.ntmps135
  go_wp2_with fail
  refine (make_nil ws.length w hl).mono ?_
  rintro _ w1 ⟨r, rfl, ho, hb, -⟩
  have hSr := ho.isS
  have hLr : sLen r = ws.length := by rw [ho.len]; simp
  have HO := Lib.hid ho
  clear ho
  go_wp2_with (refine wpList_copy_O (o := ⟨some 11, _, _, _, _, _⟩) rfl (.tmp 9) (.tmp 10) 108 108 rfl 116 Tryz.underlying108 sizeW _ _ rfl rfl w.heap.size (List.replicate ws.length (.int .u64 0)) HO.out (cellsW ws) ?d1 hS ?d2 ?d3 (cellsW_one ws) ?_)
  case d1 => rw [cellsW_length]; simp
  case d2 => rw [cellsW_length]; exact hL
  case d3 => exact (Hv.out.below hb).at
  intro w2 ho2 hb2 _
  go_wp2
  go_ret
  exact ⟨_, rfl, ho2, hb.trans hb2⟩
set_option maxRecDepth 100000 in
theorem setWord_nil (d : Nat) (w : World) (h0 : 0 < d) (hd : d < 18446744073709551616) :
    Calls Tryz.prog 115 #[.slice none 0 0, .int .u64 d] w fun e w' => ∃ r, e = .returned r ∧ Own w' w.heap.size 116 r (cellsW [d]) ∧ Below w.heap.size w w' := by
  have t1 : ((d : Int) == 0) = false := by rw [beq_eq_false_iff_ne]; omega
  have HD := Lib.hid hd
  clear hd
  go_enter Tryz.func115, Tryz.ntmps115
  go_wp2_with fail
  refine (make_nil 1 w (by decide)).mono ?_
  rintro _ w1 ⟨r, rfl, ho, hb, hc⟩
  have hSr := ho.isS
  have hLr : sLen r = 1 := by rw [ho.len]; simp
  have hcap := hc (by decide)
  have fz := ho.frozen hcap (sOff r)
  have ce := ho.cell (i := 0) (u := .int .u64 0) rfl
  have hset := ho.set (i := 0) (by decide) (.int .u64 (d : Int))
  have hlt := (ho.lt hcap).1
  rw [Nat.add_zero] at hset ce
  have HS := Lib.hid hset
  have HC := Lib.hid hc
  clear hset ho hc
  go_wp2
  go_ret
  exact ⟨_, rfl, HS.out, bset hb hlt⟩
end Go.Proofs.YtllhnjpnkmjopaaGreatDoor
