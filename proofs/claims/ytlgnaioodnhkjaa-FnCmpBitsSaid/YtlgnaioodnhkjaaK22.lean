/-
Texts of this proof, joined: FdA FdC FcA FcB MsB. No condition.
-/
import Derived.Test.YtlgnaioodnhkjaaK15
import Derived.Test.YtlgnaioodnhkjaaK21
import Derived.Laws.BitsAllLaws
import Derived.Laws.FloatArith
import Derived.Laws.Externs
/-
Floats of the machine, in plain numbers: the nearest pattern of bits of a dyadic value. Plain law. No condition.
-/
namespace Go.Proofs.Ytlgnaioodnhkjaa
open Go.RowKit

/-- The unit of a value's last bit: k bits behind the leading one, the least unit L. -/
def btU (M : Nat) (E : Int) (k : Nat) (L : Int) : Int := max L (E + bl M - 1 - k)
/-- The magnitude in such units, to the nearest. -/
def btQ (n : Bool) (M : Nat) (E u : Int) : Nat := if u ≤ E then M * 2 ^ (E - u).toNat else ctQ 0 n M (u - E).toNat
def btA (n : Bool) (M : Nat) (E u : Int) : Int := if u ≤ E then 0 else ctA 0 n M (u - E).toNat
/-- Whether it is behind the greatest one; T is the exponent's field of infinity. -/
def btI (Q : Nat) (u : Int) (k : Nat) (L : Int) (T : Nat) : Bool := decide ((T : Int) - 1 ≤ u - L ∨ T * 2 ^ k ≤ (u - L).toNat * 2 ^ k + Q)
/-- The pattern without its sign. -/
def btV (n : Bool) (M : Nat) (E : Int) (k : Nat) (L : Int) (T : Nat) : Nat :=
  if btI (btQ n M E (btU M E k L)) (btU M E k L) k L T then T * 2 ^ k else (btU M E k L - L).toNat * 2 ^ k + btQ n M E (btU M E k L)
/-- The side. -/
def btS (n : Bool) (M : Nat) (E : Int) (k : Nat) (L : Int) (T : Nat) : Int :=
  if btI (btQ n M E (btU M E k L)) (btU M E k L) k L T then (if n then -1 else 1) else btA n M E (btU M E k L)
theorem bt_cut {n : Bool} {M k : Nat} {E L : Int} (hM : 0 < M) (hp : L + 1 ≤ E + bl M) :
    ∃ p : Nat, (p : Int) = E + bl M - btU M E k L ∧ 1 ≤ p ∧ p ≤ k + 1 ∧ deq (rQ p 0 n 0 M) (E + rk p M) (btQ n M E (btU M E k L)) (btU M E k L) ∧ rA p 0 n 0 M = btA n M E (btU M E k L) ∧
      0 < btQ n M E (btU M E k L) ∧ btQ n M E (btU M E k L) ≤ 2 ^ (k + 1) ∧ (btU M E k L = L ∨ 2 ^ k ≤ btQ n M E (btU M E k L)) := by
  have hb := bl_pos hM
  obtain ⟨u, hu⟩ : ∃ u, u = btU M E k L := ⟨_, rfl⟩
  have hu2 : u = max L (E + bl M - 1 - k) := hu
  rw [← hu]
  clear hu
  obtain ⟨p, hpp⟩ := Int.eq_ofNat_of_zero_le (show 0 ≤ E + bl M - u by omega)
  refine ⟨p, hpp.symm, by omega, by omega, ?_⟩
  by_cases h : u ≤ E
  · obtain ⟨k0, q0, a0⟩ := rQ_fits (p := p) (m := 0) n (show bl M ≤ p by omega)
    have e1 : btQ n M E u = M * 2 ^ (E - u).toNat := if_pos h
    have e2 : btA n M E u = 0 := if_pos h
    have hbl := bl_mul hM (E - u).toNat
    rw [← e1] at hbl
    have hpos : 0 < btQ n M E u := by rw [e1]; exact Nat.mul_pos hM (Nat.two_pow_pos _)
    refine ⟨?_, by rw [a0, e2], hpos, ?_, ?_⟩
    · rw [k0, q0, e1]
      have := (deq.shl M u (E - u).toNat).symm
      rw [show u + ((E - u).toNat : Int) = E + ((0 : Nat) : Int) by omega] at this
      exact this
    · exact Nat.le_of_lt (Nat.lt_of_lt_of_le (lt_bl _) (Nat.pow_le_pow_right (by decide) (by omega)))
    · by_cases hL : u = L
      · exact .inl hL
      · refine .inr (Nat.le_trans (Nat.pow_le_pow_right (by decide) (by omega)) (bl_ge hpos))
  · have hrk : rk p M = (u - E).toNat := by unfold rk; omega
    have e1 : btQ n M E u = rQ p 0 n 0 M := by rw [btQ, if_neg h, ← hrk]; rfl
    have e2 : btA n M E u = rA p 0 n 0 M := by rw [btA, if_neg h, ← hrk]; rfl
    have hlt : p < bl M := by unfold rk at hrk; omega
    obtain ⟨b1, -, b3⟩ := rQ_bound (m := 0) n 0 (show 0 < p by omega) hlt
    have hle : M / 2 ^ rk p M ≤ rQ p 0 n 0 M := Nat.le_add_right _ _
    rw [e1, e2]
    refine ⟨?_, rfl, rQ_pos n 0 (by omega) hM, Nat.le_trans b3 (Nat.pow_le_pow_right (by decide) (by omega)), ?_⟩
    · rw [show E + ((rk p M : Nat) : Int) = u by rw [hrk]; omega]; exact deq.refl _ _
    · by_cases hL : u = L
      · exact .inl hL
      · refine .inr (Nat.le_trans (Nat.pow_le_pow_right (by decide) (by omega)) (Nat.le_trans b1 hle))
/-- Below half of the least one: nothing. -/
theorem bt_low {n : Bool} {M k T : Nat} {E L : Int} (hM : 0 < M) (hp : E + bl M < L) (hT : 2 ≤ T) : btV n M E k L T = 0 ∧ btS n M E k L T = if n then 1 else -1 := by
  have hb := bl_pos hM
  have hu : btU M E k L = L := by unfold btU; omega
  have hlt := lt_bl M
  have hd : M / 2 ^ (L - E).toNat = 0 := Nat.div_eq_of_lt (Nat.lt_of_lt_of_le hlt (Nat.pow_le_pow_right (by decide) (by omega)))
  have hm : M % 2 ^ (L - E).toNat = M := Nat.mod_eq_of_lt (Nat.lt_of_lt_of_le hlt (Nat.pow_le_pow_right (by decide) (by omega)))
  have h2 : 2 * M < 2 ^ (L - E).toNat := by
    have h3 : 2 ^ (bl M + 1) ≤ 2 ^ (L - E).toNat := Nat.pow_le_pow_right (by decide) (by omega)
    rw [Nat.pow_succ] at h3
    omega
  have hl : lef (M % 2 ^ (L - E).toNat) (2 ^ (L - E).toNat) 0 = 1 := by
    rw [hm]; unfold lef; rw [if_neg (by omega), if_pos h2]
  have hU : ctU 0 n M (L - E).toNat = false := by
    unfold ctU; rw [hl]; unfold awy; simp
  have hQ : btQ n M E L = 0 := by
    unfold btQ; rw [if_neg (by omega)]; unfold ctQ; rw [hd, hU]; simp
  have hA : btA n M E L = if n then 1 else -1 := by
    unfold btA; rw [if_neg (by omega)]; unfold ctA; rw [hl, hU]; cases n <;> simp
  have hI : btI 0 L k L T = false := by
    unfold btI
    refine decide_eq_false ?_
    have hp2 := Nat.mul_le_mul_left 2 (Nat.two_pow_pos k)
    have hp3 := Nat.mul_le_mul_right (2 ^ k) hT
    rw [Int.sub_self]
    simp only [Int.toNat_zero, Nat.zero_mul, Nat.zero_add]
    omega
  unfold btV btS
  rw [hu, hQ, hA, hI]
  simp
/-- The pattern, off the exponent of the leading bit. -/
theorem bt_enc {Q k T : Nat} {u L : Int} (h0 : 0 < Q) (h1 : Q ≤ 2 ^ (k + 1)) (h2 : u = L ∨ 2 ^ k ≤ Q) (hL : L ≤ u) (hT : 2 ≤ T) :
    bl Q ≤ k + 2 ∧ (u + bl Q ≤ L + k → u = L ∧ btI Q u k L T = false ∧ bl Q ≤ k) ∧
    (L + k < u + bl Q → (btI Q u k L T = true ↔ T + L + k ≤ u + bl Q) ∧ k + 1 ≤ bl Q ∧
      (u - L).toNat * 2 ^ k + Q = (u + bl Q - L - k).toNat * 2 ^ k + (if bl Q = k + 1 then Q - 2 ^ k else 0)) := by
  have hp := Nat.two_pow_pos k
  rw [Nat.pow_succ] at h1
  have hb2 : bl Q ≤ k + 2 := bl_le (by rw [Nat.pow_succ, Nat.pow_succ]; omega)
  have hb1 : 2 ^ k ≤ Q → k + 1 ≤ bl Q := fun h => by
    have := (Nat.pow_lt_pow_iff_right (a := 2) (by decide)).1 (Nat.lt_of_le_of_lt h (lt_bl Q))
    omega
  have hb3 : bl Q = k + 2 → Q = 2 ^ k * 2 := fun h => by
    have := bl_ge h0
    rw [h, show k + 2 - 1 = k + 1 by omega, Nat.pow_succ] at this
    omega
  have hb4 : bl Q ≤ k + 1 → Q < 2 ^ k * 2 := fun h => by
    have := Nat.lt_of_lt_of_le (lt_bl Q) (Nat.pow_le_pow_right (show 0 < 2 by decide) h)
    rw [Nat.pow_succ] at this; exact this
  refine ⟨hb2, fun h => ?_, fun h => ?_⟩
  · have hu : u = L := by
      rcases h2 with h2 | h2
      · exact h2
      · have := hb1 h2; omega
    have hbk : bl Q ≤ k := by omega
    refine ⟨hu, ?_, hbk⟩
    unfold btI
    refine decide_eq_false ?_
    have h3 := Nat.lt_of_lt_of_le (lt_bl Q) (Nat.pow_le_pow_right (show 0 < 2 by decide) hbk)
    have hp3 := Nat.mul_le_mul_right (2 ^ k) hT
    rw [hu, Int.sub_self]
    simp only [Int.toNat_zero, Nat.zero_mul, Nat.zero_add]
    omega
  · have hk1 : k + 1 ≤ bl Q := by
      rcases h2 with h2 | h2
      · omega
      · exact hb1 h2
    obtain ⟨d, hd⟩ := Int.eq_ofNat_of_zero_le (show 0 ≤ u - L by omega)
    have hge : 2 ^ k ≤ Q := by
      have := bl_ge h0
      exact Nat.le_trans (Nat.pow_le_pow_right (by decide) (by omega)) this
    have hdt : (u - L).toNat = d := by omega
    rcases (by omega : bl Q = k + 1 ∨ bl Q = k + 2) with hb | hb
    · have hQ := hb4 (by omega)
      refine ⟨?_, by omega, ?_⟩
      · unfold btI
        rw [decide_eq_true_iff, hdt, hd]
        have hm : T ≤ d + 1 ↔ T * 2 ^ k ≤ (d + 1) * 2 ^ k := ⟨fun h => Nat.mul_le_mul_right _ h, fun h => Nat.le_of_mul_le_mul_right h hp⟩
        have hm2 : d + 2 ≤ T → (d + 2) * 2 ^ k ≤ T * 2 ^ k := fun h => Nat.mul_le_mul_right _ h
        rw [Nat.add_mul] at hm hm2
        omega
      · rw [if_pos hb, hdt, show (u + bl Q - L - k).toNat = d + 1 by omega, Nat.add_mul]
        omega
    · have hQ := hb3 hb
      refine ⟨?_, by omega, ?_⟩
      · unfold btI
        rw [decide_eq_true_iff, hdt, hd]
        have hm : T ≤ d + 2 ↔ T * 2 ^ k ≤ (d + 2) * 2 ^ k := ⟨fun h => Nat.mul_le_mul_right _ h, fun h => Nat.le_of_mul_le_mul_right h hp⟩
        rw [Nat.add_mul] at hm
        omega
      · rw [if_neg (by omega), hdt, show (u + bl Q - L - k).toNat = d + 2 by omega, Nat.add_mul]
        omega
/-- The top word of a value of few bits. -/
theorem top_word {ws : List Nat} {p Q : Nat} {x u : Int} (hg : Good ws p) (h : deq (wv ws) (x - 64 * (ws.length : Int)) Q u) (hQ : bl Q ≤ 64) :
    x = u + bl Q ∧ wv ws / 2 ^ (64 * (ws.length - 1)) = Q * 2 ^ (64 - bl Q) := by
  have h1 := h.bl hg.posv
  rw [hg.bl] at h1
  have hx : x = u + bl Q := by omega
  refine ⟨hx, ?_⟩
  have hl := hg.1
  have hQ0 := h.pos hg.posv
  obtain ⟨i, j, a1, a2⟩ := h
  have hj : j = (64 * ws.length - bl Q) + i := by omega
  rw [hj, Nat.pow_add, ← Nat.mul_assoc] at a1
  have a3 := Nat.eq_of_mul_eq_mul_right (Nat.two_pow_pos i) a1
  rw [a3, show 64 * ws.length - bl Q = (64 - bl Q) + 64 * (ws.length - 1) by omega, Nat.pow_add, ← Nat.mul_assoc]
  exact Nat.mul_div_cancel _ (Nat.two_pow_pos _)
end Go.Proofs.Ytlgnaioodnhkjaa

/-
The nearest pattern of bits of equal values; the pattern put together. Plain law. No condition.
-/
namespace Go.Proofs.Ytlgnaioodnhkjaa
open Go.RowKit

theorem bt_deq {n : Bool} {M N k : Nat} {E F L : Int} (hM : 0 < M) (h : deq M E N F) (hp : L + 1 ≤ E + bl M) :
    btU N F k L = btU M E k L ∧ btQ n N F (btU M E k L) = btQ n M E (btU M E k L) ∧ btA n N F (btU M E k L) = btA n M E (btU M E k L) := by
  have hN := h.pos hM
  have hb := h.bl hM
  have hU : btU N F k L = btU M E k L := by unfold btU; rw [show F + (bl N : Int) = E + bl M by omega]
  obtain ⟨p, p1, p2, p3, p4, p5, -⟩ := bt_cut (n := n) (k := k) hM hp
  obtain ⟨q, q1, q2, q3, q4, q5, -⟩ := bt_cut (n := n) (M := N) (E := F) (L := L) (k := k) hN (show L + 1 ≤ F + bl N by omega)
  rw [hU] at q1 q4 q5
  have : q = p := by omega
  subst this
  obtain ⟨d1, d2⟩ := rnd_deq (p := q) (m := 0) n hM h
  exact ⟨hU, (p4.symm.trans (d1.trans q4)).same.symm, by rw [← p5, ← q5, d2]⟩
theorem btV_deq {n : Bool} {M N k T : Nat} {E F L : Int} (hM : 0 < M) (h : deq M E N F) (hne : E + bl M ≠ L) (hT : 2 ≤ T) : btV n M E k L T = btV n N F k L T ∧ btS n M E k L T = btS n N F k L T := by
  have hN := h.pos hM
  have hb := h.bl hM
  by_cases hl : E + bl M < L
  · obtain ⟨a1, a2⟩ := bt_low (n := n) (k := k) hM hl hT
    obtain ⟨b1, b2⟩ := bt_low (n := n) (k := k) (M := N) (E := F) (L := L) hN (by omega) hT
    rw [a1, a2, b1, b2]; exact ⟨rfl, rfl⟩
  · obtain ⟨c1, c2, c3⟩ := bt_deq (n := n) (k := k) hM h (show L + 1 ≤ E + bl M by omega)
    unfold btV btS
    rw [c1, c2, c3]; exact ⟨rfl, rfl⟩
theorem btV_le {n : Bool} {M k T : Nat} {E L : Int} : btV n M E k L T ≤ T * 2 ^ k := by
  unfold btV
  by_cases h : btI (btQ n M E (btU M E k L)) (btU M E k L) k L T = true
  · rw [if_pos h]; exact Nat.le_refl _
  · rw [if_neg h]
    unfold btI at h
    rw [decide_eq_true_iff] at h
    omega
theorem btS_bd (n : Bool) (M k T : Nat) (E L : Int) : -1 ≤ btS n M E k L T ∧ btS n M E k L T ≤ 1 := by
  unfold btS btA ctA
  repeat' split
  all_goals omega

/-- What the code comes to: behind rounding the number is Q times 2 to u. -/
theorem f64_parts {n : Bool} {M : Nat} {E : Int} (hM : 0 < M) (hp : (-1073) ≤ E + bl M) :
    ∃ (p Q : Nat) (u : Int), (p : Int) = E + bl M - u ∧ 1 ≤ p ∧ p ≤ 53 ∧ ((-1073) ≤ E + bl M → E + bl M ≤ (-1022) → (p : Int) = E + bl M + 1074) ∧ ((-1022) < E + bl M → p = 53) ∧
      deq (rQ p 0 n 0 M) (E + rk p M) Q u ∧ 0 < Q ∧ bl Q ≤ 54 ∧ 
      ((u + bl Q ≤ (-1022) ∧ u = -1074 ∧ bl Q ≤ 52 ∧ btV n M E 52 (-1074) 2047 = Q ∧ btS n M E 52 (-1074) 2047 = rA p 0 n 0 M) ∨
       ((-1022) < u + bl Q ∧ u + bl Q ≤ 1024 ∧ 53 ≤ bl Q ∧ btV n M E 52 (-1074) 2047 = (u + bl Q - (-1022)).toNat * 4503599627370496 + (if bl Q = 53 then Q - 4503599627370496 else 0) ∧ (bl Q = 53 → Q < 9007199254740992 ∧ 4503599627370496 ≤ Q) ∧ (bl Q = 54 → Q = 9007199254740992) ∧ btS n M E 52 (-1074) 2047 = rA p 0 n 0 M) ∨
       (1024 < u + bl Q ∧ btV n M E 52 (-1074) 2047 = 9218868437227405312 ∧ btS n M E 52 (-1074) 2047 = if n then -1 else 1)) := by
  obtain ⟨p, p1, p2, p3, p4, p5, p6, p7, p8⟩ := bt_cut (n := n) (k := 52) (E := E) (L := -1074) hM (show (-1074 : Int) + 1 ≤ E + bl M by omega)
  obtain ⟨u, hu⟩ : ∃ u, u = btU M E 52 (-1074) := ⟨_, rfl⟩
  have hu2 : u = max (-1074) (E + bl M - 1 - 52) := hu
  have hb := bl_pos hM
  rw [← hu] at p1 p4 p5 p6 p7 p8
  obtain ⟨Q, hQ⟩ : ∃ Q, Q = btQ n M E u := ⟨_, rfl⟩
  rw [← hQ] at p4 p6 p7 p8
  obtain ⟨e1, e2, e3⟩ := bt_enc (T := 2047) p6 p7 p8 (show -1074 ≤ u by omega) (by decide)
  refine ⟨p, Q, u, p1, p2, p3, fun _ _ => by omega, fun _ => by omega, p4, p6, e1, ?_⟩
  have hV : btV n M E 52 (-1074) 2047 = if btI Q u 52 (-1074) 2047 then 2047 * 2 ^ 52 else (u - (-1074)).toNat * 2 ^ 52 + Q := by rw [hQ, hu]; rfl
  have hS : btS n M E 52 (-1074) 2047 = if btI Q u 52 (-1074) 2047 then (if n then -1 else 1) else btA n M E u := by rw [hQ, hu]; rfl
  rw [hV, hS, p5]
  by_cases h1 : u + bl Q ≤ (-1022)
  · obtain ⟨a1, a2, a3⟩ := e2 (by omega)
    refine .inl ⟨h1, a1, a3, ?_, ?_⟩
    · rw [a2, if_neg (by decide), a1, Int.sub_self]; simp
    · rw [a2, if_neg (by decide)]
  · obtain ⟨a1, a2, a3⟩ := e3 (by omega)
    by_cases h2 : u + bl Q ≤ 1024
    · have hI : btI Q u 52 (-1074) 2047 = false := by
        cases hc : btI Q u 52 (-1074) 2047
        · rfl
        · have := a1.1 hc; omega
      refine .inr (.inl ⟨by omega, h2, a2, ?_, fun h => ?_, fun h => ?_, ?_⟩)
      · rw [hI, if_neg (by decide), a3, show u + (bl Q : Int) - (-1074) - (52 : Nat) = u + bl Q - (-1022) by omega, show (2 : Nat) ^ 52 = 4503599627370496 from rfl]
      · have h3 := lt_bl Q
        have h4 := bl_ge p6
        rw [h] at h3 h4
        exact ⟨h3, h4⟩
      · have h4 := bl_ge p6
        rw [h] at h4
        have h5 : (2 : Nat) ^ (54 - 1) = 9007199254740992 := rfl
        have h6 : (2 : Nat) ^ (52 + 1) = 9007199254740992 := rfl
        omega
      · rw [hI, if_neg (by decide)]
    · have hI : btI Q u 52 (-1074) 2047 = true := a1.2 (by omega)
      refine .inr (.inr ⟨by omega, ?_, ?_⟩)
      · rw [hI, if_pos rfl]
      · rw [hI, if_pos rfl]
theorem f64_or {S g m : Nat} (hS : S = 0 ∨ S = 9223372036854775808) (hg : g < 2048) (hm : m < 4503599627370496) : bits .or .u64 ((S : Nat) : Int) ((g * 4503599627370496 : Nat) : Int) = ((S + g * 4503599627370496 : Nat) : Int) ∧ bits .or .u64 ((S + g * 4503599627370496 : Nat) : Int) ((m : Nat) : Int) = ((S + g * 4503599627370496 + m : Nat) : Int) := by
  rw [u64_or_nat _ _ (by omega) (by omega), u64_or_nat _ _ (by omega) (by omega), Nat.or_comm S, nat_join 52 (S + g * 4503599627370496) m (by omega) (by omega)]
  constructor
  · rcases hS with rfl | rfl
    · rw [Nat.or_zero]; simp
    · rw [Nat.or_comm, nat_join 63 9223372036854775808 (g * 4503599627370496) (by decide) (by omega)]
  · rfl
/-- What the code comes to: behind rounding the number is Q times 2 to u. -/
theorem f32_parts {n : Bool} {M : Nat} {E : Int} (hM : 0 < M) (hp : (-148) ≤ E + bl M) :
    ∃ (p Q : Nat) (u : Int), (p : Int) = E + bl M - u ∧ 1 ≤ p ∧ p ≤ 24 ∧ ((-148) ≤ E + bl M → E + bl M ≤ (-126) → (p : Int) = E + bl M + 149) ∧ ((-126) < E + bl M → p = 24) ∧
      deq (rQ p 0 n 0 M) (E + rk p M) Q u ∧ 0 < Q ∧ bl Q ≤ 25 ∧ 
      ((u + bl Q ≤ (-126) ∧ u = -149 ∧ bl Q ≤ 23 ∧ btV n M E 23 (-149) 255 = Q ∧ btS n M E 23 (-149) 255 = rA p 0 n 0 M) ∨
       ((-126) < u + bl Q ∧ u + bl Q ≤ 128 ∧ 24 ≤ bl Q ∧ btV n M E 23 (-149) 255 = (u + bl Q - (-126)).toNat * 8388608 + (if bl Q = 24 then Q - 8388608 else 0) ∧ (bl Q = 24 → Q < 16777216 ∧ 8388608 ≤ Q) ∧ (bl Q = 25 → Q = 16777216) ∧ btS n M E 23 (-149) 255 = rA p 0 n 0 M) ∨
       (128 < u + bl Q ∧ btV n M E 23 (-149) 255 = 2139095040 ∧ btS n M E 23 (-149) 255 = if n then -1 else 1)) := by
  obtain ⟨p, p1, p2, p3, p4, p5, p6, p7, p8⟩ := bt_cut (n := n) (k := 23) (E := E) (L := -149) hM (show (-149 : Int) + 1 ≤ E + bl M by omega)
  obtain ⟨u, hu⟩ : ∃ u, u = btU M E 23 (-149) := ⟨_, rfl⟩
  have hu2 : u = max (-149) (E + bl M - 1 - 23) := hu
  have hb := bl_pos hM
  rw [← hu] at p1 p4 p5 p6 p7 p8
  obtain ⟨Q, hQ⟩ : ∃ Q, Q = btQ n M E u := ⟨_, rfl⟩
  rw [← hQ] at p4 p6 p7 p8
  obtain ⟨e1, e2, e3⟩ := bt_enc (T := 255) p6 p7 p8 (show -149 ≤ u by omega) (by decide)
  refine ⟨p, Q, u, p1, p2, p3, fun _ _ => by omega, fun _ => by omega, p4, p6, e1, ?_⟩
  have hV : btV n M E 23 (-149) 255 = if btI Q u 23 (-149) 255 then 255 * 2 ^ 23 else (u - (-149)).toNat * 2 ^ 23 + Q := by rw [hQ, hu]; rfl
  have hS : btS n M E 23 (-149) 255 = if btI Q u 23 (-149) 255 then (if n then -1 else 1) else btA n M E u := by rw [hQ, hu]; rfl
  rw [hV, hS, p5]
  by_cases h1 : u + bl Q ≤ (-126)
  · obtain ⟨a1, a2, a3⟩ := e2 (by omega)
    refine .inl ⟨h1, a1, a3, ?_, ?_⟩
    · rw [a2, if_neg (by decide), a1, Int.sub_self]; simp
    · rw [a2, if_neg (by decide)]
  · obtain ⟨a1, a2, a3⟩ := e3 (by omega)
    by_cases h2 : u + bl Q ≤ 128
    · have hI : btI Q u 23 (-149) 255 = false := by
        cases hc : btI Q u 23 (-149) 255
        · rfl
        · have := a1.1 hc; omega
      refine .inr (.inl ⟨by omega, h2, a2, ?_, fun h => ?_, fun h => ?_, ?_⟩)
      · rw [hI, if_neg (by decide), a3, show u + (bl Q : Int) - (-149) - (23 : Nat) = u + bl Q - (-126) by omega, show (2 : Nat) ^ 23 = 8388608 from rfl]
      · have h3 := lt_bl Q
        have h4 := bl_ge p6
        rw [h] at h3 h4
        exact ⟨h3, h4⟩
      · have h4 := bl_ge p6
        rw [h] at h4
        have h5 : (2 : Nat) ^ (25 - 1) = 16777216 := rfl
        have h6 : (2 : Nat) ^ (23 + 1) = 16777216 := rfl
        omega
      · rw [hI, if_neg (by decide)]
    · have hI : btI Q u 23 (-149) 255 = true := a1.2 (by omega)
      refine .inr (.inr ⟨by omega, ?_, ?_⟩)
      · rw [hI, if_pos rfl]
      · rw [hI, if_pos rfl]
theorem f32_or {S g m : Nat} (hS : S = 0 ∨ S = 2147483648) (hg : g < 256) (hm : m < 8388608) : bits .or .u32 ((S : Nat) : Int) ((g * 8388608 : Nat) : Int) = ((S + g * 8388608 : Nat) : Int) ∧ bits .or .u32 ((S + g * 8388608 : Nat) : Int) ((m : Nat) : Int) = ((S + g * 8388608 + m : Nat) : Int) := by
  rw [u32_or_nat _ _ (by omega) (by omega), u32_or_nat _ _ (by omega) (by omega), Nat.or_comm S, nat_join 23 (S + g * 8388608) m (by omega) (by omega)]
  constructor
  · rcases hS with rfl | rfl
    · rw [Nat.or_zero]; simp
    · rw [Nat.or_comm, nat_join 31 2147483648 (g * 8388608) (by decide) (by omega)]
  · rfl
end Go.Proofs.Ytlgnaioodnhkjaa

/-
Floats of the machine: their patterns of bits, order, and a product by a power of 2. Plain law. No condition.
-/
namespace Go.Proofs.Ytlgnaioodnhkjaa
open Go.RowKit

/-- The value of the pattern of bits of a float64 that is finite: sign, magnitude, exponent. -/
def obN (b : Nat) : Bool := decide (9223372036854775808 ≤ b)
def obM (b : Nat) : Nat := if b % 9223372036854775808 < 4503599627370496 then b % 9223372036854775808 else 4503599627370496 + b % 4503599627370496
def obE (b : Nat) : Int := ((b % 9223372036854775808 / 4503599627370496 - 1 : Nat) : Int) - 1074
/-- Finite. -/
def obF (b : Nat) : Prop := b % 9223372036854775808 < 9218868437227405312
theorem obE_bd {b : Nat} (h : obF b) : -1074 ≤ obE b ∧ obE b ≤ 971 := by unfold obF at h; unfold obE; omega
theorem obM_bd (b : Nat) : obM b ≤ 9007199254740991 := by unfold obM; split <;> omega
theorem dbl_sw : Ieee.double.signWeight = 9223372036854775808 := by decide
theorem dbl_bn : Ieee.double.binade = 4503599627370496 := by decide
theorem dbl_inf : Ieee.double.infRung = 9218868437227405312 := by decide
theorem dbl_lp : Ieee.double.leastPlace = -1074 := by decide
theorem read_fin {b : Nat} (hb : b < 18446744073709551616) (h : obF b) : Ieee.double.read b = .number (obN b) (obM b) (obE b) := by
  unfold obF at h
  have hn : (b / 9223372036854775808 % 2 == 1) = obN b := by
    unfold obN
    by_cases hc : 9223372036854775808 ≤ b
    · rw [decide_eq_true hc, show b / 9223372036854775808 % 2 = 1 by omega]; rfl
    · rw [decide_eq_false hc, show b / 9223372036854775808 % 2 = 0 by omega]; rfl
  unfold Ieee.Format.read
  simp only [dbl_sw, dbl_bn, dbl_inf, dbl_lp]
  rw [hn]
  by_cases h1 : b % 9223372036854775808 < 4503599627370496
  · rw [if_pos h1]
    unfold obM obE
    rw [if_pos h1, show b % 9223372036854775808 / 4503599627370496 - 1 = 0 by omega]
    rfl
  · rw [if_neg h1, if_pos h]
    unfold obM obE
    rw [if_neg h1, show b % 9223372036854775808 % 4503599627370496 = b % 4503599627370496 by omega]
    congr 1
theorem read_inf {b : Nat} (hb : b < 18446744073709551616) (h : b % 9223372036854775808 = 9218868437227405312) : Ieee.double.read b = .infinity (obN b) := by
  have hn : (b / 9223372036854775808 % 2 == 1) = obN b := by
    unfold obN
    by_cases hc : 9223372036854775808 ≤ b
    · rw [decide_eq_true hc, show b / 9223372036854775808 % 2 = 1 by omega]; rfl
    · rw [decide_eq_false hc, show b / 9223372036854775808 % 2 = 0 by omega]; rfl
  unfold Ieee.Format.read
  simp only [dbl_sw, dbl_bn, dbl_inf, dbl_lp]
  rw [hn, if_neg (by omega), if_neg (by omega), if_pos h]
theorem icmp (a b : Int) : compare a b = if a < b then Ordering.lt else if a = b then Ordering.eq else Ordering.gt := rfl
theorem sgn_nat (n : Bool) (m k : Nat) : Ieee.signed n m k = if n then -((m * 2 ^ k : Nat) : Int) else ((m * 2 ^ k : Nat) : Int) := by
  unfold Ieee.signed; rw [Nat.shiftLeft_eq]
theorem f64_fmt : FloatKind.f64.format = Ieee.double := rfl
theorem ord_self {b : Nat} (hb : b < 18446744073709551616) (h : obF b ∨ b % 9223372036854775808 = 9218868437227405312) : (FloatKind.f64.format.order b b != some .eq) = false := by
  rw [f64_fmt]
  unfold Ieee.Format.order
  rcases h with h | h
  · rw [read_fin hb h]
    simp [Ieee.Datum.order]
  · rw [read_inf hb h]
    cases obN b <;> rfl
theorem ord_zero {b : Nat} (hb : b < 18446744073709551616) (h : obF b) : (FloatKind.f64.format.order b 0 == some .eq) = decide (obM b = 0) := by
  rw [f64_fmt]
  unfold Ieee.Format.order
  have h0 : Ieee.double.read 0 = .number false 0 (-1074) := by decide
  have hE := obE_bd h
  rw [read_fin hb h, h0]
  simp only [Ieee.Datum.order]
  rw [Int.min_eq_right hE.1, Int.sub_self, icmp, sgn_nat, sgn_nat]
  simp only [Nat.zero_mul, Bool.false_eq_true, if_false]
  have hp := Nat.two_pow_pos (obE b - -1074).toNat
  by_cases hM : obM b = 0
  · rw [hM, Nat.zero_mul]; simp
  · have hpos : 0 < obM b * 2 ^ (obE b - -1074).toNat := Nat.mul_pos (by omega) hp
    rw [decide_eq_false hM]
    cases obN b
    · simp only [Bool.false_eq_true, if_false]
      rw [if_neg (by omega), if_neg (by omega)]; rfl
    · simp only [if_true]
      rw [if_pos (by omega)]; rfl
theorem ord_zero_inf {b : Nat} (hb : b < 18446744073709551616) (h : b % 9223372036854775808 = 9218868437227405312) : (FloatKind.f64.format.order b 0 == some .eq) = false := by
  rw [f64_fmt]
  unfold Ieee.Format.order
  have h0 : Ieee.double.read 0 = .number false 0 (-1074) := by decide
  rw [read_inf hb h, h0]
  cases obN b <;> rfl
/-- A magnitude that is finite is not above the greatest one. -/
theorem ord_max {r : Nat} (h : r < 9218868437227405312) : (FloatKind.f64.format.order r 9218868437227405311 == some .gt) = false := by
  have hr : r % 9223372036854775808 = r := Nat.mod_eq_of_lt (by omega)
  have hf : obF r := by unfold obF; omega
  have h0 : Ieee.double.read 9218868437227405311 = .number false 9007199254740991 971 := by decide
  have hE := obE_bd hf
  have hM := obM_bd r
  have hn : obN r = false := decide_eq_false (by omega)
  rw [f64_fmt]
  unfold Ieee.Format.order
  rw [read_fin (by omega) hf, h0]
  simp only [Ieee.Datum.order]
  rw [Int.min_eq_left hE.2, Int.sub_self, icmp, sgn_nat, sgn_nat, hn]
  simp only [Bool.false_eq_true, if_false, Int.toNat_zero, Nat.pow_zero, Nat.mul_one]
  have hp : 1 ≤ 2 ^ (971 - obE r).toNat := Nat.two_pow_pos _
  have hle := Nat.mul_le_mul_left 9007199254740991 hp
  by_cases h1 : (obM r : Int) < ((9007199254740991 * 2 ^ (971 - obE r).toNat : Nat) : Int)
  · rw [if_pos h1]; rfl
  · rw [if_neg h1, if_pos (by omega)]; rfl
theorem ord_max_inf : (FloatKind.f64.format.order 9218868437227405312 9218868437227405311 == some .gt) = true := by decide
/-- A magnitude against the least one with all of its bits. -/
theorem ord_min {r : Nat} (h : r < 9218868437227405312) : (FloatKind.f64.format.order r 4503599627370496 == some .lt) = decide (r < 4503599627370496) := by
  have hr : r % 9223372036854775808 = r := Nat.mod_eq_of_lt (by omega)
  have hf : obF r := by unfold obF; omega
  have h0 : Ieee.double.read 4503599627370496 = .number false 4503599627370496 (-1074) := by decide
  have hE := obE_bd hf
  have hn : obN r = false := decide_eq_false (by omega)
  rw [f64_fmt]
  unfold Ieee.Format.order
  rw [read_fin (by omega) hf, h0]
  simp only [Ieee.Datum.order]
  rw [Int.min_eq_right hE.1, Int.sub_self, icmp, sgn_nat, sgn_nat, hn]
  simp only [Bool.false_eq_true, if_false, Int.toNat_zero, Nat.pow_zero, Nat.mul_one]
  have hp : 1 ≤ 2 ^ (obE r - -1074).toNat := Nat.two_pow_pos _
  have hle := Nat.mul_le_mul_left (obM r) hp
  by_cases h1 : r < 4503599627370496
  · have hM : obM r = r := by unfold obM; rw [hr, if_pos h1]
    have hE0 : (obE r - -1074).toNat = 0 := by unfold obE; omega
    rw [hE0, Nat.pow_zero, Nat.mul_one, hM, if_pos (by omega), decide_eq_true h1]; rfl
  · have hM : 4503599627370496 ≤ obM r := by unfold obM; rw [hr, if_neg h1]; omega
    rw [if_neg (by omega), decide_eq_false h1]
    split <;> rfl
theorem log2_bl {n : Nat} (h : 0 < n) : n.log2 + 1 = bl n := by unfold bl; rw [if_neg (by omega)]
/-- A number below the least one with all of its bits, times 2 to 52. -/
theorem mul_sub {b : Nat} (hb : b < 18446744073709551616) (h0 : 0 < b % 9223372036854775808) (h : b % 9223372036854775808 < 4503599627370496) :
    Ieee.double.mul b 4841369599423283200 = some ((if obN b then 9223372036854775808 else 0) + (bl (obM b) - 1) * 4503599627370496 + obM b * 2 ^ (53 - bl (obM b))) := by
  have hf : obF b := by unfold obF; omega
  have hC : Ieee.double.read 4841369599423283200 = .number false 4503599627370496 0 := by decide
  have hM : obM b = b % 9223372036854775808 := by unfold obM; rw [if_pos h]
  have hE : obE b = -1074 := by unfold obE; omega
  have hM0 : 0 < obM b := by omega
  have hM1 : obM b < 2 ^ 52 := by omega
  have hbl : bl (obM b) ≤ 52 := bl_le hM1
  have hbp := bl_pos hM0
  have hlg : (obM b * 4503599627370496).log2 = bl (obM b) + 51 := by
    have h1 := log2_bl (n := obM b * 4503599627370496) (by omega)
    have h2 := bl_mul hM0 52
    rw [show (2 : Nat) ^ 52 = 4503599627370496 from rfl] at h2
    omega
  unfold Ieee.Format.mul
  rw [read_fin hb hf, hC, hE]
  simp only [Ieee.Datum.product, Option.map_some, Ieee.Format.write, Bool.xor_false]
  congr 1
  unfold Ieee.Format.nearest
  rw [if_neg (by omega), hlg, dbl_lp, show Ieee.double.fractionBits = 52 from rfl, dbl_bn, dbl_inf]
  have hlast : max ((-1074 : Int) + 0 + ((bl (obM b) + 51 : Nat) : Int) - ((52 : Nat) : Int)) (-1074) = -1074 + ((bl (obM b) - 1 : Nat) : Int) := by omega
  simp only [hlast]
  rw [show ((-1074 : Int) + 0 - (-1074 + ((bl (obM b) - 1 : Nat) : Int))).toNat = 0 by omega, show ((-1074 : Int) + ((bl (obM b) - 1 : Nat) : Int) - (-1074 + 0)).toNat = bl (obM b) - 1 by omega, show ((-1074 : Int) + ((bl (obM b) - 1 : Nat) : Int) - -1074).toNat = bl (obM b) - 1 by omega, Nat.shiftLeft_zero]
  have hcut : Ieee.Toward.even.cut (obN b) (obM b * 4503599627370496) (bl (obM b) - 1) = obM b * 2 ^ (53 - bl (obM b)) := by
    unfold Ieee.Toward.cut
    rw [hlg, Nat.min_eq_left (by omega), Nat.shiftLeft_eq, Nat.one_mul]
    have e : obM b * 4503599627370496 = obM b * 2 ^ (53 - bl (obM b)) * 2 ^ (bl (obM b) - 1) := by
      rw [Nat.mul_assoc, ← Nat.pow_add, show 53 - bl (obM b) + (bl (obM b) - 1) = 52 by omega]
    have hp := Nat.two_pow_pos (bl (obM b) - 1)
    simp only
    rw [e, Nat.mul_div_cancel _ hp, Nat.mul_mod_left]
    have : (decide (2 ^ (bl (obM b) - 1) < 2 * 0) || (2 ^ (bl (obM b) - 1) == 2 * 0 && obM b * 2 ^ (53 - bl (obM b)) % 2 == 1)) = false := by
      rw [Nat.mul_zero, decide_eq_false (by omega), Bool.false_or, Bool.and_eq_false_iff]
      exact .inl (beq_eq_false_iff_ne.2 (by omega))
    rw [this]; rfl
  rw [hcut]
  have hlt : obM b * 2 ^ (53 - bl (obM b)) < 9007199254740992 := by
    have h1 := bl_mul hM0 (53 - bl (obM b))
    have h2 := lt_bl (obM b * 2 ^ (53 - bl (obM b)))
    rw [h1, show bl (obM b) + (53 - bl (obM b)) = 53 by omega] at h2
    exact h2
  rw [Nat.min_eq_left (by omega)]
  unfold Ieee.Format.word
  rw [dbl_sw]
  split <;> omega
/-! ### The bits of a pattern -/
theorem two52 : (2 : Nat) ^ 52 = 4503599627370496 := rfl
theorem and_abs {b : Nat} (hb : b < 18446744073709551616) : bits .andNot .u64 (b : Int) 9223372036854775808 = ((b % 9223372036854775808 : Nat) : Int) := by
  rw [show (9223372036854775808 : Int) = ((9223372036854775808 : Nat) : Int) from rfl, u64_andNot_nat b _ hb (by decide), show (18446744073709551615 - 9223372036854775808 : Nat) = 2 ^ 63 - 1 from rfl, Nat.and_two_pow_sub_one_eq_mod]
theorem and_frac {b : Nat} (hb : b < 18446744073709551616) : bits .and .u64 (b : Int) 4503599627370495 = ((b % 4503599627370496 : Nat) : Int) := by
  rw [show (4503599627370495 : Int) = ((4503599627370495 : Nat) : Int) from rfl, bits_and_u64_nat b _ hb (by decide), show (4503599627370495 : Nat) = 2 ^ 52 - 1 from rfl, Nat.and_two_pow_sub_one_eq_mod]
theorem and_2047 {x : Nat} (hx : x < 18446744073709551616) : bits .and .u64 (x : Int) 2047 = ((x % 2048 : Nat) : Int) := by
  rw [show (2047 : Int) = ((2047 : Nat) : Int) from rfl, bits_and_u64_nat x _ hx (by decide), show (2047 : Nat) = 2 ^ 11 - 1 from rfl, Nat.and_two_pow_sub_one_eq_mod]
theorem and_pow (d t : Nat) : d &&& 2 ^ t = d / 2 ^ t % 2 * 2 ^ t := by
  apply Nat.eq_of_testBit_eq
  intro i
  rw [Nat.testBit_and, Nat.testBit_two_pow, Nat.mul_comm, Nat.testBit_two_pow_mul]
  by_cases hi : t = i
  · subst hi
    rw [Nat.testBit_eq_decide_div_mod_eq, Nat.sub_self, Nat.testBit_eq_decide_div_mod_eq, Nat.pow_zero, Nat.div_one, Nat.mod_mod]
    simp
  · simp only [hi, decide_false, Bool.and_false]
    by_cases h2 : t ≤ i
    · rw [Nat.testBit_lt_two_pow (show d / 2 ^ t % 2 < 2 ^ (i - t) from Nat.lt_of_lt_of_le (Nat.mod_lt _ (by decide)) (Nat.pow_le_pow_right (show 0 < 2 by decide) (show 1 ≤ i - t by omega)))]; simp
    · simp [h2]
/-- The exponent's field put to nothing. -/
theorem and_clear {b : Nat} (hb : b < 18446744073709551616) : bits .andNot .u64 (b : Int) 9218868437227405312 = (((if 9223372036854775808 ≤ b then 9223372036854775808 else 0) + b % 4503599627370496 : Nat) : Int) := by
  rw [show (9218868437227405312 : Int) = ((9218868437227405312 : Nat) : Int) from rfl, u64_andNot_nat b _ hb (by decide), show (18446744073709551615 - 9218868437227405312 : Nat) = 2 ^ 63 ||| (2 ^ 52 - 1) by decide, Nat.and_or_distrib_left, Nat.and_two_pow_sub_one_eq_mod, and_pow]
  congr 1
  by_cases h : 9223372036854775808 ≤ b
  · rw [if_pos h, two52, show b / 2 ^ 63 % 2 * 2 ^ 63 = 2 ^ 63 * 1 by omega, ← Nat.two_pow_add_eq_or_of_lt (show b % 4503599627370496 < 2 ^ 63 by omega)]
  · rw [if_neg h, two52, show b / 2 ^ 63 % 2 * 2 ^ 63 = 0 by omega, Nat.zero_or, Nat.zero_add]
theorem or_half {s f : Nat} (hs : s = 0 ∨ s = 9223372036854775808) (hf : f < 4503599627370496) : bits .or .u64 ((s + f : Nat) : Int) 4602678819172646912 = ((s + 4602678819172646912 + f : Nat) : Int) := by
  rw [show (4602678819172646912 : Int) = ((4602678819172646912 : Nat) : Int) from rfl, bits_or_u64_nat _ _ (by omega) (by decide)]
  congr 1
  have e : ∀ a : Nat, 2 ^ 52 * a + f = 2 ^ 52 * a ||| f := fun a => Nat.two_pow_add_eq_or_of_lt (by omega) a
  rcases hs with rfl | rfl
  · rw [Nat.zero_add, Nat.zero_add, Nat.or_comm, show (4602678819172646912 : Nat) = 2 ^ 52 * 1022 from rfl, ← e]
  · rw [show (9223372036854775808 : Nat) = 2 ^ 52 * 2048 from rfl, e, Nat.or_assoc, Nat.or_comm f, ← Nat.or_assoc, show 2 ^ 52 * 2048 ||| 4602678819172646912 = 2 ^ 52 * 3070 by decide, ← e]
theorem or_top {f : Nat} (hf : f < 4503599627370496) : bits .or .u64 9223372036854775808 ((f * 2048 : Nat) : Int) = ((9223372036854775808 + f * 2048 : Nat) : Int) := by
  rw [show (9223372036854775808 : Int) = ((9223372036854775808 : Nat) : Int) from rfl, bits_or_u64_nat _ _ (by decide) (by omega), show (9223372036854775808 : Nat) = 2 ^ 63 * 1 from rfl, ← Nat.two_pow_add_eq_or_of_lt (show f * 2048 < 2 ^ 63 by omega)]
end Go.Proofs.Ytlgnaioodnhkjaa

/-
math.Float64bits, Abs, IsNaN, Signbit, IsInf, Frexp of a float64. No condition.
-/
namespace Go.Proofs.Ytlgnaioodnhkjaa
open Go.RowKit

@[go_sem] theorem f64bits (b : Nat) (w : World) : (callFunc 45 #[.float .f64 b]).run Try.prog w = .ok (.value (.int .u64 (b : Int))) w := by
  rw [run_callFunc_extern Try.func45 (by kernel_rfl) (by kernel_rfl) (by kernel_rfl) (e := Extern.MathFloatBits.float64bits) (by kernel_rfl)]
  rfl
@[go_sem] theorem f64from (b : Nat) (w : World) : (callFunc 41 #[.int .u64 (b : Int)]).run Try.prog w = .ok (.value (.float .f64 b)) w := by
  rw [run_callFunc_extern Try.func41 (by kernel_rfl) (by kernel_rfl) (by kernel_rfl) (e := Extern.MathFloatBits.float64frombits) (by kernel_rfl)]
  rfl
set_option maxRecDepth 100000 in
theorem mAbs (b : Nat) (w : World) (hb : b < 18446744073709551616) :
    Calls Try.prog 113 #[.float .f64 b] w fun e w' => e = .returned (.float .f64 (b % 9223372036854775808)) ∧ w = w' := by
  have h1 := and_abs hb
  obtain ⟨r, hr⟩ : ∃ r, r = b % 9223372036854775808 := ⟨_, rfl⟩
  rw [← hr] at h1 ⊢
  clear hr
  go_enter Try.func113, Try.ntmps113
  go_wp2_with (simp only [f64bits, f64from])
  go_ret
  exact ⟨rfl, rfl⟩
set_option maxRecDepth 100000 in
theorem mIsNaN (b : Nat) (w : World) (hb : b < 18446744073709551616) (h : obF b ∨ b % 9223372036854775808 = 9218868437227405312) :
    Calls Try.prog 73 #[.float .f64 b] w fun e w' => e = .returned (.bool false) ∧ w = w' := by
  have h1 := ord_self hb h
  clear h
  go_enter Try.func73, Try.ntmps73
  go_wp2
  go_ret
  exact ⟨rfl, rfl⟩
theorem sgn_wrap {b : Nat} (hb : b < 18446744073709551616) : decide (wrap64 (b : Int) < 0) = obN b := by
  unfold obN wrap64
  by_cases h : 9223372036854775808 ≤ b
  · rw [decide_eq_true h]; exact decide_eq_true (by omega)
  · rw [decide_eq_false h]; exact decide_eq_false (by omega)
set_option maxRecDepth 100000 in
theorem mSignbit (b : Nat) (w : World) (hb : b < 18446744073709551616) :
    Calls Try.prog 74 #[.float .f64 b] w fun e w' => e = .returned (.bool (obN b)) ∧ w = w' := by
  have h1 := sgn_wrap hb
  obtain ⟨n, hn⟩ : ∃ n, n = obN b := ⟨_, rfl⟩
  rw [← hn] at h1 ⊢
  clear hn
  go_enter Try.func74, Try.ntmps74
  go_wp2_with (simp only [f64bits])
  go_ret
  refine ⟨?_, rfl⟩
  rw [← h1]
  rfl
set_option maxRecDepth 100000 in
theorem mIsInf (b : Nat) (r : Bool) (w : World) (hb : b < 18446744073709551616) (h : (FloatKind.f64.format.order (b % 9223372036854775808) 9218868437227405311 == some .gt) = r) :
    Calls Try.prog 75 #[.float .f64 b, .int .i64 0] w fun e w' => e = .returned (.bool r) ∧ w = w' := by
  have HA := Lib.hid (mAbs b w hb)
  obtain ⟨m, hm⟩ : ∃ m, m = b % 9223372036854775808 := ⟨_, rfl⟩
  rw [← hm] at h HA
  clear hm
  go_enter Try.func75, Try.ntmps75
  go_wp2_with fail
  refine HA.out.mono ?_
  rintro _ _ ⟨rfl, rfl⟩
  go_wp2
  go_ret
  exact ⟨rfl, rfl⟩
/-- The sign's bit of a pattern. -/
def obS (b : Nat) : Nat := if 9223372036854775808 ≤ b then 9223372036854775808 else 0
/-- A pattern's value with the first bit of the magnitude at its place: g its exponent's field, F its fraction, x0 how far it was shifted. -/
def Nrm (b g F : Nat) (x0 : Int) : Prop :=
  F < 4503599627370496 ∧ 1 ≤ g ∧ g ≤ 2046 ∧ 4503599627370496 + F = obM b * 2 ^ (53 - bl (obM b)) ∧ (g : Int) + x0 - 1022 = (bl (obM b) : Int) + obE b ∧ (x0 = 0 ∨ x0 = -52) ∧ bl (obM b) ≤ 53
theorem nrm_big {b : Nat} (hb : b < 18446744073709551616) (hf : obF b) (h : ¬ b % 9223372036854775808 < 4503599627370496) : Nrm b (b % 9223372036854775808 / 4503599627370496) (b % 4503599627370496) 0 ∧ b = obS b + b % 9223372036854775808 / 4503599627370496 * 4503599627370496 + b % 4503599627370496 := by
  unfold obF at hf
  have hM : obM b = 4503599627370496 + b % 4503599627370496 := by unfold obM; rw [if_neg h]
  have hbl : bl (obM b) = 53 := by
    rw [hM]; exact bl_of (k := 52) (by omega) (by omega)
  refine ⟨⟨by omega, by omega, by omega, by rw [hbl, hM]; simp, by rw [hbl]; unfold obE; omega, .inl rfl, by omega⟩, ?_⟩
  unfold obS; split <;> omega
theorem nrm_small {b : Nat} (h0 : 0 < b % 9223372036854775808) (h : b % 9223372036854775808 < 4503599627370496) :
    ∃ F, Nrm b (bl (obM b)) F (-52) ∧ (if obN b then 9223372036854775808 else 0) + (bl (obM b) - 1) * 4503599627370496 + obM b * 2 ^ (53 - bl (obM b)) = obS b + bl (obM b) * 4503599627370496 + F := by
  have hM : obM b = b % 9223372036854775808 := by unfold obM; rw [if_pos h]
  have hM0 : 0 < obM b := by omega
  have hbl : bl (obM b) ≤ 52 := bl_le (show obM b < 2 ^ 52 by omega)
  have hbp := bl_pos hM0
  have hlt : obM b * 2 ^ (53 - bl (obM b)) < 9007199254740992 ∧ 4503599627370496 ≤ obM b * 2 ^ (53 - bl (obM b)) := by
    have h1 := bl_mul hM0 (53 - bl (obM b))
    have h2 := lt_bl (obM b * 2 ^ (53 - bl (obM b)))
    have h3 := bl_ge (n := obM b * 2 ^ (53 - bl (obM b))) (Nat.mul_pos hM0 (Nat.two_pow_pos _))
    rw [h1, show bl (obM b) + (53 - bl (obM b)) = 53 by omega] at h2 h3
    exact ⟨h2, h3⟩
  refine ⟨obM b * 2 ^ (53 - bl (obM b)) - 4503599627370496, ⟨by omega, by omega, by omega, by omega, ?_, .inr rfl, by omega⟩, ?_⟩
  · unfold obE; omega
  · unfold obN obS
    by_cases hs : 9223372036854775808 ≤ b
    · rw [decide_eq_true hs, if_pos rfl, if_pos hs]; omega
    · rw [decide_eq_false hs, if_neg (by decide), if_neg hs]; omega
set_option maxRecDepth 100000 in
theorem mNormalize (b : Nat) (hb : b < 18446744073709551616) (hf : obF b) (h0 : 0 < b % 9223372036854775808) :
    ∃ g F x0, Nrm b g F x0 ∧ ∀ w, Calls Try.prog 134 #[.float .f64 b] w fun e w' => e = .returned (.tuple #[.float .f64 (obS b + g * 4503599627370496 + F), .int .i64 x0]) ∧ w = w' := by
  have hmin := ord_min (r := b % 9223372036854775808) hf
  by_cases h : b % 9223372036854775808 < 4503599627370496
  · rw [decide_eq_true h] at hmin
    have hmul := mul_sub hb h0 h
    obtain ⟨F, hN, hE⟩ := nrm_small h0 h
    rw [hE] at hmul
    refine ⟨_, F, -52, hN, fun w => ?_⟩
    have HA := Lib.hid (mAbs b w hb)
    obtain ⟨y, hy⟩ : ∃ y, y = obS b + bl (obM b) * 4503599627370496 + F := ⟨_, rfl⟩
    rw [← hy] at hmul ⊢
    have hrun : ∀ W : World, (binOp .mul 91 (.float .f64 b) (.float .f64 4841369599423283200)).run Try.prog W = .ok (.float .f64 y) W := fun W => run_float_arith W .mul _ .f64 _ _ _ hmul
    obtain ⟨m, hm⟩ : ∃ m, m = b % 9223372036854775808 := ⟨_, rfl⟩
    rw [← hm] at hmin HA
    clear hm hN hE hy hmul h h0 hf hb
    go_enter Try.func134, Try.ntmps134
    go_wp2_with fail
    refine HA.out.mono ?_
    rintro _ _ ⟨rfl, rfl⟩
    go_wp2
    go_ret2
    exact ⟨rfl, rfl⟩
  · rw [decide_eq_false h] at hmin
    obtain ⟨hN, hE⟩ := nrm_big hb hf h
    refine ⟨_, _, 0, hN, fun w => ?_⟩
    rw [← hE]
    have HA := Lib.hid (mAbs b w hb)
    obtain ⟨m, hm⟩ : ∃ m, m = b % 9223372036854775808 := ⟨_, rfl⟩
    rw [← hm] at hmin HA
    clear hm hN hE h h0 hf hb
    go_enter Try.func134, Try.ntmps134
    go_wp2_with fail
    refine HA.out.mono ?_
    rintro _ _ ⟨rfl, rfl⟩
    go_wp2
    go_ret2
    exact ⟨rfl, rfl⟩
set_option maxRecDepth 100000 in
set_option maxHeartbeats 1600000 in
theorem mfrexp (b : Nat) (hb : b < 18446744073709551616) (hf : obF b) (h0 : 0 < b % 9223372036854775808) :
    ∃ F x, (F < 4503599627370496 ∧ 4503599627370496 + F = obM b * 2 ^ (53 - bl (obM b)) ∧ x = (bl (obM b) : Int) + obE b ∧ bl (obM b) ≤ 53) ∧ ∀ w, Calls Try.prog 115 #[.float .f64 b] w fun e w' => e = .returned (.tuple #[.float .f64 (obS b + 4602678819172646912 + F), .int .i64 x]) ∧ w = w' := by
  obtain ⟨g, F, x0, ⟨n1, n2, n3, n4, n5, n6, n7⟩, hN⟩ := mNormalize b hb hf h0
  refine ⟨F, _, ⟨n1, n4, rfl, n7⟩, fun w => ?_⟩
  have hz := ord_zero hb hf
  have hM : obM b ≠ 0 := by unfold obM; split <;> omega
  rw [decide_eq_false hM] at hz
  have HI := Lib.hid (mIsInf b false w hb (ord_max (r := b % 9223372036854775808) hf))
  have HNA := Lib.hid (mIsNaN b w hb (.inl hf))
  have HN := Lib.hid (hN w)
  have hS : obS b = 0 ∨ obS b = 9223372036854775808 := by unfold obS; split <;> simp
  obtain ⟨S, hSS⟩ : ∃ S, S = obS b := ⟨_, rfl⟩
  rw [← hSS] at HN hS ⊢
  obtain ⟨y, hy⟩ : ∃ y, y = S + g * 4503599627370496 + F := ⟨_, rfl⟩
  rw [← hy] at HN
  have hyl : y < 18446744073709551616 := by omega
  obtain ⟨q, hq⟩ : ∃ q, q = y / 4503599627370496 := ⟨_, rfl⟩
  have hq1 : (y : Int) / 4503599627370496 = (q : Int) := by omega
  have hq2 := and_2047 (x := q) (by omega)
  rw [show q % 2048 = g by omega] at hq2
  have hc := and_clear hyl
  rw [show (if 9223372036854775808 ≤ y then 9223372036854775808 else 0) + y % 4503599627370496 = S + F by split <;> omega] at hc
  have ho := or_half hS n1
  obtain ⟨z, hzz⟩ : ∃ z, z = S + F := ⟨_, rfl⟩
  rw [← hzz] at hc ho
  obtain ⟨r, hr⟩ : ∃ r, r = S + 4602678819172646912 + F := ⟨_, rfl⟩
  rw [← hr] at ho ⊢
  obtain ⟨x, hx⟩ : ∃ x, x = (bl (obM b) : Int) + obE b := ⟨_, rfl⟩
  rw [← hx] at n5 ⊢
  have a1 : x0 + ((g : Int) - 1023 + 1) = x := by omega
  have hxb : -1100 ≤ x ∧ x ≤ 1100 := by omega
  have hx0 : -52 ≤ x0 ∧ x0 ≤ 0 := by omega
  clear hN hy hq hzz hr hx hSS n1 n4 n5 n6 n7 hM h0 hf
  go_enter Try.func115, Try.ntmps115
  go_wp2_with fail
  refine HI.out.mono ?_
  rintro _ _ ⟨rfl, rfl⟩
  go_wp2_with fail
  refine HNA.out.mono ?_
  rintro _ _ ⟨rfl, rfl⟩
  go_wp2_with fail
  refine HN.out.mono ?_
  rintro _ _ ⟨rfl, rfl⟩
  go_wp2
  go_ret2
  exact ⟨rfl, rfl⟩
set_option maxRecDepth 100000 in
theorem mFrexp (b : Nat) (hb : b < 18446744073709551616) (hf : obF b) (h0 : 0 < b % 9223372036854775808) :
    ∃ F x, (F < 4503599627370496 ∧ 4503599627370496 + F = obM b * 2 ^ (53 - bl (obM b)) ∧ x = (bl (obM b) : Int) + obE b ∧ bl (obM b) ≤ 53) ∧ ∀ w, Calls Try.prog 76 #[.float .f64 b] w fun e w' => e = .returned (.tuple #[.float .f64 (obS b + 4602678819172646912 + F), .int .i64 x]) ∧ w = w' := by
  obtain ⟨F, x, hF, hc⟩ := mfrexp b hb hf h0
  refine ⟨F, x, hF, fun w => ?_⟩
  have HC := Lib.hid (hc w)
  have hxb : -2200 ≤ x ∧ x ≤ 2200 := by
    have := obE_bd hf
    obtain ⟨-, -, h3, h4⟩ := hF
    omega
  obtain ⟨r, hr⟩ : ∃ r, r = obS b + 4602678819172646912 + F := ⟨_, rfl⟩
  rw [← hr] at HC ⊢
  clear hc hr hF hf h0 hb
  go_enter Try.func76, Try.ntmps76
  go_wp2_with fail
  refine HC.out.mono ?_
  rintro _ _ ⟨rfl, rfl⟩
  go_wp2
  go_ret2
  exact ⟨rfl, rfl⟩
end Go.Proofs.Ytlgnaioodnhkjaa

/-
The top word of a float's mantissa. No condition.
-/
namespace Go.Proofs.Ytlgnaioodnhkjaa
open Go.RowKit

/-- The top word. -/
theorem wv_top {ws : List Nat} (h : ∀ d ∈ ws, d < 18446744073709551616) (h0 : 0 < ws.length) : ws.getD (ws.length - 1) 0 = wv ws / 2 ^ (64 * (ws.length - 1)) := by
  have h1 := wv_lt h
  rw [← wv_dig h]
  unfold wdg
  have e1 : (18446744073709551616 : Nat) ^ (ws.length - 1) = 2 ^ (64 * (ws.length - 1)) := by rw [Nat.pow_mul]
  rw [e1, Nat.mod_eq_of_lt]
  refine Nat.div_lt_of_lt_mul ?_
  have e2 : (18446744073709551616 : Nat) ^ ws.length = 2 ^ (64 * (ws.length - 1)) * 18446744073709551616 := by
    rw [← e1, ← Nat.pow_succ]; congr 1; omega
  rw [← e2]; exact h1
set_option maxRecDepth 100000 in
theorem msb64_any (v : Value) (ws : List Nat) (w : World) (hv : RW w v ws) (h0 : 0 < ws.length) (hl : ws.length ≤ 1000000) :
    Calls Try.prog 85 #[v] w fun e' w' => e' = .returned (.int .u64 (ws.getD (ws.length - 1) 0 : Nat)) ∧ w = w' := by
  have hS := hv.isS
  have hL := hv.len
  have hc := hv.cell (ws.length - 1) (by omega)
  obtain ⟨d, hd⟩ : ∃ d, d = ws.getD (ws.length - 1) 0 := ⟨_, rfl⟩
  rw [← hd] at hc ⊢
  obtain ⟨k, hk⟩ : ∃ k, ws.length = k + 1 := ⟨ws.length - 1, by omega⟩
  rw [hk] at hL hl
  rw [hk, Nat.add_sub_cancel] at hc
  have e1 : ((k + 1 : Nat) : Int) - 1 = (k : Int) := by omega
  clear hv hd h0 hk
  go_enter Try.func85, Try.ntmps85
  go_wp2
  go_ret
  exact ⟨rfl, rfl⟩
end Go.Proofs.Ytlgnaioodnhkjaa
