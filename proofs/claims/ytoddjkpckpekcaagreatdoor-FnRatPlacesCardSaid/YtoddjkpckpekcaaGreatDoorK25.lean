/-
Texts of this proof, joined: RgF RgE RgG. No condition.
-/
import Derived.Test.YtoddjkpckpekcaaGreatDoorK04
import Derived.Test.YtoddjkpckpekcaaGreatDoorK09
import Derived.Test.YtoddjkpckpekcaaGreatDoorK13
import Derived.Test.YtoddjkpckpekcaaGreatDoorK22
import Derived.Test.YtoddjkpckpekcaaGreatDoorK24
import Derived.Deep.DeepCutAuto
namespace Go.Proofs.YtoddjkpckpekcaaGreatDoor
open Go.RowKit

def qfQ (k N D : Nat) : Nat := qN N (D * 2 ^ (bl N - bl D - (k + 2))) (k + 2 + bl D - bl N)
def qfS (k N D : Nat) : Nat := qS N (D * 2 ^ (bl N - bl D - (k + 2))) (k + 2 + bl D - bl N)
def qfE (k N D : Nat) : Int := (bl N : Int) - bl D + (if 2 ^ (k + 2) ≤ qfQ k N D then 1 else 0)
def qfU (k : Nat) (L : Int) (N D : Nat) : Int := max L (qfE k N D - (k + 1))
def qfM (k : Nat) (L : Int) (N D : Nat) : Nat := rQ (qfE k N D - qfU k L N D).toNat 0 false (qfS k N D) (qfQ k N D)
def qfA (k : Nat) (L : Int) (N D : Nat) : Int := rA (qfE k N D - qfU k L N D).toNat 0 false (qfS k N D) (qfQ k N D)
def qfV (k _T : Nat) (L : Int) (N D : Nat) : Nat := (qfU k L N D - L).toNat * 2 ^ k + qfM k L N D
theorem qf_bd {X Y k : Nat} (h : bl X = bl Y + (k + 1)) (hX : 0 < X) (hY : 0 < Y) : 2 ^ k ≤ X / Y ∧ X / Y < 2 ^ (k + 2) := by
  have h1 := bl_ge hX
  have h2 := lt_bl X
  have h3 := bl_ge hY
  have h4 := lt_bl Y
  have hp := bl_pos hY
  rw [h] at h1 h2
  constructor
  · rw [Nat.le_div_iff_mul_le hY]
    refine Nat.le_trans (Nat.mul_le_mul_left _ (Nat.le_of_lt h4)) ?_
    rw [← Nat.pow_add, show k + bl Y = bl Y + (k + 1) - 1 by omega]
    exact h1
  · rw [Nat.div_lt_iff_lt_mul hY]
    refine Nat.lt_of_lt_of_le h2 ?_
    refine Nat.le_trans ?_ (Nat.mul_le_mul_left _ h3)
    rw [← Nat.pow_add, show k + 2 + (bl Y - 1) = bl Y + (k + 1) by omega]
    exact Nat.le_refl _
theorem qf_bl {k N D : Nat} (hN : 0 < N) (hD : 0 < D) : bl (qfQ k N D) = k + 2 + (if 2 ^ (k + 2) ≤ qfQ k N D then 1 else 0) := by
  have hDp := bl_pos hD
  have hNp := bl_pos hN
  have bX : bl (N * 2 ^ (k + 2 + bl D - bl N)) = bl N + (k + 2 + bl D - bl N) := bl_mul hN _
  have bY : bl (D * 2 ^ (bl N - bl D - (k + 2))) = bl D + (bl N - bl D - (k + 2)) := bl_mul hD _
  obtain ⟨h1, h2⟩ := qf_bd (X := N * 2 ^ (k + 2 + bl D - bl N)) (Y := D * 2 ^ (bl N - bl D - (k + 2))) (k := k + 1) (by omega) (Nat.mul_pos hN (Nat.two_pow_pos _)) (Nat.mul_pos hD (Nat.two_pow_pos _))
  change 2 ^ (k + 1) ≤ qfQ k N D at h1
  change qfQ k N D < 2 ^ (k + 1 + 2) at h2
  by_cases h : 2 ^ (k + 2) ≤ qfQ k N D
  · rw [if_pos h]; exact bl_of h h2
  · rw [if_neg h]; exact bl_of (k := k + 1) h1 (Nat.not_le.1 h)
theorem qf_plain {k Q s m1 m2 : Nat} {L E1 E2 : Int} {g1 g2 : Bool} (h1 : 2 ^ (k + 1) ≤ Q) (h2 : Q < 2 ^ (k + 3)) (hs : s ≤ 1) (hE : L ≤ E1)
    (hm : m1 = if 2 ^ (k + 2) ≤ Q then Q / 2 else Q) (hg : g1 = (decide (s = 1) || (decide (2 ^ (k + 2) ≤ Q) && decide (Q % 2 = 1))))
    (hc : (E1 ≤ L + k ∧ E2 = L + k + 1 ∧ m2 = m1 / 2 ^ (L + k + 1 - E1).toNat ∧ g2 = (g1 || decide (m1 % 2 ^ (L + k + 1 - E1).toNat ≠ 0))) ∨ (L + k < E1 ∧ E2 = E1 ∧ m2 = m1 ∧ g2 = g1)) :
    max L (E1 - (k + 1)) = E2 - (k + 1) ∧
    rQ (E1 - max L (E1 - (k + 1))).toNat 0 false s Q = m2 / 2 + (if m2 % 2 = 1 ∧ (g2 = true ∨ m2 / 2 % 2 = 1) then 1 else 0) ∧
    (rA (E1 - max L (E1 - (k + 1))).toNat 0 false s Q = 0 ↔ g2 = false ∧ m2 % 2 = 0) := by
  have hp2 : 2 ^ (k + 2) = 2 ^ (k + 1) * 2 := Nat.pow_succ ..
  have hp3 : 2 ^ (k + 3) = 2 ^ (k + 1) * 2 * 2 := by rw [Nat.pow_succ, hp2]
  obtain ⟨p, hp⟩ : ∃ p, p = (E1 - max L (E1 - (k + 1))).toNat := ⟨_, rfl⟩
  have hpk : p ≤ k + 1 := by omega
  have hb : bl m1 = k + 1 + 1 := by
    rw [hm]
    split
    · exact bl_of (by omega) (by omega)
    · exact bl_of h1 (by omega)
  have hd : k + 1 - p = if E1 ≤ L + k then (L + k + 1 - E1).toNat else 0 := by split <;> omega
  have hr : rQ p 0 false s Q = rQ p 0 false (if g1 = true then 1 else 0) m1 ∧ rA p 0 false s Q = rA p 0 false (if g1 = true then 1 else 0) m1 := by
    by_cases hq : 2 ^ (k + 2) ≤ Q
    · rw [if_pos hq] at hm
      rw [decide_eq_true hq, Bool.true_and] at hg
      have hbQ : bl Q = k + 2 + 1 := bl_of hq h2
      obtain ⟨a1, a2⟩ := rf_norm (Q := Q) (s := s) (p := p) (b := k + 2) false hs hbQ (by omega)
      have e : (if Q % 2 = 1 then 1 else s) = if g1 = true then 1 else 0 := by
        rw [hg]
        rcases (by omega : s = 0 ∨ s = 1) with c | c <;> by_cases ho : Q % 2 = 1 <;> simp [c, ho]
      rw [a1, a2, e, ← hm]; exact ⟨rfl, rfl⟩
    · rw [if_neg hq] at hm
      rw [decide_eq_false hq, Bool.false_and, Bool.or_false] at hg
      have e : (if g1 = true then 1 else 0) = s := by
        rw [hg]
        rcases (by omega : s = 0 ∨ s = 1) with c | c <;> simp [c]
      rw [e, hm]; exact ⟨rfl, rfl⟩
  obtain ⟨c1, c2⟩ := rf_round (m := m1) (h := if g1 = true then 1 else 0) (p := p) (b := k + 1) false (by split <;> omega) hb hpk
  have gg : ((if g1 = true then 1 else 0) = 1) ↔ g1 = true := by cases g1 <;> simp
  have gh : ((if g1 = true then 1 else 0) = 0) ↔ g1 = false := by cases g1 <;> simp
  rw [hd] at c1 c2
  obtain ⟨T, hT⟩ : ∃ T, T = 2 ^ (if E1 ≤ L + k then (L + k + 1 - E1).toNat else 0) := ⟨_, rfl⟩
  rw [← hT] at c1 c2
  have c3 : rQ p 0 false (if g1 = true then 1 else 0) m1 = m1 / T / 2 + (if m1 / T % 2 = 1 ∧ ((g1 = true ∨ m1 % T ≠ 0) ∨ m1 / T / 2 % 2 = 1) then 1 else 0) := by
    rw [c1]; simp only [gg]
  rw [gh] at c2
  rw [← hp, hr.1, hr.2, c3, c2, hT]
  clear c1 c2 c3 hT
  rcases hc with ⟨x1, x2, x3, x4⟩ | ⟨x1, x2, x3, x4⟩
  · rw [if_pos x1, ← x3]
    have k1 : (g1 = true ∨ m1 % 2 ^ (L + k + 1 - E1).toNat ≠ 0) ↔ g2 = true := by rw [x4]; simp
    have k2 : (g1 = false ∧ m1 % 2 ^ (L + k + 1 - E1).toNat = 0) ↔ g2 = false := by rw [x4]; simp
    refine ⟨by omega, by simp only [k1], by rw [k2]⟩
  · rw [if_neg (by omega), Nat.pow_zero, Nat.div_one, Nat.mod_one, x3, x4]
    refine ⟨by omega, ?_, ?_⟩
    · simp
    · simp
theorem qf_law {k T N D j : Nat} {L : Int} (hN : 0 < N) (hD : 0 < D) (hT : 2 ≤ T) (hj : k + 1 < bl (qN N D j))
    (hlow : btV false (2 * qN N D j + qS N D j) (-(j : Int) - 1) k L T ≠ 0 ∨ btS false (2 * qN N D j + qS N D j) (-(j : Int) - 1) k L T = 0) :
    L ≤ qfE k N D ∧ 0 < qfM k L N D ∧ min (qfV k T L N D) (T * 2 ^ k) = btV false (2 * qN N D j + qS N D j) (-(j : Int) - 1) k L T ∧
      (decide (qfA k L N D = 0) && decide (qfV k T L N D < T * 2 ^ k)) = decide (btS false (2 * qN N D j + qS N D j) (-(j : Int) - 1) k L T = 0) := by
  have hb := qf_bl (k := k) hN hD
  have hk0 := Nat.two_pow_pos k
  obtain ⟨M, hM⟩ : ∃ M, M = 2 * qN N D j + qS N D j := ⟨_, rfl⟩
  have hDp := bl_pos hD
  have hNp := bl_pos hN
  have hM0 : 0 < M := by
    have : 0 < qN N D j := by
      refine Nat.pos_of_ne_zero fun h => ?_
      rw [h] at hj
      have : bl 0 ≤ 0 := bl_le (by decide)
      omega
    omega
  have hQ0 : 0 < qfQ k N D := by
    refine Nat.pos_of_ne_zero fun h => ?_
    rw [h] at hb
    have : bl 0 ≤ 0 := bl_le (by decide)
    omega
  have hE : (bl (qfQ k N D) : Int) + ((bl N - bl D - (k + 2) : Nat) : Int) - ((k + 2 + bl D - bl N : Nat) : Int) = qfE k N D := by
    rw [hb]
    unfold qfE
    split <;> omega
  have hqle : (if 2 ^ (k + 2) ≤ qfQ k N D then 1 else 0) ≤ 1 := by split <;> omega
  have hbM : (bl M : Int) + (-(j : Int) - 1) = qfE k N D := by
    obtain ⟨a1, -, -⟩ := rf_cut (N := N) (D := D) (a := k + 2 + bl D - bl N) (c := bl N - bl D - (k + 2)) (k := j) (p := 0) (u := qfE k N D) false hD
      (by change 0 < bl (qfQ k N D); omega) (by omega) (by rw [Int.natCast_zero, Int.add_zero]; exact hE.symm)
    rw [← hM] at a1
    omega
  rw [← hM] at hlow ⊢
  have hL : L ≤ qfE k N D := by
    refine Int.not_lt.1 fun hc => ?_
    obtain ⟨b1, b2⟩ := bt_low (n := false) (M := M) (k := k) (T := T) (E := -(j : Int) - 1) (L := L) hM0 (by omega) hT
    rw [b1, b2] at hlow
    simp at hlow
  have hU : btU M (-(j : Int) - 1) k L = qfU k L N D := by
    unfold btU qfU
    omega
  obtain ⟨p, hp⟩ : ∃ p, p = (qfE k N D - qfU k L N D).toNat := ⟨_, rfl⟩
  have hUE : L ≤ qfU k L N D ∧ qfU k L N D ≤ qfE k N D ∧ qfE k N D - qfU k L N D ≤ k + 1 ∧ (L < qfU k L N D → qfE k N D - qfU k L N D = k + 1) := by unfold qfU; omega
  obtain ⟨u1, u2, u3, u4⟩ := hUE
  obtain ⟨-, e1, e2⟩ := rf_cut (N := N) (D := D) (a := k + 2 + bl D - bl N) (c := bl N - bl D - (k + 2)) (k := j) (p := p) (u := qfU k L N D) false hD
      (by change p < bl (qfQ k N D); omega) (by omega) (by change _ = (bl (qfQ k N D) : Int) + _ - _; omega)
  rw [← hM] at e1 e2
  have hMM : rQ p 0 false (qfS k N D) (qfQ k N D) = qfM k L N D := by unfold qfM; rw [← hp]
  have hAA : rA p 0 false (qfS k N D) (qfQ k N D) = qfA k L N D := by unfold qfA; rw [← hp]
  change btQ false M (-(j : Int) - 1) (qfU k L N D) = rQ p 0 false (qfS k N D) (qfQ k N D) at e1
  change btA false M (-(j : Int) - 1) (qfU k L N D) = rA p 0 false (qfS k N D) (qfQ k N D) at e2
  rw [hMM] at e1
  rw [hAA] at e2
  obtain ⟨I, hI⟩ : ∃ I, I = btI (qfM k L N D) (qfU k L N D) k L T := ⟨_, rfl⟩
  have hV : btV false M (-(j : Int) - 1) k L T = if I = true then T * 2 ^ k else qfV k T L N D := by unfold btV qfV; rw [hU, e1, ← hI]
  have hS : btS false M (-(j : Int) - 1) k L T = if I = true then 1 else qfA k L N D := by unfold btS; rw [hU, e1, e2, ← hI]; rfl
  have hbig : L < qfU k L N D → 2 ^ k ≤ qfM k L N D := fun h => by
    have h5 := u4 h
    have hp1 : p = k + 1 := by omega
    have := (rQ_bound (p := p) (m := 0) (M := qfQ k N D) false (qfS k N D) (by omega) (by omega)).1
    rw [hp1] at this hMM
    rw [← hMM]
    exact Nat.le_trans this (Nat.le_add_right _ _)
  have hII : I = true ↔ T * 2 ^ k ≤ qfV k T L N D := by
    rw [hI]
    unfold btI qfV
    rw [decide_eq_true_iff]
    constructor
    · rintro (h | h)
      · have h6 := hbig (by omega)
        obtain ⟨z, hz⟩ : ∃ z, z = (qfU k L N D - L).toNat := ⟨_, rfl⟩
        rw [← hz]
        have : (T - 1) * 2 ^ k ≤ z * 2 ^ k := Nat.mul_le_mul_right _ (by omega)
        have h7 : T * 2 ^ k = (T - 1) * 2 ^ k + 2 ^ k := by
          conv => lhs; rw [show T = T - 1 + 1 by omega, Nat.add_mul, Nat.one_mul]
        omega
      · exact h
    · exact .inr
  have hpos : 0 < qfM k L N D := by
    refine Nat.pos_of_ne_zero fun h0 => ?_
    have hp0 : p = 0 := by
      refine Nat.eq_zero_of_not_pos fun h => ?_
      have := rQ_pos (p := p) (m := 0) (M := qfQ k N D) false (qfS k N D) h hQ0
      rw [hMM] at this
      omega
    have hUL : qfU k L N D = L := by
      rcases Int.lt_or_eq_of_le u1 with h | h
      · have := u4 h; omega
      · exact h.symm
    have hIf : I = false := by
      refine Bool.eq_false_iff.2 fun hc => ?_
      have h8 := hII.1 hc
      unfold qfV at h8
      rw [hUL, h0, Int.sub_self, Int.toNat_zero, Nat.zero_mul] at h8
      have := Nat.mul_pos (show 0 < T by omega) hk0
      omega
    rw [hV, hS, hIf] at hlow
    unfold qfV at hlow
    rw [hUL, h0, Int.sub_self, Int.toNat_zero, Nat.zero_mul] at hlow
    simp only [Bool.false_eq_true, if_false] at hlow
    have hA0 : qfA k L N D = 0 := by
      rcases hlow with h | h
      · exact absurd rfl h
      · exact h
    obtain ⟨b, hbb⟩ : ∃ b, bl (qfQ k N D) = b + 1 := ⟨_, (Nat.succ_pred_eq_of_pos (bl_pos hQ0)).symm⟩
    have hs1 : qfS k N D ≤ 1 := by unfold qfS qS; split <;> omega
    have h9 := (rf_round (m := qfQ k N D) (h := qfS k N D) (p := 0) (b := b) false hs1 hbb (by omega)).2
    rw [hp0] at hAA
    rw [hAA] at h9
    have h10 := (h9.1 hA0).2
    have h11 := bl_ge hQ0
    have h12 := lt_bl (qfQ k N D)
    rw [hbb] at h11 h12
    rw [Nat.add_sub_cancel] at h11
    rw [Nat.sub_zero] at h10
    rw [Nat.pow_succ] at h12
    have h13 : qfQ k N D / 2 ^ b = 1 := Nat.div_eq_of_lt_le (by omega) (by omega)
    rw [h13] at h10
    omega
  refine ⟨hL, hpos, ?_, ?_⟩
  · rw [hV]
    cases hc : I
    · have : ¬ T * 2 ^ k ≤ qfV k T L N D := fun h => by rw [hII.2 h] at hc; exact absurd hc (by decide)
      rw [if_neg (by decide)]; omega
    · have := hII.1 hc
      rw [if_pos rfl]; omega
  · rw [hS]
    cases hc : I
    · have : ¬ T * 2 ^ k ≤ qfV k T L N D := fun h => by rw [hII.2 h] at hc; exact absurd hc (by decide)
      rw [if_neg (by decide), decide_eq_true (show qfV k T L N D < T * 2 ^ k by omega), Bool.and_true]
    · have := hII.1 hc
      rw [if_pos rfl, decide_eq_false (show ¬ qfV k T L N D < T * 2 ^ k by omega), Bool.and_false]
      rfl
structure QfS (av bv : Value) (N D : Nat) (w W : World) : Prop where
  oa : Own W w.heap.size 98 av (cellsW (wds N))
  ob : Own W w.heap.size 98 bv (cellsW (wds D))
  ne : 0 < sCap av → 0 < sCap bv → sBlk bv ≠ sBlk av
  bl : Below w.heap.size w W
theorem QfS.lshA {av bv : Value} {N D s : Nat} {w W : World} (h : QfS av bv N D w W) (h0 : 0 < N) (hl : nw N ≤ 10000000) (hs : s ≤ 1000000000) :
    Calls Tryz.prog 107 #[av, av, .int .u64 s] W fun e w' => ∃ r, e = .returned r ∧ IsS r ∧ QfS r bv (N * 2 ^ s) D w w' := by
  have hB := h.bl.size
  refine (lsh_same av N s w.heap.size W h.oa (fun hc => absurd hc (by omega)) hl hs hB).mono ?_
  rintro _ w' ⟨r, rfl, hr⟩
  refine ⟨r, rfl, hr.own.isS, hr.own, h.ob.frz hr.fr (fun a b he => h.ne b a he), fun hc hd he => ?_, h.bl.trans hr.below⟩
  rcases hr.at' hc with ⟨k1, k2⟩ | k1
  · exact h.ne k1 hd (he.trans k2)
  · have := (h.ob.lt hd).2
    omega
theorem QfS.lshB {av bv : Value} {N D s : Nat} {w W : World} (h : QfS av bv N D w W) (h0 : 0 < D) (hl : nw D ≤ 10000000) (hs : s ≤ 1000000000) :
    Calls Tryz.prog 107 #[bv, bv, .int .u64 s] W fun e w' => ∃ r, e = .returned r ∧ IsS r ∧ QfS av r N (D * 2 ^ s) w w' := by
  have hB := h.bl.size
  refine (lsh_same bv D s w.heap.size W h.ob (fun hc => absurd hc (by omega)) hl hs hB).mono ?_
  rintro _ w' ⟨r, rfl, hr⟩
  refine ⟨r, rfl, hr.own.isS, h.oa.frz hr.fr (fun a b he => h.ne a b he.symm), hr.own, fun hc hd he => ?_, h.bl.trans hr.below⟩
  rcases hr.at' hd with ⟨k1, k2⟩ | k1
  · exact h.ne hc k1 (k2.symm.trans he)
  · have := (h.oa.lt hc).2
    omega
theorem and1_u64' {x : Nat} (h : x < 18446744073709551616) : bits .and .u64 (x : Int) 1 = ((x % 2 : Nat) : Int) := by
  rw [show (1 : Int) = ((1 : Nat) : Int) from rfl, bits_and_u64_nat x 1 h (by decide), Nat.and_one_is_mod]
theorem qf_plain52 {Q s m1 m2 : Nat} {E1 E2 : Int} {g1 g2 : Bool} (h1 : 9007199254740992 ≤ Q) (h2 : Q < 36028797018963968) (hs : s ≤ 1) (hE : -1074 ≤ E1)
    (hm : m1 = if 18014398509481984 ≤ Q then Q / 2 else Q) (hg : g1 = (decide (s = 1) || (decide (18014398509481984 ≤ Q) && decide (Q % 2 = 1))))
    (hc : (E1 ≤ -1022 ∧ E2 = -1021 ∧ m2 = m1 / 2 ^ (-1021 - E1).toNat ∧ g2 = (g1 || decide (m1 % 2 ^ (-1021 - E1).toNat ≠ 0))) ∨ (-1022 < E1 ∧ E2 = E1 ∧ m2 = m1 ∧ g2 = g1)) :
    max (-1074) (E1 - 53) = E2 - 53 ∧
    rQ (E1 - max (-1074) (E1 - 53)).toNat 0 false s Q = m2 / 2 + (if m2 % 2 = 1 ∧ (g2 = true ∨ m2 / 2 % 2 = 1) then 1 else 0) ∧
    (rA (E1 - max (-1074) (E1 - 53)).toNat 0 false s Q = 0 ↔ g2 = false ∧ m2 % 2 = 0) := by
  have h := qf_plain (k := 52) (L := -1074) (E1 := E1) (E2 := E2) (g2 := g2) (m2 := m2) h1 h2 hs hE hm hg hc
  exact h
theorem and2_u64 {x : Nat} (h : x < 18446744073709551616) : bits .and .u64 (x : Int) 2 = ((x / 2 % 2 * 2 : Nat) : Int) := by
  rw [show (2 : Int) = ((2 : Nat) : Int) from rfl, bits_and_u64_nat x 2 h (by decide)]
  congr 1
  have e : x &&& 2 = x % 4 &&& 2 := by
    rw [show (2 : Nat) = 3 &&& 2 from rfl, ← Nat.and_assoc, show (3 : Nat) = 2 ^ 2 - 1 from rfl, Nat.and_two_pow_sub_one_eq_mod]
    rfl
  rw [e]
  rcases (by omega : x % 4 = 0 ∨ x % 4 = 1 ∨ x % 4 = 2 ∨ x % 4 = 3) with c | c | c | c
  · rw [c, show x / 2 % 2 = 0 by omega]; rfl
  · rw [c, show x / 2 % 2 = 0 by omega]; rfl
  · rw [c, show x / 2 % 2 = 1 by omega]; rfl
  · rw [c, show x / 2 % 2 = 1 by omega]; rfl
set_option maxRecDepth 100000 in
set_option maxHeartbeats 3200000 in
theorem quot64 (a b : Value) (N D B s : Nat) (o : Option (Nat × Value)) (w : World) (ha : RW w a (wds N)) (hb : RW w b (wds D)) (h0 : 0 < N) (hD0 : 0 < D) (hN : bl N ≤ 2000) (hD : bl D ≤ 2000)
    (hlow : -1074 ≤ qfE 52 N D) (hM0 : 0 < qfM 52 (-1074) N D)
    (hst : StO w B s 0 o) (hB : B ≤ w.heap.size) (hT : DivW w) (hg : 3 < B) :
    Calls Tryz.prog 73 #[.pointer (some ⟨s, 0, none⟩), a, b] w fun e w' => e = .returned (.tuple #[.float .f64 (min (qfV 52 2047 (-1074) N D) 9218868437227405312), .bool (decide (qfA 52 (-1074) N D = 0) && decide (qfV 52 2047 (-1074) N D < 9218868437227405312))]) ∧
      ∃ o', StO w' B s 0 o' ∧ (∀ k, SBk s o' k → SBk s o k ∨ w.heap.size ≤ k) ∧ Below B w w' ∧ (∀ k, k < w.heap.size → ¬ SBk s o k → w'.heap[k]? = w.heap[k]?) := by
  have hSa := ha.isS
  have hSb := hb.isS
  have HA := Lib.hid ha
  have HB := Lib.hid hb
  have HST := Lib.hid hst
  have HLOW := Lib.hid hlow
  have HM0 := Lib.hid hM0
  clear hlow hM0
  have HT := Lib.hid hT
  have hNp := bl_pos h0
  have hDp := bl_pos hD0
  have nN : nw N ≤ 40 := nw_b (by omega)
  have nD : nw D ≤ 39 := nw_b (by omega)
  have HBA := Lib.hid (bitLen_any a N w ha (by omega))
  have HBB := Lib.hid (bitLen_any b D w hb (by omega))
  obtain ⟨la, hla⟩ : ∃ l, l = bl N := ⟨_, rfl⟩
  obtain ⟨lb, hlb⟩ : ∃ l, l = bl D := ⟨_, rfl⟩
  rw [← hla] at HBA hNp hN
  rw [← hlb] at HBB hDp hD
  have t1 : ((la : Int) == 0) = false := by rw [beq_eq_false_iff_ne]; omega
  have t2 : ((lb : Int) == 0) = false := by rw [beq_eq_false_iff_ne]; omega
  have HLA := Lib.hid hla
  have HLB := Lib.hid hlb
  have HN0 := Lib.hid h0
  have HD0 := Lib.hid hD0
  clear ha hb hst hT hla hlb h0 hD0
  go_enter Tryz.func73, Tryz.ntmps73
  go_wp2_with fail
  refine HBA.out.mono ?_
  rintro _ _ ⟨rfl, rfl⟩
  go_wp2_with fail
  refine HBB.out.mono ?_
  rintro _ _ ⟨rfl, rfl⟩
  go_wp2_with fail
  refine (set_nil a (wds N) w HA.out (by rw [wds_length]; omega)).mono ?_
  rintro _ w1 ⟨a1, rfl, oa1, hb1⟩
  have hSa1 := oa1.isS
  have OA1 := Lib.hid oa1
  have HW1 := Lib.hid hb1
  clear oa1 hb1
  go_wp2_with fail
  refine (set_nil b (wds D) w1 (HB.out.below HW1.out) (by rw [wds_length]; omega)).mono ?_
  rintro _ w2 ⟨b1, rfl, ob1, hb2⟩
  have hSb1 := ob1.isS
  have OB1 := Lib.hid ob1
  have HW2 := Lib.hid hb2
  clear ob1 hb2
  have hq1 : QfS a1 b1 N D w w2 := by
    have k1 := OA1.out
    have k2 := OB1.out
    have k3 := HW1.out.size
    exact ⟨k1.below HW2.out, k2.mono k3, fun hc hd he => by have := (k1.lt hc).2; have := (k2.lt hd).1; omega, bthen HW1.out HW2.out⟩
  have HQ1 := Lib.hid hq1
  clear hq1 OA1 OB1
  go_upto_if 41 with fail
  go_cut [11, 12, 13] (fun av bv _ wx => IsS av ∧ IsS bv ∧ QfS av bv (N * 2 ^ (54 + lb - la)) (D * 2 ^ (la - lb - 54)) w wx)
  case first =>
    rcases Nat.lt_trichotomy la (54 + lb) with hc | hc | hc
    · obtain ⟨x, hx⟩ : ∃ x, x = 54 + lb - la := ⟨_, rfl⟩
      have e1 : 54 - ((la : Int) - (lb : Int)) = (x : Int) := by omega
      have t3 : decide (0 < (x : Int)) = true := decide_eq_true (by omega)
      have t4 : (0 : Int) < (x : Int) := by omega
      have e2 : IntKind.u64.wrap (x : Int) = (x : Int) := by rw [IntKind.wrap_u64]; omega
      have HC := Lib.hid (HQ1.out.lshA (s := x) HN0.out (by omega) (by omega))
      have HX : Hid (la - lb - 54 = 0 ∧ 54 + lb - la = x) := Lib.hid ⟨by omega, hx.symm⟩
      clear hx hc
      go_wp2_with fail
      refine HC.out.mono ?_
      rintro _ w3 ⟨r, rfl, hSr, hq⟩
      have HQ := Lib.hid hq
      clear hq
      go_wp2_with fail
      go_meet
      exact ⟨hSr, hSb1, by rw [HX.out.1, HX.out.2, Nat.pow_zero, Nat.mul_one]; exact HQ.out⟩
    · have e1 : 54 - ((la : Int) - (lb : Int)) = 0 := by omega
      have HX : Hid (la - lb - 54 = 0 ∧ 54 + lb - la = 0) := Lib.hid ⟨by omega, by omega⟩
      clear hc
      go_wp2_with fail
      go_meet
      exact ⟨hSa1, hSb1, by rw [HX.out.1, HX.out.2, Nat.pow_zero, Nat.mul_one, Nat.mul_one]; exact HQ1.out⟩
    · obtain ⟨x, hx⟩ : ∃ x, x = la - lb - 54 := ⟨_, rfl⟩
      have e1 : 54 - ((la : Int) - (lb : Int)) = -(x : Int) := by omega
      have t3 : decide (0 < -(x : Int)) = false := decide_eq_false (by omega)
      have t5 : decide (-(x : Int) < 0) = true := decide_eq_true (by omega)
      have t4 : (0 : Int) < (x : Int) := by omega
      have e2 : IntKind.u64.wrap (x : Int) = (x : Int) := by rw [IntKind.wrap_u64]; omega
      have HC := Lib.hid (HQ1.out.lshB (s := x) HD0.out (by omega) (by omega))
      have HX : Hid (la - lb - 54 = x ∧ 54 + lb - la = 0) := Lib.hid ⟨hx.symm, by omega⟩
      clear hx hc
      go_wp2_with fail
      refine HC.out.mono ?_
      rintro _ w3 ⟨r, rfl, hSr, hq⟩
      have HQ := Lib.hid hq
      clear hq
      go_wp2_with fail
      go_meet
      exact ⟨hSa1, hSr, by rw [HX.out.1, HX.out.2, Nat.pow_zero, Nat.mul_one]; exact HQ.out⟩
  case rest =>
    obtain ⟨hSx, hSy, hq⟩ := hcut
    have bN : bl (N * 2 ^ (54 + lb - la)) = la + (54 + lb - la) := by rw [HLA.out]; exact bl_mul HN0.out _
    have bD : bl (D * 2 ^ (la - lb - 54)) = lb + (la - lb - 54) := by rw [HLB.out]; exact bl_mul HD0.out _
    have pN : 0 < N * 2 ^ (54 + lb - la) := Nat.mul_pos HN0.out (Nat.two_pow_pos _)
    have pD : 0 < D * 2 ^ (la - lb - 54) := Nat.mul_pos HD0.out (Nat.two_pow_pos _)
    obtain ⟨X, hX⟩ : ∃ X, X = N * 2 ^ (54 + lb - la) := ⟨_, rfl⟩
    obtain ⟨Y, hY⟩ : ∃ Y, Y = D * 2 ^ (la - lb - 54) := ⟨_, rfl⟩
    rw [← hX] at bN pN hq
    rw [← hY] at bD pD hq
    have nX : nw X ≤ 60 := nw_b (by omega)
    have nY : nw Y ≤ 39 := nw_b (by omega)
    have hxc : 0 < sCap u11 := by
      have h1 := hSx.le
      have h2 : sLen u11 = nw X := by rw [hq.oa.len, cellsW_length, wds_length]
      have h3 := nw_pos pN
      omega
    have hyc : 0 < sCap u12 := by
      have h1 := hSy.le
      have h2 : sLen u12 = nw Y := by rw [hq.ob.len, cellsW_length, wds_length]
      have h3 := nw_pos pD
      omega
    have hno : ∀ k, w.heap.size ≤ k → ¬ SBk s o k := fun k h1 h2 => by have := (HST.out.base h2).2; omega
    have HDV := Lib.hid (div_over u11 u12 X Y B s _ o wc (HST.out.below hq.bl) (hq.oa.mono hB) (hq.oa.ro (wds_all _)) (hno _ (hq.oa.lt hxc).1) (hq.ob.ro (wds_all _)) (hno _ (hq.ob.lt hyc).1) (hq.ne hxc hyc) pD (by omega) (by omega) (Nat.le_trans hB hq.bl.size) (HT.out.below hq.bl) hg)
    go_wp2_with fail
    refine HDV.out.mono ?_
    rintro _ w4 ⟨q, r, rfl, o', d1, d2, d3, d4, d5, d6⟩
    have hSq := d1.isS
    have hSr := d2.isS
    obtain ⟨Q, hQ⟩ : ∃ Q, Q = X / Y := ⟨_, rfl⟩
    obtain ⟨R, hR⟩ : ∃ R, R = X % Y := ⟨_, rfl⟩
    rw [← hQ] at d1
    rw [← hR] at d2
    have hQ0 : 0 < Q := by
      rw [hQ]
      refine Nat.div_pos ?_ pD
      have h1 := bl_ge pN
      have h2 := lt_bl Y
      exact Nat.le_of_lt (Nat.lt_of_lt_of_le h2 (Nat.le_trans (Nat.pow_le_pow_right (by decide) (by omega)) h1))
    obtain ⟨q1, q2⟩ := qf_bd (X := X) (Y := Y) (k := 53) (by omega) pN pD
    rw [← hQ] at q1 q2
    have q1' : 9007199254740992 ≤ Q := q1
    have q2' : Q < 36028797018963968 := q2
    have hLr : sLen r = nw R := by rw [d2.len, cellsW_length, wds_length]
    obtain ⟨lr, hlr⟩ : ∃ l, l = nw R := ⟨_, rfl⟩
    rw [← hlr] at hLr
    have HLO := low64_any q Q w4 (d1.rw' (wds_all _)) hQ0
    rw [Nat.mod_eq_of_lt (show Q < 18446744073709551616 by omega)] at HLO
    have HLO := Lib.hid HLO
    have HFR : Hid (StO w4 B s 0 o' ∧ (∀ k, SBk s o' k → SBk s o k ∨ w.heap.size ≤ k) ∧ Below B w w4 ∧ (∀ k, k < w.heap.size → ¬ SBk s o k → w4.heap[k]? = w.heap[k]?)) :=
      Lib.hid ⟨d3, fun k hk => (d4 k hk).imp id (Nat.le_trans hq.bl.size), (hq.bl.mono hB).trans d5, fun k hk hn => (d6 k (Nat.lt_of_lt_of_le hk hq.bl.size) hn (fun hc he => by have := (hq.oa.lt hc).1; omega)).trans (hq.bl.block k hk)⟩
    have hrr : decide (0 < (lr : Int)) = decide (0 < R) := by
      by_cases hR0 : R = 0
      · have hl0 : lr = 0 := by rw [hlr, hR0]; rfl
        rw [decide_eq_false (by omega), decide_eq_false (by omega)]
      · rw [decide_eq_true (Nat.pos_of_ne_zero hR0), decide_eq_true (by have := nw_pos (Nat.pos_of_ne_zero hR0); omega)]
    obtain ⟨h, hh⟩ : ∃ h, h = decide (0 < R) := ⟨_, rfl⟩
    rw [← hh] at hrr
    have HH := Lib.hid hh
    have HQX := Lib.hid (And.intro hQ hR)
    have HXY := Lib.hid (And.intro hX hY)
    clear d1 d2 d3 d4 d5 d6 hQ hR hX hY hlr hh bN bD pN pD nX nY hno hq HDV q1 q2
    go_wp2_with fail
    refine HLO.out.mono ?_
    rintro _ _ ⟨rfl, rfl⟩
    go_upto_if 71 with fail
    have ha1 := and1_u64' (x := Q) (by omega)
    go_cut [10, 16, 17] (fun ex mt hr wx => ex = .int .i64 ((la : Int) - lb + (if 18014398509481984 ≤ Q then 1 else 0)) ∧ mt = .int .u64 ((if 18014398509481984 ≤ Q then Q / 2 else Q : Nat) : Int) ∧ hr = .bool (h || (decide (18014398509481984 ≤ Q) && decide (Q % 2 = 1))) ∧ w4 = wx)
    case first =>
      by_cases hq54 : 18014398509481984 ≤ Q
      · have t3 : ((Q : Int) / 18014398509481984 == 1) = true := by rw [beq_iff_eq]; omega
        obtain ⟨m, hm⟩ : ∃ m, m = Q / 2 := ⟨_, rfl⟩
        have e2 : (Q : Int) / 2 = (m : Int) := by omega
        obtain ⟨d, hdd⟩ : ∃ d, d = Q % 2 := ⟨_, rfl⟩
        rw [← hdd] at ha1
        have HM := Lib.hid hm
        have HDD := Lib.hid hdd
        by_cases hodd : Q % 2 = 1
        · have t4 : ((d : Int) == 1) = true := by rw [beq_iff_eq]; omega
          have HX : Hid (18014398509481984 ≤ Q ∧ Q % 2 = 1) := Lib.hid ⟨hq54, hodd⟩
          clear hm hdd hodd
          go_wp2_with fail
          go_meet
          refine ⟨by rw [if_pos HX.out.1], by rw [if_pos HX.out.1, ← HM.out], by rw [decide_eq_true HX.out.1, decide_eq_true HX.out.2]; simp, rfl⟩
        · have t4 : ((d : Int) == 1) = false := by rw [beq_eq_false_iff_ne]; omega
          have HX : Hid (18014398509481984 ≤ Q ∧ ¬ Q % 2 = 1) := Lib.hid ⟨hq54, hodd⟩
          clear hm hdd hodd
          go_wp2_with fail
          go_meet
          refine ⟨by rw [if_pos HX.out.1], by rw [if_pos HX.out.1, ← HM.out], by rw [decide_eq_true HX.out.1, decide_eq_false HX.out.2]; simpa using hrr, rfl⟩
      · have t3 : ((Q : Int) / 18014398509481984 == 1) = false := by rw [beq_eq_false_iff_ne]; omega
        have HX : Hid (¬ 18014398509481984 ≤ Q) := Lib.hid hq54
        go_wp2_with fail
        go_meet
        refine ⟨by rw [if_neg HX.out]; simp, by rw [if_neg HX.out], by rw [decide_eq_false HX.out]; simpa using hrr, rfl⟩
    case rest =>
      obtain ⟨rfl, rfl, rfl, rfl⟩ := hcut
      obtain ⟨m1, hm1⟩ : ∃ m, m = if 18014398509481984 ≤ Q then Q / 2 else Q := ⟨_, rfl⟩
      obtain ⟨E1, hE1⟩ : ∃ E : Int, E = (la : Int) - lb + (if 18014398509481984 ≤ Q then 1 else 0) := ⟨_, rfl⟩
      obtain ⟨g1, hg1⟩ : ∃ g, g = (h || (decide (18014398509481984 ≤ Q) && decide (Q % 2 = 1))) := ⟨_, rfl⟩
      rw [← hm1, ← hE1, ← hg1]
      have m1a : 9007199254740992 ≤ m1 := by rw [hm1]; split <;> omega
      have m1b : m1 < 18014398509481984 := by rw [hm1]; split <;> omega
      have E1a : -3000 ≤ E1 ∧ E1 ≤ 3000 := by rw [hE1]; split <;> omega
      have hqq : qfQ 52 N D = Q := by rw [HQX.out.1, HXY.out.1, HXY.out.2, HLA.out, HLB.out]; rfl
      have hss : qfS 52 N D = if R = 0 then 0 else 1 := by rw [HQX.out.2, HXY.out.1, HXY.out.2, HLA.out, HLB.out]; rfl
      have hee : qfE 52 N D = E1 := by
        rw [hE1, HLA.out, HLB.out, ← hqq]; rfl
      have E1c : -1074 ≤ E1 := by rw [← hee]; exact HLOW.out
      have HQQ := Lib.hid (And.intro hqq (And.intro hss hee))
      clear hqq hss hee
      have HM1 := Lib.hid hm1
      have HE1 := Lib.hid hE1
      have HG1 := Lib.hid hg1
      clear hm1 hE1 hg1 ha1 hrr
      have t3 : ((m1 : Int) / 9007199254740992 == 1) = true := by rw [beq_iff_eq]; omega
      have t3' : (m1 : Int) / 9007199254740992 = 1 := by omega
      obtain ⟨E1l, E1h⟩ := E1a
      have tl : decide ((-1074 : Int) ≤ E1) = true := decide_eq_true E1c
      go_upto_if 88 with fail
      go_cut [10, 16, 17, 18, 19] (fun ex mt hr _ _ wx => ∃ (E2 : Int) (m2 : Nat) (g2 : Bool), ex = .int .i64 E2 ∧ mt = .int .u64 m2 ∧ hr = .bool g2 ∧ w4 = wx ∧
        ((E1 ≤ -1022 ∧ E2 = -1021 ∧ m2 = m1 / 2 ^ (-1021 - E1).toNat ∧ g2 = (g1 || decide (m1 % 2 ^ (-1021 - E1).toNat ≠ 0))) ∨ (-1022 < E1 ∧ E2 = E1 ∧ m2 = m1 ∧ g2 = g1)))
      case first =>
        by_cases hd : E1 ≤ -1022
        · obtain ⟨sf, hsf⟩ := Int.eq_ofNat_of_zero_le (show 0 ≤ -1021 - E1 by omega)
          have hs1 : 1 ≤ sf := by omega
          have hs53 : sf ≤ 53 := by omega
          have tu : decide (E1 ≤ (-1022 : Int)) = true := decide_eq_true hd
          have k1 : (-1022 : Int) - (E1 - 1) = (sf : Int) := by omega
          have k2 : IntKind.u64.wrap (sf : Int) = (sf : Int) := by rw [IntKind.wrap_u64]; omega
          obtain ⟨S, hS⟩ : ∃ S, S = 2 ^ sf := ⟨_, rfl⟩
          have hS2 : (2 : Int) ^ sf = (S : Int) := by rw [hS]; push_cast; rfl
          have hSa : 2 ≤ S := by rw [hS]; exact Nat.le_trans (by decide) (Nat.pow_le_pow_right (n := 2) (by decide) hs1)
          have hSb : S ≤ 9007199254740992 := by rw [hS]; exact Nat.le_trans (Nat.pow_le_pow_right (n := 2) (by decide) hs53) (by decide)
          have k3 : IntKind.u64.wrap (S : Int) = (S : Int) := by rw [IntKind.wrap_u64]; omega
          obtain ⟨l, hl⟩ : ∃ l, l = m1 % S := ⟨_, rfl⟩
          have ha : bits .and .u64 (m1 : Int) ((S : Int) - 1) = (l : Int) := by
            rw [show (S : Int) - 1 = ((S - 1 : Nat) : Int) by omega, bits_and_u64_nat m1 (S - 1) (by omega) (by omega), hS, Nat.and_two_pow_sub_one_eq_mod, hl, hS]
          obtain ⟨m2, hm2⟩ : ∃ m2, m2 = m1 / S := ⟨_, rfl⟩
          have k4 : (m1 : Int) / (S : Int) = (m2 : Int) := by rw [hm2]; push_cast; rfl
          have HR : Hid (E1 ≤ -1022 ∧ m2 = m1 / 2 ^ (-1021 - E1).toNat ∧ l = m1 % 2 ^ (-1021 - E1).toNat) := Lib.hid ⟨hd, by rw [hm2, hS]; congr 2; omega, by rw [hl, hS]; congr 2; omega⟩
          clear hsf hS hl hm2 hd
          by_cases hl0 : l = 0
          · have t5 : ((l : Int) == 0) = true := by rw [hl0]; rfl
            have t6 : ((l : Int) != 0) = false := by unfold bne; rw [t5]; rfl
            have HL0 := Lib.hid hl0
            clear hl0
            cases g1 <;> (
              go_wp2_with fail
              go_meet
              exact ⟨-1021, m2, _, rfl, rfl, rfl, rfl, .inl ⟨HR.out.1, rfl, HR.out.2.1, by rw [← HR.out.2.2, HL0.out]; first | rfl | exact t6⟩⟩)
          · have t5 : ((l : Int) == 0) = false := by rw [beq_eq_false_iff_ne]; omega
            have t6 : ((l : Int) != 0) = true := by unfold bne; rw [t5]; rfl
            have HL0 := Lib.hid hl0
            clear hl0
            cases g1 <;> (
              go_wp2_with fail
              go_meet
              exact ⟨-1021, m2, _, rfl, rfl, rfl, rfl, .inl ⟨HR.out.1, rfl, HR.out.2.1, by rw [← HR.out.2.2, decide_eq_true HL0.out]; first | rfl | exact t6⟩⟩)
        · have tu : decide (E1 ≤ (-1022 : Int)) = false := decide_eq_false hd
          have hd' : -1022 < E1 := by omega
          go_wp2_with fail
          go_meet
          exact ⟨E1, m1, g1, rfl, rfl, rfl, rfl, .inr ⟨hd', rfl, rfl, rfl⟩⟩
      case rest =>
        obtain ⟨E2, m2, g2, rfl, rfl, rfl, rfl, hc⟩ := hcut
        have hE2b : -1021 ≤ E2 ∧ E2 ≤ 3000 := by
          rcases hc with ⟨c1, c2, -, -⟩ | ⟨c1, c2, -, -⟩ <;> omega
        have hm2b : m2 ≤ m1 := by
          rcases hc with ⟨-, -, c3, -⟩ | ⟨-, -, c3, -⟩
          · rw [c3]; exact Nat.div_le_self _ _
          · omega
        have hm2n : E2 = -1021 ∨ 9007199254740992 ≤ m2 := by
          rcases hc with ⟨-, c2, -, -⟩ | ⟨-, -, c3, -⟩
          · exact .inl c2
          · exact .inr (by omega)
        have hR1 : decide ((if R = 0 then 0 else 1) = 1) = decide (0 < R) := by
          by_cases h0 : R = 0
          · rw [if_pos h0, h0]; rfl
          · rw [if_neg h0, decide_eq_true rfl, decide_eq_true (Nat.pos_of_ne_zero h0)]
        obtain ⟨p1, p2, p3⟩ := qf_plain52 (Q := Q) (s := if R = 0 then 0 else 1) (m1 := m1) (m2 := m2) (E1 := E1) (E2 := E2) (g1 := g1) (g2 := g2) q1' q2' (by split <;> omega) E1c HM1.out (by rw [HG1.out, HH.out, hR1]) hc
        have hU : qfU 52 (-1074) N D = E2 - 53 := by
          unfold qfU; rw [HQQ.out.2.2]; exact p1
        have hMM : qfM 52 (-1074) N D = m2 / 2 + (if m2 % 2 = 1 ∧ (g2 = true ∨ m2 / 2 % 2 = 1) then 1 else 0) := by
          unfold qfM qfU; rw [HQQ.out.1, HQQ.out.2.1, HQQ.out.2.2]; exact p2
        have hAA : qfA 52 (-1074) N D = 0 ↔ g2 = false ∧ m2 % 2 = 0 := by
          unfold qfA qfU; rw [HQQ.out.1, HQQ.out.2.1, HQQ.out.2.2]; exact p3
        obtain ⟨M, hM⟩ : ∃ M, M = qfM 52 (-1074) N D := ⟨_, rfl⟩
        have hV : qfV 52 2047 (-1074) N D = (E2 - 53 + 1074).toNat * 4503599627370496 + M := by
          unfold qfV; rw [hU, hM]; rfl
        have hX : decide (qfA 52 (-1074) N D = 0) = (!g2 && decide (m2 % 2 = 0)) := by
          cases g2 <;> by_cases h2 : m2 % 2 = 0 <;> simp [hAA, h2]
        have hM0 : 0 < M := by rw [hM]; exact HM0.out
        have HV := Lib.hid hV
        have HX := Lib.hid hX
        rw [← hM] at hMM
        have hMb : M ≤ 9007199254740992 := by rw [hMM]; split <;> omega
        have HMM := Lib.hid hMM
        have hm2u : m2 < 18014398509481984 := by omega
        obtain ⟨E2a, E2b⟩ := hE2b
        clear hc p1 p2 p3 hU hMM hAA hM hV hX hR1
        have ha2 := and1_u64' (x := m2) (by omega)
        obtain ⟨o, hoo⟩ : ∃ o, o = m2 % 2 := ⟨_, rfl⟩
        rw [← hoo] at ha2
        have HOO := Lib.hid hoo
        clear hoo
        go_upto_if 110 with fail
        go_cut [7, 10, 16] (fun xa ex mt wx => ∃ (E3 : Int) (m3 : Nat), xa = .bool (!g2 && decide (m2 % 2 = 0)) ∧ ex = .int .i64 E3 ∧ mt = .int .u64 m3 ∧ w4 = wx ∧ 0 < m3 / 2 ∧ m3 / 2 < 9007199254740992 ∧ (E3 = -1021 ∨ 4503599627370496 ≤ m3 / 2) ∧ -1021 ≤ E3 ∧ E3 ≤ 3001 ∧ (E3 - 53 + 1074).toNat * 4503599627370496 + m3 / 2 = (E2 - 53 + 1074).toNat * 4503599627370496 + M)
        case first =>
          have hoo := HOO.out
          by_cases ho : m2 % 2 = 1
          · have t5 : ((o : Int) == 0) = false := by rw [beq_eq_false_iff_ne]; omega
            have t6 : ((o : Int) != 0) = true := by unfold bne; rw [t5]; rfl
            have hX2 : (!g2 && decide (m2 % 2 = 0)) = false := by rw [decide_eq_false (show ¬ m2 % 2 = 0 by omega), Bool.and_false]
            have HX2 := Lib.hid hX2
            have ha3 := and2_u64 (x := m2) (by omega)
            obtain ⟨z, hz⟩ : ∃ z, z = m2 / 2 % 2 * 2 := ⟨_, rfl⟩
            rw [← hz] at ha3
            by_cases hup : g2 = true ∨ m2 / 2 % 2 = 1
            · have hMu : M = m2 / 2 + 1 := by rw [HMM.out, if_pos ⟨ho, hup⟩]
              have t7 : g2 = false → ((z : Int) != 0) = true := fun h => by
                unfold bne
                rw [show ((z : Int) == 0) = false from beq_eq_false_iff_ne.2 (by rcases hup with h1 | h1; · rw [h] at h1; cases h1
                                                                                 · omega)]
                rfl
              by_cases hr : m2 = 18014398509481983
              · obtain ⟨k, hk⟩ : ∃ k, k = m2 + 1 := ⟨_, rfl⟩
                have e1 : (m2 : Int) + 1 = (k : Int) := by omega
                have e2 : IntKind.u64.wrap (k : Int) = (k : Int) := by rw [IntKind.wrap_u64]; omega
                have e3 : (k : Int) / 2 = 9007199254740992 := by omega
                have t8 : decide ((18014398509481984 : Int) ≤ (k : Int)) = true := decide_eq_true (by omega)
                have t9 : (18014398509481984 : Int) ≤ (k : Int) := by omega
                have HF : Hid (E2 + 1 = -1021 ∨ 4503599627370496 ≤ 9007199254740992 / 2) := Lib.hid (.inr (by decide))
                have HG : Hid ((E2 + 1 - 53 + 1074).toNat * 4503599627370496 + 9007199254740992 / 2 = (E2 - 53 + 1074).toNat * 4503599627370496 + M) := Lib.hid (by omega)
                clear hoo ho hX2 hup hMu hr hz hk
                cases g2 with
                | true =>
                  go_wp2_with fail
                  go_meet
                  exact ⟨E2 + 1, 9007199254740992, by rw [HX2.out], rfl, rfl, rfl, by decide, by decide, HF.out, by omega, by omega, HG.out⟩
                | false =>
                  have t7' := t7 rfl
                  clear t7
                  go_wp2_with fail
                  go_meet
                  exact ⟨E2 + 1, 9007199254740992, by rw [HX2.out], rfl, rfl, rfl, by decide, by decide, HF.out, by omega, by omega, HG.out⟩
              · obtain ⟨k, hk⟩ : ∃ k, k = m2 + 1 := ⟨_, rfl⟩
                have e1 : (m2 : Int) + 1 = (k : Int) := by omega
                have e2 : IntKind.u64.wrap (k : Int) = (k : Int) := by rw [IntKind.wrap_u64]; omega
                have t8 : decide ((18014398509481984 : Int) ≤ (k : Int)) = false := decide_eq_false (by omega)
                have t9 : ¬ (18014398509481984 : Int) ≤ (k : Int) := by omega
                have HF : Hid (0 < k / 2 ∧ k / 2 < 9007199254740992 ∧ (E2 = -1021 ∨ 4503599627370496 ≤ k / 2) ∧ (E2 - 53 + 1074).toNat * 4503599627370496 + k / 2 = (E2 - 53 + 1074).toNat * 4503599627370496 + M) := Lib.hid ⟨by omega, by omega, by omega, by omega⟩
                clear hoo ho hX2 hup hMu hr hz hk
                cases g2 with
                | true =>
                  go_wp2_with fail
                  go_meet
                  exact ⟨E2, k, by rw [HX2.out], rfl, rfl, rfl, HF.out.1, HF.out.2.1, HF.out.2.2.1, by omega, by omega, HF.out.2.2.2⟩
                | false =>
                  have t7' := t7 rfl
                  clear t7
                  go_wp2_with fail
                  go_meet
                  exact ⟨E2, k, by rw [HX2.out], rfl, rfl, rfl, HF.out.1, HF.out.2.1, HF.out.2.2.1, by omega, by omega, HF.out.2.2.2⟩
            · have hMu : M = m2 / 2 := by rw [HMM.out, if_neg (fun h => hup h.2)]; rfl
              have hg2 : g2 = false := Bool.eq_false_iff.2 fun h => hup (.inl h)
              have t7 : ((z : Int) != 0) = false := by
                unfold bne
                rw [show ((z : Int) == 0) = true from beq_iff_eq.2 (by have : ¬ m2 / 2 % 2 = 1 := fun h => hup (.inr h); omega)]
                rfl
              have HF : Hid (0 < m2 / 2 ∧ m2 / 2 < 9007199254740992 ∧ (E2 = -1021 ∨ 4503599627370496 ≤ m2 / 2) ∧ (E2 - 53 + 1074).toNat * 4503599627370496 + m2 / 2 = (E2 - 53 + 1074).toNat * 4503599627370496 + M) := Lib.hid ⟨by omega, by omega, by omega, by omega⟩
              clear hoo ho hX2 hup hMu hz
              subst hg2
              go_wp2_with fail
              go_meet
              exact ⟨E2, m2, by rw [HX2.out], rfl, rfl, rfl, HF.out.1, HF.out.2.1, HF.out.2.2.1, by omega, by omega, HF.out.2.2.2⟩
          · have t5 : ((o : Int) == 0) = true := by rw [beq_iff_eq]; omega
            have t6 : ((o : Int) != 0) = false := by unfold bne; rw [t5]; rfl
            have hX2 : (!g2 && decide (m2 % 2 = 0)) = !g2 := by rw [decide_eq_true (show m2 % 2 = 0 by omega), Bool.and_true]
            have HX2 := Lib.hid hX2
            have hMu : M = m2 / 2 := by rw [HMM.out, if_neg (fun h => ho h.1)]; rfl
            have HF : Hid (0 < m2 / 2 ∧ m2 / 2 < 9007199254740992 ∧ (E2 = -1021 ∨ 4503599627370496 ≤ m2 / 2) ∧ (E2 - 53 + 1074).toNat * 4503599627370496 + m2 / 2 = (E2 - 53 + 1074).toNat * 4503599627370496 + M) := Lib.hid ⟨by omega, by omega, by omega, by omega⟩
            clear hoo ho hX2 hMu
            go_wp2_with fail
            go_meet
            exact ⟨E2, m2, by rw [HX2.out], rfl, rfl, rfl, HF.out.1, HF.out.2.1, HF.out.2.2.1, by omega, by omega, HF.out.2.2.2⟩
        case rest =>
          obtain ⟨E3, m3, rfl, rfl, rfl, rfl, c0, c1, c2, c3, c4, c5⟩ := hcut
          obtain ⟨M3, hM3⟩ : ∃ M3, M3 = m3 / 2 := ⟨_, rfl⟩
          rw [← hM3] at c0 c1 c2 c5
          have e1 : (m3 : Int) / 2 = (M3 : Int) := by omega
          have hfo := foi c0 c1
          have HLD := Lib.hid (mLdexp M3 (E3 - 53) w4 c0 c1 (by omega) (by omega) (by omega))
          obtain ⟨P, hP⟩ : ∃ P, P = f64P M3 := ⟨_, rfl⟩
          rw [← hP] at hfo HLD
          rw [c5] at HLD
          obtain ⟨V, hVV⟩ : ∃ V, V = qfV 52 2047 (-1074) N D := ⟨_, rfl⟩
          have hV2 : (E2 - 53 + 1074).toNat * 4503599627370496 + M = V := by rw [hVV]; exact HV.out.symm
          rw [hV2] at HLD
          obtain ⟨y, hy⟩ : ∃ y, y = (!g2 && decide (m2 % 2 = 0)) := ⟨_, rfl⟩
          rw [← hy]
          have HXX : Hid (V = qfV 52 2047 (-1074) N D ∧ decide (qfA 52 (-1074) N D = 0) = y) := Lib.hid ⟨hVV, by rw [hy]; exact HX.out⟩
          have HIS : Hid (Calls Tryz.prog 110 #[.float .f64 (min V 9218868437227405312), .int .i64 0] w4 fun e w' => e = .returned (.bool (!decide (V < 9218868437227405312))) ∧ w4 = w') := Lib.hid (mIsInf _ _ w4 (by omega) (by
            by_cases hc : V < 9218868437227405312
            · rw [show min V 9218868437227405312 % 9223372036854775808 = V by omega, ord_max hc, decide_eq_true hc]; rfl
            · rw [show min V 9218868437227405312 % 9223372036854775808 = 9218868437227405312 by omega, ord_max_inf, decide_eq_false hc]; rfl))
          obtain ⟨R3, hR3⟩ : ∃ R3, R3 = min V 9218868437227405312 := ⟨_, rfl⟩
          rw [← hR3] at HLD HIS
          have HR3 := Lib.hid hR3
          obtain ⟨t, ht⟩ : ∃ t, t = decide (V < 9218868437227405312) := ⟨_, rfl⟩
          rw [← ht] at HIS
          have HT2 := Lib.hid ht
          clear hM3 hP hV2 hVV hy hR3 ht c5 c0 c1 c2 HX HV
          go_wp2_with fail
          refine HLD.out.mono ?_
          rintro _ _ ⟨rfl, rfl⟩
          go_wp2_with fail
          refine HIS.out.mono ?_
          rintro _ _ ⟨rfl, rfl⟩
          cases t with
          | true =>
            go_wp2
            go_ret2
            exact ⟨by rw [← HXX.out.1, ← HR3.out, HXX.out.2, ← HT2.out, Bool.and_true]; rfl, o', HFR.out⟩
          | false =>
            go_wp2
            go_ret2
            exact ⟨by rw [← HXX.out.1, ← HR3.out, HXX.out.2, ← HT2.out, Bool.and_false]; rfl, o', HFR.out⟩
def rfV (N D : Nat) : Nat := if N = 0 then 0 else min (qfV 52 2047 (-1074) N D) 9218868437227405312
def rfX (N D : Nat) : Bool := if N = 0 then true else (decide (qfA 52 (-1074) N D = 0) && decide (qfV 52 2047 (-1074) N D < 9218868437227405312))
def RfOk (N D : Nat) : Prop := bl N ≤ 2000 ∧ bl D ≤ 2000 ∧ (0 < N → -1074 ≤ qfE 52 N D ∧ 0 < qfM 52 (-1074) N D)
theorem rfV_le (N D : Nat) : rfV N D ≤ 9218868437227405312 := by unfold rfV; split <;> omega
theorem xor_top {v : Nat} (h : v < 2 ^ 63) : v ^^^ 2 ^ 63 = 2 ^ 63 * 1 + v := by
  rw [Nat.two_pow_add_eq_or_of_lt h]
  apply Nat.eq_of_testBit_eq
  intro i
  rw [Nat.testBit_xor, Nat.testBit_or, Nat.mul_one, Nat.testBit_two_pow]
  by_cases hi : 63 = i
  · subst hi
    rw [Nat.testBit_lt_two_pow h]; simp
  · simp [hi]
theorem negF64 {v : Nat} (h : v < 9223372036854775808) : Op.negFloat .f64 v = v + 9223372036854775808 := by
  have h1 := xor_top (v := v) h
  show v ^^^ 2 ^ 63 = _
  rw [h1]; omega
set_option maxRecDepth 100000 in
theorem quot64_zero (s a b : Value) (w : World) (ha : RW w a (wds 0)) :
    Calls Tryz.prog 73 #[s, a, b] w fun e w' => e = .returned (.tuple #[.float .f64 0, .bool true]) ∧ w = w' := by
  have hSa := ha.isS
  have HB := Lib.hid (bitLen_any a 0 w ha (by decide))
  have hz : ((bl 0 : Nat) : Int) = 0 := by decide
  rw [hz] at HB
  clear ha
  go_enter Tryz.func73, Tryz.ntmps73
  go_wp2_with fail
  refine HB.out.mono ?_
  rintro _ _ ⟨rfl, rfl⟩
  go_wp2
  go_ret2
  exact ⟨rfl, rfl⟩
theorem quot64_all (a b : Value) (N D s : Nat) (w : World) (ha : RW w a (wds N)) (hb : RW w b (wds D)) (hD0 : 0 < D) (hok : RfOk N D)
    (hst : StO w s s 0 none) (hB : s ≤ w.heap.size) (hT : DivW w) (hg : 3 < s) :
    Calls Tryz.prog 73 #[.pointer (some ⟨s, 0, none⟩), a, b] w fun e w' => e = .returned (.tuple #[.float .f64 (rfV N D), .bool (rfX N D)]) ∧ ∃ o', StO w' s s 0 o' ∧ Below s w w' := by
  rcases Nat.eq_zero_or_pos N with h | h
  · subst h
    refine (quot64_zero _ a b w ha).mono ?_
    rintro e w' ⟨h1, rfl⟩
    exact ⟨h1, none, hst, Below.refl _ _⟩
  · refine (quot64 a b N D s s none w ha hb h hD0 hok.1 hok.2.1 (hok.2.2 h).1 (hok.2.2 h).2 hst hB hT hg).mono ?_
    rintro e w' ⟨h1, o', h2, -, h3, -⟩
    refine ⟨?_, o', h2, h3⟩
    rw [h1]; unfold rfV rfX; rw [if_neg (by omega), if_neg (by omega)]
set_option maxRecDepth 100000 in
set_option maxHeartbeats 1600000 in
theorem ratF64 (x : Nat) (n : Bool) (N D : Nat) (w : World) (hx : RatP w 0 x n N D) (hD0 : 0 < D) (hok : RfOk N D) (hT : DivW w) :
    Calls Tryz.prog 39 #[.pointer (some ⟨x, 0, none⟩)] w fun e w' => e = .returned (.tuple #[.float .f64 (rfV N D + if n then 9223372036854775808 else 0), .bool (rfX N D)]) ∧ Below w.heap.size w w' := by
  obtain ⟨vx, ux, -, rx, ox1, ox2⟩ := hx
  have hS1 := ox1.isS
  have hS2 := ox2.isS
  obtain ⟨l, hl⟩ : ∃ l, l = nw D := ⟨_, rfl⟩
  have hLu : sLen ux = l := by rw [ox2.len, cellsW_length, wds_length, hl]
  have hl0 : 0 < l := by rw [hl]; exact nw_pos hD0
  have t0 : ((l : Int) == 0) = false := by rw [beq_eq_false_iff_ne]; omega
  have hxl : x < w.heap.size := get_lt rx
  obtain ⟨s, hs⟩ : ∃ s, s = w.heap.size := ⟨_, rfl⟩
  obtain ⟨W, hW⟩ : ∃ W, W = w.alloc (.cells #[.pointer none] 132) := ⟨_, rfl⟩
  have hWz : W.heap.size = s + 1 := by rw [hW, hs]; simp
  have hbw : Below w.heap.size w W := by rw [hW]; exact fbone _
  have rs : W.heap[s]? = some (.cells #[.pointer none] 132 (0, 0)) := by rw [hW, hs]; exact heap_alloc_new _ _
  have rxW := keep_row hbw rx
  have dg : 3 < s := by rw [hs]; exact World.block_lt_of_cell? w _ hT
  have HQ := Lib.hid (quot64_all vx ux N D s W ((ox1.rw' (wds_all _)).below hbw) ((ox2.rw' (wds_all _)).below hbw) hD0 hok ⟨Nat.le_refl _, rs, rfl⟩ (by omega) (hT.below hbw) dg)
  have HRX := Lib.hid rxW
  have HBW := Lib.hid hbw
  have c1 := (row_at (i := 1) rxW rfl).1
  have d3 := (row_at (i := 3) rx rfl).1
  have HXL := Lib.hid hxl
  have HV := Lib.hid (negF64 (v := rfV N D) (Nat.lt_of_le_of_lt (rfV_le N D) (by decide)))
  obtain ⟨V, hV⟩ : ∃ V, V = rfV N D := ⟨_, rfl⟩
  obtain ⟨X, hX⟩ : ∃ X, X = rfX N D := ⟨_, rfl⟩
  rw [← hV, ← hX] at HQ
  rw [← hV] at HV
  rw [← hV, ← hX]
  clear hV hX ox1 ox2 rx rxW rs hl hok hT hbw hxl
  subst hs
  go_enter_defers Tryz.func39, Tryz.ntmps39
  go_wp2_with fail
  refine (getStack_any _).mono ?_
  rintro _ _ ⟨rfl, rfl⟩
  rw [← hW]
  clear hW
  go_wp2_with fail
  refine HQ.out.mono ?_
  rintro _ w1 ⟨rfl, o', hst, hb1⟩
  have c0 : w1.cell? ⟨x, 0, none⟩ = some (.bool n) := (row_at (i := 0) ((hb1.block _ HXL.out).trans HRX.out) rfl).1
  have HB := Lib.hid (HBW.out.trans hb1)
  clear hb1
  cases n with
  | false =>
    match o', hst with
    | none, ⟨g0, g1, _⟩ =>
      have HR := Lib.hid (free_d w.heap.size .returning w1 (row_at (i := 0) g1 rfl).1)
      clear g0 g1
      go_wp2
      refine leaves_cons (f := 58) (args := #[.pointer (some ⟨w.heap.size, 0, none⟩)]) (by simp) (by simp [go_sem]) ?_
      refine HR.out.mono ?_
      rintro e u' w'' ⟨rfl, rfl, rfl⟩
      simp [Leaves, settle, results, Tryz.results39, go_sem]
      exact HB.out
    | some (q0, v0), ⟨g0, g1, g2, g3, xs, g4, g5⟩ =>
      simp only at g1 g2 g3 g4
      have HR := Lib.hid (free_some w.heap.size q0 v0 .returning w1 g2 g3 g4.isS)
      have Q := Lib.hid (HB.out.setCell (p := ⟨q0, 0, none⟩) g1 (subS v0 0 0))
      clear g0 g1 g2 g3 g4 g5
      go_wp2
      refine leaves_cons (f := 58) (args := #[.pointer (some ⟨w.heap.size, 0, none⟩)]) (by simp) (by simp [go_sem]) ?_
      refine HR.out.mono ?_
      rintro e u' w'' ⟨rfl, rfl, rfl⟩
      simp [Leaves, settle, results, Tryz.results39, go_sem]
      exact Q.out
  | true =>
    have hneg : ∀ W : World, (Op.unary .neg (.float .f64 V)).run Tryz.prog W = .ok (.float .f64 (V + 9223372036854775808)) W := fun W => by
      show (pure (Value.float .f64 (Op.negFloat .f64 V)) : Sem Value).run Tryz.prog W = _
      rw [HV.out]
      rfl
    match o', hst with
    | none, ⟨g0, g1, _⟩ =>
      have HR := Lib.hid (free_d w.heap.size .returning w1 (row_at (i := 0) g1 rfl).1)
      clear g0 g1
      go_wp2
      refine leaves_cons (f := 58) (args := #[.pointer (some ⟨w.heap.size, 0, none⟩)]) (by simp) (by simp [go_sem]) ?_
      refine HR.out.mono ?_
      rintro e u' w'' ⟨rfl, rfl, rfl⟩
      simp [Leaves, settle, results, Tryz.results39, go_sem]
      exact HB.out
    | some (q0, v0), ⟨g0, g1, g2, g3, xs, g4, g5⟩ =>
      simp only at g1 g2 g3 g4
      have HR := Lib.hid (free_some w.heap.size q0 v0 .returning w1 g2 g3 g4.isS)
      have Q := Lib.hid (HB.out.setCell (p := ⟨q0, 0, none⟩) g1 (subS v0 0 0))
      clear g0 g1 g2 g3 g4 g5
      go_wp2
      refine leaves_cons (f := 58) (args := #[.pointer (some ⟨w.heap.size, 0, none⟩)]) (by simp) (by simp [go_sem]) ?_
      refine HR.out.mono ?_
      rintro e u' w'' ⟨rfl, rfl, rfl⟩
      simp [Leaves, settle, results, Tryz.results39, go_sem]
      exact Q.out
end Go.Proofs.YtoddjkpckpekcaaGreatDoor
