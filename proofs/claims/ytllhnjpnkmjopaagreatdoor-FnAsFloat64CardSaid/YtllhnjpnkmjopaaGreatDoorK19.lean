/-
Texts of this proof, joined: TzG StD DyA LwB MoA SmA MoC FdA FdC FcA AfA FcB. No condition.
-/
import Derived.Test.YtllhnjpnkmjopaaGreatDoorK02
import Derived.Test.YtllhnjpnkmjopaaGreatDoorK05
import Derived.Test.YtllhnjpnkmjopaaGreatDoorK17
import Derived.Test.YtllhnjpnkmjopaaGreatDoorK18
import Derived.Laws.BitsAllLaws
import Derived.WalkKit
import Derived.Laws.FloatArith
import Derived.Laws.Externs
namespace Go.Proofs.YtllhnjpnkmjopaaGreatDoor
open Go.RowKit

theorem float_val (P E p m f : Nat) (neg : Bool) (v : Value) (e : Int) (ws : List Nat) (w : World) (hv : RW w v ws) (ho : RealOk P E p m f ws e) (hP : P ≤ 64000000) (hE : E ≤ 1000000000) :
    Calls Tryz.prog 50 #[.agg #[.int .u64 p, .int .i64 m, .int .i64 f, .bool neg, v, .int .i64 e]] w fun e' w' => ∃ g, e' = .returned (.pointer (some ⟨g, 0, none⟩)) ∧ (w.heap.size ≤ g ∧ FVal w' w.heap.size g p m 0 f neg (wv ws) e) ∧ Below w.heap.size w w' := by
  refine (float_any P E p m f neg v e ws w hv ho hP (by omega)).mono ?_
  rintro _ w' ⟨g, rfl, hF, hb⟩
  refine ⟨g, rfl, ⟨hF.1, hF.val fun hf => ?_⟩, hb⟩
  subst hf
  obtain ⟨-, -, -, h | h | h⟩ := ho
  · exact absurd h (by decide)
  · exact absurd h (by decide)
  · exact ⟨h.2.1, h.2.2.1, by have := nw_le (wv_lt hv.lt); have := h.2.2.2.1; omega⟩
theorem bthenX {B : Nat} {a b c : World} (h : Below B a b) (k : Below B b c) : Below B a c := h.trans k
theorem rQ_range {p m M : Nat} {neg : Bool} {e : Int} (h : bl M ≤ 1000000 ∧ -2120000000 ≤ e ∧ e ≤ 2120000000) : -2140000000 ≤ e + (rk p M : Nat) ∧ e + (rk p M : Nat) + bl (rQ p m neg 0 M) ≤ 2140000000 := by
  have h1 := rk_le p M
  have h2 := bl_rQ p m neg 0 M
  omega
def dyN (f : Nat) (n : Bool) : Bool := if f = 1 then n else false
def dyM (f M : Nat) : Nat := if f = 1 then M else 0
def dyE (f : Nat) (e : Int) : Int := if f = 1 then e else 0
theorem RealOk.pos {P E p m f : Nat} {ws : List Nat} {e : Int} (h : RealOk P E p m f ws e) (hf : f = 1) : 0 < wv ws := by
  subst hf
  obtain ⟨-, -, -, h | h | h⟩ := h
  · exact absurd h (by decide)
  · exact absurd h (by decide)
  · exact h.2.1
theorem rQ_zero (p m : Nat) (neg : Bool) : rk p 0 = 0 ∧ rQ p m neg 0 0 = 0 ∧ rA p m neg 0 0 = 0 := rQ_fits neg (by rw [bl_zero]; exact Nat.zero_le _)
theorem RealV.form {w : World} {z : Value} {p m f M : Nat} {neg : Bool} {X : Int} (h : RealV w z p m f neg M X) : ∃ (v : Value) (E : Int), z = .agg #[.int .u64 p, .int .i64 m, .int .i64 f, .bool neg, v, .int .i64 E] ∧ IsS v := by
  obtain ⟨v, E, zs, B, h1, h2, -⟩ := h
  exact ⟨v, E, h1, h2.isS⟩
theorem RealOk.form' {P E p m f : Nat} {ws : List Nat} {e : Int} (h : RealOk P E p m f ws e) : f ≤ 2 := by
  obtain ⟨-, -, -, h | h | h⟩ := h <;> omega
def vN (V : Int) : Bool := decide (V < 0)
def smV (n1 : Bool) (M : Nat) (E : Int) (n2 : Bool) (N : Nat) (F : Int) : Int := sI n1 (lo M E (min E F)) + sI n2 (lo N F (min E F))
theorem natAbs_sI (n : Bool) (S : Nat) : (sI n S).natAbs = S := by cases n <;> simp [sI]
theorem vN_sI {n : Bool} {S : Nat} (h : 0 < S) : vN (sI n S) = n := by
  cases n
  · simp [sI, vN]
  · simp [sI, vN]; omega
theorem sI_ne {n : Bool} {S : Nat} (h : 0 < S) : sI n S ≠ 0 := by
  cases n
  · simp [sI]; omega
  · simp [sI]; omega
theorem lo_zero (E e : Int) : lo 0 E e = 0 := Nat.zero_mul _
theorem sI_zero (n : Bool) : sI n 0 = 0 := by cases n <;> rfl
theorem smV_bl (n1 : Bool) (M : Nat) (E : Int) (n2 : Bool) (N : Nat) (F : Int) : bl (smV n1 M E n2 N F).natAbs ≤ max (bl M + (E - min E F).toNat) (bl N + (F - min E F).toNat) + 1 := by
  refine Nat.le_trans (bl_mono ?_) (bl_suM M E N F)
  unfold smV suM; cases n1 <;> cases n2 <;> simp [sI] <;> omega
theorem dy_bd {P E p m f : Nat} {ws : List Nat} {e : Int} (h : RealOk P E p m f ws e) : bl (dyM f (wv ws)) ≤ P ∧ -(E : Int) ≤ dyE f e ∧ dyE f e ≤ E := by
  by_cases hf : f = 1
  · subst hf
    obtain ⟨-, h2, -, h | h | ⟨-, h3, h4, h5, h6, h7⟩⟩ := h
    · omega
    · omega
    · exact ⟨Nat.le_trans h4 h2, h6, h7⟩
  · unfold dyM dyE; rw [if_neg hf, if_neg hf, bl_zero]; omega
theorem sI_vN (V : Int) : sI (vN V) V.natAbs = V := by
  unfold vN
  by_cases h : V < 0
  · rw [decide_eq_true h]; simp only [sI, if_true]; omega
  · rw [decide_eq_false h]; simp only [sI, Bool.false_eq_true, if_false]; omega
def btU (M : Nat) (E : Int) (k : Nat) (L : Int) : Int := max L (E + bl M - 1 - k)
def btQ (n : Bool) (M : Nat) (E u : Int) : Nat := if u ≤ E then M * 2 ^ (E - u).toNat else ctQ 0 n M (u - E).toNat
def btA (n : Bool) (M : Nat) (E u : Int) : Int := if u ≤ E then 0 else ctA 0 n M (u - E).toNat
def btI (Q : Nat) (u : Int) (k : Nat) (L : Int) (T : Nat) : Bool := decide ((T : Int) - 1 ≤ u - L ∨ T * 2 ^ k ≤ (u - L).toNat * 2 ^ k + Q)
def btV (n : Bool) (M : Nat) (E : Int) (k : Nat) (L : Int) (T : Nat) : Nat :=
  if btI (btQ n M E (btU M E k L)) (btU M E k L) k L T then T * 2 ^ k else (btU M E k L - L).toNat * 2 ^ k + btQ n M E (btU M E k L)
def btS (n : Bool) (M : Nat) (E : Int) (k : Nat) (L : Int) (T : Nat) : Int :=
  if btI (btQ n M E (btU M E k L)) (btU M E k L) k L T then (if n then -1 else 1) else btA n M E (btU M E k L)
theorem bt_cut {n : Bool} {M k : Nat} {E L : Int} (hM : 0 < M) (hp : L + 1 ≤ E + bl M) :
    ∃ p : Nat, (p : Int) = E + bl M - btU M E k L ∧ 1 ≤ p ∧ p ≤ k + 1 ∧ deq (rQ p 0 n 0 M) (E + rk p M) (btQ n M E (btU M E k L)) (btU M E k L) ∧ rA p 0 n 0 M = btA n M E (btU M E k L) ∧
      0 < btQ n M E (btU M E k L) ∧ btQ n M E (btU M E k L) ≤ 2 ^ (k + 1) ∧ (btU M E k L = L ∨ 2 ^ k ≤ btQ n M E (btU M E k L)) := by
  have hb := bl_pos hM
  obtain ⟨u, hu⟩ : ∃ u, u = btU M E k L := ⟨_, rfl⟩
  have hu2 : u = max L (E + bl M - 1 - k) := hu
  rw [← hu]
  clear hu
  obtain ⟨p, hpp⟩ := Int.eq_ofNat_of_zero_le (show 0 ≤ E + bl M - u by omega)
  refine ⟨p, hpp.symm, by omega, by omega, ?_⟩
  by_cases h : u ≤ E
  · obtain ⟨k0, q0, a0⟩ := rQ_fits (p := p) (m := 0) n (show bl M ≤ p by omega)
    have e1 : btQ n M E u = M * 2 ^ (E - u).toNat := if_pos h
    have e2 : btA n M E u = 0 := if_pos h
    have hbl := bl_mul hM (E - u).toNat
    rw [← e1] at hbl
    have hpos : 0 < btQ n M E u := by rw [e1]; exact Nat.mul_pos hM (Nat.two_pow_pos _)
    refine ⟨?_, by rw [a0, e2], hpos, ?_, ?_⟩
    · rw [k0, q0, e1]
      have := (deq.shl M u (E - u).toNat).symm
      rw [show u + ((E - u).toNat : Int) = E + ((0 : Nat) : Int) by omega] at this
      exact this
    · exact Nat.le_of_lt (Nat.lt_of_lt_of_le (lt_bl _) (Nat.pow_le_pow_right (by decide) (by omega)))
    · by_cases hL : u = L
      · exact .inl hL
      · refine .inr (Nat.le_trans (Nat.pow_le_pow_right (by decide) (by omega)) (bl_ge hpos))
  · have hrk : rk p M = (u - E).toNat := by unfold rk; omega
    have e1 : btQ n M E u = rQ p 0 n 0 M := by rw [btQ, if_neg h, ← hrk]; rfl
    have e2 : btA n M E u = rA p 0 n 0 M := by rw [btA, if_neg h, ← hrk]; rfl
    have hlt : p < bl M := by unfold rk at hrk; omega
    obtain ⟨b1, -, b3⟩ := rQ_bound (m := 0) n 0 (show 0 < p by omega) hlt
    have hle : M / 2 ^ rk p M ≤ rQ p 0 n 0 M := Nat.le_add_right _ _
    rw [e1, e2]
    refine ⟨?_, rfl, rQ_pos n 0 (by omega) hM, Nat.le_trans b3 (Nat.pow_le_pow_right (by decide) (by omega)), ?_⟩
    · rw [show E + ((rk p M : Nat) : Int) = u by rw [hrk]; omega]; exact deq.refl _ _
    · by_cases hL : u = L
      · exact .inl hL
      · refine .inr (Nat.le_trans (Nat.pow_le_pow_right (by decide) (by omega)) (Nat.le_trans b1 hle))
theorem bt_low {n : Bool} {M k T : Nat} {E L : Int} (hM : 0 < M) (hp : E + bl M < L) (hT : 2 ≤ T) : btV n M E k L T = 0 ∧ btS n M E k L T = if n then 1 else -1 := by
  have hb := bl_pos hM
  have hu : btU M E k L = L := by unfold btU; omega
  have hlt := lt_bl M
  have hd : M / 2 ^ (L - E).toNat = 0 := Nat.div_eq_of_lt (Nat.lt_of_lt_of_le hlt (Nat.pow_le_pow_right (by decide) (by omega)))
  have hm : M % 2 ^ (L - E).toNat = M := Nat.mod_eq_of_lt (Nat.lt_of_lt_of_le hlt (Nat.pow_le_pow_right (by decide) (by omega)))
  have h2 : 2 * M < 2 ^ (L - E).toNat := by
    have h3 : 2 ^ (bl M + 1) ≤ 2 ^ (L - E).toNat := Nat.pow_le_pow_right (by decide) (by omega)
    rw [Nat.pow_succ] at h3
    omega
  have hl : lef (M % 2 ^ (L - E).toNat) (2 ^ (L - E).toNat) 0 = 1 := by
    rw [hm]; unfold lef; rw [if_neg (by omega), if_pos h2]
  have hU : ctU 0 n M (L - E).toNat = false := by
    unfold ctU; rw [hl]; unfold awy; simp
  have hQ : btQ n M E L = 0 := by
    unfold btQ; rw [if_neg (by omega)]; unfold ctQ; rw [hd, hU]; simp
  have hA : btA n M E L = if n then 1 else -1 := by
    unfold btA; rw [if_neg (by omega)]; unfold ctA; rw [hl, hU]; cases n <;> simp
  have hI : btI 0 L k L T = false := by
    unfold btI
    refine decide_eq_false ?_
    have hp2 := Nat.mul_le_mul_left 2 (Nat.two_pow_pos k)
    have hp3 := Nat.mul_le_mul_right (2 ^ k) hT
    rw [Int.sub_self]
    simp only [Int.toNat_zero, Nat.zero_mul, Nat.zero_add]
    omega
  unfold btV btS
  rw [hu, hQ, hA, hI]
  simp
theorem bt_enc {Q k T : Nat} {u L : Int} (h0 : 0 < Q) (h1 : Q ≤ 2 ^ (k + 1)) (h2 : u = L ∨ 2 ^ k ≤ Q) (hL : L ≤ u) (hT : 2 ≤ T) :
    bl Q ≤ k + 2 ∧ (u + bl Q ≤ L + k → u = L ∧ btI Q u k L T = false ∧ bl Q ≤ k) ∧
    (L + k < u + bl Q → (btI Q u k L T = true ↔ T + L + k ≤ u + bl Q) ∧ k + 1 ≤ bl Q ∧
      (u - L).toNat * 2 ^ k + Q = (u + bl Q - L - k).toNat * 2 ^ k + (if bl Q = k + 1 then Q - 2 ^ k else 0)) := by
  have hp := Nat.two_pow_pos k
  rw [Nat.pow_succ] at h1
  have hb2 : bl Q ≤ k + 2 := bl_le (by rw [Nat.pow_succ, Nat.pow_succ]; omega)
  have hb1 : 2 ^ k ≤ Q → k + 1 ≤ bl Q := fun h => by
    have := (Nat.pow_lt_pow_iff_right (a := 2) (by decide)).1 (Nat.lt_of_le_of_lt h (lt_bl Q))
    omega
  have hb3 : bl Q = k + 2 → Q = 2 ^ k * 2 := fun h => by
    have := bl_ge h0
    rw [h, show k + 2 - 1 = k + 1 by omega, Nat.pow_succ] at this
    omega
  have hb4 : bl Q ≤ k + 1 → Q < 2 ^ k * 2 := fun h => by
    have := Nat.lt_of_lt_of_le (lt_bl Q) (Nat.pow_le_pow_right (show 0 < 2 by decide) h)
    rw [Nat.pow_succ] at this; exact this
  refine ⟨hb2, fun h => ?_, fun h => ?_⟩
  · have hu : u = L := by
      rcases h2 with h2 | h2
      · exact h2
      · have := hb1 h2; omega
    have hbk : bl Q ≤ k := by omega
    refine ⟨hu, ?_, hbk⟩
    unfold btI
    refine decide_eq_false ?_
    have h3 := Nat.lt_of_lt_of_le (lt_bl Q) (Nat.pow_le_pow_right (show 0 < 2 by decide) hbk)
    have hp3 := Nat.mul_le_mul_right (2 ^ k) hT
    rw [hu, Int.sub_self]
    simp only [Int.toNat_zero, Nat.zero_mul, Nat.zero_add]
    omega
  · have hk1 : k + 1 ≤ bl Q := by
      rcases h2 with h2 | h2
      · omega
      · exact hb1 h2
    obtain ⟨d, hd⟩ := Int.eq_ofNat_of_zero_le (show 0 ≤ u - L by omega)
    have hge : 2 ^ k ≤ Q := by
      have := bl_ge h0
      exact Nat.le_trans (Nat.pow_le_pow_right (by decide) (by omega)) this
    have hdt : (u - L).toNat = d := by omega
    rcases (by omega : bl Q = k + 1 ∨ bl Q = k + 2) with hb | hb
    · have hQ := hb4 (by omega)
      refine ⟨?_, by omega, ?_⟩
      · unfold btI
        rw [decide_eq_true_iff, hdt, hd]
        have hm : T ≤ d + 1 ↔ T * 2 ^ k ≤ (d + 1) * 2 ^ k := ⟨fun h => Nat.mul_le_mul_right _ h, fun h => Nat.le_of_mul_le_mul_right h hp⟩
        have hm2 : d + 2 ≤ T → (d + 2) * 2 ^ k ≤ T * 2 ^ k := fun h => Nat.mul_le_mul_right _ h
        rw [Nat.add_mul] at hm hm2
        omega
      · rw [if_pos hb, hdt, show (u + bl Q - L - k).toNat = d + 1 by omega, Nat.add_mul]
        omega
    · have hQ := hb3 hb
      refine ⟨?_, by omega, ?_⟩
      · unfold btI
        rw [decide_eq_true_iff, hdt, hd]
        have hm : T ≤ d + 2 ↔ T * 2 ^ k ≤ (d + 2) * 2 ^ k := ⟨fun h => Nat.mul_le_mul_right _ h, fun h => Nat.le_of_mul_le_mul_right h hp⟩
        rw [Nat.add_mul] at hm
        omega
      · rw [if_neg (by omega), hdt, show (u + bl Q - L - k).toNat = d + 2 by omega, Nat.add_mul]
        omega
theorem top_word {ws : List Nat} {p Q : Nat} {x u : Int} (hg : Good ws p) (h : deq (wv ws) (x - 64 * (ws.length : Int)) Q u) (hQ : bl Q ≤ 64) :
    x = u + bl Q ∧ wv ws / 2 ^ (64 * (ws.length - 1)) = Q * 2 ^ (64 - bl Q) := by
  have h1 := h.bl hg.posv
  rw [hg.bl] at h1
  have hx : x = u + bl Q := by omega
  refine ⟨hx, ?_⟩
  have hl := hg.1
  have hQ0 := h.pos hg.posv
  obtain ⟨i, j, a1, a2⟩ := h
  have hj : j = (64 * ws.length - bl Q) + i := by omega
  rw [hj, Nat.pow_add, ← Nat.mul_assoc] at a1
  have a3 := Nat.eq_of_mul_eq_mul_right (Nat.two_pow_pos i) a1
  rw [a3, show 64 * ws.length - bl Q = (64 - bl Q) + 64 * (ws.length - 1) by omega, Nat.pow_add, ← Nat.mul_assoc]
  exact Nat.mul_div_cancel _ (Nat.two_pow_pos _)
theorem bt_deq {n : Bool} {M N k : Nat} {E F L : Int} (hM : 0 < M) (h : deq M E N F) (hp : L + 1 ≤ E + bl M) :
    btU N F k L = btU M E k L ∧ btQ n N F (btU M E k L) = btQ n M E (btU M E k L) ∧ btA n N F (btU M E k L) = btA n M E (btU M E k L) := by
  have hN := h.pos hM
  have hb := h.bl hM
  have hU : btU N F k L = btU M E k L := by unfold btU; rw [show F + (bl N : Int) = E + bl M by omega]
  obtain ⟨p, p1, p2, p3, p4, p5, -⟩ := bt_cut (n := n) (k := k) hM hp
  obtain ⟨q, q1, q2, q3, q4, q5, -⟩ := bt_cut (n := n) (M := N) (E := F) (L := L) (k := k) hN (show L + 1 ≤ F + bl N by omega)
  rw [hU] at q1 q4 q5
  have : q = p := by omega
  subst this
  obtain ⟨d1, d2⟩ := rnd_deq (p := q) (m := 0) n hM h
  exact ⟨hU, (p4.symm.trans (d1.trans q4)).same.symm, by rw [← p5, ← q5, d2]⟩
theorem btV_deq {n : Bool} {M N k T : Nat} {E F L : Int} (hM : 0 < M) (h : deq M E N F) (hne : E + bl M ≠ L) (hT : 2 ≤ T) : btV n M E k L T = btV n N F k L T ∧ btS n M E k L T = btS n N F k L T := by
  have hN := h.pos hM
  have hb := h.bl hM
  by_cases hl : E + bl M < L
  · obtain ⟨a1, a2⟩ := bt_low (n := n) (k := k) hM hl hT
    obtain ⟨b1, b2⟩ := bt_low (n := n) (k := k) (M := N) (E := F) (L := L) hN (by omega) hT
    rw [a1, a2, b1, b2]; exact ⟨rfl, rfl⟩
  · obtain ⟨c1, c2, c3⟩ := bt_deq (n := n) (k := k) hM h (show L + 1 ≤ E + bl M by omega)
    unfold btV btS
    rw [c1, c2, c3]; exact ⟨rfl, rfl⟩
theorem btV_le {n : Bool} {M k T : Nat} {E L : Int} : btV n M E k L T ≤ T * 2 ^ k := by
  unfold btV
  by_cases h : btI (btQ n M E (btU M E k L)) (btU M E k L) k L T = true
  · rw [if_pos h]; exact Nat.le_refl _
  · rw [if_neg h]
    unfold btI at h
    rw [decide_eq_true_iff] at h
    omega
theorem btS_bd (n : Bool) (M k T : Nat) (E L : Int) : -1 ≤ btS n M E k L T ∧ btS n M E k L T ≤ 1 := by
  unfold btS btA ctA
  repeat' split
  all_goals omega

theorem f64_parts {n : Bool} {M : Nat} {E : Int} (hM : 0 < M) (hp : (-1073) ≤ E + bl M) :
    ∃ (p Q : Nat) (u : Int), (p : Int) = E + bl M - u ∧ 1 ≤ p ∧ p ≤ 53 ∧ ((-1073) ≤ E + bl M → E + bl M ≤ (-1022) → (p : Int) = E + bl M + 1074) ∧ ((-1022) < E + bl M → p = 53) ∧
      deq (rQ p 0 n 0 M) (E + rk p M) Q u ∧ 0 < Q ∧ bl Q ≤ 54 ∧ 
      ((u + bl Q ≤ (-1022) ∧ u = -1074 ∧ bl Q ≤ 52 ∧ btV n M E 52 (-1074) 2047 = Q ∧ btS n M E 52 (-1074) 2047 = rA p 0 n 0 M) ∨
       ((-1022) < u + bl Q ∧ u + bl Q ≤ 1024 ∧ 53 ≤ bl Q ∧ btV n M E 52 (-1074) 2047 = (u + bl Q - (-1022)).toNat * 4503599627370496 + (if bl Q = 53 then Q - 4503599627370496 else 0) ∧ (bl Q = 53 → Q < 9007199254740992 ∧ 4503599627370496 ≤ Q) ∧ (bl Q = 54 → Q = 9007199254740992) ∧ btS n M E 52 (-1074) 2047 = rA p 0 n 0 M) ∨
       (1024 < u + bl Q ∧ btV n M E 52 (-1074) 2047 = 9218868437227405312 ∧ btS n M E 52 (-1074) 2047 = if n then -1 else 1)) := by
  obtain ⟨p, p1, p2, p3, p4, p5, p6, p7, p8⟩ := bt_cut (n := n) (k := 52) (E := E) (L := -1074) hM (show (-1074 : Int) + 1 ≤ E + bl M by omega)
  obtain ⟨u, hu⟩ : ∃ u, u = btU M E 52 (-1074) := ⟨_, rfl⟩
  have hu2 : u = max (-1074) (E + bl M - 1 - 52) := hu
  have hb := bl_pos hM
  rw [← hu] at p1 p4 p5 p6 p7 p8
  obtain ⟨Q, hQ⟩ : ∃ Q, Q = btQ n M E u := ⟨_, rfl⟩
  rw [← hQ] at p4 p6 p7 p8
  obtain ⟨e1, e2, e3⟩ := bt_enc (T := 2047) p6 p7 p8 (show -1074 ≤ u by omega) (by decide)
  refine ⟨p, Q, u, p1, p2, p3, fun _ _ => by omega, fun _ => by omega, p4, p6, e1, ?_⟩
  have hV : btV n M E 52 (-1074) 2047 = if btI Q u 52 (-1074) 2047 then 2047 * 2 ^ 52 else (u - (-1074)).toNat * 2 ^ 52 + Q := by rw [hQ, hu]; rfl
  have hS : btS n M E 52 (-1074) 2047 = if btI Q u 52 (-1074) 2047 then (if n then -1 else 1) else btA n M E u := by rw [hQ, hu]; rfl
  rw [hV, hS, p5]
  by_cases h1 : u + bl Q ≤ (-1022)
  · obtain ⟨a1, a2, a3⟩ := e2 (by omega)
    refine .inl ⟨h1, a1, a3, ?_, ?_⟩
    · rw [a2, if_neg (by decide), a1, Int.sub_self]; simp
    · rw [a2, if_neg (by decide)]
  · obtain ⟨a1, a2, a3⟩ := e3 (by omega)
    by_cases h2 : u + bl Q ≤ 1024
    · have hI : btI Q u 52 (-1074) 2047 = false := by
        cases hc : btI Q u 52 (-1074) 2047
        · rfl
        · have := a1.1 hc; omega
      refine .inr (.inl ⟨by omega, h2, a2, ?_, fun h => ?_, fun h => ?_, ?_⟩)
      · rw [hI, if_neg (by decide), a3, show u + (bl Q : Int) - (-1074) - (52 : Nat) = u + bl Q - (-1022) by omega, show (2 : Nat) ^ 52 = 4503599627370496 from rfl]
      · have h3 := lt_bl Q
        have h4 := bl_ge p6
        rw [h] at h3 h4
        exact ⟨h3, h4⟩
      · have h4 := bl_ge p6
        rw [h] at h4
        have h5 : (2 : Nat) ^ (54 - 1) = 9007199254740992 := rfl
        have h6 : (2 : Nat) ^ (52 + 1) = 9007199254740992 := rfl
        omega
      · rw [hI, if_neg (by decide)]
    · have hI : btI Q u 52 (-1074) 2047 = true := a1.2 (by omega)
      refine .inr (.inr ⟨by omega, ?_, ?_⟩)
      · rw [hI, if_pos rfl]
      · rw [hI, if_pos rfl]
theorem f64_or {S g m : Nat} (hS : S = 0 ∨ S = 9223372036854775808) (hg : g < 2048) (hm : m < 4503599627370496) : bits .or .u64 ((S : Nat) : Int) ((g * 4503599627370496 : Nat) : Int) = ((S + g * 4503599627370496 : Nat) : Int) ∧ bits .or .u64 ((S + g * 4503599627370496 : Nat) : Int) ((m : Nat) : Int) = ((S + g * 4503599627370496 + m : Nat) : Int) := by
  rw [u64_or_nat _ _ (by omega) (by omega), u64_or_nat _ _ (by omega) (by omega), Nat.or_comm S, nat_join 52 (S + g * 4503599627370496) m (by omega) (by omega)]
  constructor
  · rcases hS with rfl | rfl
    · rw [Nat.or_zero]; simp
    · rw [Nat.or_comm, nat_join 63 9223372036854775808 (g * 4503599627370496) (by decide) (by omega)]
  · rfl
def obN (b : Nat) : Bool := decide (9223372036854775808 ≤ b)
def obM (b : Nat) : Nat := if b % 9223372036854775808 < 4503599627370496 then b % 9223372036854775808 else 4503599627370496 + b % 4503599627370496
def obE (b : Nat) : Int := ((b % 9223372036854775808 / 4503599627370496 - 1 : Nat) : Int) - 1074
def obF (b : Nat) : Prop := b % 9223372036854775808 < 9218868437227405312
theorem obE_bd {b : Nat} (h : obF b) : -1074 ≤ obE b ∧ obE b ≤ 971 := by unfold obF at h; unfold obE; omega
theorem obM_bd (b : Nat) : obM b ≤ 9007199254740991 := by unfold obM; split <;> omega
theorem dbl_sw : Ieee.double.signWeight = 9223372036854775808 := by decide
theorem dbl_bn : Ieee.double.binade = 4503599627370496 := by decide
theorem dbl_inf : Ieee.double.infRung = 9218868437227405312 := by decide
theorem dbl_lp : Ieee.double.leastPlace = -1074 := by decide
theorem read_fin {b : Nat} (hb : b < 18446744073709551616) (h : obF b) : Ieee.double.read b = .number (obN b) (obM b) (obE b) := by
  unfold obF at h
  have hn : (b / 9223372036854775808 % 2 == 1) = obN b := by
    unfold obN
    by_cases hc : 9223372036854775808 ≤ b
    · rw [decide_eq_true hc, show b / 9223372036854775808 % 2 = 1 by omega]; rfl
    · rw [decide_eq_false hc, show b / 9223372036854775808 % 2 = 0 by omega]; rfl
  unfold Ieee.Format.read
  simp only [dbl_sw, dbl_bn, dbl_inf, dbl_lp]
  rw [hn]
  by_cases h1 : b % 9223372036854775808 < 4503599627370496
  · rw [if_pos h1]
    unfold obM obE
    rw [if_pos h1, show b % 9223372036854775808 / 4503599627370496 - 1 = 0 by omega]
    rfl
  · rw [if_neg h1, if_pos h]
    unfold obM obE
    rw [if_neg h1, show b % 9223372036854775808 % 4503599627370496 = b % 4503599627370496 by omega]
    congr 1
theorem read_inf {b : Nat} (hb : b < 18446744073709551616) (h : b % 9223372036854775808 = 9218868437227405312) : Ieee.double.read b = .infinity (obN b) := by
  have hn : (b / 9223372036854775808 % 2 == 1) = obN b := by
    unfold obN
    by_cases hc : 9223372036854775808 ≤ b
    · rw [decide_eq_true hc, show b / 9223372036854775808 % 2 = 1 by omega]; rfl
    · rw [decide_eq_false hc, show b / 9223372036854775808 % 2 = 0 by omega]; rfl
  unfold Ieee.Format.read
  simp only [dbl_sw, dbl_bn, dbl_inf, dbl_lp]
  rw [hn, if_neg (by omega), if_neg (by omega), if_pos h]
theorem icmp (a b : Int) : compare a b = if a < b then Ordering.lt else if a = b then Ordering.eq else Ordering.gt := rfl
theorem sgn_nat (n : Bool) (m k : Nat) : Ieee.signed n m k = if n then -((m * 2 ^ k : Nat) : Int) else ((m * 2 ^ k : Nat) : Int) := by
  unfold Ieee.signed; rw [Nat.shiftLeft_eq]
theorem f64_fmt : FloatKind.f64.format = Ieee.double := rfl
theorem ord_self {b : Nat} (hb : b < 18446744073709551616) (h : obF b ∨ b % 9223372036854775808 = 9218868437227405312) : (FloatKind.f64.format.order b b != some .eq) = false := by
  rw [f64_fmt]
  unfold Ieee.Format.order
  rcases h with h | h
  · rw [read_fin hb h]
    simp [Ieee.Datum.order]
  · rw [read_inf hb h]
    cases obN b <;> rfl
theorem ord_zero {b : Nat} (hb : b < 18446744073709551616) (h : obF b) : (FloatKind.f64.format.order b 0 == some .eq) = decide (obM b = 0) := by
  rw [f64_fmt]
  unfold Ieee.Format.order
  have h0 : Ieee.double.read 0 = .number false 0 (-1074) := by decide
  have hE := obE_bd h
  rw [read_fin hb h, h0]
  simp only [Ieee.Datum.order]
  rw [Int.min_eq_right hE.1, Int.sub_self, icmp, sgn_nat, sgn_nat]
  simp only [Nat.zero_mul, Bool.false_eq_true, if_false]
  have hp := Nat.two_pow_pos (obE b - -1074).toNat
  by_cases hM : obM b = 0
  · rw [hM, Nat.zero_mul]; simp
  · have hpos : 0 < obM b * 2 ^ (obE b - -1074).toNat := Nat.mul_pos (by omega) hp
    rw [decide_eq_false hM]
    cases obN b
    · simp only [Bool.false_eq_true, if_false]
      rw [if_neg (by omega), if_neg (by omega)]; rfl
    · simp only [if_true]
      rw [if_pos (by omega)]; rfl
theorem ord_max {r : Nat} (h : r < 9218868437227405312) : (FloatKind.f64.format.order r 9218868437227405311 == some .gt) = false := by
  have hr : r % 9223372036854775808 = r := Nat.mod_eq_of_lt (by omega)
  have hf : obF r := by unfold obF; omega
  have h0 : Ieee.double.read 9218868437227405311 = .number false 9007199254740991 971 := by decide
  have hE := obE_bd hf
  have hM := obM_bd r
  have hn : obN r = false := decide_eq_false (by omega)
  rw [f64_fmt]
  unfold Ieee.Format.order
  rw [read_fin (by omega) hf, h0]
  simp only [Ieee.Datum.order]
  rw [Int.min_eq_left hE.2, Int.sub_self, icmp, sgn_nat, sgn_nat, hn]
  simp only [Bool.false_eq_true, if_false, Int.toNat_zero, Nat.pow_zero, Nat.mul_one]
  have hp : 1 ≤ 2 ^ (971 - obE r).toNat := Nat.two_pow_pos _
  have hle := Nat.mul_le_mul_left 9007199254740991 hp
  by_cases h1 : (obM r : Int) < ((9007199254740991 * 2 ^ (971 - obE r).toNat : Nat) : Int)
  · rw [if_pos h1]; rfl
  · rw [if_neg h1, if_pos (by omega)]; rfl
theorem ord_min {r : Nat} (h : r < 9218868437227405312) : (FloatKind.f64.format.order r 4503599627370496 == some .lt) = decide (r < 4503599627370496) := by
  have hr : r % 9223372036854775808 = r := Nat.mod_eq_of_lt (by omega)
  have hf : obF r := by unfold obF; omega
  have h0 : Ieee.double.read 4503599627370496 = .number false 4503599627370496 (-1074) := by decide
  have hE := obE_bd hf
  have hn : obN r = false := decide_eq_false (by omega)
  rw [f64_fmt]
  unfold Ieee.Format.order
  rw [read_fin (by omega) hf, h0]
  simp only [Ieee.Datum.order]
  rw [Int.min_eq_right hE.1, Int.sub_self, icmp, sgn_nat, sgn_nat, hn]
  simp only [Bool.false_eq_true, if_false, Int.toNat_zero, Nat.pow_zero, Nat.mul_one]
  have hp : 1 ≤ 2 ^ (obE r - -1074).toNat := Nat.two_pow_pos _
  have hle := Nat.mul_le_mul_left (obM r) hp
  by_cases h1 : r < 4503599627370496
  · have hM : obM r = r := by unfold obM; rw [hr, if_pos h1]
    have hE0 : (obE r - -1074).toNat = 0 := by unfold obE; omega
    rw [hE0, Nat.pow_zero, Nat.mul_one, hM, if_pos (by omega), decide_eq_true h1]; rfl
  · have hM : 4503599627370496 ≤ obM r := by unfold obM; rw [hr, if_neg h1]; omega
    rw [if_neg (by omega), decide_eq_false h1]
    split <;> rfl
theorem log2_bl {n : Nat} (h : 0 < n) : n.log2 + 1 = bl n := by unfold bl; rw [if_neg (by omega)]
theorem mul_sub {b : Nat} (hb : b < 18446744073709551616) (h0 : 0 < b % 9223372036854775808) (h : b % 9223372036854775808 < 4503599627370496) :
    Ieee.double.mul b 4841369599423283200 = some ((if obN b then 9223372036854775808 else 0) + (bl (obM b) - 1) * 4503599627370496 + obM b * 2 ^ (53 - bl (obM b))) := by
  have hf : obF b := by unfold obF; omega
  have hC : Ieee.double.read 4841369599423283200 = .number false 4503599627370496 0 := by decide
  have hM : obM b = b % 9223372036854775808 := by unfold obM; rw [if_pos h]
  have hE : obE b = -1074 := by unfold obE; omega
  have hM0 : 0 < obM b := by omega
  have hM1 : obM b < 2 ^ 52 := by omega
  have hbl : bl (obM b) ≤ 52 := bl_le hM1
  have hbp := bl_pos hM0
  have hlg : (obM b * 4503599627370496).log2 = bl (obM b) + 51 := by
    have h1 := log2_bl (n := obM b * 4503599627370496) (by omega)
    have h2 := bl_mul hM0 52
    rw [show (2 : Nat) ^ 52 = 4503599627370496 from rfl] at h2
    omega
  unfold Ieee.Format.mul
  rw [read_fin hb hf, hC, hE]
  simp only [Ieee.Datum.product, Option.map_some, Ieee.Format.write, Bool.xor_false]
  congr 1
  unfold Ieee.Format.nearest
  rw [if_neg (by omega), hlg, dbl_lp, show Ieee.double.fractionBits = 52 from rfl, dbl_bn, dbl_inf]
  have hlast : max ((-1074 : Int) + 0 + ((bl (obM b) + 51 : Nat) : Int) - ((52 : Nat) : Int)) (-1074) = -1074 + ((bl (obM b) - 1 : Nat) : Int) := by omega
  simp only [hlast]
  rw [show ((-1074 : Int) + 0 - (-1074 + ((bl (obM b) - 1 : Nat) : Int))).toNat = 0 by omega, show ((-1074 : Int) + ((bl (obM b) - 1 : Nat) : Int) - (-1074 + 0)).toNat = bl (obM b) - 1 by omega, show ((-1074 : Int) + ((bl (obM b) - 1 : Nat) : Int) - -1074).toNat = bl (obM b) - 1 by omega, Nat.shiftLeft_zero]
  have hcut : Ieee.Toward.even.cut (obN b) (obM b * 4503599627370496) (bl (obM b) - 1) = obM b * 2 ^ (53 - bl (obM b)) := by
    unfold Ieee.Toward.cut
    rw [hlg, Nat.min_eq_left (by omega), Nat.shiftLeft_eq, Nat.one_mul]
    have e : obM b * 4503599627370496 = obM b * 2 ^ (53 - bl (obM b)) * 2 ^ (bl (obM b) - 1) := by
      rw [Nat.mul_assoc, ← Nat.pow_add, show 53 - bl (obM b) + (bl (obM b) - 1) = 52 by omega]
    have hp := Nat.two_pow_pos (bl (obM b) - 1)
    simp only
    rw [e, Nat.mul_div_cancel _ hp, Nat.mul_mod_left]
    have : (decide (2 ^ (bl (obM b) - 1) < 2 * 0) || (2 ^ (bl (obM b) - 1) == 2 * 0 && obM b * 2 ^ (53 - bl (obM b)) % 2 == 1)) = false := by
      rw [Nat.mul_zero, decide_eq_false (by omega), Bool.false_or, Bool.and_eq_false_iff]
      exact .inl (beq_eq_false_iff_ne.2 (by omega))
    rw [this]; rfl
  rw [hcut]
  have hlt : obM b * 2 ^ (53 - bl (obM b)) < 9007199254740992 := by
    have h1 := bl_mul hM0 (53 - bl (obM b))
    have h2 := lt_bl (obM b * 2 ^ (53 - bl (obM b)))
    rw [h1, show bl (obM b) + (53 - bl (obM b)) = 53 by omega] at h2
    exact h2
  rw [Nat.min_eq_left (by omega)]
  unfold Ieee.Format.word
  rw [dbl_sw]
  split <;> omega
/-! ### The bits of a pattern -/
theorem two52 : (2 : Nat) ^ 52 = 4503599627370496 := rfl
theorem and_abs {b : Nat} (hb : b < 18446744073709551616) : bits .andNot .u64 (b : Int) 9223372036854775808 = ((b % 9223372036854775808 : Nat) : Int) := by
  rw [show (9223372036854775808 : Int) = ((9223372036854775808 : Nat) : Int) from rfl, u64_andNot_nat b _ hb (by decide), show (18446744073709551615 - 9223372036854775808 : Nat) = 2 ^ 63 - 1 from rfl, Nat.and_two_pow_sub_one_eq_mod]
theorem and_2047 {x : Nat} (hx : x < 18446744073709551616) : bits .and .u64 (x : Int) 2047 = ((x % 2048 : Nat) : Int) := by
  rw [show (2047 : Int) = ((2047 : Nat) : Int) from rfl, bits_and_u64_nat x _ hx (by decide), show (2047 : Nat) = 2 ^ 11 - 1 from rfl, Nat.and_two_pow_sub_one_eq_mod]
theorem and_pow (d t : Nat) : d &&& 2 ^ t = d / 2 ^ t % 2 * 2 ^ t := by
  apply Nat.eq_of_testBit_eq
  intro i
  rw [Nat.testBit_and, Nat.testBit_two_pow, Nat.mul_comm, Nat.testBit_two_pow_mul]
  by_cases hi : t = i
  · subst hi
    rw [Nat.testBit_eq_decide_div_mod_eq, Nat.sub_self, Nat.testBit_eq_decide_div_mod_eq, Nat.pow_zero, Nat.div_one, Nat.mod_mod]
    simp
  · simp only [hi, decide_false, Bool.and_false]
    by_cases h2 : t ≤ i
    · rw [Nat.testBit_lt_two_pow (show d / 2 ^ t % 2 < 2 ^ (i - t) from Nat.lt_of_lt_of_le (Nat.mod_lt _ (by decide)) (Nat.pow_le_pow_right (show 0 < 2 by decide) (show 1 ≤ i - t by omega)))]; simp
    · simp [h2]
theorem and_clear {b : Nat} (hb : b < 18446744073709551616) : bits .andNot .u64 (b : Int) 9218868437227405312 = (((if 9223372036854775808 ≤ b then 9223372036854775808 else 0) + b % 4503599627370496 : Nat) : Int) := by
  rw [show (9218868437227405312 : Int) = ((9218868437227405312 : Nat) : Int) from rfl, u64_andNot_nat b _ hb (by decide), show (18446744073709551615 - 9218868437227405312 : Nat) = 2 ^ 63 ||| (2 ^ 52 - 1) by decide, Nat.and_or_distrib_left, Nat.and_two_pow_sub_one_eq_mod, and_pow]
  congr 1
  by_cases h : 9223372036854775808 ≤ b
  · rw [if_pos h, two52, show b / 2 ^ 63 % 2 * 2 ^ 63 = 2 ^ 63 * 1 by omega, ← Nat.two_pow_add_eq_or_of_lt (show b % 4503599627370496 < 2 ^ 63 by omega)]
  · rw [if_neg h, two52, show b / 2 ^ 63 % 2 * 2 ^ 63 = 0 by omega, Nat.zero_or, Nat.zero_add]
theorem or_half {s f : Nat} (hs : s = 0 ∨ s = 9223372036854775808) (hf : f < 4503599627370496) : bits .or .u64 ((s + f : Nat) : Int) 4602678819172646912 = ((s + 4602678819172646912 + f : Nat) : Int) := by
  rw [show (4602678819172646912 : Int) = ((4602678819172646912 : Nat) : Int) from rfl, bits_or_u64_nat _ _ (by omega) (by decide)]
  congr 1
  have e : ∀ a : Nat, 2 ^ 52 * a + f = 2 ^ 52 * a ||| f := fun a => Nat.two_pow_add_eq_or_of_lt (by omega) a
  rcases hs with rfl | rfl
  · rw [Nat.zero_add, Nat.zero_add, Nat.or_comm, show (4602678819172646912 : Nat) = 2 ^ 52 * 1022 from rfl, ← e]
  · rw [show (9223372036854775808 : Nat) = 2 ^ 52 * 2048 from rfl, e, Nat.or_assoc, Nat.or_comm f, ← Nat.or_assoc, show 2 ^ 52 * 2048 ||| 4602678819172646912 = 2 ^ 52 * 3070 by decide, ← e]
theorem or_top {f : Nat} (hf : f < 4503599627370496) : bits .or .u64 9223372036854775808 ((f * 2048 : Nat) : Int) = ((9223372036854775808 + f * 2048 : Nat) : Int) := by
  rw [show (9223372036854775808 : Int) = ((9223372036854775808 : Nat) : Int) from rfl, bits_or_u64_nat _ _ (by decide) (by omega), show (9223372036854775808 : Nat) = 2 ^ 63 * 1 from rfl, ← Nat.two_pow_add_eq_or_of_lt (show f * 2048 < 2 ^ 63 by omega)]
theorem even_ct (n : Bool) (M t : Nat) (hM : 0 < M) : Ieee.Toward.even.cut n M t = ctQ 0 n M t := by
  have hlt : M < 2 ^ bl M := lt_bl M
  have hlg := log2_bl hM
  unfold Ieee.Toward.cut ctQ ctU
  simp only
  rcases Nat.le_total t (M.log2 + 2) with h | h
  · rw [Nat.min_eq_left h, Nat.shiftLeft_eq, Nat.one_mul]
    congr 1
    obtain ⟨R, hR⟩ : ∃ R, R = M % 2 ^ t := ⟨_, rfl⟩
    obtain ⟨D, hD⟩ : ∃ D, D = 2 ^ t := ⟨_, rfl⟩
    have hD0 : 0 < D := by rw [hD]; exact Nat.two_pow_pos t
    obtain ⟨q, hq⟩ : ∃ q, q = M / 2 ^ t % 2 := ⟨_, rfl⟩
    have hq2 : q < 2 := by rw [hq]; exact Nat.mod_lt _ (by decide)
    rw [← hR, ← hq, ← hD]
    clear hR hq hD hlt hlg
    have hw : awy n (decide (q = 1)) (lef R D 0) 0 = (decide (D < 2 * R) || (D == 2 * R && q == 1)) := by
      have e0 : ∀ l : Nat, awy n (decide (q = 1)) l 0 = (decide (l = 3) || (decide (l = 2) && decide (q = 1))) := fun l => by unfold awy; rw [if_pos rfl]
      rw [e0]
      rcases Nat.lt_trichotomy (2 * R) D with h1 | h1 | h1
      · have e1 : decide (D < 2 * R) = false := decide_eq_false (by omega)
        have e2 : (D == 2 * R) = false := beq_eq_false_iff_ne.2 (by omega)
        have e3 : lef R D 0 = 0 ∨ lef R D 0 = 1 := by
          unfold lef
          by_cases hR0 : R = 0
          · rw [if_pos ⟨hR0, rfl⟩]; exact .inl rfl
          · rw [if_neg (fun hc => hR0 hc.1), if_pos h1]; exact .inr rfl
        rw [e1, e2]
        rcases e3 with e3 | e3 <;> rw [e3] <;> rfl
      · have e1 : decide (D < 2 * R) = false := decide_eq_false (by omega)
        have e2 : (D == 2 * R) = true := beq_iff_eq.2 h1.symm
        have e3 : lef R D 0 = 2 := by
          unfold lef
          rw [if_neg (fun hc => by have := hc.1; omega), if_neg (by omega), if_pos ⟨h1, rfl⟩]
        rw [e1, e2, e3]
        rcases (show q = 0 ∨ q = 1 by omega) with h2 | h2 <;> rw [h2] <;> rfl
      · have e1 : decide (D < 2 * R) = true := decide_eq_true (by omega)
        have e3 : lef R D 0 = 3 := by
          unfold lef
          rw [if_neg (fun hc => by have := hc.1; omega), if_neg (by omega), if_neg (fun hc => by have := hc.1; omega)]
        rw [e1, e3]; rfl
    rw [hw]
    cases (decide (D < 2 * R) || (D == 2 * R && q == 1)) <;> rfl
  · have hp : 2 ^ (bl M + 1) ≤ 2 ^ t := Nat.pow_le_pow_right (by decide) (by omega)
    have hp2 : (2 : Nat) ^ (bl M + 1) = 2 * 2 ^ bl M := by rw [Nat.pow_succ, Nat.mul_comm]
    rw [Nat.min_eq_right h, Nat.shiftLeft_eq, Nat.one_mul, show M.log2 + 2 = bl M + 1 by omega]
    rw [Nat.div_eq_of_lt (show M < 2 ^ (bl M + 1) by omega), Nat.mod_eq_of_lt (show M < 2 ^ (bl M + 1) by omega), Nat.div_eq_of_lt (show M < 2 ^ t by omega), Nat.mod_eq_of_lt (show M < 2 ^ t by omega)]
    have e1 : decide (2 ^ (bl M + 1) < 2 * M) = false := decide_eq_false (by omega)
    have e2 : (2 ^ (bl M + 1) == 2 * M) = false := beq_eq_false_iff_ne.2 (by omega)
    have e3 : lef M (2 ^ t) 0 = 1 := by
      unfold lef
      rw [if_neg (by omega), if_pos (by omega)]
    have e4 : awy n (decide (0 % 2 = 1)) 1 0 = false := by unfold awy; rw [if_pos rfl]; rfl
    rw [e1, e2, e3, e4]
    rfl
theorem near_bt (n : Bool) (M : Nat) (E : Int) (hM : 0 < M) : Ieee.double.nearest n M E = (if n then 9223372036854775808 else 0) + btV n M E 52 (-1074) 2047 := by
  have hlg := log2_bl hM
  have hlast : max (E + ((M.log2 : Nat) : Int) - ((52 : Nat) : Int)) (-1074) = btU M E 52 (-1074) := by unfold btU; omega
  obtain ⟨u, hu⟩ : ∃ u, u = btU M E 52 (-1074) := ⟨_, rfl⟩
  have hu1 : -1074 ≤ u := by rw [hu]; unfold btU; omega
  have hq : Ieee.Toward.even.cut n (M <<< (E - u).toNat) (u - E).toNat = btQ n M E u := by
    rw [Nat.shiftLeft_eq, even_ct _ _ _ (Nat.mul_pos hM (Nat.two_pow_pos _))]
    unfold btQ
    by_cases h : u ≤ E
    · rw [if_pos h, show (u - E).toNat = 0 by omega, (ctQ_zero 0 n _).1]
    · rw [if_neg h, show (E - u).toNat = 0 by omega, Nat.pow_zero, Nat.mul_one]
  unfold Ieee.Format.nearest
  rw [if_neg (by omega), dbl_lp, show Ieee.double.fractionBits = 52 from rfl, dbl_bn, dbl_inf]
  simp only [hlast, ← hu, hq]
  unfold Ieee.Format.word btV
  rw [dbl_sw, ← hu]
  obtain ⟨Q, hQ⟩ : ∃ Q, Q = btQ n M E u := ⟨_, rfl⟩
  rw [← hQ]
  obtain ⟨k, hk⟩ : ∃ k, k = (u - -1074).toNat := ⟨_, rfl⟩
  have hk2 : (k : Int) = u - -1074 := by omega
  have hQge : 0 < k → 4503599627370496 ≤ Q := by
    intro hlt
    have hp : (-1074 : Int) + 1 ≤ E + bl M := by rw [hu] at hk2; unfold btU at hk2; omega
    obtain ⟨p, -, -, -, -, -, -, -, h8⟩ := bt_cut (n := n) (k := 52) (E := E) (L := -1074) hM hp
    rw [← hu, ← hQ, show (2 : Nat) ^ 52 = 4503599627370496 from rfl] at h8
    rcases h8 with h8 | h8
    · omega
    · exact h8
  have hb : btI Q u 52 (-1074) 2047 = decide (2046 ≤ k ∨ 9218868437227405312 ≤ k * 4503599627370496 + Q) := by
    unfold btI
    rw [← hk, show (2 : Nat) ^ 52 = 4503599627370496 from rfl, show 2047 * 4503599627370496 = 9218868437227405312 from rfl]
    have : (((2047 : Nat) : Int) - 1 ≤ u - -1074) ↔ 2046 ≤ k := by omega
    simp only [this]
  have hm : min (k * 4503599627370496 + Q) 9218868437227405312 = if btI Q u 52 (-1074) 2047 then 2047 * 2 ^ 52 else k * 2 ^ 52 + Q := by
    rw [hb, show (2 : Nat) ^ 52 = 4503599627370496 from rfl, show 2047 * 4503599627370496 = 9218868437227405312 from rfl]
    clear hb hQ hu hq hk hk2 hu1
    by_cases h : 2046 ≤ k ∨ 9218868437227405312 ≤ k * 4503599627370496 + Q
    · rw [decide_eq_true h, if_pos rfl]
      refine Nat.min_eq_right ?_
      rcases h with h | h
      · have h1 := hQge (by omega)
        have h2 := Nat.mul_le_mul_right 4503599627370496 h
        omega
      · exact h
    · rw [decide_eq_false h, if_neg (by simp)]
      refine Nat.min_eq_left (Nat.le_of_lt ?_)
      exact Nat.lt_of_not_le (fun hc => h (.inr hc))
  rw [← hk]
  rw [hm]
  cases n <;> simp
theorem bt_self {n : Bool} {Q : Nat} {u : Int} (hb : bl Q = 53) (hu : -1074 ≤ u) (hI : (u + 1074).toNat * 4503599627370496 + Q < 9218868437227405312) :
    btV n Q u 52 (-1074) 2047 = (u + 1074).toNat * 4503599627370496 + Q ∧ btS n Q u 52 (-1074) 2047 = 0 := by
  have hU : btU Q u 52 (-1074) = u := by unfold btU; rw [hb]; omega
  have hq : btQ n Q u u = Q := by unfold btQ; rw [if_pos (Int.le_refl _), Int.sub_self]; simp
  have ha : btA n Q u u = 0 := if_pos (Int.le_refl _)
  have hQ : 4503599627370496 ≤ Q := by
    have h0 : 0 < Q := by
      rcases Nat.eq_zero_or_pos Q with h | h
      · rw [h, bl_zero] at hb; omega
      · exact h
    have := bl_ge h0
    rw [hb] at this
    exact this
  have hi : btI Q u 52 (-1074) 2047 = false := by
    unfold btI
    rw [show (2 : Nat) ^ 52 = 4503599627370496 from rfl]
    exact decide_eq_false (by omega)
  unfold btV btS
  rw [hU, hq, ha, hi, if_neg (by simp), if_neg (by simp), show (2 : Nat) ^ 52 = 4503599627370496 from rfl]
  exact ⟨by omega, rfl⟩
theorem as_norm {n : Bool} {M : Nat} {E : Int} (hM : 0 < M) (h1 : 9007199254740992 ≤ btV n M E 52 (-1074) 2047) (h2 : btV n M E 52 (-1074) 2047 < 9218868437227405312) :
    btV n (rQ 53 0 n 0 M) (E + rk 53 M) 52 (-1074) 2047 = btV n M E 52 (-1074) 2047 ∧ btS n (rQ 53 0 n 0 M) (E + rk 53 M) 52 (-1074) 2047 = 0 ∧ 0 < rQ 53 0 n 0 M ∧
      -1074 < E + rk 53 M + bl (rQ 53 0 n 0 M) ∧ E + rk 53 M + bl (rQ 53 0 n 0 M) ≤ 1025 ∧ -1021 ≤ E + bl M ∧ E + bl M ≤ 1025 := by
  obtain ⟨u, hu⟩ : ∃ u, u = btU M E 52 (-1074) := ⟨_, rfl⟩
  obtain ⟨Q, hQ⟩ : ∃ Q, Q = btQ n M E u := ⟨_, rfl⟩
  have e52 : (2 : Nat) ^ 52 = 4503599627370496 := rfl
  have e53 : (2 : Nat) ^ 53 = 9007199254740992 := rfl
  have hV : btV n M E 52 (-1074) 2047 = if btI Q u 52 (-1074) 2047 then 2047 * 2 ^ 52 else (u - (-1074)).toNat * 2 ^ 52 + Q := by rw [hQ, hu]; rfl
  have hi : btI Q u 52 (-1074) 2047 = false := by
    rcases hb : btI Q u 52 (-1074) 2047 with _ | _
    · rfl
    · rw [hV, hb, if_pos rfl, e52] at h2; omega
  rw [hi, if_neg (by simp), e52] at hV
  have hi2 := hi
  unfold btI at hi2
  rw [decide_eq_false_iff_not, e52] at hi2
  rw [hV] at h1 h2
  have hbM := lt_bl M
  have hbp := bl_pos hM
  have hu2 : u = max (-1074) (E + bl M - 1 - 52) := hu
  have hu53 : u = E + bl M - 53 := by
    rcases Int.lt_or_le (E + bl M - 53) (-1074) with hc | hc
    · exfalso
      have hu3 : u = -1074 := by omega
      have hQ2 : Q ≤ 4503599627370496 := by
        rw [hQ]
        unfold btQ
        by_cases h : u ≤ E
        · rw [if_pos h]
          have hl := bl_mul hM (E - u).toNat
          have hlt := lt_bl (M * 2 ^ (E - u).toNat)
          have : 2 ^ bl (M * 2 ^ (E - u).toNat) ≤ 2 ^ 52 := Nat.pow_le_pow_right (by decide) (by omega)
          rw [e52] at this
          omega
        · rw [if_neg h]
          unfold ctQ
          have hd : M / 2 ^ (u - E).toNat < 2 ^ 52 := by
            refine Nat.div_lt_of_lt_mul ?_
            rw [← Nat.pow_add]
            exact Nat.lt_of_lt_of_le hbM (Nat.pow_le_pow_right (by decide) (by omega))
          rw [e52] at hd
          split <;> omega
      omega
    · omega
  have hp : (-1074 : Int) + 1 ≤ E + bl M := by omega
  obtain ⟨p, p1, -, -, p4, -, p6, p7, p8⟩ := bt_cut (n := n) (k := 52) (E := E) (L := -1074) hM hp
  rw [← hu] at p1 p4 p6 p7 p8
  rw [← hQ, e52] at p8
  rw [← hQ] at p4 p6 p7
  rw [e53] at p7
  have hp53 : p = 53 := by omega
  subst hp53
  have hr0 : 0 < rQ 53 0 n 0 M := p4.symm.pos p6
  have hbd := p4.bl hr0
  have hbQ : 4503599627370496 ≤ Q := by rcases p8 with h | h <;> omega
  have hne : u + bl Q ≠ -1074 := by have := bl_pos p6; omega
  have hT := btV_deq (n := n) (k := 52) (T := 2047) (L := -1074) p6 p4.symm hne (by decide)
  rw [← hT.1, ← hT.2, hV]
  have hbl : bl Q = 53 ∨ bl Q = 54 := by
    have g1 : 52 < bl Q := bl_gt (by rw [e52]; exact hbQ)
    have g2 : bl Q ≤ 54 := bl_le (k := 54) (by rw [show (2 : Nat) ^ 54 = 18014398509481984 from rfl]; omega)
    omega
  have hmain : btV n Q u 52 (-1074) 2047 = (u - -1074).toNat * 4503599627370496 + Q ∧ btS n Q u 52 (-1074) 2047 = 0 := by
    have hu0 : -1074 ≤ u := by omega
    clear hV hi hi2 hbM hbp hu2 hu53 hp p1 p4 p8 hbd hT h1 hu hQ
    obtain ⟨k, hk⟩ : ∃ k, k = (u - -1074).toNat := ⟨_, rfl⟩
    have hk1 : (u + 1074).toNat = k := by omega
    have hk2 : (u + 1 + 1074).toNat = k + 1 := by omega
    rw [← hk] at h2 ⊢
    obtain ⟨P, hP⟩ : ∃ P, P = k * 4503599627370496 := ⟨_, rfl⟩
    have hP1 : (k + 1) * 4503599627370496 = P + 4503599627370496 := by rw [hP, Nat.add_mul, Nat.one_mul]
    rw [← hP] at h2 ⊢
    clear hk
    by_cases hQ3 : Q = 9007199254740992
    · have hd : deq Q u 4503599627370496 (u + 1) := ⟨0, 1, by rw [hQ3], by omega⟩
      have hT2 := btV_deq (n := n) (k := 52) (T := 2047) (L := -1074) p6 hd hne (by decide)
      have hlt : (u + 1 + 1074).toNat * 4503599627370496 + 4503599627370496 < 9218868437227405312 := by
        rw [hk2, hP1, Nat.add_assoc, show 4503599627370496 + 4503599627370496 = 9007199254740992 from rfl, ← hQ3]; exact h2
      obtain ⟨g1, g2⟩ := bt_self (n := n) (Q := 4503599627370496) (u := u + 1) (bl_of (k := 52) (Nat.le_refl _) (by rw [show (2 : Nat) ^ (52 + 1) = 9007199254740992 from rfl]; decide)) (Int.le_trans hu0 (Int.le_add_of_nonneg_right (by decide))) hlt
      rw [hT2.1, hT2.2, g1, g2]
      refine ⟨?_, rfl⟩
      rw [hk2, hP1, Nat.add_assoc, show 4503599627370496 + 4503599627370496 = 9007199254740992 from rfl, ← hQ3]
    · have hQlt : Q < 9007199254740992 := Nat.lt_of_le_of_ne p7 hQ3
      have hlt : (u + 1074).toNat * 4503599627370496 + Q < 9218868437227405312 := by rw [hk1, ← hP]; exact h2
      obtain ⟨g1, g2⟩ := bt_self (n := n) (Q := Q) (u := u) (bl_of (k := 52) hbQ hQlt) hu0 hlt
      rw [g1, g2, hk1, ← hP]
      exact ⟨rfl, rfl⟩
  refine ⟨hmain.1, hmain.2, hr0, ?_, ?_, ?_, ?_⟩ <;> omega
theorem as_f64 {n : Bool} {M c : Nat} {E : Int} (hc : Ieee.double.nearest n M E = c) (h1 : 1 < c % 9223372036854775808 / 4503599627370496) (h2 : c % 9223372036854775808 / 4503599627370496 < 2047) :
    0 < M ∧ (if n then 9223372036854775808 else 0) + btV n (rQ 53 0 n 0 M) (E + rk 53 M) 52 (-1074) 2047 = c ∧ btS n (rQ 53 0 n 0 M) (E + rk 53 M) 52 (-1074) 2047 = 0 ∧ 0 < rQ 53 0 n 0 M ∧
      -1074 < E + rk 53 M + bl (rQ 53 0 n 0 M) ∧ E + rk 53 M + bl (rQ 53 0 n 0 M) ≤ 1025 ∧ -1021 ≤ E + bl M ∧ E + bl M ≤ 1025 := by
  have hM : 0 < M := by
    rcases Nat.eq_zero_or_pos M with h | h
    · exfalso
      unfold Ieee.Format.nearest at hc
      rw [if_pos h] at hc
      unfold Ieee.Format.word at hc
      rw [dbl_sw] at hc
      cases n <;> simp at hc <;> omega
    · exact h
  rw [near_bt n M E hM] at hc
  have hle := btV_le (n := n) (M := M) (k := 52) (T := 2047) (E := E) (L := -1074)
  rw [show 2047 * 2 ^ 52 = 9218868437227405312 from rfl] at hle
  obtain ⟨T, hT⟩ : ∃ T, T = btV n M E 52 (-1074) 2047 := ⟨_, rfl⟩
  have hm : c % 9223372036854775808 = T := by
    rw [← hc, ← hT]
    rw [← hT] at hle
    cases n
    · rw [if_neg (by simp), Nat.zero_add, Nat.mod_eq_of_lt (by omega)]
    · rw [if_pos rfl, Nat.add_mod_left, Nat.mod_eq_of_lt (by omega)]
  rw [hm] at h1 h2
  have b1 : 9007199254740992 ≤ T := by omega
  have b2 : T < 9218868437227405312 := by omega
  rw [hT] at b1 b2
  obtain ⟨g1, g⟩ := as_norm (n := n) hM b1 b2
  exact ⟨hM, by rw [g1]; exact hc, g⟩
@[go_sem] theorem f64bits (b : Nat) (w : World) : (callFunc 33 #[.float .f64 b]).run Tryz.prog w = .ok (.value (.int .u64 (b : Int))) w := by
  rw [run_callFunc_extern Tryz.func33 (by kernel_rfl) (by kernel_rfl) (by kernel_rfl) (e := Extern.MathFloatBits.float64bits) (by kernel_rfl)]
  rfl
@[go_sem] theorem f64from (b : Nat) (w : World) : (callFunc 64 #[.int .u64 (b : Int)]).run Tryz.prog w = .ok (.value (.float .f64 b)) w := by
  rw [run_callFunc_extern Tryz.func64 (by kernel_rfl) (by kernel_rfl) (by kernel_rfl) (e := Extern.MathFloatBits.float64frombits) (by kernel_rfl)]
  rfl
set_option maxRecDepth 100000 in
theorem mAbs (b : Nat) (w : World) (hb : b < 18446744073709551616) :
    Calls Tryz.prog 149 #[.float .f64 b] w fun e w' => e = .returned (.float .f64 (b % 9223372036854775808)) ∧ w = w' := by
  have h1 := and_abs hb
  obtain ⟨r, hr⟩ : ∃ r, r = b % 9223372036854775808 := ⟨_, rfl⟩
  rw [← hr] at h1 ⊢
  clear hr
  go_enter Tryz.func149, Tryz.ntmps149
  go_wp2_with (simp only [f64bits, f64from])
  go_ret
  exact ⟨rfl, rfl⟩
set_option maxRecDepth 100000 in
theorem mIsNaN (b : Nat) (w : World) (hb : b < 18446744073709551616) (h : obF b ∨ b % 9223372036854775808 = 9218868437227405312) :
    Calls Tryz.prog 103 #[.float .f64 b] w fun e w' => e = .returned (.bool false) ∧ w = w' := by
  have h1 := ord_self hb h
  clear h
  go_enter Tryz.func103, Tryz.ntmps103
  go_wp2
  go_ret
  exact ⟨rfl, rfl⟩
theorem sgn_wrap {b : Nat} (hb : b < 18446744073709551616) : decide (wrap64 (b : Int) < 0) = obN b := by
  unfold obN wrap64
  by_cases h : 9223372036854775808 ≤ b
  · rw [decide_eq_true h]; exact decide_eq_true (by omega)
  · rw [decide_eq_false h]; exact decide_eq_false (by omega)
set_option maxRecDepth 100000 in
theorem mSignbit (b : Nat) (w : World) (hb : b < 18446744073709551616) :
    Calls Tryz.prog 104 #[.float .f64 b] w fun e w' => e = .returned (.bool (obN b)) ∧ w = w' := by
  have h1 := sgn_wrap hb
  obtain ⟨n, hn⟩ : ∃ n, n = obN b := ⟨_, rfl⟩
  rw [← hn] at h1 ⊢
  clear hn
  go_enter Tryz.func104, Tryz.ntmps104
  go_wp2_with (simp only [f64bits])
  go_ret
  refine ⟨?_, rfl⟩
  rw [← h1]
  rfl
set_option maxRecDepth 100000 in
theorem mIsInf (b : Nat) (r : Bool) (w : World) (hb : b < 18446744073709551616) (h : (FloatKind.f64.format.order (b % 9223372036854775808) 9218868437227405311 == some .gt) = r) :
    Calls Tryz.prog 105 #[.float .f64 b, .int .i64 0] w fun e w' => e = .returned (.bool r) ∧ w = w' := by
  have HA := Lib.hid (mAbs b w hb)
  obtain ⟨m, hm⟩ : ∃ m, m = b % 9223372036854775808 := ⟨_, rfl⟩
  rw [← hm] at h HA
  clear hm
  go_enter Tryz.func105, Tryz.ntmps105
  go_wp2_with fail
  refine HA.out.mono ?_
  rintro _ _ ⟨rfl, rfl⟩
  go_wp2
  go_ret
  exact ⟨rfl, rfl⟩
def obS (b : Nat) : Nat := if 9223372036854775808 ≤ b then 9223372036854775808 else 0
def Nrm (b g F : Nat) (x0 : Int) : Prop :=
  F < 4503599627370496 ∧ 1 ≤ g ∧ g ≤ 2046 ∧ 4503599627370496 + F = obM b * 2 ^ (53 - bl (obM b)) ∧ (g : Int) + x0 - 1022 = (bl (obM b) : Int) + obE b ∧ (x0 = 0 ∨ x0 = -52) ∧ bl (obM b) ≤ 53
theorem nrm_big {b : Nat} (hb : b < 18446744073709551616) (hf : obF b) (h : ¬ b % 9223372036854775808 < 4503599627370496) : Nrm b (b % 9223372036854775808 / 4503599627370496) (b % 4503599627370496) 0 ∧ b = obS b + b % 9223372036854775808 / 4503599627370496 * 4503599627370496 + b % 4503599627370496 := by
  unfold obF at hf
  have hM : obM b = 4503599627370496 + b % 4503599627370496 := by unfold obM; rw [if_neg h]
  have hbl : bl (obM b) = 53 := by
    rw [hM]; exact bl_of (k := 52) (by omega) (by omega)
  refine ⟨⟨by omega, by omega, by omega, by rw [hbl, hM]; simp, by rw [hbl]; unfold obE; omega, .inl rfl, by omega⟩, ?_⟩
  unfold obS; split <;> omega
theorem nrm_small {b : Nat} (h0 : 0 < b % 9223372036854775808) (h : b % 9223372036854775808 < 4503599627370496) :
    ∃ F, Nrm b (bl (obM b)) F (-52) ∧ (if obN b then 9223372036854775808 else 0) + (bl (obM b) - 1) * 4503599627370496 + obM b * 2 ^ (53 - bl (obM b)) = obS b + bl (obM b) * 4503599627370496 + F := by
  have hM : obM b = b % 9223372036854775808 := by unfold obM; rw [if_pos h]
  have hM0 : 0 < obM b := by omega
  have hbl : bl (obM b) ≤ 52 := bl_le (show obM b < 2 ^ 52 by omega)
  have hbp := bl_pos hM0
  have hlt : obM b * 2 ^ (53 - bl (obM b)) < 9007199254740992 ∧ 4503599627370496 ≤ obM b * 2 ^ (53 - bl (obM b)) := by
    have h1 := bl_mul hM0 (53 - bl (obM b))
    have h2 := lt_bl (obM b * 2 ^ (53 - bl (obM b)))
    have h3 := bl_ge (n := obM b * 2 ^ (53 - bl (obM b))) (Nat.mul_pos hM0 (Nat.two_pow_pos _))
    rw [h1, show bl (obM b) + (53 - bl (obM b)) = 53 by omega] at h2 h3
    exact ⟨h2, h3⟩
  refine ⟨obM b * 2 ^ (53 - bl (obM b)) - 4503599627370496, ⟨by omega, by omega, by omega, by omega, ?_, .inr rfl, by omega⟩, ?_⟩
  · unfold obE; omega
  · unfold obN obS
    by_cases hs : 9223372036854775808 ≤ b
    · rw [decide_eq_true hs, if_pos rfl, if_pos hs]; omega
    · rw [decide_eq_false hs, if_neg (by decide), if_neg hs]; omega
set_option maxRecDepth 100000 in
theorem mNormalize (b : Nat) (hb : b < 18446744073709551616) (hf : obF b) (h0 : 0 < b % 9223372036854775808) :
    ∃ g F x0, Nrm b g F x0 ∧ ∀ w, Calls Tryz.prog 184 #[.float .f64 b] w fun e w' => e = .returned (.tuple #[.float .f64 (obS b + g * 4503599627370496 + F), .int .i64 x0]) ∧ w = w' := by
  have hmin := ord_min (r := b % 9223372036854775808) hf
  by_cases h : b % 9223372036854775808 < 4503599627370496
  · rw [decide_eq_true h] at hmin
    have hmul := mul_sub hb h0 h
    obtain ⟨F, hN, hE⟩ := nrm_small h0 h
    rw [hE] at hmul
    refine ⟨_, F, -52, hN, fun w => ?_⟩
    have HA := Lib.hid (mAbs b w hb)
    obtain ⟨y, hy⟩ : ∃ y, y = obS b + bl (obM b) * 4503599627370496 + F := ⟨_, rfl⟩
    rw [← hy] at hmul ⊢
    have hrun : ∀ W : World, (binOp .mul 62 (.float .f64 b) (.float .f64 4841369599423283200)).run Tryz.prog W = .ok (.float .f64 y) W := fun W => run_float_arith W .mul _ .f64 _ _ _ hmul
    obtain ⟨m, hm⟩ : ∃ m, m = b % 9223372036854775808 := ⟨_, rfl⟩
    rw [← hm] at hmin HA
    clear hm hN hE hy hmul h h0 hf hb
    go_enter Tryz.func184, Tryz.ntmps184
    go_wp2_with fail
    refine HA.out.mono ?_
    rintro _ _ ⟨rfl, rfl⟩
    go_wp2
    go_ret2
    exact ⟨rfl, rfl⟩
  · rw [decide_eq_false h] at hmin
    obtain ⟨hN, hE⟩ := nrm_big hb hf h
    refine ⟨_, _, 0, hN, fun w => ?_⟩
    rw [← hE]
    have HA := Lib.hid (mAbs b w hb)
    obtain ⟨m, hm⟩ : ∃ m, m = b % 9223372036854775808 := ⟨_, rfl⟩
    rw [← hm] at hmin HA
    clear hm hN hE h h0 hf hb
    go_enter Tryz.func184, Tryz.ntmps184
    go_wp2_with fail
    refine HA.out.mono ?_
    rintro _ _ ⟨rfl, rfl⟩
    go_wp2
    go_ret2
    exact ⟨rfl, rfl⟩
set_option maxRecDepth 100000 in
set_option maxHeartbeats 1600000 in
theorem mfrexp (b : Nat) (hb : b < 18446744073709551616) (hf : obF b) (h0 : 0 < b % 9223372036854775808) :
    ∃ F x, (F < 4503599627370496 ∧ 4503599627370496 + F = obM b * 2 ^ (53 - bl (obM b)) ∧ x = (bl (obM b) : Int) + obE b ∧ bl (obM b) ≤ 53) ∧ ∀ w, Calls Tryz.prog 151 #[.float .f64 b] w fun e w' => e = .returned (.tuple #[.float .f64 (obS b + 4602678819172646912 + F), .int .i64 x]) ∧ w = w' := by
  obtain ⟨g, F, x0, ⟨n1, n2, n3, n4, n5, n6, n7⟩, hN⟩ := mNormalize b hb hf h0
  refine ⟨F, _, ⟨n1, n4, rfl, n7⟩, fun w => ?_⟩
  have hz := ord_zero hb hf
  have hM : obM b ≠ 0 := by unfold obM; split <;> omega
  rw [decide_eq_false hM] at hz
  have HI := Lib.hid (mIsInf b false w hb (ord_max (r := b % 9223372036854775808) hf))
  have HNA := Lib.hid (mIsNaN b w hb (.inl hf))
  have HN := Lib.hid (hN w)
  have hS : obS b = 0 ∨ obS b = 9223372036854775808 := by unfold obS; split <;> simp
  obtain ⟨S, hSS⟩ : ∃ S, S = obS b := ⟨_, rfl⟩
  rw [← hSS] at HN hS ⊢
  obtain ⟨y, hy⟩ : ∃ y, y = S + g * 4503599627370496 + F := ⟨_, rfl⟩
  rw [← hy] at HN
  have hyl : y < 18446744073709551616 := by omega
  obtain ⟨q, hq⟩ : ∃ q, q = y / 4503599627370496 := ⟨_, rfl⟩
  have hq1 : (y : Int) / 4503599627370496 = (q : Int) := by omega
  have hq2 := and_2047 (x := q) (by omega)
  rw [show q % 2048 = g by omega] at hq2
  have hc := and_clear hyl
  rw [show (if 9223372036854775808 ≤ y then 9223372036854775808 else 0) + y % 4503599627370496 = S + F by split <;> omega] at hc
  have ho := or_half hS n1
  obtain ⟨z, hzz⟩ : ∃ z, z = S + F := ⟨_, rfl⟩
  rw [← hzz] at hc ho
  obtain ⟨r, hr⟩ : ∃ r, r = S + 4602678819172646912 + F := ⟨_, rfl⟩
  rw [← hr] at ho ⊢
  obtain ⟨x, hx⟩ : ∃ x, x = (bl (obM b) : Int) + obE b := ⟨_, rfl⟩
  rw [← hx] at n5 ⊢
  have a1 : x0 + ((g : Int) - 1023 + 1) = x := by omega
  have hxb : -1100 ≤ x ∧ x ≤ 1100 := by omega
  have hx0 : -52 ≤ x0 ∧ x0 ≤ 0 := by omega
  clear hN hy hq hzz hr hx hSS n1 n4 n5 n6 n7 hM h0 hf
  go_enter Tryz.func151, Tryz.ntmps151
  go_wp2_with fail
  refine HI.out.mono ?_
  rintro _ _ ⟨rfl, rfl⟩
  go_wp2_with fail
  refine HNA.out.mono ?_
  rintro _ _ ⟨rfl, rfl⟩
  go_wp2_with fail
  refine HN.out.mono ?_
  rintro _ _ ⟨rfl, rfl⟩
  go_wp2
  go_ret2
  exact ⟨rfl, rfl⟩
set_option maxRecDepth 100000 in
theorem mFrexp (b : Nat) (hb : b < 18446744073709551616) (hf : obF b) (h0 : 0 < b % 9223372036854775808) :
    ∃ F x, (F < 4503599627370496 ∧ 4503599627370496 + F = obM b * 2 ^ (53 - bl (obM b)) ∧ x = (bl (obM b) : Int) + obE b ∧ bl (obM b) ≤ 53) ∧ ∀ w, Calls Tryz.prog 106 #[.float .f64 b] w fun e w' => e = .returned (.tuple #[.float .f64 (obS b + 4602678819172646912 + F), .int .i64 x]) ∧ w = w' := by
  obtain ⟨F, x, hF, hc⟩ := mfrexp b hb hf h0
  refine ⟨F, x, hF, fun w => ?_⟩
  have HC := Lib.hid (hc w)
  have hxb : -2200 ≤ x ∧ x ≤ 2200 := by
    have := obE_bd hf
    obtain ⟨-, -, h3, h4⟩ := hF
    omega
  obtain ⟨r, hr⟩ : ∃ r, r = obS b + 4602678819172646912 + F := ⟨_, rfl⟩
  rw [← hr] at HC ⊢
  clear hc hr hF hf h0 hb
  go_enter Tryz.func106, Tryz.ntmps106
  go_wp2_with fail
  refine HC.out.mono ?_
  rintro _ _ ⟨rfl, rfl⟩
  go_wp2
  go_ret2
  exact ⟨rfl, rfl⟩
end Go.Proofs.YtllhnjpnkmjopaaGreatDoor
