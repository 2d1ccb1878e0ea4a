/-
Texts of this proof, joined: IfC LwE LwF IfD IfF SnA. No condition.
-/
import Derived.Test.YtgclooabjilniaaDoorK20
import Derived.Test.YtgclooabjilniaaDoorK23
import Derived.OwnWalk
/-
The reference's Int64. No condition.
-/
namespace Go.Proofs.YtgclooabjilniaaDoor
open Go.RowKit

/-! ### Plain numbers -/
theorem trn_low {M : Nat} {E e : Int} (h : e ≤ E) (h0 : e ≤ 0) : trn M E = lo M E e / 2 ^ (-e).toNat := by
  have hd : deq M E (lo M E e) e := ⟨(E - e).toNat, 0, by simp [lo], by omega⟩
  rw [trn_deq hd]
  unfold trn
  rw [show e.toNat = 0 by omega, Nat.pow_zero, Nat.mul_one]
theorem exT_low {M : Nat} {E e : Int} (h : e ≤ E) : exT M E = decide (lo M E e % 2 ^ (-e).toNat = 0) := by
  rcases Nat.eq_zero_or_pos M with h0 | h0
  · subst h0
    unfold exT lo
    rw [Nat.zero_mul, Nat.zero_mod, Nat.zero_mod]
  · have hd : deq M E (lo M E e) e := ⟨(E - e).toNat, 0, by simp [lo], by omega⟩
    rw [exT_deq h0 hd]
    rfl
theorem cmpI_mul {i j k : Int} (hk : 0 < k) : cmpI (i * k) (j * k) = cmpI i j := by
  rcases Int.lt_trichotomy i j with h | h | h
  · rw [cmpI_lt h, cmpI_lt (Int.mul_lt_mul_of_pos_right h hk)]
  · subst h; unfold cmpI; rw [if_neg (by omega), if_neg (by omega), if_neg (by omega), if_neg (by omega)]
  · rw [cmpI_gt h, cmpI_gt (Int.mul_lt_mul_of_pos_right h hk)]
theorem sI_mulI (n : Bool) (x y : Nat) : sI n (x * y) = sI n x * (y : Int) := by cases n <;> simp [sI, Int.neg_mul]
/-- An order at a lower exponent. -/
theorem cmp_low {n1 n2 : Bool} {x y : Nat} {e1 e2 e : Int} (h : e ≤ min e1 e2) :
    cmpI (sI n1 (x * 2 ^ (e1 - min e1 e2).toNat)) (sI n2 (y * 2 ^ (e2 - min e1 e2).toNat)) = cmpI (sI n1 (lo x e1 e)) (sI n2 (lo y e2 e)) := by
  have k1 : x * 2 ^ (e1 - min e1 e2).toNat * 2 ^ (min e1 e2 - e).toNat = lo x e1 e := lo_lo (M := x) (E := e1) (by omega) h
  have k2 : y * 2 ^ (e2 - min e1 e2).toNat * 2 ^ (min e1 e2 - e).toNat = lo y e2 e := lo_lo (M := y) (E := e2) (by omega) h
  rw [← k1, ← k2, sI_mulI n1 _ (2 ^ (min e1 e2 - e).toNat), sI_mulI n2 _ (2 ^ (min e1 e2 - e).toNat), cmpI_mul]
  have := Nat.two_pow_pos (min e1 e2 - e).toNat
  omega
/-- Below the least number of 64 bits. -/
theorem i64_less {n : Bool} {M : Nat} {E : Int} (h : cmpI (sI n (M * 2 ^ (E - min E 63).toNat)) (sI true (1 * 2 ^ (63 - min E 63).toNat)) < 0) : i64V n M E = -9223372036854775808 ∧ i64A n M E = 1 := by
  rw [cmp_low (e := min E 0) (by omega)] at h
  have h1 : sI n (lo M E (min E 0)) < sI true (lo 1 63 (min E 0)) := by
    refine Int.lt_of_not_ge fun hc => ?_
    rcases Int.lt_or_eq_of_le hc with h2 | h2
    · rw [cmpI_gt h2] at h; omega
    · rw [← h2] at h; unfold cmpI at h; rw [if_neg (by omega), if_neg (by omega)] at h; omega
  have h2 : lo 1 63 (min E 0) = 9223372036854775808 * 2 ^ (-(min E 0)).toNat := by
    unfold lo
    rw [show (63 - min E 0).toNat = 63 + (-(min E 0)).toNat by omega, Nat.pow_add, Nat.one_mul]
  rw [h2] at h1
  have hn : n = true := by
    cases n
    · simp only [sI, Bool.false_eq_true, if_false, if_true] at h1; omega
    · rfl
  subst hn
  simp only [sI, if_true] at h1
  obtain ⟨D, hD⟩ : ∃ D, D = 2 ^ (-(min E 0)).toNat := ⟨_, rfl⟩
  have hD0 : 0 < D := by rw [hD]; exact Nat.two_pow_pos _
  have ht := trn_low (M := M) (show min E 0 ≤ E by omega) (by omega)
  have he := exT_low (M := M) (show min E 0 ≤ E by omega)
  rw [← hD] at h1 ht he
  have h3 : 9223372036854775808 * D < lo M E (min E 0) := by omega
  have h4 : 9223372036854775808 ≤ trn M E := by rw [ht, Nat.le_div_iff_mul_le hD0]; omega
  unfold i64V i64A
  refine ⟨by rw [if_neg (by omega)]; rfl, ?_⟩
  rw [if_neg]
  · rfl
  · rintro ⟨k1, k2⟩
    have k3 : trn M E = 9223372036854775808 := by rcases k2 with k2 | k2 <;> omega
    rw [he] at k1
    have k4 := of_decide_eq_true k1
    have k5 := Nat.div_add_mod (lo M E (min E 0)) D
    rw [← ht, k3, k4, Nat.mul_comm] at k5
    omega
/-- Above the greatest number of 64 bits. -/
theorem i64_more {n : Bool} {M : Nat} {E : Int} (h : 0 < cmpI (sI n (M * 2 ^ (E - min E 0).toNat)) (sI false (9223372036854775807 * 2 ^ (0 - min E 0).toNat))) : i64V n M E = 9223372036854775807 ∧ i64A n M E = -1 := by
  rw [cmp_low (e := min E 0) (by omega)] at h
  have h1 : sI false (lo 9223372036854775807 0 (min E 0)) < sI n (lo M E (min E 0)) := by
    refine Int.lt_of_not_ge fun hc => ?_
    rcases Int.lt_or_eq_of_le hc with h2 | h2
    · rw [cmpI_lt h2] at h; omega
    · rw [← h2] at h; unfold cmpI at h; rw [if_neg (by omega), if_neg (by omega)] at h; omega
  have h2 : lo 9223372036854775807 0 (min E 0) = 9223372036854775807 * 2 ^ (-(min E 0)).toNat := by
    unfold lo
    rw [show (0 - min E 0).toNat = (-(min E 0)).toNat by omega]
  rw [h2] at h1
  have hn : n = false := by
    cases n
    · rfl
    · simp only [sI, Bool.false_eq_true, if_false, if_true] at h1; omega
  subst hn
  simp only [sI, Bool.false_eq_true, if_false] at h1
  obtain ⟨D, hD⟩ : ∃ D, D = 2 ^ (-(min E 0)).toNat := ⟨_, rfl⟩
  have hD0 : 0 < D := by rw [hD]; exact Nat.two_pow_pos _
  have ht := trn_low (M := M) (show min E 0 ≤ E by omega) (by omega)
  have he := exT_low (M := M) (show min E 0 ≤ E by omega)
  rw [← hD] at h1 ht he
  have h3 : 9223372036854775807 * D < lo M E (min E 0) := by omega
  have h4 : 9223372036854775807 ≤ trn M E := by rw [ht, Nat.le_div_iff_mul_le hD0]; omega
  unfold i64V i64A
  refine ⟨?_, ?_⟩
  · split
    · rw [show trn M E = 9223372036854775807 by omega]; rfl
    · rfl
  · rw [if_neg]
    · rfl
    · rintro ⟨k1, k2⟩
      have k3 : trn M E = 9223372036854775807 := by
        rcases k2 with k2 | k2
        · omega
        · exact absurd k2.1 (by decide)
      rw [he] at k1
      have k4 := of_decide_eq_true k1
      have k5 := Nat.div_add_mod (lo M E (min E 0)) D
      rw [← ht, k3, k4, Nat.mul_comm] at k5
      omega
theorem wrap_neg {t : Nat} (h : t ≤ 9223372036854775808) : (if t < 9223372036854775808 then -(t : Int) else -9223372036854775808) = IntKind.i64.wrap (-IntKind.i64.wrap (t : Int)) := by
  rw [IntKind.wrap_i64, IntKind.wrap_i64]
  by_cases h1 : t < 9223372036854775808
  · rw [if_pos h1]; omega
  · rw [if_neg h1]; omega
theorem wrap_pos {t : Nat} (h : t < 9223372036854775808) : (t : Int) = IntKind.i64.wrap (t : Int) := by
  rw [IntKind.wrap_i64]; omega
/-- Between the two. -/
theorem i64_mid {n : Bool} {M : Nat} {E : Int} (h1 : 0 ≤ cmpI (sI n (M * 2 ^ (E - min E 63).toNat)) (sI true (1 * 2 ^ (63 - min E 63).toNat))) (h2 : cmpI (sI n (M * 2 ^ (E - min E 0).toNat)) (sI false (9223372036854775807 * 2 ^ (0 - min E 0).toNat)) ≤ 0) :
    i64A n M E = accI n (exT M E) ∧ trn M E ≤ 9223372036854775808 ∧ (n = false → trn M E < 9223372036854775808) ∧ i64V n M E = (if n then IntKind.i64.wrap (-IntKind.i64.wrap (trn M E : Int)) else IntKind.i64.wrap (trn M E : Int)) := by
  rw [cmp_low (e := min E 0) (by omega)] at h1 h2
  have g1 : sI true (lo 1 63 (min E 0)) ≤ sI n (lo M E (min E 0)) := by
    refine Int.not_lt.1 fun hc => ?_
    rw [cmpI_lt hc] at h1; omega
  have g2 : sI n (lo M E (min E 0)) ≤ sI false (lo 9223372036854775807 0 (min E 0)) := by
    refine Int.not_lt.1 fun hc => ?_
    rw [cmpI_gt hc] at h2; omega
  have e1 : lo 1 63 (min E 0) = 9223372036854775808 * 2 ^ (-(min E 0)).toNat := by
    unfold lo
    rw [show (63 - min E 0).toNat = 63 + (-(min E 0)).toNat by omega, Nat.pow_add, Nat.one_mul]
  have e2 : lo 9223372036854775807 0 (min E 0) = 9223372036854775807 * 2 ^ (-(min E 0)).toNat := by
    unfold lo
    rw [show (0 - min E 0).toNat = (-(min E 0)).toNat by omega]
  rw [e1] at g1
  rw [e2] at g2
  obtain ⟨D, hD⟩ : ∃ D, D = 2 ^ (-(min E 0)).toNat := ⟨_, rfl⟩
  have hD0 : 0 < D := by rw [hD]; exact Nat.two_pow_pos _
  have ht := trn_low (M := M) (show min E 0 ≤ E by omega) (by omega)
  have he := exT_low (M := M) (show min E 0 ≤ E by omega)
  rw [← hD] at g1 g2 ht he
  have k5 := Nat.div_add_mod (lo M E (min E 0)) D
  rw [← ht, Nat.mul_comm] at k5
  have hml := Nat.mod_lt (lo M E (min E 0)) hD0
  have hacc : ∀ b : Bool, accI n b = if b then 0 else if n then 1 else -1 := fun b => rfl
  cases n
  · simp only [sI, Bool.false_eq_true, if_false] at g2
    have k6 : trn M E < 9223372036854775808 := by
      have : lo M E (min E 0) < 9223372036854775808 * D := by omega
      rw [ht]; exact Nat.div_lt_of_lt_mul (by rw [Nat.mul_comm]; exact this)
    refine ⟨?_, by omega, fun _ => k6, ?_⟩
    · rw [hacc]; unfold i64A
      by_cases hx : exT M E = true
      · rw [if_pos ⟨hx, .inl k6⟩, if_pos hx]
      · rw [if_neg (fun hc => hx hc.1), if_neg hx]
    · unfold i64V
      rw [if_pos k6]
      simp only [sI, Bool.false_eq_true, if_false]
      exact wrap_pos k6
  · simp only [sI, if_true] at g1
    have k6 : lo M E (min E 0) ≤ 9223372036854775808 * D := by omega
    have k7 : trn M E ≤ 9223372036854775808 := by
      rw [ht]; exact Nat.le_of_lt_succ (Nat.div_lt_of_lt_mul (by rw [Nat.mul_comm, Nat.succ_mul]; omega))
    have k8 : trn M E = 9223372036854775808 → exT M E = true := fun hc => by
      rw [he]
      rw [hc] at k5
      exact decide_eq_true (by omega)
    refine ⟨?_, k7, fun hc => absurd hc (by decide), ?_⟩
    · rw [hacc]; unfold i64A
      by_cases hx : exT M E = true
      · rw [if_pos hx, if_pos ⟨hx, by
          rcases Nat.lt_or_ge (trn M E) 9223372036854775808 with h | h
          · exact .inl h
          · exact .inr ⟨rfl, by omega⟩⟩]
      · rw [if_neg (fun hc => hx hc.1), if_neg hx]
    · unfold i64V
      simp only [sI, if_true]
      exact wrap_neg k7
/-! ### Walks -/
theorem cut2 (n : Bool) (a : Value) (M : Nat) (E : Int) (w : World) (ha : NatV w a M) (hM : nl M ≤ 10000000) (hE : -100000000 ≤ E ∧ E ≤ 100000000) :
    Calls Tryd.prog 18 #[.bool n, a, .int .i64 (-E), .int .i64 2] w fun e w' => ∃ r, e = .returned (.tuple #[r, .int .i64 (accI n (exT M E))]) ∧ NPost (trn M E) w r w' := by
  rcases Int.le_total 0 E with h | h
  · obtain ⟨k, rfl⟩ := Int.eq_ofNat_of_zero_le h
    have e1 : trn M (k : Int) = M * 2 ^ k := by unfold trn; rw [show (-(k : Int)).toNat = 0 by omega, Nat.pow_zero, Nat.div_one]; simp
    have e2 : exT M (k : Int) = true := by unfold exT; rw [show (-(k : Int)).toNat = 0 by omega, Nat.pow_zero, Nat.mod_one]; rfl
    rw [e1, e2]
    exact spCut_neg n a M k (-(k : Int)) 2 w ha hM rfl (by omega)
  · obtain ⟨k, hk⟩ := Int.eq_ofNat_of_zero_le (show 0 ≤ -E by omega)
    have h1 := spCut_any n a M k 2 w ha hM (by omega) (by decide)
    have e1 : trn M E = ctQ 2 n M k := by
      unfold trn ctQ ctU awy
      rw [hk, show E.toNat = 0 by omega, Nat.pow_zero, Nat.mul_one]
      simp
    have e2 : accI n (exT M E) = ctA 2 n M k := by
      unfold exT ctA ctU awy accI
      rw [hk]
      simp only [Int.toNat_natCast, decide_eq_true_eq]
      by_cases h2 : M % 2 ^ k = 0
      · rw [if_pos h2, if_pos (lef_zero.2 ⟨h2, rfl⟩)]
      · rw [if_neg h2, if_neg (fun hc => h2 (lef_zero.1 hc).1)]
        cases n <;> simp
    rw [e1, e2, hk]
    exact h1
theorem ksD2 {W X : World} {k l : Nat} {a b c a' b' c' : Value} {T T' : TypeId} (hr : W.heap[k]? = some (.cells #[a, b, c] T (0, 0))) (hq : W.heap[l]? = some (.cells #[a', b', c'] T' (0, 0))) (h : Below W.heap.size W X) :
    Below W.heap.size W X ∧ (X.cell? ⟨k, 0, none⟩ = some a ∧ X.cell? ⟨k, 1, none⟩ = some b ∧ X.cell? ⟨k, 2, none⟩ = some c) ∧ X.cell? ⟨l, 0, none⟩ = some a' ∧ X.cell? ⟨l, 1, none⟩ = some b' ∧ X.cell? ⟨l, 2, none⟩ = some c' := by
  obtain ⟨x0, x1, x2, -, -, -⟩ := row3 (keep_row h hr)
  obtain ⟨y0, y1, y2, -, -, -⟩ := row3 (keep_row h hq)
  exact ⟨h, ⟨x0, x1, x2⟩, y0, y1, y2⟩
theorem nl_wrap (T k : Nat) : IntKind.i64.wrap (IntKind.i64.wrap (IntKind.i64.wrap ((T / 65536 ^ (k + 1) : Nat) : Int) * 65536) + ((dig T k : Nat) : Int)) = IntKind.i64.wrap ((T / 65536 ^ k : Nat) : Int) := by
  have h1 := div_pow_step T k
  rw [h1]
  rw [IntKind.wrap_i64, IntKind.wrap_i64, IntKind.wrap_i64, IntKind.wrap_i64]
  omega
theorem wrap_bd (x : Int) : -9223372036854775808 ≤ IntKind.i64.wrap x ∧ IntKind.i64.wrap x ≤ 9223372036854775807 := by rw [IntKind.wrap_i64]; omega
theorem bl_one' : bl 1 ≤ 60000 := Nat.le_trans (bl_le (k := 1) (by decide)) (by decide)
theorem bl_top' : bl 9223372036854775807 ≤ 60000 := Nat.le_trans (bl_le (k := 64) (by decide)) (by decide)
theorem i64_top {ng : Bool} {T : Nat} (h : sI ng T = smV false 1 63 true 1 0) : ng = false ∧ T = 9223372036854775807 := by
  have h1 : smV false 1 63 true 1 0 = 9223372036854775807 := by decide
  rw [h1] at h
  cases ng
  · simp only [sI, Bool.false_eq_true, if_false] at h; exact ⟨rfl, by omega⟩
  · simp only [sI, if_true] at h; omega
set_option maxRecDepth 100000 in
set_option maxHeartbeats 3200000 in
theorem spInt64 (n : Bool) (a : Value) (E : Int) (M : Nat) (w : World) (ha : NatV w a M) (hM : bl M ≤ 60000) (hE : -100000 ≤ E ∧ E ≤ 100000) :
    Calls Tryd.prog 9 #[.agg #[.bool n, a, .int .i64 E]] w fun e' w' => e' = .returned (.tuple #[.int .i64 (i64V n M E), .int .i64 (i64A n M E)]) ∧ Below w.heap.size w w' := by
  have hS := ha.isS
  have hab := (Below.refl w.heap.size w).alloc (Nat.le_refl _) (.cells #[.bool n, a, .int .i64 E] 28)
  obtain ⟨X, hX⟩ : ∃ X, X = w.alloc (.cells #[.bool n, a, .int .i64 E] 28) := ⟨_, rfl⟩
  have hr1 : X.heap[w.heap.size]? = some (.cells #[.bool n, a, .int .i64 E] 28 (0, 0)) := by rw [hX]; exact row_chain11
  rw [← hX] at hab
  have HA := Lib.hid (ha.below hab)
  have HR := Lib.hid hr1
  have HB := Lib.hid hab
  have hXs := hab.size
  have HM := Lib.hid hM
  obtain ⟨hE1, hE2⟩ := hE
  obtain ⟨V, hV⟩ : ∃ V, V = i64V n M E := ⟨_, rfl⟩
  obtain ⟨A, hA⟩ : ∃ A, A = i64A n M E := ⟨_, rfl⟩
  have HV := Lib.hid hV
  have HAC := Lib.hid hA
  rw [← hV, ← hA]
  clear ha hab hr1 hM hV hA
  go_enter Tryd.func9, Tryd.ntmps9
  go_upto_region 1 with fail
  rw [← hX]
  clear hX
  go_wp2_with fail
  refine (spSmall 1 X (by decide)).mono ?_
  rintro _ w1 ⟨r, rfl, hr, hb1⟩
  have hSr := hr.isS
  obtain ⟨Y, hY⟩ : ∃ Y, Y = w1.alloc (.cells #[.bool true, r, .int .i64 63] 28) := ⟨_, rfl⟩
  have hbY : Below w1.heap.size w1 Y := by rw [hY]; exact fbone _
  have hr2 : Y.heap[w1.heap.size]? = some (.cells #[.bool true, r, .int .i64 63] 28 (0, 0)) := by rw [hY]; exact row_chain11
  have hbX := bthen hb1 hbY
  have hr1 := keep_row hbX HR.out
  have HR1 := Lib.hid hr1
  have HR2 := Lib.hid hr2
  have HAY := Lib.hid (HA.out.below hbX)
  have HRY := Lib.hid (hr.below hbY)
  have HBY := Lib.hid (HB.out.trans (hbX.mono hXs))
  have hYs := HBY.out.size
  obtain ⟨-, ⟨x0, x1, x2⟩, y0, y1, y2⟩ := ksD2 hr1 hr2 (Below.refl _ _)
  clear hr hb1 hbY hr1 hr2 hbX hXs
  go_upto_region 2 with fail
  rw [← hY]
  clear hY
  go_wp2_with fail
  refine (order_real 60000 100000 1 1 n true a r E 63 M 1 Y HAY.out HRY.out HM.out (by omega) (by omega) bl_one' (by decide) (by decide) (by decide) (by decide)).mono ?_
  rintro _ w2 ⟨rfl, hb2⟩
  obtain ⟨C, hC⟩ : ∃ C, C = cmpI (sI n (M * 2 ^ (E - min E 63).toNat)) (sI true (1 * 2 ^ (63 - min E 63).toNat)) := ⟨_, rfl⟩
  rw [← hC]
  have HC := Lib.hid hC
  clear hC
  by_cases hc : C < 0
  · have t1 : decide (C < 0) = true := decide_eq_true hc
    have K := Lib.hid (i64_less (n := n) (M := M) (E := E) (by rw [← HC.out]; exact hc))
    have HB2 := Lib.hid (HBY.out.trans (hb2.mono hYs))
    clear hc hb2
    go_wp2
    go_ret2
    rw [HV.out, HAC.out, K.out.1, K.out.2]
    exact ⟨rfl, HB2.out⟩
  have t1 : decide (C < 0) = false := decide_eq_false hc
  have HC0 := Lib.hid hc
  clear hc
  have hr1 := keep_row hb2 HR1.out
  have hr2 := keep_row hb2 HR2.out
  have HR3 := Lib.hid hr1
  have HR4 := Lib.hid hr2
  have HA2 := Lib.hid (HAY.out.below hb2)
  have HR2' := Lib.hid (HRY.out.below hb2)
  have HB2 := Lib.hid (HBY.out.trans (hb2.mono hYs))
  have h2s := HB2.out.size
  have hcc := Below.refl w2.heap.size w2
  clear x0 x1 x2 y0 y1 y2 hr1 hr2 hb2 hYs
  obtain ⟨C2, hC2⟩ : ∃ C, C = cmpI (sI n (M * 2 ^ (E - min E 0).toNat)) (sI false (9223372036854775807 * 2 ^ (0 - min E 0).toNat)) := ⟨_, rfl⟩
  have HC2 := Lib.hid hC2
  clear hC2
  by_cases hc2 : 0 < C2
  · have t2 : decide (0 < C2) = true := decide_eq_true hc2
    have K := Lib.hid (i64_more (n := n) (M := M) (E := E) (by rw [← HC2.out]; exact hc2))
    clear hc2
    go_wp2_with fail
    first
      | (go_region_held3 (fun w' => Below w2.heap.size w2 w' ∧ (w'.cell? ⟨w.heap.size, 0, none⟩ = some (.bool n) ∧ w'.cell? ⟨w.heap.size, 1, none⟩ = some a ∧ w'.cell? ⟨w.heap.size, 2, none⟩ = some (.int .i64 E)) ∧ w'.cell? ⟨w1.heap.size, 0, none⟩ = some (.bool true) ∧ w'.cell? ⟨w1.heap.size, 1, none⟩ = some r ∧ w'.cell? ⟨w1.heap.size, 2, none⟩ = some (.int .i64 63))
          ((refine ksD2 HR3.out HR4.out ?_; with_reducible first | assumption | exact Below.drew hcc))
          (first
            | (go_at_call 11; refine (dOpp true r 63 _ hSr).mono ?_; rintro _ w3 ⟨rfl, hb3⟩; have hb3 := bthenL hb3 (by assumption); have HR3' := Lib.hid (HR2'.out.below hb3))
            | (go_at_call 8; refine (whole_any (-1) _ (by omega) (by omega)).mono ?_; rintro _ w4 ⟨_, rfl, ⟨o, rfl, ho⟩, hb4⟩; have hSo := ho.isS; have HO := Lib.hid ho; clear ho; have HR4' := Lib.hid (HR3'.out.below hb4); have hb4 := bthen hb3 hb4)
            | (go_at_call 7; refine (dSum_sm _ _ r o _ _ 1 _ _ HR4'.out HO.out (Nat.le_trans bl_one' (by decide)) (Nat.le_trans bl_one' (by decide)) (by decide) (by decide)).mono ?_; rintro _ w5 ⟨ng, c, T, rfl, hcn, hs, hb5⟩; have hTn : ng = false ∧ T = 9223372036854775807 := i64_top hs; obtain ⟨rfl, rfl⟩ := hTn; have hSc := hcn.isS; have HCN := Lib.hid hcn; clear hcn hs; have hb5 := bthen hb4 hb5; rw [show min (63 : Int) 0 = 0 from rfl])
            | (go_at_call 25; refine (order_real 60000 100000 1 1 n false a c E 0 M 9223372036854775807 _ (HA2.out.below hb5) HCN.out HM.out (by omega) (by omega) bl_top' (by decide) (by decide) (by decide) (by decide)).mono ?_; rintro _ w6 ⟨rfl, hb6⟩; rw [← HC2.out]; have hb6 := bthen hb5 hb6)))
      | fail
    all_goals
      have HB6 := Lib.hid (HB2.out.trans (hb6.mono h2s))
      go_wp2
      go_ret2
      rw [HV.out, HAC.out, K.out.1, K.out.2]
      exact ⟨rfl, HB6.out⟩
  have t2 : decide (0 < C2) = false := decide_eq_false hc2
  have K := Lib.hid (i64_mid (n := n) (M := M) (E := E) (by rw [← HC.out]; have := HC0.out; omega) (by rw [← HC2.out]; omega))
  clear hc2
  go_wp2_with fail
  first
    | (go_region_held3 (fun w' => Below w2.heap.size w2 w' ∧ (w'.cell? ⟨w.heap.size, 0, none⟩ = some (.bool n) ∧ w'.cell? ⟨w.heap.size, 1, none⟩ = some a ∧ w'.cell? ⟨w.heap.size, 2, none⟩ = some (.int .i64 E)) ∧ w'.cell? ⟨w1.heap.size, 0, none⟩ = some (.bool true) ∧ w'.cell? ⟨w1.heap.size, 1, none⟩ = some r ∧ w'.cell? ⟨w1.heap.size, 2, none⟩ = some (.int .i64 63))
        ((refine ksD2 HR3.out HR4.out ?_; with_reducible first | assumption | exact Below.drew hcc))
        (first
          | (go_at_call 11; refine (dOpp true r 63 _ hSr).mono ?_; rintro _ w3 ⟨rfl, hb3⟩; have hb3 := bthenL hb3 (by assumption); have HR3' := Lib.hid (HR2'.out.below hb3))
          | (go_at_call 8; refine (whole_any (-1) _ (by omega) (by omega)).mono ?_; rintro _ w4 ⟨_, rfl, ⟨o, rfl, ho⟩, hb4⟩; have hSo := ho.isS; have HO := Lib.hid ho; clear ho; have HR4' := Lib.hid (HR3'.out.below hb4); have hb4 := bthen hb3 hb4)
          | (go_at_call 7; refine (dSum_sm _ _ r o _ _ 1 _ _ HR4'.out HO.out (Nat.le_trans bl_one' (by decide)) (Nat.le_trans bl_one' (by decide)) (by decide) (by decide)).mono ?_; rintro _ w5 ⟨ng, c, T, rfl, hcn, hs, hb5⟩; have hTn : ng = false ∧ T = 9223372036854775807 := i64_top hs; obtain ⟨rfl, rfl⟩ := hTn; have hSc := hcn.isS; have HCN := Lib.hid hcn; clear hcn hs; have hb5 := bthen hb4 hb5; rw [show min (63 : Int) 0 = 0 from rfl])
          | (go_at_call 25; refine (order_real 60000 100000 1 1 n false a c E 0 M 9223372036854775807 _ (HA2.out.below hb5) HCN.out HM.out (by omega) (by omega) bl_top' (by decide) (by decide) (by decide) (by decide)).mono ?_; rintro _ w6 ⟨rfl, hb6⟩; rw [← HC2.out]; have hb6 := bthen hb5 hb6)))
    | fail
  all_goals
    have HB6 := Lib.hid (HB2.out.trans (hb6.mono h2s))
  all_goals
    have hr6 := keep_row hb6 HR3.out
    obtain ⟨x0, x1, x2, -, -, -⟩ := row3 hr6
    have HR6 := Lib.hid hr6
    have HA6 := Lib.hid (HA2.out.below hb6)
    have h6s := HB6.out.size
    clear hb6 hr6
    go_wp2_with fail
    refine (cut2 n a M E w6 HA6.out (nl_of_bl (by have := HM.out; omega)) (by omega)).mono ?_
    rintro _ w7 ⟨q, rfl, hq, hb7⟩
    have hSq := hq.isS
    have hLq := hq.len
    obtain ⟨T, hT⟩ : ∃ T, T = trn M E := ⟨_, rfl⟩
    rw [← hT] at hq hLq
    obtain ⟨sd, hsd⟩ : ∃ sd, sd = accI n (exT M E) := ⟨_, rfl⟩
    have hsdb : -1 ≤ sd ∧ sd ≤ 1 := by rw [hsd]; unfold accI; cases (exT M E) <;> cases n <;> decide
    rw [← hsd]
    obtain ⟨L, hL⟩ : ∃ L, L = nl T := ⟨_, rfl⟩
    rw [← hL] at hLq
    have HT := Lib.hid hT
    have HSD := Lib.hid hsd
    have HL := Lib.hid hL
    have HLB : L ≤ 10 := by
      rw [hL]
      refine Nat.le_trans (nl_le (L := 4) ?_) (by decide)
      have := K.out.2.1
      rw [hT]; omega
    have HQ := Lib.hid hq
    have HB7 := Lib.hid (HB6.out.trans (hb7.mono h6s))
    have h7s := HB7.out.size
    have HR7 := Lib.hid (keep_row hb7 HR6.out)
    clear hq hT hsd hL hb7 x0 x1 x2
    go_wp2
    go_loopw [7, 8] (fun nv iv wr => ∃ k : Nat, k ≤ L ∧ iv = .int .i64 ((k : Int) - 1) ∧ nv = .int .i64 (IntKind.i64.wrap ((T / 65536 ^ k : Nat) : Int)) ∧ Below w7.heap.size w7 wr) (fun _ iv _ => (intOf iv + 1).toNat)
    case atStart =>
      refine ⟨L, Nat.le_refl _, by go_num, ?_, Below.refl _ _⟩
      have e1 := lt_nl T
      rw [← HL.out] at e1
      rw [Nat.div_eq_of_lt e1]; rfl
    case round =>
      obtain ⟨k, hk, rfl, rfl, hbl⟩ := hrel
      by_cases hk0 : 0 < k
      · obtain ⟨j, rfl⟩ : ∃ j, k = j + 1 := ⟨k - 1, by omega⟩
        have ca := (HQ.out.below hbl).cell j (by rw [← HL.out]; omega)
        obtain ⟨p, hp⟩ : ∃ p, p = dig T j := ⟨_, rfl⟩
        have hw := nl_wrap T j
        have hpb : p < 65536 := by rw [hp]; exact dig_lt _ _
        rw [← hp] at ca hw
        have hub := wrap_bd ((T / 65536 ^ (j + 1) : Nat) : Int)
        obtain ⟨U, hU⟩ : ∃ U, U = IntKind.i64.wrap ((T / 65536 ^ (j + 1) : Nat) : Int) := ⟨_, rfl⟩
        rw [← hU] at hw hub ⊢
        have hub2 := wrap_bd (U * 65536)
        obtain ⟨U2, hU2⟩ : ∃ U2, U2 = IntKind.i64.wrap (U * 65536) := ⟨_, rfl⟩
        rw [← hU2] at hw hub2
        have hU2' := hU2.symm
        have hub3 := wrap_bd ((T / 65536 ^ j : Nat) : Int)
        obtain ⟨U3, hU3⟩ : ∃ U3, U3 = IntKind.i64.wrap ((T / 65536 ^ j : Nat) : Int) := ⟨_, rfl⟩
        rw [← hU3] at hw hub3
        have HU3 := Lib.hid hU3
        clear hp hU hU2 hU3
        rw [show ((j + 1 : Nat) : Int) - 1 = (j : Int) by omega]
        have t3 : decide ((0:Int) ≤ (j : Int)) = true := by rw [decide_eq_true_iff]; omega
        have hjL : j < L := by omega
        go_wp2
        exact ⟨⟨j, by omega, by go_num, by rw [HU3.out], hbl⟩, by simp [intOf]⟩
      · have hk1 : k = 0 := by omega
        subst hk1
        have hn0 : IntKind.i64.wrap ((T / 65536 ^ 0 : Nat) : Int) = IntKind.i64.wrap (T : Int) := by rw [Nat.pow_zero, Nat.div_one]
        rw [hn0]
        have hub := wrap_bd (T : Int)
        have hVw := K.out.2.2.2
        rw [← HT.out, ← HV.out] at hVw
        obtain ⟨U, hU⟩ : ∃ U, U = IntKind.i64.wrap (T : Int) := ⟨_, rfl⟩
        rw [← hU] at hub hVw ⊢
        clear hn0 hU
        obtain ⟨x0, x1, x2, -, -, -⟩ := row3 (keep_row hbl HR7.out)
        have HAD : Hid (A = sd) := Lib.hid (by rw [HAC.out, K.out.1, HSD.out])
        have HB8 := Lib.hid (HB7.out.trans (hbl.mono h7s))
        clear hbl
        cases n
        · have HVU : Hid (V = U) := Lib.hid hVw
          clear hVw
          go_wp2
          go_ret2
          rw [HVU.out, HAD.out]
          exact ⟨rfl, HB8.out⟩
        · have hVU : IntKind.i64.wrap (-U) = V := hVw.symm
          clear hVw
          go_wp2
          go_ret2
          rw [HAD.out]
          exact ⟨rfl, HB8.out⟩
end Go.Proofs.YtgclooabjilniaaDoor

/-
The statements on Neg and Abs. No condition.
-/
namespace Go.Proofs.YtgclooabjilniaaDoor
open Go.RowKit

theorem told_dyW {w : World} {z : Value} {p m f M : Nat} {n x : Bool} {e : Int} (hf : f = 0 ∨ f = 1) (hz : RealV w z p m f x (rQ p m n 0 M) (e + (rk p M : Nat))) (hM : f = 1 → 0 < M) (hp : 0 < p) (y : Bool) (hy : f = 1 → x = y) :
    Told w z p m y (rQ p m (dyN f n) 0 (dyM f M)) (dyE f e + (rk p (dyM f M) : Nat)) := by
  rcases hf with rfl | rfl
  · obtain ⟨h1, h2, -⟩ := rQ_zero p m (dyN 0 n)
    rw [show dyM 0 M = 0 from rfl, h2]
    exact hz.told0
  · rw [show dyN 1 n = n from rfl, show dyM 1 M = M from rfl, show dyE 1 e = e from rfl, ← hy rfl]
    exact hz.told (rQ_pos n 0 hp (hM rfl)) (deq.refl _ _)
theorem ks15 {W X : World} {i j k : Nat} {a b c d e f a' b' c' d' e' f' x y z : Value} {T T' U : TypeId} (hr : W.heap[i]? = some (.cells #[a, b, c, d, e, f] T (0, 0))) (hq : W.heap[j]? = some (.cells #[a', b', c', d', e', f'] T' (0, 0))) (hs : W.heap[k]? = some (.cells #[x, y, z] U (0, 0))) (h : Below W.heap.size W X) :
    Below W.heap.size W X ∧ (X.cell? ⟨i, 0, none⟩ = some a ∧ X.cell? ⟨i, 1, none⟩ = some b ∧ X.cell? ⟨i, 2, none⟩ = some c ∧ X.cell? ⟨i, 3, none⟩ = some d ∧ X.cell? ⟨i, 4, none⟩ = some e ∧ X.cell? ⟨i, 5, none⟩ = some f) ∧
    (X.cell? ⟨j, 0, none⟩ = some a' ∧ X.cell? ⟨j, 1, none⟩ = some b' ∧ X.cell? ⟨j, 2, none⟩ = some c' ∧ X.cell? ⟨j, 3, none⟩ = some d' ∧ X.cell? ⟨j, 4, none⟩ = some e' ∧ X.cell? ⟨j, 5, none⟩ = some f') ∧
    (X.cell? ⟨k, 0, none⟩ = some x ∧ X.cell? ⟨k, 1, none⟩ = some y ∧ X.cell? ⟨k, 2, none⟩ = some z) :=
  ⟨h, (ks12 hr h).2, (ks12 hq h).2, (row_at (keep_row h hs) rfl).1, (row_at (keep_row h hs) rfl).1, (row_at (keep_row h hs) rfl).1⟩
end Go.Proofs.YtgclooabjilniaaDoor

/-
The statements on SetMantExp and MantExp. No condition.
-/
namespace Go.Proofs.YtgclooabjilniaaDoor
open Go.RowKit

theorem dy_one {f M : Nat} {n : Bool} {e : Int} (h : f = 1) : dyN f n = n ∧ dyM f M = M ∧ dyE f e = e := by subst h; exact ⟨rfl, rfl, rfl⟩
theorem RealV.told1 {w : World} {z : Value} {p m f M x : Nat} {neg : Bool} {X e : Int} (hf : f = 1) (h : RealV w z p m f neg M X) (hM : 0 < M) (hq : deq M X x e) : Told w z p m neg x e := by subst hf; exact h.told hM hq
theorem RealOk.one {P E p m f : Nat} {ws : List Nat} {e : Int} (h : RealOk P E p m f ws e) (hf : f = 1) : 0 < wv ws ∧ bl (wv ws) ≤ p ∧ bl (wv ws) ≤ P ∧ ws.length ≤ 1000000 ∧ -(E : Int) ≤ e ∧ e ≤ E := by
  subst hf
  obtain ⟨-, h2, -, h | h | h⟩ := h
  · exact absurd h (by decide)
  · exact absurd h (by decide)
  · exact ⟨h.2.1, h.2.2.1, Nat.le_trans h.2.2.1 h2, h.2.2.2⟩
theorem RealV.ok {w : World} {z : Value} {p m f M P E : Nat} {neg : Bool} {X : Int} (h : RealV w z p m f neg M X) (hp0 : 0 < p) (hp : p ≤ P) (hm : m ≤ 5) (hf : f ≤ 2) (h1 : f = 1 → 0 < M ∧ bl (od M) ≤ p ∧ bl M ≤ 60000000 ∧ -(E : Int) ≤ X ∧ X + bl M ≤ E) :
    ∃ (v : Value) (Ez : Int) (zs : List Nat), z = .agg #[.int .u64 p, .int .i64 m, .int .i64 f, .bool neg, v, .int .i64 Ez] ∧ RW w v zs ∧ RealOk P E p m f zs Ez ∧ (f = 1 → wv zs = od M ∧ zs = wds (od M) ∧ Ez = X + (tz M : Nat) ∧ deq (wv zs) Ez M X) ∧ (f ≠ 1 → zs = [] ∧ Ez = 0) := by
  obtain ⟨v, Ez, zs, B, e1, e2, e3, e4, e5⟩ := h
  refine ⟨v, Ez, zs, e1, e2.rw' e3, ⟨hp0, hp, hm, ?_⟩, fun hf1 => ?_, e4⟩
  · by_cases hf1 : f = 1
    · obtain ⟨k1, k2, k3, k4, k5⟩ := h1 hf1
      obtain ⟨l1, l2⟩ := e5 hf1
      have l3 := tz_le k1
      refine .inr (.inr ⟨hf1, ?_, ?_, ?_, ?_, ?_⟩)
      · rw [l1, wv_wds]; exact od_pos k1
      · rw [l1, wv_wds]; exact k2
      · rw [l1, wds_length, nw_bl (od_pos k1)]
        have : bl (od M) ≤ bl M := by have := bl_od k1; omega
        omega
      · omega
      · omega
    · omega
  · obtain ⟨k1, k2, k3, k4, k5⟩ := h1 hf1
    obtain ⟨l1, l2⟩ := e5 hf1
    have l3 : wv zs = od M := by rw [l1, wv_wds]
    refine ⟨l3, l1, l2, ?_⟩
    rw [l3, l2]; exact (od_deq k1 X).symm
end Go.Proofs.YtgclooabjilniaaDoor

/-
The thin package's Int64; the statement on it. No condition.
-/
namespace Go.Proofs.YtgclooabjilniaaDoor
open Go.RowKit

theorem dyN_zero {f M : Nat} {n : Bool} {E : Int} : i64V n (dyM f M) (dyE f E) = i64V (dyN f n) (dyM f M) (dyE f E) ∧ i64A n (dyM f M) (dyE f E) = i64A (dyN f n) (dyM f M) (dyE f E) := by
  by_cases h : f = 1
  · rw [show dyN f n = n from if_pos h]; exact ⟨rfl, rfl⟩
  · rw [show dyM f M = 0 from if_neg h]
    obtain ⟨a1, a2⟩ := i64_zero n (dyE f E)
    obtain ⟨b1, b2⟩ := i64_zero (dyN f n) (dyE f E)
    rw [a1, a2, b1, b2]; exact ⟨rfl, rfl⟩
theorem i64_bd (n : Bool) (M : Nat) (E : Int) : (-9223372036854775808 ≤ i64V n M E ∧ i64V n M E ≤ 9223372036854775807) ∧ -1 ≤ i64A n M E ∧ i64A n M E ≤ 1 := by
  unfold i64V i64A
  constructor
  · split
    · cases n <;> simp only [sI, Bool.false_eq_true, if_false, if_true] <;> omega
    · cases n <;> simp
  · repeat' split
    all_goals omega
end Go.Proofs.YtgclooabjilniaaDoor

/-
The statement on rounding a number of 64 bits. No condition.
-/
namespace Go.Proofs.YtgclooabjilniaaDoor
open Go.RowKit

theorem sI_decide (x : Int) : sI (decide (x < 0)) x.natAbs = x := by
  by_cases h : x < 0
  · rw [decide_eq_true h]; simp only [sI, if_true]; omega
  · rw [decide_eq_false h]; simp only [sI, Bool.false_eq_true, if_false]; omega
theorem i64_fO {S q k : Nat} {s sg : Bool} {X : Int} (h : S ≠ 0 → sg = s) : i64V sg (dyM (fO S) (rQ q k s 0 S)) (dyE (fO S) X) = i64V s (rQ q k s 0 S) X ∧ i64A sg (dyM (fO S) (rQ q k s 0 S)) (dyE (fO S) X) = i64A s (rQ q k s 0 S) X := by
  by_cases h0 : S = 0
  · subst h0
    rw [(rQ_zero q k s).2.1, show dyM (fO 0) 0 = 0 from rfl, show dyE (fO 0) X = 0 from rfl]
    rw [(i64_zero sg 0).1, (i64_zero sg 0).2, (i64_zero s X).1, (i64_zero s X).2]
    exact ⟨rfl, rfl⟩
  · rw [show fO S = 1 from if_neg h0, h h0]
    exact ⟨rfl, rfl⟩
theorem i64_sum {ng : Bool} {M p m : Nat} {V X : Int} (h : sI ng M = V) :
    rA p m ng 0 M = rA p m (vN V) 0 V.natAbs ∧ rk p M = rk p V.natAbs ∧ i64V ng (rQ p m ng 0 M) X = i64V (vN V) (rQ p m (vN V) 0 V.natAbs) X ∧ i64A ng (rQ p m ng 0 M) X = i64A (vN V) (rQ p m (vN V) 0 V.natAbs) X := by
  subst h
  rw [natAbs_sI]
  rcases Nat.eq_zero_or_pos M with h0 | h0
  · subst h0
    obtain ⟨a1, a2, a3⟩ := rQ_zero p m ng
    obtain ⟨b1, b2, b3⟩ := rQ_zero p m (vN (sI ng 0))
    rw [a2, a3, b2, b3, (i64_zero _ X).1, (i64_zero _ X).2, (i64_zero _ X).1, (i64_zero _ X).2]
    exact ⟨rfl, rfl, rfl, rfl⟩
  · rw [vN_sI h0]
    exact ⟨rfl, rfl, rfl, rfl⟩
end Go.Proofs.YtgclooabjilniaaDoor

/-
What the laws on sums and products share, off the walks of Add. No condition.
-/
namespace Go.Proofs.YtgclooabjilniaaDoor
open Go.RowKit

theorem deq_zero {N M : Nat} {X Y : Int} (h : deq N X M Y) (h0 : N = 0) : M = 0 := by
  obtain ⟨i, j, h1, -⟩ := h
  rw [h0, Nat.zero_mul] at h1
  rcases Nat.mul_eq_zero.1 h1.symm with h2 | h2
  · exact h2
  · exact absurd h2 (Nat.ne_of_gt (Nat.two_pow_pos _))
/-- A float as impl.float makes it: its words. -/
theorem FloatAt.open {w : World} {B g p m M : Nat} {n : Bool} {E : Int} (h : FloatAt w B g p m 1 n M E) (hM : 0 < M) (hp : bl M ≤ p) (hb : bl M ≤ 10000) :
    ∃ r x, FltR w g p m 0 1 n r x ∧ Own w B 86 r (cellsW (topN M)) ∧ Good (topN M) p ∧ (topN M).length ≤ 200 ∧ x = (bl M : Nat) + E ∧ deq (wv (topN M)) (x - 64 * ((topN M).length : Int)) M E := by
  obtain ⟨-, r, x, h1, h2⟩ := h
  obtain ⟨hx, h3⟩ := h2 rfl
  have hn := nw_bl hM
  have hl : (topN M).length = nw M := topN_length _
  refine ⟨r, x, h1, h3, topN_good hM hp (by omega), by rw [hl]; omega, hx, ?_⟩
  rw [hl, topN_wv hM, hx]
  exact ⟨0, 64 * nw M - bl M, by simp, by omega⟩
/-- What Add leaves in its receiver: the rounded value V times 2 to X; zn is the sign of zero. -/
def AddR (w : World) (B b q m : Nat) (zn : Bool) (V X : Int) : Prop :=
  FVal w B b q m (rA q m (vN V) 0 V.natAbs) (fO V.natAbs) (if V = 0 then zn else vN V) (rQ q m (vN V) 0 V.natAbs) (X + rk q V.natAbs)
theorem AddR.pos {w : World} {B b q m S : Nat} {zn n : Bool} {X : Int} (h : 0 < S) (hF : FVal w B b q m (rA q m n 0 S) 1 n (rQ q m n 0 S) (X + rk q S)) : AddR w B b q m zn (sI n S) X := by
  unfold AddR
  rw [natAbs_sI, vN_sI h, fO, if_neg (Nat.ne_of_gt h), if_neg (sI_ne h)]
  exact hF
theorem AddR.zero {w : World} {B b q m : Nat} {zn : Bool} {X e : Int} {v : Value} (h : FltR w b q m 0 0 zn v e) : AddR w B b q m zn 0 X := by
  unfold AddR
  obtain ⟨h1, h2, h3⟩ := rQ_zero q m (vN 0)
  rw [Int.natAbs_zero, h3, if_pos rfl, show fO 0 = 0 from rfl]
  exact ⟨v, e, h, fun hc => by cases hc⟩
theorem AddR.cast {w : World} {B b q m : Nat} {zn : Bool} {V V' X X' : Int} (h : AddR w B b q m zn V X) (hV : V = V') (hX : X = X') : AddR w B b q m zn V' X' := by rw [← hV, ← hX]; exact h
theorem FltR.at {w : World} {b p m f : Nat} {a : Int} {neg : Bool} {v : Value} {e : Int} (h : FltR w b p m a f neg v e) (i : Nat) (u : Value) {B1 g p1 m1 f1 M : Nat} {n1 : Bool} {E : Int} (hne : b ≠ g) (hx : FloatAt w B1 g p1 m1 f1 n1 M E) : FloatAt (w.setCell ⟨b, i, none⟩ u) B1 g p1 m1 f1 n1 M E := by
  obtain ⟨h1, r, x, h2, h3⟩ := hx
  refine ⟨h1, r, x, (heap_setCell_other _ _ _ _ (by simpa using hne.symm)).trans h2, fun hf => ?_⟩
  obtain ⟨h4, h5⟩ := h3 hf
  exact ⟨h4, h.own h5 i u⟩
theorem FloatAt.row {w : World} {B g p m f M : Nat} {n : Bool} {E : Int} (h : FloatAt w B g p m f n M E) : ∃ r x, FltR w g p m 0 f n r x := by
  obtain ⟨-, r, x, h, -⟩ := h; exact ⟨r, x, h⟩
theorem FloatAt.drewN {w : World} {B g p m f M : Nat} {n : Bool} {E : Int} (h : FloatAt w B g p m f n M E) (k : Nat) : FloatAt (w.drewN k) B g p m f n M E := h.below (undrewN' (Below.refl _ _))
/-- What is told of a rounded sum V times 2 to X; zn is the sign of zero. -/
def AddZ (w : World) (z : Value) (A : Int) (q m : Nat) (zn : Bool) (V X : Int) : Prop :=
  A = rA q m (vN V) 0 V.natAbs ∧ RealV w z q m (fO V.natAbs) (if V = 0 then zn else vN V) (rQ q m (vN V) 0 V.natAbs) (X + rk q V.natAbs)
theorem AddZ.below {w w' : World} {z : Value} {A : Int} {q m : Nat} {zn : Bool} {V X : Int} (h : AddZ w z A q m zn V X) (hb : Below w.heap.size w w') : AddZ w' z A q m zn V X := ⟨h.1, h.2.below hb⟩
theorem AddZ.told {w : World} {z : Value} {A : Int} {q m M : Nat} {zn ng : Bool} {V X : Int} (h : AddZ w z A q m zn V X) (hV : sI ng M = V) (hq : 0 < q) : Told w z q m ng (rQ q m ng 0 M) (X + (rk q M : Nat)) ∧ A = rA q m ng 0 M := by
  obtain ⟨h1, h2⟩ := h
  subst hV
  rcases Nat.eq_zero_or_pos M with h0 | h0
  · subst h0
    obtain ⟨k1, k2, k3⟩ := rQ_zero q m ng
    rw [sI_zero] at h1 h2
    rw [k2, k3]
    refine ⟨?_, by rw [h1]; exact (rQ_zero q m _).2.2⟩
    exact h2.told0
  · rw [natAbs_sI, vN_sI h0] at h1 h2
    rw [fO, if_neg (Nat.ne_of_gt h0), if_neg (sI_ne h0)] at h2
    exact ⟨h2.told (rQ_pos ng 0 hq h0) (deq.refl _ _), h1⟩
theorem ksT2 {W X : World} {i j : Nat} {a b c d e f a' b' c' d' e' f' : Value} {T T' : TypeId} (hr : W.heap[i]? = some (.cells #[a, b, c, d, e, f] T (0, 0))) (hq : W.heap[j]? = some (.cells #[a', b', c', d', e', f'] T' (0, 0))) (h : Below W.heap.size W X) :
    (X.cell? ⟨i, 0, none⟩ = some a ∧ X.cell? ⟨i, 1, none⟩ = some b ∧ X.cell? ⟨i, 2, none⟩ = some c ∧ X.cell? ⟨i, 3, none⟩ = some d ∧ X.cell? ⟨i, 4, none⟩ = some e ∧ X.cell? ⟨i, 5, none⟩ = some f) ∧
    (X.cell? ⟨j, 0, none⟩ = some a' ∧ X.cell? ⟨j, 1, none⟩ = some b' ∧ X.cell? ⟨j, 2, none⟩ = some c' ∧ X.cell? ⟨j, 3, none⟩ = some d' ∧ X.cell? ⟨j, 4, none⟩ = some e' ∧ X.cell? ⟨j, 5, none⟩ = some f') :=
  ⟨(ks12 hr h).2, (ks12 hq h).2⟩
theorem AddZ.form {w : World} {z : Value} {A : Int} {q m : Nat} {zn : Bool} {V X : Int} (h : AddZ w z A q m zn V X) : ∃ (f : Nat) (sg : Bool) (v : Value) (E : Int), z = .agg #[.int .u64 q, .int .i64 m, .int .i64 f, .bool sg, v, .int .i64 E] ∧ IsS v := by
  obtain ⟨v, E, h1, h2⟩ := h.2.form
  exact ⟨_, _, v, E, h1, h2⟩
end Go.Proofs.YtgclooabjilniaaDoor
