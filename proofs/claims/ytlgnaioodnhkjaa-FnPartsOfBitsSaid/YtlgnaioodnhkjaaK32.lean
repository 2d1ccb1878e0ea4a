/-
Texts of this proof, joined: FdG. No condition.
-/
import Derived.Test.YtlgnaioodnhkjaaK25
import Derived.Test.YtlgnaioodnhkjaaK27
import Derived.Test.YtlgnaioodnhkjaaK29
import Derived.Test.YtlgnaioodnhkjaaK30
import Derived.Test.YtlgnaioodnhkjaaK31
import Derived.Deep.RegionHeld3
import Derived.Deep.DeepCutAuto
/-
The statements' float64Of, between. No condition.
-/
namespace Go.Proofs.Ytlgnaioodnhkjaa
open Go.RowKit

/-- What float64Of answers. -/
def bfV (n : Bool) (M : Nat) (E : Int) : Nat := (if n then 9223372036854775808 else 0) + if M = 0 then 0 else btV n M E 52 (-1074) 2047
def bfA (n : Bool) (M : Nat) (E : Int) : Int := if M = 0 then 0 else btS n M E 52 (-1074) 2047
theorem bf_f64 (n : Bool) (M : Nat) (E : Int) : f64V (fO M) n M E = bfV n M E ∧ f64A (fO M) n M E = bfA n M E := by
  by_cases h : M = 0 <;> simp [f64V, f64A, bfV, bfA, fO, h]
set_option maxRecDepth 100000 in
set_option maxHeartbeats 1600000 in
theorem flo_any (n : Bool) (a : Value) (E : Int) (M : Nat) (w : World) (ha : NatV w a M) (hM : bl M ≤ 60000) (hE : -100000 ≤ E ∧ E ≤ 100000) :
    Calls Try.prog 14 #[.agg #[.bool n, a, .int .i64 E]] w fun e' w' => e' = .returned (.tuple #[.int .u64 (bfV n M E : Nat), .int .i64 (bfA n M E)]) ∧ Below w.heap.size w w' := by
  have hS := ha.isS
  have hab := (Below.refl w.heap.size w).alloc (Nat.le_refl _) (.cells #[.bool n, a, .int .i64 E] 32)
  obtain ⟨X, hX⟩ : ∃ X, X = w.alloc (.cells #[.bool n, a, .int .i64 E] 32) := ⟨_, rfl⟩
  have hr1 : X.heap[w.heap.size]? = some (.cells #[.bool n, a, .int .i64 E] 32 (0, 0)) := by rw [hX]; exact row_chain11
  rw [← hX] at hab
  obtain ⟨x0, x1, x2, -, -, -⟩ := row3 hr1
  have HA := Lib.hid (ha.below hab)
  have HR := Lib.hid hr1
  have HB := Lib.hid hab
  have hXs := hab.size
  have HSI := Lib.hid (fun W h => dSign n a E M W h)
  have HBI := Lib.hid (fun (W : World) (h : NatV W a M) => spBits52 n a E M W h hM hE)
  have h2 := btS_bd n M 52 2047 E (-1074)
  have h1 := btV_le (n := n) (M := M) (k := 52) (T := 2047) (E := E) (L := -1074)
  rw [show 2047 * 2 ^ 52 = 9218868437227405312 from rfl] at h1
  obtain ⟨BV, hBV⟩ : ∃ BV, BV = btV n M E 52 (-1074) 2047 := ⟨_, rfl⟩
  obtain ⟨BS, hBS⟩ : ∃ BS, BS = btS n M E 52 (-1074) 2047 := ⟨_, rfl⟩
  have HV : Hid (bfV n M E = (if n then 9223372036854775808 else 0) + if M = 0 then 0 else BV) := Lib.hid (by rw [hBV]; rfl)
  have HS2 : Hid (bfA n M E = if M = 0 then 0 else BS) := Lib.hid (by rw [hBS]; rfl)
  rw [← hBV, ← hBS] at HBI
  rw [← hBV] at h1
  rw [← hBS] at h2
  rw [HV.out, HS2.out]
  clear ha hab hr1 hM hE hBV hBS HV HS2
  by_cases hM0 : M = 0
  · have hsg : sgD n M = 0 := by unfold sgD; rw [if_pos hM0]
    rw [hsg] at HSI
    rw [if_pos hM0, if_pos hM0]
    clear hM0 hsg HBI
    cases n
    · go_enter Try.func14, Try.ntmps14
      go_upto_region 1 with fail
      rw [← hX]
      clear hX
      go_wp2_with fail
      refine (HSI.out X HA.out).mono ?_
      rintro _ w3 ⟨rfl, hb3⟩
      have HB3 := Lib.hid (HB.out.trans (hb3.mono hXs))
      obtain ⟨x0, x1, x2, -, -, -⟩ := row3 (keep_row hb3 HR.out)
      clear hb3
      go_wp2
      go_ret2
      exact ⟨rfl, HB3.out⟩
    · go_enter Try.func14, Try.ntmps14
      go_upto_region 1 with fail
      rw [← hX]
      clear hX
      go_wp2_with fail
      refine (HSI.out X HA.out).mono ?_
      rintro _ w3 ⟨rfl, hb3⟩
      have HB3 := Lib.hid (HB.out.trans (hb3.mono hXs))
      obtain ⟨x0, x1, x2, -, -, -⟩ := row3 (keep_row hb3 HR.out)
      clear hb3
      go_wp2
      go_ret2
      exact ⟨rfl, HB3.out⟩
  · have hsg : (sgD n M == 0) = false := by
      unfold sgD; rw [if_neg hM0]; cases n <;> rfl
    have hsgb : -1 ≤ sgD n M ∧ sgD n M ≤ 1 := by
      unfold sgD
      split
      · exact ⟨by decide, by decide⟩
      · split <;> exact ⟨by decide, by decide⟩
    obtain ⟨sg, hsgg⟩ : ∃ sg, sg = sgD n M := ⟨_, rfl⟩
    rw [← hsgg] at hsg hsgb HSI
    rw [if_neg hM0, if_neg hM0]
    have hsn : (sg != 0) = true := by rw [bne, hsg]; rfl
    clear hM0 hsgg
    cases n
    · go_enter Try.func14, Try.ntmps14
      go_upto_region 1 with fail
      rw [← hX]
      clear hX
      go_wp2_with fail
      refine (HSI.out X HA.out).mono ?_
      rintro _ w3 ⟨rfl, hb3⟩
      have HB3 := Lib.hid (HB.out.trans (hb3.mono hXs))
      have HA3 := Lib.hid (HA.out.below hb3)
      have HR3 := Lib.hid (keep_row hb3 HR.out)
      obtain ⟨x0, x1, x2, -, -, -⟩ := row3 HR3.out
      have h3s := HB3.out.size
      clear hb3
      go_wp2_with fail
      refine (HBI.out w3 HA3.out).mono ?_
      rintro _ w4 ⟨rfl, hb4⟩
      have HB4 := Lib.hid (HB3.out.trans (hb4.mono h3s))
      obtain ⟨x0, x1, x2, -, -, -⟩ := row3 (keep_row hb4 HR3.out)
      clear hb4
      go_wp2
      go_ret2
      refine ⟨?_, HB4.out⟩
      simp
    · obtain ⟨R, hR⟩ : ∃ R, R = 9223372036854775808 + BV := ⟨_, rfl⟩
      have e1 : (BV : Int) + 9223372036854775808 = (R : Int) := by omega
      have HRR := Lib.hid hR
      have hRb : R < 18446744073709551616 := by omega
      clear hR
      go_enter Try.func14, Try.ntmps14
      go_upto_region 1 with fail
      rw [← hX]
      clear hX
      go_wp2_with fail
      refine (HSI.out X HA.out).mono ?_
      rintro _ w3 ⟨rfl, hb3⟩
      have HB3 := Lib.hid (HB.out.trans (hb3.mono hXs))
      have HA3 := Lib.hid (HA.out.below hb3)
      have HR3 := Lib.hid (keep_row hb3 HR.out)
      obtain ⟨x0, x1, x2, -, -, -⟩ := row3 HR3.out
      have h3s := HB3.out.size
      clear hb3
      go_wp2_with fail
      refine (HBI.out w3 HA3.out).mono ?_
      rintro _ w4 ⟨rfl, hb4⟩
      have HB4 := Lib.hid (HB3.out.trans (hb4.mono h3s))
      obtain ⟨x0, x1, x2, -, -, -⟩ := row3 (keep_row hb4 HR3.out)
      clear hb4
      go_wp2
      go_ret2
      refine ⟨?_, HB4.out⟩
      simp [HRR.out]
/-- A sum of two dyadic values, some of what is known of it. -/
theorem dSumB (n1 n2 : Bool) (a b : Value) (e1 e2 : Int) (x y K : Nat) (w : World) (ha : NatV w a x) (hb : NatV w b y) (hx : bl x + (e1 - min e1 e2).toNat ≤ K) (hy : bl y + (e2 - min e1 e2).toNat ≤ K) (hK : K ≤ 1000000) (g1 : -1000000 ≤ e1 ∧ e1 ≤ 1000000) (g2 : -1000000 ≤ e2 ∧ e2 ≤ 1000000) :
    Calls Try.prog 53 #[.agg #[.bool n1, a, .int .i64 e1], .agg #[.bool n2, b, .int .i64 e2]] w fun e' w' => ∃ ng c M, e' = .returned (.agg #[.bool ng, c, .int .i64 (min e1 e2)]) ∧ NatV w' c M ∧ bl M ≤ K + 1 ∧ Below w.heap.size w w' := by
  have k1 := bl_two x (e1 - min e1 e2).toNat
  have k2 := bl_two y (e2 - min e1 e2).toNat
  refine (dSum n1 n2 a b e1 e2 (min e1 e2) x y (e1 - min e1 e2).toNat (e2 - min e1 e2).toNat w ha hb rfl (by omega) (by omega) (by omega) (by omega) (by omega) (by omega) (by omega)
    (nl_of_bl (by omega)) (nl_of_bl (by omega)) (by omega) (by omega) (nl_of_bl (by omega)) (nl_of_bl (by omega))).mono ?_
  rintro _ w' ⟨r, rfl, ng, M, ⟨c, rfl, hc⟩, hs, hb⟩
  refine ⟨ng, c, M, rfl, hc, ?_, hb⟩
  have p1 : x * 2 ^ (e1 - min e1 e2).toNat < 2 ^ K := Nat.lt_of_lt_of_le (lt_bl _) (Nat.pow_le_pow_right (by decide) (by omega))
  have p2 : y * 2 ^ (e2 - min e1 e2).toNat < 2 ^ K := Nat.lt_of_lt_of_le (lt_bl _) (Nat.pow_le_pow_right (by decide) (by omega))
  generalize x * 2 ^ (e1 - min e1 e2).toNat = P at hs p1
  generalize y * 2 ^ (e2 - min e1 e2).toNat = Q at hs p2
  refine bl_le ?_
  rw [Nat.pow_succ]
  unfold sI at hs
  split at hs <;> split at hs <;> split at hs <;> omega
theorem btw_key {M : Nat} {E L : Int} (hM : 0 < M) (h : E + bl M = L) :
    0 ≤ cmpI (sI false (M * 2 ^ (E - min E (L - 1)).toNat)) (sI false (1 * 2 ^ (L - 1 - min E (L - 1)).toNat)) ∧ cmpI (sI false (M * 2 ^ (E - min E L).toNat)) (sI false (1 * 2 ^ (L - min E L).toNat)) < 0 := by
  have hb := bl_pos hM
  have h1 := bl_ge hM
  have h2 := lt_bl M
  rw [show (E - min E (L - 1)).toNat = 0 by omega, show (L - 1 - min E (L - 1)).toNat = bl M - 1 by omega, show (E - min E L).toNat = 0 by omega, show (L - min E L).toNat = bl M by omega]
  generalize 2 ^ (bl M - 1) = P at *
  generalize 2 ^ bl M = Q at *
  unfold cmpI sI
  constructor
  · simp only [Bool.false_eq_true, if_false]
    rw [if_neg (by omega)]; split <;> decide
  · simp only [Bool.false_eq_true, if_false]
    rw [if_pos (by omega)]; decide
def OneD (W w : World) (s : Bool) (X : Int) (A g : Nat) (a : Value) : Prop := W.heap.size ≤ g ∧ w.heap[g]? = some (.cells #[.bool s, a, .int .i64 X] 32 (0, 0)) ∧ NatV w a A ∧ Below W.heap.size W w
theorem oneD0 {W w : World} {s : Bool} {X : Int} {A : Nat} {a : Value} (hb : Below W.heap.size W w) (ha : NatV w a A) : OneD W (w.alloc (.cells #[.bool s, a, .int .i64 X] 32)) s X A w.heap.size a :=
  ⟨hb.size, row_chain11, ha.below (fbone _), ballc hb _⟩
theorem oneD1 {W w : World} {s : Bool} {X : Int} {A g : Nat} {a : Value} (hb : Below W.heap.size W w) (ha : NatV w a A) (hg : w.heap[g]? = some (.cells #[.bool false, .slice none 0 0, .int .i64 0] 32 (0, 0))) (hl : W.heap.size ≤ g) :
    OneD W (((w.setCell ⟨g, 0, none⟩ (.bool s)).setCell ⟨g, 1, none⟩ a).setCell ⟨g, 2, none⟩ (.int .i64 X)) s X A g a :=
  ⟨hl, row3_set hg, natv_dyad IsS.nil ha hg, bset3 hb hl⟩
end Go.Proofs.Ytlgnaioodnhkjaa
