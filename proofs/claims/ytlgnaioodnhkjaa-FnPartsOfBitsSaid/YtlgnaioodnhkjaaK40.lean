/-
Texts of this proof, joined: OfB. No condition.
-/
import Derived.Test.YtlgnaioodnhkjaaK21
import Derived.Test.YtlgnaioodnhkjaaK37
/-
The reference's value of a float64's pattern. No condition.
-/
namespace Go.Proofs.Ytlgnaioodnhkjaa
open Go.RowKit

/-- The exponent's field. -/
theorem ob_field {x : Nat} (_hx : x < 18446744073709551616) : (x : Int) / 4503599627370496 = ((x / 4503599627370496 : Nat) : Int) ∧ x / 4503599627370496 < 18446744073709551616 := by omega
theorem obF_field {x : Nat} : obF x ↔ x / 4503599627370496 % 2048 ≠ 2047 := by unfold obF; omega
set_option maxRecDepth 100000 in
set_option maxHeartbeats 800000 in
theorem spOfBits' (x : Nat) (w : World) (hx : x < 18446744073709551616) :
    Calls Try.prog 17 #[.int .u64 x] w fun e' w' => ∃ b, e' = .returned (.agg #[.bool (obN x), b, .int .i64 (obE x)]) ∧ NatV w' b (obM x) ∧ Below w.heap.size w w' := by
  have hac := (Below.refl w.heap.size w).alloc (Nat.le_refl _) (.cells #[.bool false, .slice none 0 0, .int .i64 0] 32)
  obtain ⟨X, hX⟩ : ∃ X, X = w.alloc (.cells #[.bool false, .slice none 0 0, .int .i64 0] 32) := ⟨_, rfl⟩
  have hr1 : X.heap[w.heap.size]? = some (.cells #[.bool false, .slice none 0 0, .int .i64 0] 32 (0, 0)) := by
    rw [hX]; exact row_chain11
  rw [← hX] at hac
  have HB := Lib.hid hac
  have HR1 := Lib.hid hr1
  have hXs := hac.size
  obtain ⟨q1, q2⟩ := ob_field hx
  have q3 := and_2047 q2
  obtain ⟨q, hq⟩ : ∃ q, q = x / 4503599627370496 := ⟨_, rfl⟩
  rw [← hq] at q1 q2 q3
  obtain ⟨g, hg⟩ : ∃ g, g = q % 2048 := ⟨_, rfl⟩
  rw [← hg] at q3
  have q4 := and_frac hx
  obtain ⟨f, hff⟩ : ∃ f, f = x % 4503599627370496 := ⟨_, rfl⟩
  rw [← hff] at q4
  have q5 : (x : Int) / 9223372036854775808 = ((x / 9223372036854775808 : Nat) : Int) := by omega
  have q6 : (((x / 9223372036854775808 : Nat) : Int) == 1) = obN x := by
    unfold obN
    by_cases h : 9223372036854775808 ≤ x
    · rw [decide_eq_true h, show x / 9223372036854775808 = 1 by omega]; rfl
    · rw [decide_eq_false h, show x / 9223372036854775808 = 0 by omega]; rfl
  obtain ⟨s, hs⟩ : ∃ s, s = x / 9223372036854775808 := ⟨_, rfl⟩
  rw [← hs] at q5 q6
  have hsb : s ≤ 1 := by omega
  obtain ⟨n, hn⟩ : ∃ n, n = obN x := ⟨_, rfl⟩
  rw [← hn] at q6 ⊢
  have hgl : g < 2048 := by omega
  have hfl : f < 4503599627370496 := by omega
  by_cases h0 : g = 0
  · have t : decide ((0 : Int) < (g : Int)) = false := decide_eq_false (by omega)
    have t' : decide (0 < g) = false := decide_eq_false (by omega)
    have hM : obM x = f := by unfold obM; rw [if_pos (by omega)]; omega
    have hE : obE x = (g : Int) - 1074 := by unfold obE; omega
    have e1 : (g : Int) - 1074 = ((-1074 : Int)) := by omega
    rw [hM, hE, e1]
    have HSM := Lib.hid (fun W => spSmall f W (by omega))
    clear hq hg hff hs hn hM hE hac hr1
    go_enter Try.func17, Try.ntmps17
    go_upto_region 1 with fail
    rw [← hX]
    clear hX
    go_wp2_with fail
    refine (HSM.out _).mono ?_
    rintro _ w3 ⟨d, rfl, hd, hb3⟩
    have hSd := hd.isS
    have hvr := keep_row hb3 HR1.out
    obtain ⟨v0, v1, v2, f0, f1, f2⟩ := row3 hvr
    have HD := Lib.hid hd
    have HV := Lib.hid hvr
    have HB3 := Lib.hid (HB.out.trans (hb3.mono hXs))
    clear hd hvr hb3
    go_wp2
    obtain ⟨hx0, hx1, hx2, -, -, -⟩ := row3 (row3_set (x := .bool n) (y := d) (z := .int .i64 (-1074)) HV.out)
    refine bodyPost_ret (v := .agg #[.bool n, d, .int .i64 (-1074)]) ?_ rfl ⟨d, rfl, natv_dyad (x := .bool n) (y := d) (z := .int .i64 (-1074)) IsS.nil HD.out HV.out, bset (bset (bset HB3.out (Nat.le_refl _)) (Nat.le_refl _)) (Nat.le_refl _)⟩
    simp [results, Try.results17, go_sem, hx0, hx1, hx2]
  · have t : decide ((0 : Int) < (g : Int)) = true := decide_eq_true (by omega)
    have t' : decide (0 < g) = true := decide_eq_true (by omega)
    have hM : obM x = f + 4503599627370496 := by unfold obM; rw [if_neg (by omega)]; omega
    have hE : obE x = (g : Int) - 1 - 1074 := by unfold obE; omega
    have e2 : (f : Int) + 4503599627370496 = ((f + 4503599627370496 : Nat) : Int) := by omega
    obtain ⟨M, hMM⟩ : ∃ M, M = f + 4503599627370496 := ⟨_, rfl⟩
    rw [← hMM] at hM e2
    obtain ⟨E, hEE⟩ : ∃ E : Int, E = (g : Int) - 1 - 1074 := ⟨_, rfl⟩
    have e3 : (g : Int) - 1 - 1074 = E := hEE.symm
    rw [e3] at hE
    rw [hM, hE]
    have HSM := Lib.hid (fun W => spSmall M W (by omega))
    have hEb : -1074 ≤ E ∧ E ≤ 2000 := by omega
    clear hq hg hff hs hn hM hE hMM hEE hac hr1
    go_enter Try.func17, Try.ntmps17
    go_upto_region 1 with fail
    rw [← hX]
    clear hX
    go_wp2_with fail
    refine (HSM.out _).mono ?_
    rintro _ w3 ⟨d, rfl, hd, hb3⟩
    have hSd := hd.isS
    have hvr := keep_row hb3 HR1.out
    obtain ⟨v0, v1, v2, f0, f1, f2⟩ := row3 hvr
    have HD := Lib.hid hd
    have HV := Lib.hid hvr
    have HB3 := Lib.hid (HB.out.trans (hb3.mono hXs))
    clear hd hvr hb3
    go_wp2
    obtain ⟨hx0, hx1, hx2, -, -, -⟩ := row3 (row3_set (x := .bool n) (y := d) (z := .int .i64 E) HV.out)
    refine bodyPost_ret (v := .agg #[.bool n, d, .int .i64 E]) ?_ rfl ⟨d, rfl, natv_dyad (x := .bool n) (y := d) (z := .int .i64 E) IsS.nil HD.out HV.out, bset (bset (bset HB3.out (Nat.le_refl _)) (Nat.le_refl _)) (Nat.le_refl _)⟩
    simp [results, Try.results17, go_sem, hx0, hx1, hx2]
theorem spOfBits (x : Nat) (w : World) (hx : x < 18446744073709551616) (_hf : obF x) :
    Calls Try.prog 17 #[.int .u64 x] w fun e' w' => ∃ b, e' = .returned (.agg #[.bool (obN x), b, .int .i64 (obE x)]) ∧ NatV w' b (obM x) ∧ Below w.heap.size w w' := spOfBits' x w hx
end Go.Proofs.Ytlgnaioodnhkjaa
