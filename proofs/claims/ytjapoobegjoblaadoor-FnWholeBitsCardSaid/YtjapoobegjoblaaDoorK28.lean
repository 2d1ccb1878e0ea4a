/-
Texts of this proof, joined: FcA FcB FcC FcD FcE. No condition.
-/
import Derived.Test.YtjapoobegjoblaaDoorK17
import Derived.Test.YtjapoobegjoblaaDoorK18
import Derived.Test.YtjapoobegjoblaaDoorK21
import Derived.Test.YtjapoobegjoblaaDoorK24
import Derived.Test.YtjapoobegjoblaaDoorK27
import Derived.Laws.FloatArith
import Derived.Laws.BitsAllLaws
import Derived.Laws.Externs
/-
Floats of the machine: their patterns of bits, order, and a product by a power of 2. Plain law. No condition.
-/
namespace Go.Proofs.YtjapoobegjoblaaDoor
open Go.RowKit

/-- The value of the pattern of bits of a float64 that is finite: sign, magnitude, exponent. -/
def obN (b : Nat) : Bool := decide (9223372036854775808 ≤ b)
def obM (b : Nat) : Nat := if b % 9223372036854775808 < 4503599627370496 then b % 9223372036854775808 else 4503599627370496 + b % 4503599627370496
def obE (b : Nat) : Int := ((b % 9223372036854775808 / 4503599627370496 - 1 : Nat) : Int) - 1074
/-- Finite. -/
def obF (b : Nat) : Prop := b % 9223372036854775808 < 9218868437227405312
theorem obE_bd {b : Nat} (h : obF b) : -1074 ≤ obE b ∧ obE b ≤ 971 := by unfold obF at h; unfold obE; omega
theorem obM_bd (b : Nat) : obM b ≤ 9007199254740991 := by unfold obM; split <;> omega
theorem dbl_sw : Ieee.double.signWeight = 9223372036854775808 := by decide
theorem dbl_bn : Ieee.double.binade = 4503599627370496 := by decide
theorem dbl_inf : Ieee.double.infRung = 9218868437227405312 := by decide
theorem dbl_lp : Ieee.double.leastPlace = -1074 := by decide
theorem read_fin {b : Nat} (hb : b < 18446744073709551616) (h : obF b) : Ieee.double.read b = .number (obN b) (obM b) (obE b) := by
  unfold obF at h
  have hn : (b / 9223372036854775808 % 2 == 1) = obN b := by
    unfold obN
    by_cases hc : 9223372036854775808 ≤ b
    · rw [decide_eq_true hc, show b / 9223372036854775808 % 2 = 1 by omega]; rfl
    · rw [decide_eq_false hc, show b / 9223372036854775808 % 2 = 0 by omega]; rfl
  unfold Ieee.Format.read
  simp only [dbl_sw, dbl_bn, dbl_inf, dbl_lp]
  rw [hn]
  by_cases h1 : b % 9223372036854775808 < 4503599627370496
  · rw [if_pos h1]
    unfold obM obE
    rw [if_pos h1, show b % 9223372036854775808 / 4503599627370496 - 1 = 0 by omega]
    rfl
  · rw [if_neg h1, if_pos h]
    unfold obM obE
    rw [if_neg h1, show b % 9223372036854775808 % 4503599627370496 = b % 4503599627370496 by omega]
    congr 1
theorem read_inf {b : Nat} (hb : b < 18446744073709551616) (h : b % 9223372036854775808 = 9218868437227405312) : Ieee.double.read b = .infinity (obN b) := by
  have hn : (b / 9223372036854775808 % 2 == 1) = obN b := by
    unfold obN
    by_cases hc : 9223372036854775808 ≤ b
    · rw [decide_eq_true hc, show b / 9223372036854775808 % 2 = 1 by omega]; rfl
    · rw [decide_eq_false hc, show b / 9223372036854775808 % 2 = 0 by omega]; rfl
  unfold Ieee.Format.read
  simp only [dbl_sw, dbl_bn, dbl_inf, dbl_lp]
  rw [hn, if_neg (by omega), if_neg (by omega), if_pos h]
theorem icmp (a b : Int) : compare a b = if a < b then Ordering.lt else if a = b then Ordering.eq else Ordering.gt := rfl
theorem sgn_nat (n : Bool) (m k : Nat) : Ieee.signed n m k = if n then -((m * 2 ^ k : Nat) : Int) else ((m * 2 ^ k : Nat) : Int) := by
  unfold Ieee.signed; rw [Nat.shiftLeft_eq]
theorem f64_fmt : FloatKind.f64.format = Ieee.double := rfl
theorem ord_self {b : Nat} (hb : b < 18446744073709551616) (h : obF b ∨ b % 9223372036854775808 = 9218868437227405312) : (FloatKind.f64.format.order b b != some .eq) = false := by
  rw [f64_fmt]
  unfold Ieee.Format.order
  rcases h with h | h
  · rw [read_fin hb h]
    simp [Ieee.Datum.order]
  · rw [read_inf hb h]
    cases obN b <;> rfl
theorem ord_zero {b : Nat} (hb : b < 18446744073709551616) (h : obF b) : (FloatKind.f64.format.order b 0 == some .eq) = decide (obM b = 0) := by
  rw [f64_fmt]
  unfold Ieee.Format.order
  have h0 : Ieee.double.read 0 = .number false 0 (-1074) := by decide
  have hE := obE_bd h
  rw [read_fin hb h, h0]
  simp only [Ieee.Datum.order]
  rw [Int.min_eq_right hE.1, Int.sub_self, icmp, sgn_nat, sgn_nat]
  simp only [Nat.zero_mul, Bool.false_eq_true, if_false]
  have hp := Nat.two_pow_pos (obE b - -1074).toNat
  by_cases hM : obM b = 0
  · rw [hM, Nat.zero_mul]; simp
  · have hpos : 0 < obM b * 2 ^ (obE b - -1074).toNat := Nat.mul_pos (by omega) hp
    rw [decide_eq_false hM]
    cases obN b
    · simp only [Bool.false_eq_true, if_false]
      rw [if_neg (by omega), if_neg (by omega)]; rfl
    · simp only [if_true]
      rw [if_pos (by omega)]; rfl
theorem ord_zero_inf {b : Nat} (hb : b < 18446744073709551616) (h : b % 9223372036854775808 = 9218868437227405312) : (FloatKind.f64.format.order b 0 == some .eq) = false := by
  rw [f64_fmt]
  unfold Ieee.Format.order
  have h0 : Ieee.double.read 0 = .number false 0 (-1074) := by decide
  rw [read_inf hb h, h0]
  cases obN b <;> rfl
/-- A magnitude that is finite is not above the greatest one. -/
theorem ord_max {r : Nat} (h : r < 9218868437227405312) : (FloatKind.f64.format.order r 9218868437227405311 == some .gt) = false := by
  have hr : r % 9223372036854775808 = r := Nat.mod_eq_of_lt (by omega)
  have hf : obF r := by unfold obF; omega
  have h0 : Ieee.double.read 9218868437227405311 = .number false 9007199254740991 971 := by decide
  have hE := obE_bd hf
  have hM := obM_bd r
  have hn : obN r = false := decide_eq_false (by omega)
  rw [f64_fmt]
  unfold Ieee.Format.order
  rw [read_fin (by omega) hf, h0]
  simp only [Ieee.Datum.order]
  rw [Int.min_eq_left hE.2, Int.sub_self, icmp, sgn_nat, sgn_nat, hn]
  simp only [Bool.false_eq_true, if_false, Int.toNat_zero, Nat.pow_zero, Nat.mul_one]
  have hp : 1 ≤ 2 ^ (971 - obE r).toNat := Nat.two_pow_pos _
  have hle := Nat.mul_le_mul_left 9007199254740991 hp
  by_cases h1 : (obM r : Int) < ((9007199254740991 * 2 ^ (971 - obE r).toNat : Nat) : Int)
  · rw [if_pos h1]; rfl
  · rw [if_neg h1, if_pos (by omega)]; rfl
theorem ord_max_inf : (FloatKind.f64.format.order 9218868437227405312 9218868437227405311 == some .gt) = true := by decide
/-- A magnitude against the least one with all of its bits. -/
theorem ord_min {r : Nat} (h : r < 9218868437227405312) : (FloatKind.f64.format.order r 4503599627370496 == some .lt) = decide (r < 4503599627370496) := by
  have hr : r % 9223372036854775808 = r := Nat.mod_eq_of_lt (by omega)
  have hf : obF r := by unfold obF; omega
  have h0 : Ieee.double.read 4503599627370496 = .number false 4503599627370496 (-1074) := by decide
  have hE := obE_bd hf
  have hn : obN r = false := decide_eq_false (by omega)
  rw [f64_fmt]
  unfold Ieee.Format.order
  rw [read_fin (by omega) hf, h0]
  simp only [Ieee.Datum.order]
  rw [Int.min_eq_right hE.1, Int.sub_self, icmp, sgn_nat, sgn_nat, hn]
  simp only [Bool.false_eq_true, if_false, Int.toNat_zero, Nat.pow_zero, Nat.mul_one]
  have hp : 1 ≤ 2 ^ (obE r - -1074).toNat := Nat.two_pow_pos _
  have hle := Nat.mul_le_mul_left (obM r) hp
  by_cases h1 : r < 4503599627370496
  · have hM : obM r = r := by unfold obM; rw [hr, if_pos h1]
    have hE0 : (obE r - -1074).toNat = 0 := by unfold obE; omega
    rw [hE0, Nat.pow_zero, Nat.mul_one, hM, if_pos (by omega), decide_eq_true h1]; rfl
  · have hM : 4503599627370496 ≤ obM r := by unfold obM; rw [hr, if_neg h1]; omega
    rw [if_neg (by omega), decide_eq_false h1]
    split <;> rfl
theorem log2_bl {n : Nat} (h : 0 < n) : n.log2 + 1 = bl n := by unfold bl; rw [if_neg (by omega)]
/-- A number below the least one with all of its bits, times 2 to 52. -/
theorem mul_sub {b : Nat} (hb : b < 18446744073709551616) (h0 : 0 < b % 9223372036854775808) (h : b % 9223372036854775808 < 4503599627370496) :
    Ieee.double.mul b 4841369599423283200 = some ((if obN b then 9223372036854775808 else 0) + (bl (obM b) - 1) * 4503599627370496 + obM b * 2 ^ (53 - bl (obM b))) := by
  have hf : obF b := by unfold obF; omega
  have hC : Ieee.double.read 4841369599423283200 = .number false 4503599627370496 0 := by decide
  have hM : obM b = b % 9223372036854775808 := by unfold obM; rw [if_pos h]
  have hE : obE b = -1074 := by unfold obE; omega
  have hM0 : 0 < obM b := by omega
  have hM1 : obM b < 2 ^ 52 := by omega
  have hbl : bl (obM b) ≤ 52 := bl_le hM1
  have hbp := bl_pos hM0
  have hlg : (obM b * 4503599627370496).log2 = bl (obM b) + 51 := by
    have h1 := log2_bl (n := obM b * 4503599627370496) (by omega)
    have h2 := bl_mul hM0 52
    rw [show (2 : Nat) ^ 52 = 4503599627370496 from rfl] at h2
    omega
  unfold Ieee.Format.mul
  rw [read_fin hb hf, hC, hE]
  simp only [Ieee.Datum.product, Option.map_some, Ieee.Format.write, Bool.xor_false]
  congr 1
  unfold Ieee.Format.nearest
  rw [if_neg (by omega), hlg, dbl_lp, show Ieee.double.fractionBits = 52 from rfl, dbl_bn, dbl_inf]
  have hlast : max ((-1074 : Int) + 0 + ((bl (obM b) + 51 : Nat) : Int) - ((52 : Nat) : Int)) (-1074) = -1074 + ((bl (obM b) - 1 : Nat) : Int) := by omega
  simp only [hlast]
  rw [show ((-1074 : Int) + 0 - (-1074 + ((bl (obM b) - 1 : Nat) : Int))).toNat = 0 by omega, show ((-1074 : Int) + ((bl (obM b) - 1 : Nat) : Int) - (-1074 + 0)).toNat = bl (obM b) - 1 by omega, show ((-1074 : Int) + ((bl (obM b) - 1 : Nat) : Int) - -1074).toNat = bl (obM b) - 1 by omega, Nat.shiftLeft_zero]
  have hcut : Ieee.Toward.even.cut (obN b) (obM b * 4503599627370496) (bl (obM b) - 1) = obM b * 2 ^ (53 - bl (obM b)) := by
    unfold Ieee.Toward.cut
    rw [hlg, Nat.min_eq_left (by omega), Nat.shiftLeft_eq, Nat.one_mul]
    have e : obM b * 4503599627370496 = obM b * 2 ^ (53 - bl (obM b)) * 2 ^ (bl (obM b) - 1) := by
      rw [Nat.mul_assoc, ← Nat.pow_add, show 53 - bl (obM b) + (bl (obM b) - 1) = 52 by omega]
    have hp := Nat.two_pow_pos (bl (obM b) - 1)
    simp only
    rw [e, Nat.mul_div_cancel _ hp, Nat.mul_mod_left]
    have : (decide (2 ^ (bl (obM b) - 1) < 2 * 0) || (2 ^ (bl (obM b) - 1) == 2 * 0 && obM b * 2 ^ (53 - bl (obM b)) % 2 == 1)) = false := by
      rw [Nat.mul_zero, decide_eq_false (by omega), Bool.false_or, Bool.and_eq_false_iff]
      exact .inl (beq_eq_false_iff_ne.2 (by omega))
    rw [this]; rfl
  rw [hcut]
  have hlt : obM b * 2 ^ (53 - bl (obM b)) < 9007199254740992 := by
    have h1 := bl_mul hM0 (53 - bl (obM b))
    have h2 := lt_bl (obM b * 2 ^ (53 - bl (obM b)))
    rw [h1, show bl (obM b) + (53 - bl (obM b)) = 53 by omega] at h2
    exact h2
  rw [Nat.min_eq_left (by omega)]
  unfold Ieee.Format.word
  rw [dbl_sw]
  split <;> omega
/-! ### The bits of a pattern -/
theorem two52 : (2 : Nat) ^ 52 = 4503599627370496 := rfl
theorem and_abs {b : Nat} (hb : b < 18446744073709551616) : bits .andNot .u64 (b : Int) 9223372036854775808 = ((b % 9223372036854775808 : Nat) : Int) := by
  rw [show (9223372036854775808 : Int) = ((9223372036854775808 : Nat) : Int) from rfl, u64_andNot_nat b _ hb (by decide), show (18446744073709551615 - 9223372036854775808 : Nat) = 2 ^ 63 - 1 from rfl, Nat.and_two_pow_sub_one_eq_mod]
theorem and_frac {b : Nat} (hb : b < 18446744073709551616) : bits .and .u64 (b : Int) 4503599627370495 = ((b % 4503599627370496 : Nat) : Int) := by
  rw [show (4503599627370495 : Int) = ((4503599627370495 : Nat) : Int) from rfl, bits_and_u64_nat b _ hb (by decide), show (4503599627370495 : Nat) = 2 ^ 52 - 1 from rfl, Nat.and_two_pow_sub_one_eq_mod]
theorem and_2047 {x : Nat} (hx : x < 18446744073709551616) : bits .and .u64 (x : Int) 2047 = ((x % 2048 : Nat) : Int) := by
  rw [show (2047 : Int) = ((2047 : Nat) : Int) from rfl, bits_and_u64_nat x _ hx (by decide), show (2047 : Nat) = 2 ^ 11 - 1 from rfl, Nat.and_two_pow_sub_one_eq_mod]
theorem and_pow (d t : Nat) : d &&& 2 ^ t = d / 2 ^ t % 2 * 2 ^ t := by
  apply Nat.eq_of_testBit_eq
  intro i
  rw [Nat.testBit_and, Nat.testBit_two_pow, Nat.mul_comm, Nat.testBit_two_pow_mul]
  by_cases hi : t = i
  · subst hi
    rw [Nat.testBit_eq_decide_div_mod_eq, Nat.sub_self, Nat.testBit_eq_decide_div_mod_eq, Nat.pow_zero, Nat.div_one, Nat.mod_mod]
    simp
  · simp only [hi, decide_false, Bool.and_false]
    by_cases h2 : t ≤ i
    · rw [Nat.testBit_lt_two_pow (show d / 2 ^ t % 2 < 2 ^ (i - t) from Nat.lt_of_lt_of_le (Nat.mod_lt _ (by decide)) (Nat.pow_le_pow_right (show 0 < 2 by decide) (show 1 ≤ i - t by omega)))]; simp
    · simp [h2]
/-- The exponent's field put to nothing. -/
theorem and_clear {b : Nat} (hb : b < 18446744073709551616) : bits .andNot .u64 (b : Int) 9218868437227405312 = (((if 9223372036854775808 ≤ b then 9223372036854775808 else 0) + b % 4503599627370496 : Nat) : Int) := by
  rw [show (9218868437227405312 : Int) = ((9218868437227405312 : Nat) : Int) from rfl, u64_andNot_nat b _ hb (by decide), show (18446744073709551615 - 9218868437227405312 : Nat) = 2 ^ 63 ||| (2 ^ 52 - 1) by decide, Nat.and_or_distrib_left, Nat.and_two_pow_sub_one_eq_mod, and_pow]
  congr 1
  by_cases h : 9223372036854775808 ≤ b
  · rw [if_pos h, two52, show b / 2 ^ 63 % 2 * 2 ^ 63 = 2 ^ 63 * 1 by omega, ← Nat.two_pow_add_eq_or_of_lt (show b % 4503599627370496 < 2 ^ 63 by omega)]
  · rw [if_neg h, two52, show b / 2 ^ 63 % 2 * 2 ^ 63 = 0 by omega, Nat.zero_or, Nat.zero_add]
theorem or_half {s f : Nat} (hs : s = 0 ∨ s = 9223372036854775808) (hf : f < 4503599627370496) : bits .or .u64 ((s + f : Nat) : Int) 4602678819172646912 = ((s + 4602678819172646912 + f : Nat) : Int) := by
  rw [show (4602678819172646912 : Int) = ((4602678819172646912 : Nat) : Int) from rfl, bits_or_u64_nat _ _ (by omega) (by decide)]
  congr 1
  have e : ∀ a : Nat, 2 ^ 52 * a + f = 2 ^ 52 * a ||| f := fun a => Nat.two_pow_add_eq_or_of_lt (by omega) a
  rcases hs with rfl | rfl
  · rw [Nat.zero_add, Nat.zero_add, Nat.or_comm, show (4602678819172646912 : Nat) = 2 ^ 52 * 1022 from rfl, ← e]
  · rw [show (9223372036854775808 : Nat) = 2 ^ 52 * 2048 from rfl, e, Nat.or_assoc, Nat.or_comm f, ← Nat.or_assoc, show 2 ^ 52 * 2048 ||| 4602678819172646912 = 2 ^ 52 * 3070 by decide, ← e]
theorem or_top {f : Nat} (hf : f < 4503599627370496) : bits .or .u64 9223372036854775808 ((f * 2048 : Nat) : Int) = ((9223372036854775808 + f * 2048 : Nat) : Int) := by
  rw [show (9223372036854775808 : Int) = ((9223372036854775808 : Nat) : Int) from rfl, bits_or_u64_nat _ _ (by decide) (by omega), show (9223372036854775808 : Nat) = 2 ^ 63 * 1 from rfl, ← Nat.two_pow_add_eq_or_of_lt (show f * 2048 < 2 ^ 63 by omega)]
end Go.Proofs.YtjapoobegjoblaaDoor

/-
math.Float64bits, Abs, IsNaN, Signbit, IsInf, Frexp of a float64. No condition.
-/
namespace Go.Proofs.YtjapoobegjoblaaDoor
open Go.RowKit

@[go_sem] theorem f64bits (b : Nat) (w : World) : (callFunc 106 #[.float .f64 b]).run Tryd.prog w = .ok (.value (.int .u64 (b : Int))) w := by
  rw [run_callFunc_extern Tryd.func106 (by kernel_rfl) (by kernel_rfl) (by kernel_rfl) (e := Extern.MathFloatBits.float64bits) (by kernel_rfl)]
  rfl
@[go_sem] theorem f64from (b : Nat) (w : World) : (callFunc 71 #[.int .u64 (b : Int)]).run Tryd.prog w = .ok (.value (.float .f64 b)) w := by
  rw [run_callFunc_extern Tryd.func71 (by kernel_rfl) (by kernel_rfl) (by kernel_rfl) (e := Extern.MathFloatBits.float64frombits) (by kernel_rfl)]
  rfl
set_option maxRecDepth 100000 in
theorem mAbs (b : Nat) (w : World) (hb : b < 18446744073709551616) :
    Calls Tryd.prog 128 #[.float .f64 b] w fun e w' => e = .returned (.float .f64 (b % 9223372036854775808)) ∧ w = w' := by
  have h1 := and_abs hb
  obtain ⟨r, hr⟩ : ∃ r, r = b % 9223372036854775808 := ⟨_, rfl⟩
  rw [← hr] at h1 ⊢
  clear hr
  go_enter Tryd.func128, Tryd.ntmps128
  go_wp2_with (simp only [f64bits, f64from])
  go_ret
  exact ⟨rfl, rfl⟩
set_option maxRecDepth 100000 in
theorem mIsNaN (b : Nat) (w : World) (hb : b < 18446744073709551616) (h : obF b ∨ b % 9223372036854775808 = 9218868437227405312) :
    Calls Tryd.prog 101 #[.float .f64 b] w fun e w' => e = .returned (.bool false) ∧ w = w' := by
  have h1 := ord_self hb h
  clear h
  go_enter Tryd.func101, Tryd.ntmps101
  go_wp2
  go_ret
  exact ⟨rfl, rfl⟩
theorem sgn_wrap {b : Nat} (hb : b < 18446744073709551616) : decide (wrap64 (b : Int) < 0) = obN b := by
  unfold obN wrap64
  by_cases h : 9223372036854775808 ≤ b
  · rw [decide_eq_true h]; exact decide_eq_true (by omega)
  · rw [decide_eq_false h]; exact decide_eq_false (by omega)
set_option maxRecDepth 100000 in
theorem mSignbit (b : Nat) (w : World) (hb : b < 18446744073709551616) :
    Calls Tryd.prog 102 #[.float .f64 b] w fun e w' => e = .returned (.bool (obN b)) ∧ w = w' := by
  have h1 := sgn_wrap hb
  obtain ⟨n, hn⟩ : ∃ n, n = obN b := ⟨_, rfl⟩
  rw [← hn] at h1 ⊢
  clear hn
  go_enter Tryd.func102, Tryd.ntmps102
  go_wp2_with (simp only [f64bits])
  go_ret
  refine ⟨?_, rfl⟩
  rw [← h1]
  rfl
set_option maxRecDepth 100000 in
theorem mIsInf (b : Nat) (r : Bool) (w : World) (hb : b < 18446744073709551616) (h : (FloatKind.f64.format.order (b % 9223372036854775808) 9218868437227405311 == some .gt) = r) :
    Calls Tryd.prog 103 #[.float .f64 b, .int .i64 0] w fun e w' => e = .returned (.bool r) ∧ w = w' := by
  have HA := Lib.hid (mAbs b w hb)
  obtain ⟨m, hm⟩ : ∃ m, m = b % 9223372036854775808 := ⟨_, rfl⟩
  rw [← hm] at h HA
  clear hm
  go_enter Tryd.func103, Tryd.ntmps103
  go_wp2_with fail
  refine HA.out.mono ?_
  rintro _ _ ⟨rfl, rfl⟩
  go_wp2
  go_ret
  exact ⟨rfl, rfl⟩
/-- The sign's bit of a pattern. -/
def obS (b : Nat) : Nat := if 9223372036854775808 ≤ b then 9223372036854775808 else 0
/-- A pattern's value with the first bit of the magnitude at its place: g its exponent's field, F its fraction, x0 how far it was shifted. -/
def Nrm (b g F : Nat) (x0 : Int) : Prop :=
  F < 4503599627370496 ∧ 1 ≤ g ∧ g ≤ 2046 ∧ 4503599627370496 + F = obM b * 2 ^ (53 - bl (obM b)) ∧ (g : Int) + x0 - 1022 = (bl (obM b) : Int) + obE b ∧ (x0 = 0 ∨ x0 = -52) ∧ bl (obM b) ≤ 53
theorem nrm_big {b : Nat} (hb : b < 18446744073709551616) (hf : obF b) (h : ¬ b % 9223372036854775808 < 4503599627370496) : Nrm b (b % 9223372036854775808 / 4503599627370496) (b % 4503599627370496) 0 ∧ b = obS b + b % 9223372036854775808 / 4503599627370496 * 4503599627370496 + b % 4503599627370496 := by
  unfold obF at hf
  have hM : obM b = 4503599627370496 + b % 4503599627370496 := by unfold obM; rw [if_neg h]
  have hbl : bl (obM b) = 53 := by
    rw [hM]; exact bl_of (k := 52) (by omega) (by omega)
  refine ⟨⟨by omega, by omega, by omega, by rw [hbl, hM]; simp, by rw [hbl]; unfold obE; omega, .inl rfl, by omega⟩, ?_⟩
  unfold obS; split <;> omega
theorem nrm_small {b : Nat} (h0 : 0 < b % 9223372036854775808) (h : b % 9223372036854775808 < 4503599627370496) :
    ∃ F, Nrm b (bl (obM b)) F (-52) ∧ (if obN b then 9223372036854775808 else 0) + (bl (obM b) - 1) * 4503599627370496 + obM b * 2 ^ (53 - bl (obM b)) = obS b + bl (obM b) * 4503599627370496 + F := by
  have hM : obM b = b % 9223372036854775808 := by unfold obM; rw [if_pos h]
  have hM0 : 0 < obM b := by omega
  have hbl : bl (obM b) ≤ 52 := bl_le (show obM b < 2 ^ 52 by omega)
  have hbp := bl_pos hM0
  have hlt : obM b * 2 ^ (53 - bl (obM b)) < 9007199254740992 ∧ 4503599627370496 ≤ obM b * 2 ^ (53 - bl (obM b)) := by
    have h1 := bl_mul hM0 (53 - bl (obM b))
    have h2 := lt_bl (obM b * 2 ^ (53 - bl (obM b)))
    have h3 := bl_ge (n := obM b * 2 ^ (53 - bl (obM b))) (Nat.mul_pos hM0 (Nat.two_pow_pos _))
    rw [h1, show bl (obM b) + (53 - bl (obM b)) = 53 by omega] at h2 h3
    exact ⟨h2, h3⟩
  refine ⟨obM b * 2 ^ (53 - bl (obM b)) - 4503599627370496, ⟨by omega, by omega, by omega, by omega, ?_, .inr rfl, by omega⟩, ?_⟩
  · unfold obE; omega
  · unfold obN obS
    by_cases hs : 9223372036854775808 ≤ b
    · rw [decide_eq_true hs, if_pos rfl, if_pos hs]; omega
    · rw [decide_eq_false hs, if_neg (by decide), if_neg hs]; omega
set_option maxRecDepth 100000 in
theorem mNormalize (b : Nat) (hb : b < 18446744073709551616) (hf : obF b) (h0 : 0 < b % 9223372036854775808) :
    ∃ g F x0, Nrm b g F x0 ∧ ∀ w, Calls Tryd.prog 144 #[.float .f64 b] w fun e w' => e = .returned (.tuple #[.float .f64 (obS b + g * 4503599627370496 + F), .int .i64 x0]) ∧ w = w' := by
  have hmin := ord_min (r := b % 9223372036854775808) hf
  by_cases h : b % 9223372036854775808 < 4503599627370496
  · rw [decide_eq_true h] at hmin
    have hmul := mul_sub hb h0 h
    obtain ⟨F, hN, hE⟩ := nrm_small h0 h
    rw [hE] at hmul
    refine ⟨_, F, -52, hN, fun w => ?_⟩
    have HA := Lib.hid (mAbs b w hb)
    obtain ⟨y, hy⟩ : ∃ y, y = obS b + bl (obM b) * 4503599627370496 + F := ⟨_, rfl⟩
    rw [← hy] at hmul ⊢
    have hrun : ∀ W : World, (binOp .mul 117 (.float .f64 b) (.float .f64 4841369599423283200)).run Tryd.prog W = .ok (.float .f64 y) W := fun W => run_float_arith W .mul _ .f64 _ _ _ hmul
    obtain ⟨m, hm⟩ : ∃ m, m = b % 9223372036854775808 := ⟨_, rfl⟩
    rw [← hm] at hmin HA
    clear hm hN hE hy hmul h h0 hf hb
    go_enter Tryd.func144, Tryd.ntmps144
    go_wp2_with fail
    refine HA.out.mono ?_
    rintro _ _ ⟨rfl, rfl⟩
    go_wp2
    go_ret2
    exact ⟨rfl, rfl⟩
  · rw [decide_eq_false h] at hmin
    obtain ⟨hN, hE⟩ := nrm_big hb hf h
    refine ⟨_, _, 0, hN, fun w => ?_⟩
    rw [← hE]
    have HA := Lib.hid (mAbs b w hb)
    obtain ⟨m, hm⟩ : ∃ m, m = b % 9223372036854775808 := ⟨_, rfl⟩
    rw [← hm] at hmin HA
    clear hm hN hE h h0 hf hb
    go_enter Tryd.func144, Tryd.ntmps144
    go_wp2_with fail
    refine HA.out.mono ?_
    rintro _ _ ⟨rfl, rfl⟩
    go_wp2
    go_ret2
    exact ⟨rfl, rfl⟩
set_option maxRecDepth 100000 in
set_option maxHeartbeats 1600000 in
theorem mfrexp (b : Nat) (hb : b < 18446744073709551616) (hf : obF b) (h0 : 0 < b % 9223372036854775808) :
    ∃ F x, (F < 4503599627370496 ∧ 4503599627370496 + F = obM b * 2 ^ (53 - bl (obM b)) ∧ x = (bl (obM b) : Int) + obE b ∧ bl (obM b) ≤ 53) ∧ ∀ w, Calls Tryd.prog 130 #[.float .f64 b] w fun e w' => e = .returned (.tuple #[.float .f64 (obS b + 4602678819172646912 + F), .int .i64 x]) ∧ w = w' := by
  obtain ⟨g, F, x0, ⟨n1, n2, n3, n4, n5, n6, n7⟩, hN⟩ := mNormalize b hb hf h0
  refine ⟨F, _, ⟨n1, n4, rfl, n7⟩, fun w => ?_⟩
  have hz := ord_zero hb hf
  have hM : obM b ≠ 0 := by unfold obM; split <;> omega
  rw [decide_eq_false hM] at hz
  have HI := Lib.hid (mIsInf b false w hb (ord_max (r := b % 9223372036854775808) hf))
  have HNA := Lib.hid (mIsNaN b w hb (.inl hf))
  have HN := Lib.hid (hN w)
  have hS : obS b = 0 ∨ obS b = 9223372036854775808 := by unfold obS; split <;> simp
  obtain ⟨S, hSS⟩ : ∃ S, S = obS b := ⟨_, rfl⟩
  rw [← hSS] at HN hS ⊢
  obtain ⟨y, hy⟩ : ∃ y, y = S + g * 4503599627370496 + F := ⟨_, rfl⟩
  rw [← hy] at HN
  have hyl : y < 18446744073709551616 := by omega
  obtain ⟨q, hq⟩ : ∃ q, q = y / 4503599627370496 := ⟨_, rfl⟩
  have hq1 : (y : Int) / 4503599627370496 = (q : Int) := by omega
  have hq2 := and_2047 (x := q) (by omega)
  rw [show q % 2048 = g by omega] at hq2
  have hc := and_clear hyl
  rw [show (if 9223372036854775808 ≤ y then 9223372036854775808 else 0) + y % 4503599627370496 = S + F by split <;> omega] at hc
  have ho := or_half hS n1
  obtain ⟨z, hzz⟩ : ∃ z, z = S + F := ⟨_, rfl⟩
  rw [← hzz] at hc ho
  obtain ⟨r, hr⟩ : ∃ r, r = S + 4602678819172646912 + F := ⟨_, rfl⟩
  rw [← hr] at ho ⊢
  obtain ⟨x, hx⟩ : ∃ x, x = (bl (obM b) : Int) + obE b := ⟨_, rfl⟩
  rw [← hx] at n5 ⊢
  have a1 : x0 + ((g : Int) - 1023 + 1) = x := by omega
  have hxb : -1100 ≤ x ∧ x ≤ 1100 := by omega
  have hx0 : -52 ≤ x0 ∧ x0 ≤ 0 := by omega
  clear hN hy hq hzz hr hx hSS n1 n4 n5 n6 n7 hM h0 hf
  go_enter Tryd.func130, Tryd.ntmps130
  go_wp2_with fail
  refine HI.out.mono ?_
  rintro _ _ ⟨rfl, rfl⟩
  go_wp2_with fail
  refine HNA.out.mono ?_
  rintro _ _ ⟨rfl, rfl⟩
  go_wp2_with fail
  refine HN.out.mono ?_
  rintro _ _ ⟨rfl, rfl⟩
  go_wp2
  go_ret2
  exact ⟨rfl, rfl⟩
set_option maxRecDepth 100000 in
theorem mFrexp (b : Nat) (hb : b < 18446744073709551616) (hf : obF b) (h0 : 0 < b % 9223372036854775808) :
    ∃ F x, (F < 4503599627370496 ∧ 4503599627370496 + F = obM b * 2 ^ (53 - bl (obM b)) ∧ x = (bl (obM b) : Int) + obE b ∧ bl (obM b) ≤ 53) ∧ ∀ w, Calls Tryd.prog 104 #[.float .f64 b] w fun e w' => e = .returned (.tuple #[.float .f64 (obS b + 4602678819172646912 + F), .int .i64 x]) ∧ w = w' := by
  obtain ⟨F, x, hF, hc⟩ := mfrexp b hb hf h0
  refine ⟨F, x, hF, fun w => ?_⟩
  have HC := Lib.hid (hc w)
  have hxb : -2200 ≤ x ∧ x ≤ 2200 := by
    have := obE_bd hf
    obtain ⟨-, -, h3, h4⟩ := hF
    omega
  obtain ⟨r, hr⟩ : ∃ r, r = obS b + 4602678819172646912 + F := ⟨_, rfl⟩
  rw [← hr] at HC ⊢
  clear hc hr hF hf h0 hb
  go_enter Tryd.func104, Tryd.ntmps104
  go_wp2_with fail
  refine HC.out.mono ?_
  rintro _ _ ⟨rfl, rfl⟩
  go_wp2
  go_ret2
  exact ⟨rfl, rfl⟩
end Go.Proofs.YtjapoobegjoblaaDoor

/-
Floats: SetFloat64 of a new receiver of any precision, by values. No condition.
-/
namespace Go.Proofs.YtjapoobegjoblaaDoor
open Go.RowKit

theorem obM_zero {b : Nat} (h : b % 9223372036854775808 = 0) : obM b = 0 := by unfold obM; rw [if_pos (by omega), h]
theorem obM_pos {b : Nat} (h : 0 < b % 9223372036854775808) : 0 < obM b := by unfold obM; split <;> omega
theorem bl_obM (b : Nat) : bl (obM b) ≤ 53 := bl_le (show obM b < 2 ^ 53 by have := obM_bd b; omega)
set_option maxRecDepth 100000 in
set_option maxHeartbeats 3200000 in
theorem setF64_inf (b B p m f : Nat) (a e : Int) (neg0 : Bool) (x : Nat) (w : World) (h : FltR w b p m a f neg0 (.slice none 0 0) e) (hB : B ≤ b) (hp : p ≤ 64000000) (_hm : m ≤ 5) (hx : x < 18446744073709551616) (hi : x % 9223372036854775808 = 9218868437227405312) :
    Calls Tryd.prog 70 #[.pointer (some ⟨b, 0, none⟩), .float .f64 x] w fun e' w' => e' = .returned (.pointer (some ⟨b, 0, none⟩)) ∧ FltR w' b (pD p 53) m 0 2 (obN x) (.slice none 0 0) e ∧ Below B w w' := by
  obtain ⟨c0, c1, c2, c3, c4, c5, c6⟩ := h.cells
  obtain ⟨f0, f1, f2, f3, f4, f5, f6⟩ := h.free
  have hlt := h.lt
  have hq0 : 0 < pD p 53 := pD_pos (by decide)
  have hqb : pD p 53 ≤ 64000000 := pD_le hp (by decide)
  have HNA := Lib.hid (fun W => mIsNaN x W hx (.inr hi))
  have HSB := Lib.hid (fun W => mSignbit x W hx)
  have HIN := Lib.hid (fun W => mIsInf x true W hx (by rw [hi]; exact ord_max_inf))
  have hz := ord_zero_inf hx hi
  obtain ⟨n, hn⟩ : ∃ n, n = obN x := ⟨_, rfl⟩
  rw [← hn] at HSB ⊢
  clear hi hn hq0 hqb
  by_cases hp0 : p = 0
  · have t0 : ((p : Int) == 0) = true := by rw [hp0]; rfl
    have HP : pD p 53 = 53 := by unfold pD; rw [if_pos hp0]
    have R4 := Lib.hid ((((h.s0 53).s2 0).s4 n).s3 2)
    have B4 := Lib.hid (bset (i := 3) (u := .int .u8 (2 : Int)) (bset (i := 4) (u := .bool n) (bset (i := 2) (u := .int .i8 0) (bset (i := 0) (u := .int .u32 (53 : Int)) (Below.refl B w) hB) hB) hB) hB)
    rw [HP]
    clear h hp0 HP
    go_enter Tryd.func70, Tryd.ntmps70
    go_wp2_with fail
    refine (HNA.out _).mono ?_
    rintro _ _ ⟨rfl, rfl⟩
    go_wp2_with fail
    refine (HSB.out _).mono ?_
    rintro _ _ ⟨rfl, rfl⟩
    go_wp2_with fail
    refine (HIN.out _).mono ?_
    rintro _ _ ⟨rfl, rfl⟩
    go_wp2
    go_ret
    exact ⟨rfl, R4.out, B4.out⟩
  · have t0 : ((p : Int) == 0) = false := by rw [beq_eq_false_iff_ne]; omega
    have HP : pD p 53 = p := by unfold pD; rw [if_neg hp0]
    have R4 := Lib.hid (((h.s2 0).s4 n).s3 2)
    have B4 := Lib.hid (bset (i := 3) (u := .int .u8 (2 : Int)) (bset (i := 4) (u := .bool n) (bset (i := 2) (u := .int .i8 0) (Below.refl B w) hB) hB) hB)
    rw [HP]
    clear h hp0 HP
    go_enter Tryd.func70, Tryd.ntmps70
    go_wp2_with fail
    refine (HNA.out _).mono ?_
    rintro _ _ ⟨rfl, rfl⟩
    go_wp2_with fail
    refine (HSB.out _).mono ?_
    rintro _ _ ⟨rfl, rfl⟩
    go_wp2_with fail
    refine (HIN.out _).mono ?_
    rintro _ _ ⟨rfl, rfl⟩
    go_wp2
    go_ret
    exact ⟨rfl, R4.out, B4.out⟩
set_option maxRecDepth 100000 in
set_option maxHeartbeats 3200000 in
theorem setF64_val (b B p m f : Nat) (a e : Int) (neg0 : Bool) (x : Nat) (w : World) (h : FltR w b p m a f neg0 (.slice none 0 0) e) (hB : B ≤ b) (hp : p ≤ 64000000) (hm : m ≤ 5) (hx : x < 18446744073709551616) (hf : obF x) :
    Calls Tryd.prog 70 #[.pointer (some ⟨b, 0, none⟩), .float .f64 x] w fun e' w' => e' = .returned (.pointer (some ⟨b, 0, none⟩)) ∧ FVal w' B b (pD p 53) m (sbA (pD p 53) m (obN x) (obM x)) (fO (obM x)) (obN x) (rQ (pD p 53) m (obN x) 0 (obM x)) (obE x + rk (pD p 53) (obM x)) ∧ Below B w w' := by
  obtain ⟨c0, c1, c2, c3, c4, c5, c6⟩ := h.cells
  obtain ⟨f0, f1, f2, f3, f4, f5, f6⟩ := h.free
  have hlt := h.lt
  have hq0 : 0 < pD p 53 := pD_pos (by decide)
  have hqb : pD p 53 ≤ 64000000 := pD_le hp (by decide)
  have HNA := Lib.hid (fun W => mIsNaN x W hx (.inl hf))
  have HSB := Lib.hid (fun W => mSignbit x W hx)
  have HIN := Lib.hid (fun W => mIsInf x false W hx (ord_max (r := x % 9223372036854775808) hf))
  have hz := ord_zero hx hf
  rcases Nat.eq_zero_or_pos (x % 9223372036854775808) with hx0 | hx0
  · have hM := obM_zero hx0
    rw [hM, decide_eq_true rfl] at hz
    rw [hM]
    obtain ⟨n, hn⟩ : ∃ n, n = obN x := ⟨_, rfl⟩
    rw [← hn] at HSB ⊢
    have HF : Hid (∀ w', FltR w' b (pD p 53) m 0 0 n (.slice none 0 0) e → FVal w' B b (pD p 53) m (sbA (pD p 53) m n 0) (fO 0) n (rQ (pD p 53) m n 0 0) (obE x + rk (pD p 53) 0)) := Lib.hid (fun w' hw => ⟨_, _, hw, fun hc => absurd hc (by decide)⟩)
    clear hx0 hn hM hf hq0 hqb HIN
    by_cases hp0 : p = 0
    · have t0 : ((p : Int) == 0) = true := by rw [hp0]; rfl
      have HP : pD p 53 = 53 := by unfold pD; rw [if_pos hp0]
      have R4 := Lib.hid ((((h.s0 53).s2 0).s4 n).s3 0)
      have B4 := Lib.hid (bset (i := 3) (u := .int .u8 (0 : Int)) (bset (i := 4) (u := .bool n) (bset (i := 2) (u := .int .i8 0) (bset (i := 0) (u := .int .u32 (53 : Int)) (Below.refl B w) hB) hB) hB) hB)
      rw [HP] at HF ⊢
      clear h hp0 HP
      go_enter Tryd.func70, Tryd.ntmps70
      go_wp2_with fail
      refine (HNA.out _).mono ?_
      rintro _ _ ⟨rfl, rfl⟩
      go_wp2_with fail
      refine (HSB.out _).mono ?_
      rintro _ _ ⟨rfl, rfl⟩
      go_wp2
      go_ret
      exact ⟨rfl, HF.out _ R4.out, B4.out⟩
    · have t0 : ((p : Int) == 0) = false := by rw [beq_eq_false_iff_ne]; omega
      have HP : pD p 53 = p := by unfold pD; rw [if_neg hp0]
      have R4 := Lib.hid (((h.s2 0).s4 n).s3 0)
      have B4 := Lib.hid (bset (i := 3) (u := .int .u8 (0 : Int)) (bset (i := 4) (u := .bool n) (bset (i := 2) (u := .int .i8 0) (Below.refl B w) hB) hB) hB)
      rw [HP] at HF ⊢
      clear h hp0 HP
      go_enter Tryd.func70, Tryd.ntmps70
      go_wp2_with fail
      refine (HNA.out _).mono ?_
      rintro _ _ ⟨rfl, rfl⟩
      go_wp2_with fail
      refine (HSB.out _).mono ?_
      rintro _ _ ⟨rfl, rfl⟩
      go_wp2
      go_ret
      exact ⟨rfl, HF.out _ R4.out, B4.out⟩
  · have hM := obM_pos hx0
    rw [decide_eq_false (by omega)] at hz
    obtain ⟨F, x0, ⟨n1, n2, n3, n4⟩, hfr⟩ := mFrexp x hx hf hx0
    have HFR := Lib.hid hfr
    have hE := obE_bd hf
    have hbp := bl_pos hM
    have hS : obS x = 0 ∨ obS x = 9223372036854775808 := by unfold obS; split <;> simp
    obtain ⟨S, hSS⟩ : ∃ S, S = obS x := ⟨_, rfl⟩
    rw [← hSS] at HFR hS
    obtain ⟨r, hr⟩ : ∃ r, r = S + 4602678819172646912 + F := ⟨_, rfl⟩
    rw [← hr] at HFR
    have hrl : r < 18446744073709551616 := by omega
    have hshl : (r : Int) * 2048 % 18446744073709551616 = ((F * 2048 : Nat) : Int) := by omega
    have hshw : IntKind.u64.wrap ((r : Int) * 2048) = ((F * 2048 : Nat) : Int) := by rw [IntKind.wrap_u64]; exact hshl
    have hor := or_top n1
    obtain ⟨G, hG⟩ : ∃ G, G = F * 2048 := ⟨_, rfl⟩
    rw [← hG] at hshl hshw hor
    obtain ⟨y, hy⟩ : ∃ y, y = 9223372036854775808 + G := ⟨_, rfl⟩
    rw [← hy] at hor
    have hyM : y = obM x * 2 ^ (64 - bl (obM x)) := by
      rw [show 64 - bl (obM x) = (53 - bl (obM x)) + 11 by omega, Nat.pow_add, ← Nat.mul_assoc, ← n2]; omega
    have hy1 : y < 18446744073709551616 := by omega
    have hy2 : 9223372036854775808 ≤ y := by omega
    have hMl : obM x < 18446744073709551616 := by have := obM_bd x; omega
    have htop : topN (obM x) = [y] := by rw [hyM]; exact topN_word hM hMl
    have HGD : Hid (∀ Q, 53 ≤ Q → Good [y] Q) := Lib.hid (fun Q hQ => by
      rw [← htop]; exact topN_good hM (by have := bl_obM x; omega) (by have := nw_bl hM; have := bl_obM x; omega))
    have HD : Hid (∀ (Q : Nat) (w' : World), FVal w' B b Q m (rA Q m (obN x) 0 y) 1 (obN x) (rQ Q m (obN x) 0 y) (x0 - 64 * (([y] : List Nat).length : Int) + rk Q y) →
        FVal w' B b Q m (sbA Q m (obN x) (obM x)) (fO (obM x)) (obN x) (rQ Q m (obN x) 0 (obM x)) (obE x + rk Q (obM x))) := Lib.hid (fun Q w' hw => by
      have := fval_trans hw (by omega) (show deq _ _ (obM x) (obE x) from ⟨0, 64 - bl (obM x), by rw [hyM]; simp, by simp; omega⟩)
      unfold sbA fO; rw [if_neg (by omega), if_neg (by omega)]; exact this)
    have hx0b : -1100 ≤ x0 ∧ x0 ≤ 1100 := by have := bl_obM x; omega
    obtain ⟨n, hn⟩ : ∃ n, n = obN x := ⟨_, rfl⟩
    rw [← hn] at HSB HD ⊢
    have HTL : Hid (∀ w5, FltR w5 b (pD p 53) m 0 1 n (.slice none 0 0) e → Below B w w5 → ∀ k, Calls Tryd.prog 105 #[.slice none 0 0, .int .u64 y] (w5.drewN k) fun e' w' => ∃ v, e' = .returned v ∧ IsS v ∧
        (FltR w' b (pD p 53) m 0 1 n (.slice none 0 0) e ∧ FltR ((w'.setCell ⟨b, 5, none⟩ v).setCell ⟨b, 6, none⟩ (.int .i32 x0)) b (pD p 53) m 0 1 n v x0 ∧ Own ((w'.setCell ⟨b, 5, none⟩ v).setCell ⟨b, 6, none⟩ (.int .i32 x0)) B 138 v (cellsW [y]) ∧ Below B w ((w'.setCell ⟨b, 5, none⟩ v).setCell ⟨b, 6, none⟩ (.int .i32 x0)))) := Lib.hid (fun w5 h5 hb5 k => by
      refine (setUint64_nil y (w5.drewN k) (by omega) hy1).mono ?_
      rintro _ w' ⟨v, rfl, ho, hb⟩
      have hBs : B ≤ w5.heap.size := by have := h5.lt; omega
      have hb' := undrewN hb
      have R5 := h5.below hb'
      have ho' : Own w' w5.heap.size 138 v (cellsW [y]) := ho
      exact ⟨v, rfl, ho.isS, R5, (R5.s5 v).s6 _, (R5.s5 v).own (R5.own (ho'.mono hBs) 5 v) 6 _, bset (bset (hb5.trans (hb'.mono hBs)) hB) hB⟩)
    have HRD : Hid (∀ (w' : World) (v : Value), FltR w' b (pD p 53) m 0 1 n v x0 → Own w' B 138 v (cellsW [y]) → Calls Tryd.prog 107 #[.pointer (some ⟨b, 0, none⟩), .int .u64 0] w' fun e' w'' => e' = .returned (.tuple #[]) ∧ FVal w'' B b (pD p 53) m (sbA (pD p 53) m n (obM x)) (fO (obM x)) n (rQ (pD p 53) m n 0 (obM x)) (obE x + rk (pD p 53) (obM x)) ∧ Below B w' w'') := Lib.hid (fun w' v hf ho => by
      have hg := good_word (p := 64) hy1 hy2 (Nat.le_refl _)
      have hr := round_any b B (pD p 53) m 0 0 x0 n v [y] w' hf hB ho hg.2.2.1 Nat.one_pos hg.2.2.2.1 (by simp) hq0 hqb hm (by decide) (.inl rfl) (by omega) (by omega)
      rw [show ((0 : Nat) : Int) = 0 from rfl] at hr
      refine hr.mono ?_
      rintro _ w'' ⟨rfl, hR⟩
      have hQ : 0 < rQ (pD p 53) m n 0 (wv [y]) := rQ_pos n 0 hq0 (by rw [wv_one]; omega)
      have F := hR.val hQ
      obtain ⟨_, _, _, -, -, -, -, hb8⟩ := hR
      rw [wv_one] at F
      exact ⟨rfl, HD.out _ _ F, hb8⟩)
    have HEX : Hid (53 ≤ pD p 53 → ∀ (w' : World) (v : Value), FltR w' b (pD p 53) m 0 1 n v x0 → Own w' B 138 v (cellsW [y]) → FVal w' B b (pD p 53) m (sbA (pD p 53) m n (obM x)) (fO (obM x)) n (rQ (pD p 53) m n 0 (obM x)) (obE x + rk (pD p 53) (obM x))) := Lib.hid (fun h64 w' v hf ho => by
      have F := fval_rnd hf ho (HGD.out _ h64) hq0
      rw [wv_one] at F
      exact HD.out _ _ F)
    clear hn hr hG hy hyM htop HD HGD hfr n2 n3 n4 hE hbp hSS hM hx0 hf
    by_cases hp0 : p = 0
    · have t0 : ((p : Int) == 0) = true := by rw [hp0]; rfl
      have HP : pD p 53 = 53 := by unfold pD; rw [if_pos hp0]
      have R4 := Lib.hid ((((h.s0 53).s2 0).s4 n).s3 1)
      have B4 := Lib.hid (bset (i := 3) (u := .int .u8 (1 : Int)) (bset (i := 4) (u := .bool n) (bset (i := 2) (u := .int .i8 0) (bset (i := 0) (u := .int .u32 (53 : Int)) (Below.refl B w) hB) hB) hB) hB)
      rw [HP] at HTL HEX ⊢
      clear h hp0 HRD HP
      go_enter Tryd.func70, Tryd.ntmps70
      go_wp2_with fail
      refine (HNA.out _).mono ?_
      rintro _ _ ⟨rfl, rfl⟩
      go_wp2_with fail
      refine (HSB.out _).mono ?_
      rintro _ _ ⟨rfl, rfl⟩
      go_wp2_with fail
      refine (HIN.out _).mono ?_
      rintro _ _ ⟨rfl, rfl⟩
      go_wp2_with fail
      refine (HFR.out _).mono ?_
      rintro _ _ ⟨rfl, rfl⟩
      go_wp2_with fail
      (refine wp_region_hoist 9 (by kernel_rfl) (by kernel_rfl) ⟨fun _ _ _ h => (by first | exact (hQp _ _ _ h).elim | cases h.2.1 | (obtain ⟨_, h3, _⟩ := h.2; cases h3)), fun _ _ h => (by first | exact (hQo _ _ h).elim | cases h.1 | (obtain ⟨_, h3, _⟩ := h; cases h3))⟩ ?_; simp only [List.take_succ_cons, List.take_zero, List.drop_succ_cons, List.drop_zero]; (repeat (go_big_quiet_step (fail))); refine wpQuiet_nil ?_; rintro _ ⟨nq, rfl⟩)
      go_wp2_with fail
      refine (HTL.out _ R4.out B4.out _).mono ?_
      rintro _ w5 ⟨v, rfl, hSv, R5, F5, O, BF⟩
      obtain ⟨d0, d1, d2, d3, d4, d5, d6⟩ := R5.cells
      obtain ⟨g0, g1, g2, g3, g4, g5, g6⟩ := R5.free
      have d0' : w5.cell? ⟨b, 0, none⟩ = some (.int .u32 53) := d0
      have HV := Lib.hid (HEX.out (Nat.le_refl _) _ _ F5 O)
      have HB := Lib.hid BF
      clear c0 c1 c2 c3 c4 c5 c6 f0 f1 f2 f3 f4 f5 f6 d0 R5 F5 O BF
      go_wp2
      go_ret
      exact ⟨rfl, HV.out, HB.out⟩
    · have t0 : ((p : Int) == 0) = false := by rw [beq_eq_false_iff_ne]; omega
      have HP : pD p 53 = p := by unfold pD; rw [if_neg hp0]
      have R4 := Lib.hid (((h.s2 0).s4 n).s3 1)
      have B4 := Lib.hid (bset (i := 3) (u := .int .u8 (1 : Int)) (bset (i := 4) (u := .bool n) (bset (i := 2) (u := .int .i8 0) (Below.refl B w) hB) hB) hB)
      rw [HP] at HTL HEX HRD ⊢
      clear h hp0 HP
      by_cases hp64 : p < 53
      · have t2 : decide (p < 53) = true := decide_eq_true hp64
        have t2' : decide ((p : Int) < 53) = true := decide_eq_true (by omega)
        clear hp64 HEX
        go_enter Tryd.func70, Tryd.ntmps70
        go_wp2_with fail
        refine (HNA.out _).mono ?_
        rintro _ _ ⟨rfl, rfl⟩
        go_wp2_with fail
        refine (HSB.out _).mono ?_
        rintro _ _ ⟨rfl, rfl⟩
        go_wp2_with fail
        refine (HIN.out _).mono ?_
        rintro _ _ ⟨rfl, rfl⟩
        go_wp2_with fail
        refine (HFR.out _).mono ?_
        rintro _ _ ⟨rfl, rfl⟩
        go_wp2_with fail
        (refine wp_region_hoist 9 (by kernel_rfl) (by kernel_rfl) ⟨fun _ _ _ h => (by first | exact (hQp _ _ _ h).elim | cases h.2.1 | (obtain ⟨_, h3, _⟩ := h.2; cases h3)), fun _ _ h => (by first | exact (hQo _ _ h).elim | cases h.1 | (obtain ⟨_, h3, _⟩ := h; cases h3))⟩ ?_; simp only [List.take_succ_cons, List.take_zero, List.drop_succ_cons, List.drop_zero]; (repeat (go_big_quiet_step (fail))); refine wpQuiet_nil ?_; rintro _ ⟨nq, rfl⟩)
        go_wp2_with fail
        refine (HTL.out _ R4.out B4.out _).mono ?_
        rintro _ w5 ⟨v, rfl, hSv, R5, F5, O, BF⟩
        obtain ⟨d0, d1, d2, d3, d4, d5, d6⟩ := R5.cells
        obtain ⟨g0, g1, g2, g3, g4, g5, g6⟩ := R5.free
        have HV := Lib.hid (HRD.out _ _ F5 O)
        have HB := Lib.hid BF
        clear c0 c1 c2 c3 c4 c5 c6 f0 f1 f2 f3 f4 f5 f6 R5 F5 O BF
        go_wp2_with fail
        refine HV.out.mono ?_
        rintro _ w8 ⟨rfl, hv8, hb8⟩
        have H8 := Lib.hid hv8
        have B8 := Lib.hid (HB.out.trans hb8)
        clear hv8 hb8
        go_wp2
        go_ret
        exact ⟨rfl, H8.out, B8.out⟩
      · have t2 : decide (p < 53) = false := decide_eq_false hp64
        have t2' : decide ((p : Int) < 53) = false := decide_eq_false (by omega)
        have H64 := Lib.hid (show 53 ≤ p by omega)
        clear hp64 HRD
        go_enter Tryd.func70, Tryd.ntmps70
        go_wp2_with fail
        refine (HNA.out _).mono ?_
        rintro _ _ ⟨rfl, rfl⟩
        go_wp2_with fail
        refine (HSB.out _).mono ?_
        rintro _ _ ⟨rfl, rfl⟩
        go_wp2_with fail
        refine (HIN.out _).mono ?_
        rintro _ _ ⟨rfl, rfl⟩
        go_wp2_with fail
        refine (HFR.out _).mono ?_
        rintro _ _ ⟨rfl, rfl⟩
        go_wp2_with fail
        (refine wp_region_hoist 9 (by kernel_rfl) (by kernel_rfl) ⟨fun _ _ _ h => (by first | exact (hQp _ _ _ h).elim | cases h.2.1 | (obtain ⟨_, h3, _⟩ := h.2; cases h3)), fun _ _ h => (by first | exact (hQo _ _ h).elim | cases h.1 | (obtain ⟨_, h3, _⟩ := h; cases h3))⟩ ?_; simp only [List.take_succ_cons, List.take_zero, List.drop_succ_cons, List.drop_zero]; (repeat (go_big_quiet_step (fail))); refine wpQuiet_nil ?_; rintro _ ⟨nq, rfl⟩)
        go_wp2_with fail
        refine (HTL.out _ R4.out B4.out _).mono ?_
        rintro _ w5 ⟨v, rfl, hSv, R5, F5, O, BF⟩
        obtain ⟨d0, d1, d2, d3, d4, d5, d6⟩ := R5.cells
        obtain ⟨g0, g1, g2, g3, g4, g5, g6⟩ := R5.free
        have HV := Lib.hid (HEX.out H64.out _ _ F5 O)
        have HB := Lib.hid BF
        clear c0 c1 c2 c3 c4 c5 c6 f0 f1 f2 f3 f4 f5 f6 R5 F5 O BF
        go_wp2
        go_ret
        exact ⟨rfl, HV.out, HB.out⟩
end Go.Proofs.YtjapoobegjoblaaDoor

/-
The thin package's SetFloat64, WholeBits; spec.OfBits; laws.finite. No condition.
-/
namespace Go.Proofs.YtjapoobegjoblaaDoor
open Go.RowKit

theorem rQ_rngE (p m M : Nat) (neg : Bool) (E : Int) (h : bl M ≤ 1000000) (hE : -1074 ≤ E ∧ E ≤ 971) : -900000000 ≤ E + ((rk p M : Nat) : Int) ∧ E + ((rk p M : Nat) : Int) + bl (rQ p m neg 0 M) ≤ 900000000 := by
  have h1 := rk_le p M
  have h2 := bl_rQ p m neg 0 M
  omega
set_option maxRecDepth 100000 in
set_option maxHeartbeats 1600000 in
theorem impSetFloat64 (q k : Nat) (x : Nat) (w : World) (hq : q ≤ 1000000) (hk : k ≤ 5) (hx : x < 18446744073709551616) (hf : obF x) (hT : TabW w) :
    Calls Tryd.prog 42 #[.int .u64 q, .int .i64 k, .int .u64 x] w fun e' w' => ∃ z, e' = .returned (.tuple #[z, .int .i64 (sbA (pD q 53) k (obN x) (obM x))]) ∧ RealV w' z (pD q 53) k (fO (obM x)) (obN x) (rQ (pD q 53) k (obN x) 0 (obM x)) (obE x + rk (pD q 53) (obM x)) ∧ Below w.heap.size w w' := by
  have hac := (Below.refl w.heap.size w).alloc (Nat.le_refl _) (.cells #[.int .u64 0, .int .i64 0, .int .i64 0, .bool false, .slice none 0 0, .int .i64 0] 25)
  obtain ⟨X, hX⟩ : ∃ X, X = w.alloc (.cells #[.int .u64 0, .int .i64 0, .int .i64 0, .bool false, .slice none 0 0, .int .i64 0] 25) := ⟨_, rfl⟩
  have hr2 : X.heap[w.heap.size]? = some (.cells #[.int .u64 0, .int .i64 0, .int .i64 0, .bool false, .slice none 0 0, .int .i64 0] 25 (0, 0)) := by
    rw [hX]; exact row_chain11
  rw [← hX] at hac
  have HT := Lib.hid (hT.below hac)
  have HR2 := Lib.hid hr2
  have hwX := Lib.hid hac
  have hcc := Below.refl X.heap.size X
  have hXs := hac.size
  have hX2 : w.heap.size + 1 ≤ X.heap.size := by rw [hX]; simp
  have hpo : pD q 53 ≤ 1000000 ∧ 0 < pD q 53 := ⟨pD_le hq (by decide), pD_pos (by decide)⟩
  have HF := Lib.hid (fun g n0 (W : World) h1 h2 => setF64_val g X.heap.size q k 0 0 0 n0 x W h1 h2 (by omega) hk hx hf)
  obtain ⟨neg, hneg⟩ : ∃ neg, neg = obN x := ⟨_, rfl⟩
  obtain ⟨M, hM⟩ : ∃ M, M = obM x := ⟨_, rfl⟩
  have hbM : bl M ≤ 1000000 := Nat.le_trans (by rw [hM]; exact bl_obM x) (by decide)
  obtain ⟨E, hE⟩ : ∃ E, E = obE x := ⟨_, rfl⟩
  have hEb : -1074 ≤ E ∧ E ≤ 971 := by rw [hE]; exact obE_bd hf
  rw [← hneg, ← hM, ← hE] at HF
  rw [← hneg, ← hM, ← hE]
  obtain ⟨A, hA⟩ : ∃ A, A = sbA (pD q 53) k neg M := ⟨_, rfl⟩
  have hAb : -1 ≤ A ∧ A ≤ 1 := by rw [hA]; exact sbA_bd _ _ _ _
  rw [← hA] at HF
  rw [← hA]
  obtain ⟨Z, hZ⟩ : ∃ Z, Z = pD q 53 := ⟨_, rfl⟩
  rw [← hZ] at HF hpo
  rw [← hZ]
  have hq64 : q ≤ 64000000 := by omega
  have HRG := Lib.hid (rQ_rngE Z k M neg E hbM hEb)
  obtain ⟨f, hfM⟩ : ∃ f, f = fO M := ⟨_, rfl⟩
  have hf2 : f ≤ 2 := by rw [hfM]; exact fO_le M
  rw [← hfM] at HF
  rw [← hfM]
  clear hac hr2 hT hA hZ hfM hneg hM hE hx hf
  go_enter Tryd.func42, Tryd.ntmps42
  go_upto_region 1 with fail
  rw [← hX]
  clear hX
  go_wp2_with fail
  refine (fresh_all q k _ hq64 (by omega)).mono ?_
  rintro _ w3 ⟨g1, rfl, ⟨hg1, hF1⟩, hb3⟩
  have hb3 : Below X.heap.size X w3 := hb3
  have hg1X : X.heap.size ≤ g1 := by rw [hg1]; exact Nat.le_refl _
  clear hg1
  have hBg := hb3.size
  go_wp2_with fail
  refine (HF.out g1 _ w3 hF1 hg1X).mono ?_
  rintro _ w5 ⟨rfl, hF5, hb5⟩
  have hb5 : Below X.heap.size X w5 := hb3.trans hb5
  have hBg5 := hb5.size
  clear HF hF1
  go_wp2_with fail
  refine (implBoth _ g1 Z k f A _ _ _ _ hF5 hf2 (by omega) (by omega) (fun _ => hpo.2) (fun _ => HRG.out) (HT.out.below hb5) hAb).mono ?_
  rintro _ w6 ⟨z, rfl, hz, hb6⟩
  have hb6 := bthen hb5 hb6
  have hq2 := keep_row hb6 HR2.out
  obtain ⟨vz, Ez, zs, Bz, rfl, hz2, hzd, hz3, hz4⟩ := hz
  have hSz := hz2.isS
  obtain ⟨⟨y0, y1, y2, y3, y4, y5⟩, s0, s1, s2, s3, s4, s5⟩ := row6 hq2
  have H2 := Lib.hid hz2
  have H34 := Lib.hid (And.intro hzd (And.intro hz3 hz4))
  have HQ2 := Lib.hid hq2
  clear hz2 hzd hz3 hz4 hq2 hF5
  go_wp2_with fail
  have HS := row6_set (x := .int .u64 (Z : Int)) (y := .int .i64 (k : Int)) (z := .int .i64 (f : Int)) (x' := .bool neg) (y' := vz) (z' := .int .i64 Ez) HQ2.out
  have HB := bset6 (x := .int .u64 (Z : Int)) (y := .int .i64 (k : Int)) (z := .int .i64 (f : Int)) (x' := .bool neg) (y' := vz) (z' := .int .i64 Ez) (hwX.out.trans (hb6.mono hXs)) (Nat.le_refl _)
  obtain ⟨⟨a0, a1, a2, a3, a4, a5⟩, -⟩ := row6 HS
  refine bodyPost_ret (v := .tuple #[.agg #[.int .u64 Z, .int .i64 k, .int .i64 f, .bool neg, vz, .int .i64 Ez], .int .i64 A]) ?_ rfl ⟨_, rfl, ⟨_, _, _, Bz, rfl, ?_, H34.out.1, H34.out.2⟩, HB⟩
  · simp [results, Tryd.results42, go_sem, a0, a1, a2, a3, a4, a5]
  · exact H2.out.same fun hc => by
      have hne : sBlk vz ≠ w.heap.size := H2.out.ne_row HQ2.out (by decide) hc
      exact heap6_other hne
/-- The exponent's field. -/
theorem ob_field {x : Nat} (_hx : x < 18446744073709551616) : (x : Int) / 4503599627370496 = ((x / 4503599627370496 : Nat) : Int) ∧ x / 4503599627370496 < 18446744073709551616 := by omega
theorem obF_field {x : Nat} : obF x ↔ x / 4503599627370496 % 2048 ≠ 2047 := by unfold obF; omega
set_option maxRecDepth 100000 in
set_option maxHeartbeats 800000 in
theorem spOfBits (x : Nat) (w : World) (hx : x < 18446744073709551616) (_hf : obF x) :
    Calls Tryd.prog 43 #[.int .u64 x] w fun e' w' => ∃ b, e' = .returned (.agg #[.bool (obN x), b, .int .i64 (obE x)]) ∧ NatV w' b (obM x) ∧ Below w.heap.size w w' := by
  have hac := (Below.refl w.heap.size w).alloc (Nat.le_refl _) (.cells #[.bool false, .slice none 0 0, .int .i64 0] 33)
  obtain ⟨X, hX⟩ : ∃ X, X = w.alloc (.cells #[.bool false, .slice none 0 0, .int .i64 0] 33) := ⟨_, rfl⟩
  have hr1 : X.heap[w.heap.size]? = some (.cells #[.bool false, .slice none 0 0, .int .i64 0] 33 (0, 0)) := by
    rw [hX]; exact row_chain11
  rw [← hX] at hac
  have HB := Lib.hid hac
  have HR1 := Lib.hid hr1
  have hXs := hac.size
  obtain ⟨q1, q2⟩ := ob_field hx
  have q3 := and_2047 q2
  obtain ⟨q, hq⟩ : ∃ q, q = x / 4503599627370496 := ⟨_, rfl⟩
  rw [← hq] at q1 q2 q3
  obtain ⟨g, hg⟩ : ∃ g, g = q % 2048 := ⟨_, rfl⟩
  rw [← hg] at q3
  have q4 := and_frac hx
  obtain ⟨f, hff⟩ : ∃ f, f = x % 4503599627370496 := ⟨_, rfl⟩
  rw [← hff] at q4
  have q5 : (x : Int) / 9223372036854775808 = ((x / 9223372036854775808 : Nat) : Int) := by omega
  have q6 : (((x / 9223372036854775808 : Nat) : Int) == 1) = obN x := by
    unfold obN
    by_cases h : 9223372036854775808 ≤ x
    · rw [decide_eq_true h, show x / 9223372036854775808 = 1 by omega]; rfl
    · rw [decide_eq_false h, show x / 9223372036854775808 = 0 by omega]; rfl
  obtain ⟨s, hs⟩ : ∃ s, s = x / 9223372036854775808 := ⟨_, rfl⟩
  rw [← hs] at q5 q6
  have hsb : s ≤ 1 := by omega
  obtain ⟨n, hn⟩ : ∃ n, n = obN x := ⟨_, rfl⟩
  rw [← hn] at q6 ⊢
  have hgl : g < 2048 := by omega
  have hfl : f < 4503599627370496 := by omega
  by_cases h0 : g = 0
  · have t : decide ((0 : Int) < (g : Int)) = false := decide_eq_false (by omega)
    have t' : decide (0 < g) = false := decide_eq_false (by omega)
    have hM : obM x = f := by unfold obM; rw [if_pos (by omega)]; omega
    have hE : obE x = (g : Int) - 1074 := by unfold obE; omega
    have e1 : (g : Int) - 1074 = ((-1074 : Int)) := by omega
    rw [hM, hE, e1]
    have HSM := Lib.hid (fun W => spSmall f W (by omega))
    clear hq hg hff hs hn hM hE hac hr1
    go_enter Tryd.func43, Tryd.ntmps43
    go_upto_region 1 with fail
    rw [← hX]
    clear hX
    go_wp2_with fail
    refine (HSM.out _).mono ?_
    rintro _ w3 ⟨d, rfl, hd, hb3⟩
    have hSd := hd.isS
    have hvr := keep_row hb3 HR1.out
    obtain ⟨v0, v1, v2, f0, f1, f2⟩ := row3 hvr
    have HD := Lib.hid hd
    have HV := Lib.hid hvr
    have HB3 := Lib.hid (HB.out.trans (hb3.mono hXs))
    clear hd hvr hb3
    go_wp2
    obtain ⟨hx0, hx1, hx2, -, -, -⟩ := row3 (row3_set (x := .bool n) (y := d) (z := .int .i64 (-1074)) HV.out)
    refine bodyPost_ret (v := .agg #[.bool n, d, .int .i64 (-1074)]) ?_ rfl ⟨d, rfl, natv_dyad (x := .bool n) (y := d) (z := .int .i64 (-1074)) IsS.nil HD.out HV.out, bset (bset (bset HB3.out (Nat.le_refl _)) (Nat.le_refl _)) (Nat.le_refl _)⟩
    simp [results, Tryd.results43, go_sem, hx0, hx1, hx2]
  · have t : decide ((0 : Int) < (g : Int)) = true := decide_eq_true (by omega)
    have t' : decide (0 < g) = true := decide_eq_true (by omega)
    have hM : obM x = f + 4503599627370496 := by unfold obM; rw [if_neg (by omega)]; omega
    have hE : obE x = (g : Int) - 1 - 1074 := by unfold obE; omega
    have e2 : (f : Int) + 4503599627370496 = ((f + 4503599627370496 : Nat) : Int) := by omega
    obtain ⟨M, hMM⟩ : ∃ M, M = f + 4503599627370496 := ⟨_, rfl⟩
    rw [← hMM] at hM e2
    obtain ⟨E, hEE⟩ : ∃ E : Int, E = (g : Int) - 1 - 1074 := ⟨_, rfl⟩
    have e3 : (g : Int) - 1 - 1074 = E := hEE.symm
    rw [e3] at hE
    rw [hM, hE]
    have HSM := Lib.hid (fun W => spSmall M W (by omega))
    have hEb : -1074 ≤ E ∧ E ≤ 2000 := by omega
    clear hq hg hff hs hn hM hE hMM hEE hac hr1
    go_enter Tryd.func43, Tryd.ntmps43
    go_upto_region 1 with fail
    rw [← hX]
    clear hX
    go_wp2_with fail
    refine (HSM.out _).mono ?_
    rintro _ w3 ⟨d, rfl, hd, hb3⟩
    have hSd := hd.isS
    have hvr := keep_row hb3 HR1.out
    obtain ⟨v0, v1, v2, f0, f1, f2⟩ := row3 hvr
    have HD := Lib.hid hd
    have HV := Lib.hid hvr
    have HB3 := Lib.hid (HB.out.trans (hb3.mono hXs))
    clear hd hvr hb3
    go_wp2
    obtain ⟨hx0, hx1, hx2, -, -, -⟩ := row3 (row3_set (x := .bool n) (y := d) (z := .int .i64 E) HV.out)
    refine bodyPost_ret (v := .agg #[.bool n, d, .int .i64 E]) ?_ rfl ⟨d, rfl, natv_dyad (x := .bool n) (y := d) (z := .int .i64 E) IsS.nil HD.out HV.out, bset (bset (bset HB3.out (Nat.le_refl _)) (Nat.le_refl _)) (Nat.le_refl _)⟩
    simp [results, Tryd.results43, go_sem, hx0, hx1, hx2]
end Go.Proofs.YtjapoobegjoblaaDoor

/-
The statement on SetFloat64. No condition.
-/
namespace Go.Proofs.YtjapoobegjoblaaDoor
open Go.RowKit

set_option maxRecDepth 100000 in
set_option maxHeartbeats 3200000 in
theorem lawSetFloat64 (a0 a1 a2 : Int) (w : World) (hT : TabW w) (l0 : 0 ≤ a0) (h0 : a0 ≤ 255) (l1 : 0 ≤ a1) (h1 : a1 ≤ 255) (l2 : 0 ≤ a2) (h2 : a2 ≤ 18446744073709551615) :
    Calls Tryd.prog 11 #[.int .u8 a0, .int .u8 a1, .int .u64 a2] w fun e' w' => e' = .returned (.bool true) ∧ Below w.heap.size w w' := by
  obtain ⟨b0, rfl⟩ := Int.eq_ofNat_of_zero_le l0
  obtain ⟨b1, rfl⟩ := Int.eq_ofNat_of_zero_le l1
  obtain ⟨x, rfl⟩ := Int.eq_ofNat_of_zero_le l2
  have HW := Lib.hid (Below.refl w.heap.size w)
  have hWs := HW.out.size
  have T0 := Lib.hid hT
  have e0 : (b0 : Int) % 70 = ((b0 % 70 : Nat) : Int) := by omega
  have e1 : (b1 : Int) % 6 = ((b1 % 6 : Nat) : Int) := by omega
  have hqb : b0 % 70 ≤ 69 := by omega
  have hkb : b1 % 6 ≤ 5 := by omega
  have hX : x < 18446744073709551616 := by omega
  obtain ⟨q, hq⟩ : ∃ q, q = b0 % 70 := ⟨_, rfl⟩
  obtain ⟨k, hk⟩ : ∃ k, k = b1 % 6 := ⟨_, rfl⟩
  rw [← hq] at hqb e0
  rw [← hk] at hkb e1
  obtain ⟨u1, u2⟩ := ob_field hX
  have u3 := and_2047 u2
  obtain ⟨c, hc⟩ : ∃ c, c = x / 4503599627370496 := ⟨_, rfl⟩
  rw [← hc] at u1 u2 u3
  obtain ⟨g, hg⟩ : ∃ g, g = c % 2048 := ⟨_, rfl⟩
  rw [← hg] at u3
  have u5 : (x : Int) / 9223372036854775808 = ((x / 9223372036854775808 : Nat) : Int) := by omega
  have u6 : (((x / 9223372036854775808 : Nat) : Int) == 1) = obN x := by
    unfold obN
    by_cases h : 9223372036854775808 ≤ x
    · rw [decide_eq_true h, show x / 9223372036854775808 = 1 by omega]; rfl
    · rw [decide_eq_false h, show x / 9223372036854775808 = 0 by omega]; rfl
  obtain ⟨sb, hsb⟩ : ∃ sb, sb = x / 9223372036854775808 := ⟨_, rfl⟩
  rw [← hsb] at u5 u6
  have hsb1 : sb ≤ 1 := by omega
  by_cases hfin : g = 2047
  · have t : ((g : Int) == 2047) = true := by rw [hfin]; rfl
    clear hT hq hk l2 h2 hc hg hsb hfin
    go_enter Tryd.func11, Tryd.ntmps11
    go_wp2
    go_ret
    exact ⟨rfl, HW.out⟩
  have t0 : ((g : Int) == 2047) = false := by rw [beq_eq_false_iff_ne]; omega
  have HFI : Hid (obF x) := Lib.hid (obF_field.2 (by omega))
  have HBL : Hid (bl (obM x) ≤ 9000000) := Lib.hid (Nat.le_trans (bl_obM x) (by decide))
  have HEB : Hid (-1074 ≤ obE x ∧ obE x ≤ 971) := Lib.hid (obE_bd HFI.out)
  clear hT hq hk l2 h2 hc hg hsb hfin
  have hZp : 0 < pD q 53 := pD_pos (by decide)
  have hZ2 : pD q 53 ≤ 69 := pD_le hqb (by decide)
  by_cases hq0 : q = 0
  · have t : ((q : Int) == 0) = true := by rw [hq0]; rfl
    have hZD : pD q 53 = 53 := by unfold pD; rw [if_pos hq0]
    rw [hZD] at hZp hZ2
    clear hq0
    go_enter Tryd.func11, Tryd.ntmps11
    go_wp2_with fail
    with_reducible refine (impSetFloat64 q k x w (by omega) hkb hX HFI.out T0.out).mono ?_
    rintro _ wN ⟨z, rfl, hz, hb1⟩
    obtain ⟨n1, hn1⟩ : ∃ n1, n1 = obN x := ⟨_, rfl⟩
    rw [← hn1] at hz ⊢
    rw [← hn1] at u6
    obtain ⟨A, hA⟩ : ∃ A, A = sbA (pD q 53) k n1 (obM x) := ⟨_, rfl⟩
    rw [← hA]
    rw [sbA_eq] at hA
    have htd := told_fO hz (by rw [hZD]; exact hZp)
    obtain ⟨f, hf⟩ : ∃ f, f = fO (obM x) := ⟨_, rfl⟩
    rw [← hf] at hz
    rw [hZD] at hz hA htd
    have HA := Lib.hid hA
    have HTD0 := Lib.hid htd
    have HN := Lib.hid hn1
    clear hA hf hn1 hZD htd
    obtain ⟨vz, Ez, rfl, hSz⟩ := hz.formW
    obtain ⟨Y, hY⟩ : ∃ Y, Y = wN.alloc (.cells #[.int .u64 53, .int .i64 (k : Int), .int .i64 (f : Int), .bool n1, vz, .int .i64 Ez] 25) := ⟨_, rfl⟩
    have hbY : Below wN.heap.size wN Y := by rw [hY]; exact fbone _
    have hrz : Y.heap[wN.heap.size]? = some (.cells #[.int .u64 53, .int .i64 (k : Int), .int .i64 (f : Int), .bool n1, vz, .int .i64 Ez] 25 (0, 0)) := by rw [hY]; exact row_chain11
    have hbX := bthen hb1 hbY
    have HRz := Lib.hid hrz
    have HZ := Lib.hid (hz.below hbY)
    have HWY := Lib.hid (HW.out.trans (hbX.mono hWs))
    have TY := Lib.hid (T0.out.below hbX)
    have hYs := HWY.out.size
    have hcc := Below.refl Y.heap.size Y
    have HTD := Lib.hid (HTD0.out.below hbY)
    clear HTD0 hb1 hbY hrz hbX hz  HW hWs T0 
    go_upto_region 7 with fail
    rw [← hY]
    clear hY
    first
      | (go_region_held3 (fun w' => Below Y.heap.size Y w' ∧ w'.cell? ⟨wN.heap.size, 0, none⟩ = some (.int .u64 53) ∧ w'.cell? ⟨wN.heap.size, 1, none⟩ = some (.int .i64 (k : Int)) ∧ w'.cell? ⟨wN.heap.size, 2, none⟩ = some (.int .i64 (f : Int)) ∧ w'.cell? ⟨wN.heap.size, 3, none⟩ = some (.bool n1) ∧ w'.cell? ⟨wN.heap.size, 4, none⟩ = some (vz) ∧ w'.cell? ⟨wN.heap.size, 5, none⟩ = some (.int .i64 Ez))
          ((refine ksR1 HRz.out ?_; first | with_reducible assumption | with_reducible exact Below.drew hcc))
          (first
            | (go_at_call 43; (with_reducible refine (spOfBits x _ hX HFI.out).mono ?_); rintro _ w8 ⟨b, rfl, hd1, hb8⟩; have hT1 := hd1.isS; have hb8 := bthen (Below.drew hcc) hb8; rw [← HN.out]; have D1 := Lib.hid hd1; clear hd1)
            | (go_at_call 35; refine (rounds_any _ A n1 b (obM x) (obE x) 53 k _ (HTD.out.below hb8) HA.out D1.out HBL.out (by omega) hkb (by have := HEB.out; omega) (by have := HEB.out; omega)).mono ?_; rintro _ w10 ⟨rfl, hb10⟩; have hb10 := bthen hb8 hb10)))
      | fail
    all_goals
      go_wp2
      go_ret
      exact ⟨rfl, HWY.out.trans (hb10.mono hYs)⟩
  · have t : ((q : Int) == 0) = false := by rw [beq_eq_false_iff_ne]; omega
    have hZD : pD q 53 = q := by unfold pD; rw [if_neg hq0]
    rw [hZD] at hZp hZ2
    clear hq0
    go_enter Tryd.func11, Tryd.ntmps11
    go_wp2_with fail
    with_reducible refine (impSetFloat64 q k x w (by omega) hkb hX HFI.out T0.out).mono ?_
    rintro _ wN ⟨z, rfl, hz, hb1⟩
    obtain ⟨n1, hn1⟩ : ∃ n1, n1 = obN x := ⟨_, rfl⟩
    rw [← hn1] at hz ⊢
    rw [← hn1] at u6
    obtain ⟨A, hA⟩ : ∃ A, A = sbA (pD q 53) k n1 (obM x) := ⟨_, rfl⟩
    rw [← hA]
    rw [sbA_eq] at hA
    have htd := told_fO hz (by rw [hZD]; exact hZp)
    obtain ⟨f, hf⟩ : ∃ f, f = fO (obM x) := ⟨_, rfl⟩
    rw [← hf] at hz
    rw [hZD] at hz hA htd
    have HA := Lib.hid hA
    have HTD0 := Lib.hid htd
    have HN := Lib.hid hn1
    clear hA hf hn1 hZD htd
    obtain ⟨vz, Ez, rfl, hSz⟩ := hz.formW
    obtain ⟨Y, hY⟩ : ∃ Y, Y = wN.alloc (.cells #[.int .u64 (q : Int), .int .i64 (k : Int), .int .i64 (f : Int), .bool n1, vz, .int .i64 Ez] 25) := ⟨_, rfl⟩
    have hbY : Below wN.heap.size wN Y := by rw [hY]; exact fbone _
    have hrz : Y.heap[wN.heap.size]? = some (.cells #[.int .u64 (q : Int), .int .i64 (k : Int), .int .i64 (f : Int), .bool n1, vz, .int .i64 Ez] 25 (0, 0)) := by rw [hY]; exact row_chain11
    have hbX := bthen hb1 hbY
    have HRz := Lib.hid hrz
    have HZ := Lib.hid (hz.below hbY)
    have HWY := Lib.hid (HW.out.trans (hbX.mono hWs))
    have TY := Lib.hid (T0.out.below hbX)
    have hYs := HWY.out.size
    have hcc := Below.refl Y.heap.size Y
    have HTD := Lib.hid (HTD0.out.below hbY)
    clear HTD0 hb1 hbY hrz hbX hz  HW hWs T0 
    go_upto_region 7 with fail
    rw [← hY]
    clear hY
    first
      | (go_region_held3 (fun w' => Below Y.heap.size Y w' ∧ w'.cell? ⟨wN.heap.size, 0, none⟩ = some (.int .u64 (q : Int)) ∧ w'.cell? ⟨wN.heap.size, 1, none⟩ = some (.int .i64 (k : Int)) ∧ w'.cell? ⟨wN.heap.size, 2, none⟩ = some (.int .i64 (f : Int)) ∧ w'.cell? ⟨wN.heap.size, 3, none⟩ = some (.bool n1) ∧ w'.cell? ⟨wN.heap.size, 4, none⟩ = some (vz) ∧ w'.cell? ⟨wN.heap.size, 5, none⟩ = some (.int .i64 Ez))
          ((refine ksR1 HRz.out ?_; first | with_reducible assumption | with_reducible exact Below.drew hcc))
          (first
            | (go_at_call 43; (with_reducible refine (spOfBits x _ hX HFI.out).mono ?_); rintro _ w8 ⟨b, rfl, hd1, hb8⟩; have hT1 := hd1.isS; have hb8 := bthen (Below.drew hcc) hb8; rw [← HN.out]; have D1 := Lib.hid hd1; clear hd1)
            | (go_at_call 35; refine (rounds_any _ A n1 b (obM x) (obE x) q k _ (HTD.out.below hb8) HA.out D1.out HBL.out (by omega) hkb (by have := HEB.out; omega) (by have := HEB.out; omega)).mono ?_; rintro _ w10 ⟨rfl, hb10⟩; have hb10 := bthen hb8 hb10)))
      | fail
    all_goals
      go_wp2
      go_ret
      exact ⟨rfl, HWY.out.trans (hb10.mono hYs)⟩
end Go.Proofs.YtjapoobegjoblaaDoor
