/-
Texts of this proof, joined: FdN. No condition.
-/
import Derived.Test.YtlgnaioodnhkjaaK07
import Derived.Test.YtlgnaioodnhkjaaK14
import Derived.Test.YtlgnaioodnhkjaaK38
/-
The statement on the order of two float64. No condition.
-/
namespace Go.Proofs.Ytlgnaioodnhkjaa
open Go.RowKit

/-- The top word of a value of few bits. -/
theorem top_word' {ws : List Nat} {p Q : Nat} {x u : Int} (hg : Good ws p) (h : deq (wv ws) (x - 64 * (ws.length : Int)) Q u) (hQ : bl Q ≤ 64) :
    x = u + bl Q ∧ wv ws / 2 ^ (64 * (ws.length - 1)) = Q * 2 ^ (64 - bl Q) := by
  have h1 := h.bl hg.posv
  rw [hg.bl] at h1
  have hx : x = u + bl Q := by omega
  refine ⟨hx, ?_⟩
  have hl := hg.1
  have hQ0 := h.pos hg.posv
  obtain ⟨i, j, a1, a2⟩ := h
  have hj : j = (64 * ws.length - bl Q) + i := by omega
  rw [hj, Nat.pow_add, ← Nat.mul_assoc] at a1
  have a3 := Nat.eq_of_mul_eq_mul_right (Nat.two_pow_pos i) a1
  rw [a3, show 64 * ws.length - bl Q = (64 - bl Q) + 64 * (ws.length - 1) by omega, Nat.pow_add, ← Nat.mul_assoc]
  exact Nat.mul_div_cancel _ (Nat.two_pow_pos _)
theorem and_top64' {x : Nat} (hx : x < 18446744073709551616) : bits .and .u64 (x : Int) 9223372036854775807 = ((x % 9223372036854775808 : Nat) : Int) := by
  rw [show (9223372036854775807 : Int) = ((9223372036854775807 : Nat) : Int) from rfl, u64_and_nat x _ hx (by decide), show (9223372036854775807 : Nat) = 2 ^ 63 - 1 from rfl, Nat.and_two_pow_sub_one_eq_mod]
/-- A pattern as a number with its sign. -/
def pvI (x : Nat) : Int := if obN x then -((x % 9223372036854775808 : Nat) : Int) else ((x % 9223372036854775808 : Nat) : Int)
/-- A magnitude is the greater one by its exponent, or by its first word. -/
theorem ob_mono {x y : Nat} (hx : obF x) (hy : obF y) (h0 : 0 < x % 9223372036854775808) (h : x % 9223372036854775808 < y % 9223372036854775808) :
    (bl (obM x) : Int) + obE x < (bl (obM y) : Int) + obE y ∨ ((bl (obM x) : Int) + obE x = (bl (obM y) : Int) + obE y ∧ obM x * 2 ^ (64 - bl (obM x)) < obM y * 2 ^ (64 - bl (obM y))) := by
  unfold obF at hx hy
  obtain ⟨r, hr⟩ : ∃ r, r = x % 9223372036854775808 := ⟨_, rfl⟩
  obtain ⟨s, hs⟩ : ∃ s, s = y % 9223372036854775808 := ⟨_, rfl⟩
  have big : ∀ z : Nat, ¬ z % 9223372036854775808 < 4503599627370496 → bl (obM z) = 53 ∧ obM z = 4503599627370496 + z % 4503599627370496 := fun z hz => by
    have hM : obM z = 4503599627370496 + z % 4503599627370496 := by unfold obM; rw [if_neg hz]
    refine ⟨?_, hM⟩
    rw [hM]; exact bl_of (k := 52) (by omega) (by omega)
  by_cases h1 : x % 9223372036854775808 < 4503599627370496
  · have hM : obM x = x % 9223372036854775808 := by unfold obM; rw [if_pos h1]
    have hb1 : bl (obM x) ≤ 52 := bl_le (show obM x < 2 ^ 52 by omega)
    have hE1 : obE x = -1074 := by unfold obE; omega
    by_cases h2 : y % 9223372036854775808 < 4503599627370496
    · have hM2 : obM y = y % 9223372036854775808 := by unfold obM; rw [if_pos h2]
      have hE2 : obE y = -1074 := by unfold obE; omega
      have hle : bl (obM x) ≤ bl (obM y) := bl_mono (by omega)
      rcases Nat.lt_or_eq_of_le hle with hl | hl
      · exact .inl (by omega)
      · refine .inr ⟨by omega, ?_⟩
        rw [hl]
        exact Nat.mul_lt_mul_of_pos_right (by omega) (Nat.two_pow_pos _)
    · obtain ⟨b2, b3⟩ := big y h2
      refine .inl ?_
      rw [b2, hE1]
      unfold obE
      omega
  · obtain ⟨b1, b1'⟩ := big x h1
    obtain ⟨b2, b2'⟩ := big y (by omega)
    by_cases he : x % 9223372036854775808 / 4503599627370496 < y % 9223372036854775808 / 4503599627370496
    · refine .inl ?_
      rw [b1, b2]
      unfold obE
      omega
    · refine .inr ⟨?_, ?_⟩
      · rw [b1, b2]
        unfold obE
        omega
      · rw [b1, b2]
        refine Nat.mul_lt_mul_of_pos_right ?_ (Nat.two_pow_pos _)
        omega
theorem ucmp_ob {x y : Nat} (hx : obF x) (hy : obF y) (h0 : 0 < x % 9223372036854775808) (h1 : 0 < y % 9223372036854775808) :
    ucmpV ((bl (obM x) : Int) + obE x) ((bl (obM y) : Int) + obE y) [obM x * 2 ^ (64 - bl (obM x))] [obM y * 2 ^ (64 - bl (obM y))] = cmpN (x % 9223372036854775808) (y % 9223372036854775808) := by
  have e : ∀ z, topV [z] 1 = z * 18446744073709551616 := fun z => by simp [topV, wv]
  rcases Nat.lt_trichotomy (x % 9223372036854775808) (y % 9223372036854775808) with h | h | h
  · rw [cmpN_lt h]
    rcases ob_mono hx hy h0 h with k | ⟨k, k2⟩
    · exact ucmpV_lt _ _ k
    · rw [k, ucmpV_eq]
      show cmpN (topV [obM x * 2 ^ (64 - bl (obM x))] 1) (topV [obM y * 2 ^ (64 - bl (obM y))] 1) = _
      rw [e, e, cmpN_mul _ _ (by decide), cmpN_lt k2]
  · have hM : obM x = obM y := by unfold obM; rw [h, show x % 4503599627370496 = y % 4503599627370496 by omega]
    have hE : obE x = obE y := by unfold obE; rw [h]
    rw [hM, hE, h, ucmpV_eq, cmpN_eq]
    exact (cmpN_eq _).symm
  · rw [cmpN_gt h]
    rcases ob_mono hy hx h1 h with k | ⟨k, k2⟩
    · exact ucmpV_gt _ _ k
    · rw [k, ucmpV_eq]
      show cmpN (topV [obM x * 2 ^ (64 - bl (obM x))] 1) (topV [obM y * 2 ^ (64 - bl (obM y))] 1) = _
      rw [e, e, cmpN_mul _ _ (by decide), cmpN_gt k2]
/-- The form of a pattern that is no 'not a number'. -/
theorem obO_of {x : Nat} (hx : x % 9223372036854775808 ≤ 9218868437227405312) : (obO x = 2 ∧ x % 9223372036854775808 = 9218868437227405312) ∨ (obO x = 0 ∧ x % 9223372036854775808 = 0) ∨ (obO x = 1 ∧ obF x ∧ 0 < x % 9223372036854775808) := by
  by_cases h : x % 9223372036854775808 = 9218868437227405312
  · exact .inl ⟨obO_inf h, h⟩
  · have hf : obF x := by unfold obF; omega
    rw [obO_fin hf]
    rcases Nat.eq_zero_or_pos (x % 9223372036854775808) with h0 | h0
    · exact .inr (.inl ⟨by rw [obM_zero h0]; rfl, h0⟩)
    · exact .inr (.inr ⟨if_neg (by have := obM_pos h0; omega), hf, h0⟩)
theorem cmpFV_ob {x y : Nat} {e1 e2 : Int} {xs ys : List Nat} (hx : x % 9223372036854775808 ≤ 9218868437227405312) (hy : y % 9223372036854775808 ≤ 9218868437227405312)
    (h1 : obO x = 1 → e1 = (bl (obM x) : Int) + obE x ∧ xs = [obM x * 2 ^ (64 - bl (obM x))]) (h2 : obO y = 1 → e2 = (bl (obM y) : Int) + obE y ∧ ys = [obM y * 2 ^ (64 - bl (obM y))]) :
    cmpFV (obO x) (obN x) e1 xs (obO y) (obN y) e2 ys = cmpI (pvI x) (pvI y) := by
  by_cases hb : obO x = 1 ∧ obO y = 1
  · obtain ⟨o1, o2⟩ := hb
    obtain ⟨rfl, rfl⟩ := h1 o1
    obtain ⟨rfl, rfl⟩ := h2 o2
    have a1 : obF x ∧ 0 < x % 9223372036854775808 := by rcases obO_of hx with h | h | h <;> first | exact h.2 | omega
    have a2 : obF y ∧ 0 < y % 9223372036854775808 := by rcases obO_of hy with h | h | h <;> first | exact h.2 | omega
    unfold cmpFV
    rw [ucmp_ob a1.1 a2.1 a1.2 a2.2, ucmp_ob a2.1 a1.1 a2.2 a1.2, o1, o2]
    obtain ⟨-, c1⟩ := a1
    obtain ⟨-, c2⟩ := a2
    unfold cmpI pvI ordV cmpN
    generalize x % 9223372036854775808 = r at *
    generalize y % 9223372036854775808 = s at *
    cases obN x <;> cases obN y <;> simp only [if_true, if_false, Bool.false_eq_true] <;> (repeat' split) <;> omega
  · have g1 := obO_of hx
    have g2 := obO_of hy
    unfold obF at g1 g2
    unfold cmpFV cmpI pvI ordV
    generalize x % 9223372036854775808 = r at *
    generalize y % 9223372036854775808 = s at *
    rcases g1 with ⟨o1, r1⟩ | ⟨o1, r1⟩ | ⟨o1, q1, r1⟩ <;> rcases g2 with ⟨o2, r2⟩ | ⟨o2, r2⟩ | ⟨o2, q2, r2⟩
    all_goals
      first
        | (exfalso; apply hb; constructor <;> assumption)
        | (rw [o1, o2]
           cases obN x <;> cases obN y <;> simp only [if_true, if_false, Bool.false_eq_true] <;> (repeat' split) <;> omega)
/-- A finite value of 53 bits has one word. -/
theorem fval_one {w : World} {B b m : Nat} {a : Int} {f : Nat} {n : Bool} {M : Nat} {X : Int} (h : FVal w B b 53 m a f n M X) : ∃ v e xs, FltR w b 53 m a f n v e ∧ (f = 1 → RW w v xs) ∧ xs.length ≤ 1000000000 ∧ (f = 1 → bl M ≤ 64 → e = (bl M : Int) + X ∧ xs = [M * 2 ^ (64 - bl M)]) := by
  obtain ⟨v, e, h1, h2⟩ := h
  by_cases hf : f = 1
  · obtain ⟨hM, ws, ho, hg, hd⟩ := h2 hf
    refine ⟨v, e, ws, h1, fun _ => ho.rw' hg.2.2.1, by have := hg.2.1; omega, fun _ hb => ?_⟩
    obtain ⟨k1, k2⟩ := top_word' hg hd hb
    have hl : ws.length = 1 := by
      obtain ⟨g1, -, -, -, g5⟩ := hg
      rcases g5 with g5 | ⟨-, -, g5⟩
      · omega
      · omega
    rw [hl, Nat.sub_self, Nat.mul_zero, Nat.pow_zero, Nat.div_one] at k2
    obtain ⟨d, rfl⟩ : ∃ d, ws = [d] := by
      match ws, hl with
      | [d], _ => exact ⟨d, rfl⟩
    rw [wv_one] at k2
    exact ⟨by omega, by rw [k2]⟩
  · exact ⟨v, e, [], h1, fun h => absurd h hf, by simp, fun h => absurd h hf⟩
set_option maxRecDepth 100000 in
set_option maxHeartbeats 1600000 in
theorem impCmpBits (x y : Nat) (w : World) (hx : x < 18446744073709551616) (hx2 : x % 9223372036854775808 ≤ 9218868437227405312) (hy : y < 18446744073709551616) (hy2 : y % 9223372036854775808 ≤ 9218868437227405312) :
    Calls Try.prog 12 #[.int .u64 x, .int .u64 y] w fun e' w' => e' = .returned (.int .i64 (cmpI (pvI x) (pvI y))) ∧ Below w.heap.size w w' := by
  have HS1 := Lib.hid (setF64_all x hx hx2)
  have HS2 := Lib.hid (setF64_all y hy hy2)
  have HR : Hid (FltR (w.alloc newF) w.heap.size 0 0 0 0 false (.slice none 0 0) 0) := Lib.hid (newF_row w)
  have HBA : Hid (Below w.heap.size w (w.alloc newF)) := Lib.hid (fbone newF)
  have HC : Hid (∀ (W : World) (B1 B2 b1 b2 : Nat) (a1 a2 : Int), FVal W B1 b1 53 0 a1 (obO x) (obN x) (obM x) (obE x) → FVal W B2 b2 53 0 a2 (obO y) (obN y) (obM y) (obE y) →
      Calls Try.prog 42 #[.pointer (some ⟨b1, 0, none⟩), .pointer (some ⟨b2, 0, none⟩)] W fun e' w' => e' = .returned (.int .i64 (cmpI (pvI x) (pvI y))) ∧ ∃ n, w' = W.drewN n) := Lib.hid (fun W B1 B2 b1 b2 a1 a2 h1 h2 => by
    obtain ⟨v1, e1, xs, r1, q1, l1, s1⟩ := fval_one h1
    obtain ⟨v2, e2, ys, r2, q2, l2, s2⟩ := fval_one h2
    rw [← cmpFV_ob hx2 hy2 (fun h => s1 h (Nat.le_trans (bl_obM x) (by decide))) (fun h => s2 h (Nat.le_trans (bl_obM y) (by decide)))]
    exact cmpF_any b1 b2 53 0 (obO x) 53 0 (obO y) a1 e1 a2 e2 (obN x) (obN y) v1 v2 xs ys W r1 r2 (obO_le x) (obO_le y) q1 q2 l1 l2)
  obtain ⟨C, hC⟩ : ∃ C, C = cmpI (pvI x) (pvI y) := ⟨_, rfl⟩
  rw [← hC] at HC ⊢
  have hCb : -1 ≤ C ∧ C ≤ 1 := by rw [hC]; unfold cmpI; (repeat' split) <;> omega
  clear hC hx2 hy2
  go_enter Try.func12, Try.ntmps12
  go_wp2_with (simp only [f64from])
  refine (HS1.out _ w.heap.size w.heap.size HR.out (Nat.le_refl _)).mono ?_
  rintro _ w1 ⟨rfl, ⟨a1, hv⟩, hb1⟩
  have B1 := Lib.hid (HBA.out.trans hb1)
  have h1s := B1.out.size
  have F1 := Lib.hid hv
  have R2 : Hid (FltR (w1.alloc newF) w1.heap.size 0 0 0 0 false (.slice none 0 0) 0) := Lib.hid (newF_row w1)
  have BA : Hid (Below w1.heap.size w1 (w1.alloc newF)) := Lib.hid (fbone newF)
  clear hv hb1
  go_wp2_with (simp only)
  refine (HS2.out _ w1.heap.size w1.heap.size R2.out (Nat.le_refl _)).mono ?_
  rintro _ w2 ⟨rfl, ⟨a2, hv⟩, hb2⟩
  have hb12 := BA.out.trans hb2
  have F2 := Lib.hid hv
  have F12 := Lib.hid (F1.out.below hb12)
  have B2 := Lib.hid (B1.out.trans (hb12.mono h1s))
  clear hv hb2 hb12
  go_wp2_with fail
  refine (HC.out w2 _ _ _ _ _ _ F12.out F2.out).mono ?_
  rintro _ _ ⟨rfl, n1, rfl⟩
  have B3 := Lib.hid (undrewN' (n := n1) B2.out)
  go_wp2
  go_ret
  exact ⟨rfl, B3.out⟩
set_option maxRecDepth 100000 in
set_option maxHeartbeats 1600000 in
theorem lawCmpBits (a0 a1 : Int) (w : World) (l0 : 0 ≤ a0) (h0 : a0 ≤ 18446744073709551615) (l1 : 0 ≤ a1) (h1 : a1 ≤ 18446744073709551615) :
    Calls Try.prog 3 #[.int .u64 a0, .int .u64 a1] w fun e' w' => e' = .returned (.bool true) ∧ Below w.heap.size w w' := by
  obtain ⟨x, rfl⟩ := Int.eq_ofNat_of_zero_le l0
  obtain ⟨y, rfl⟩ := Int.eq_ofNat_of_zero_le l1
  have hx : x < 18446744073709551616 := by omega
  have hy : y < 18446744073709551616 := by omega
  have u1 := and_top64' hx
  have u2 := and_top64' hy
  have HI := Lib.hid (fun (W : World) h1 h2 => impCmpBits x y W hx h1 hy h2)
  have q1 : (x : Int) / 9223372036854775808 = ((x / 9223372036854775808 : Nat) : Int) := by omega
  have q2 : (y : Int) / 9223372036854775808 = ((y / 9223372036854775808 : Nat) : Int) := by omega
  have p1 : pvI x = if x / 9223372036854775808 = 1 then -((x % 9223372036854775808 : Nat) : Int) else ((x % 9223372036854775808 : Nat) : Int) := by
    unfold pvI obN
    by_cases h : 9223372036854775808 ≤ x
    · rw [decide_eq_true h, if_pos rfl, if_pos (by omega)]
    · rw [decide_eq_false h, if_neg (by decide), if_neg (by omega)]
  have p2 : pvI y = if y / 9223372036854775808 = 1 then -((y % 9223372036854775808 : Nat) : Int) else ((y % 9223372036854775808 : Nat) : Int) := by
    unfold pvI obN
    by_cases h : 9223372036854775808 ≤ y
    · rw [decide_eq_true h, if_pos rfl, if_pos (by omega)]
    · rw [decide_eq_false h, if_neg (by decide), if_neg (by omega)]
  rw [p1, p2] at HI
  obtain ⟨r, hr⟩ : ∃ r, r = x % 9223372036854775808 := ⟨_, rfl⟩
  obtain ⟨s, hs⟩ : ∃ s, s = y % 9223372036854775808 := ⟨_, rfl⟩
  have hrb : r < 9223372036854775808 := by omega
  have hsb : s < 9223372036854775808 := by omega
  obtain ⟨c, hc⟩ : ∃ c, c = x / 9223372036854775808 := ⟨_, rfl⟩
  obtain ⟨d, hd⟩ : ∃ d, d = y / 9223372036854775808 := ⟨_, rfl⟩
  have hcb : c ≤ 1 := by omega
  have hdb : d ≤ 1 := by omega
  rw [← hr] at u1
  rw [← hs] at u2
  rw [← hc] at q1
  rw [← hd] at q2
  rw [← hr, ← hs, ← hc, ← hd] at HI
  have HW := Lib.hid (Below.refl w.heap.size w)
  clear p1 p2 hr hs hc hd l0 l1 h0 h1
  by_cases n1 : 9218868437227405312 < r
  · have t1 : decide (9218868437227405312 < r) = true := decide_eq_true n1
    have t1' : decide ((9218868437227405312 : Int) < (r : Int)) = true := decide_eq_true (by omega)
    clear n1
    go_enter Try.func3, Try.ntmps3
    go_wp2
    go_ret
    exact ⟨rfl, HW.out⟩
  have t1 : decide (9218868437227405312 < r) = false := decide_eq_false n1
  have t1' : decide ((9218868437227405312 : Int) < (r : Int)) = false := decide_eq_false (by omega)
  by_cases n2 : 9218868437227405312 < s
  · have t2 : decide (9218868437227405312 < s) = true := decide_eq_true n2
    have t2' : decide ((9218868437227405312 : Int) < (s : Int)) = true := decide_eq_true (by omega)
    clear n1 n2
    go_enter Try.func3, Try.ntmps3
    go_wp2
    go_ret
    exact ⟨rfl, HW.out⟩
  have t2 : decide (9218868437227405312 < s) = false := decide_eq_false n2
  have t2' : decide ((9218868437227405312 : Int) < (s : Int)) = false := decide_eq_false (by omega)
  have HI2 := Lib.hid (HI.out w (by omega) (by omega))
  clear HI n1 n2
  rcases (by omega : c = 0 ∨ c = 1) with rfl | rfl <;> rcases (by omega : d = 0 ∨ d = 1) with rfl | rfl
  · have HJ := HI2.out
    rw [if_neg (by decide), if_neg (by decide)] at HJ
    obtain ⟨C, hC⟩ : ∃ C, C = cmpI ((r : Int)) ((s : Int)) := ⟨_, rfl⟩
    rw [← hC] at HJ
    have HJ2 := Lib.hid HJ
    clear HJ HI2
    by_cases m1 : (r : Int) < (s : Int)
    · have k1 : decide ((r : Int) < (s : Int)) = true := decide_eq_true m1
      have k3 : ¬ (s : Int) < (r : Int) := by omega
      have k2 : decide ((s : Int) < (r : Int)) = false := decide_eq_false k3
      have kc : (C == -1) = true := by rw [hC]; unfold cmpI; rw [if_pos m1]; rfl
      clear hC
      go_enter Try.func3, Try.ntmps3
      go_wp2_with fail
      refine HJ2.out.mono ?_
      rintro _ w1 ⟨rfl, hb1⟩
      have HB := Lib.hid hb1
      clear hb1
      go_wp2
      go_ret
      exact ⟨rfl, HB.out⟩
    · have k1 : decide ((r : Int) < (s : Int)) = false := decide_eq_false m1
      by_cases m2 : (s : Int) < (r : Int)
      · have k2 : decide ((s : Int) < (r : Int)) = true := decide_eq_true m2
        have kc : (C == 1) = true := by rw [hC]; unfold cmpI; rw [if_neg m1, if_pos m2]; rfl
        clear hC
        go_enter Try.func3, Try.ntmps3
        go_wp2_with fail
        refine HJ2.out.mono ?_
        rintro _ w1 ⟨rfl, hb1⟩
        have HB := Lib.hid hb1
        clear hb1
        go_wp2
        go_ret
        exact ⟨rfl, HB.out⟩
      · have k2 : decide ((s : Int) < (r : Int)) = false := decide_eq_false m2
        have kc : (C == 0) = true := by rw [hC]; unfold cmpI; rw [if_neg m1, if_neg m2]; rfl
        clear hC
        go_enter Try.func3, Try.ntmps3
        go_wp2_with fail
        refine HJ2.out.mono ?_
        rintro _ w1 ⟨rfl, hb1⟩
        have HB := Lib.hid hb1
        clear hb1
        go_wp2
        go_ret
        exact ⟨rfl, HB.out⟩
  · have HJ := HI2.out
    rw [if_neg (by decide), if_pos rfl] at HJ
    obtain ⟨C, hC⟩ : ∃ C, C = cmpI ((r : Int)) (-(s : Int)) := ⟨_, rfl⟩
    rw [← hC] at HJ
    have HJ2 := Lib.hid HJ
    clear HJ HI2
    by_cases m1 : (r : Int) < -(s : Int)
    · have k1 : decide ((r : Int) < -(s : Int)) = true := decide_eq_true m1
      have k3 : ¬ -(s : Int) < (r : Int) := by omega
      have k2 : decide (-(s : Int) < (r : Int)) = false := decide_eq_false k3
      have kc : (C == -1) = true := by rw [hC]; unfold cmpI; rw [if_pos m1]; rfl
      clear hC
      go_enter Try.func3, Try.ntmps3
      go_wp2_with fail
      refine HJ2.out.mono ?_
      rintro _ w1 ⟨rfl, hb1⟩
      have HB := Lib.hid hb1
      clear hb1
      go_wp2
      go_ret
      exact ⟨rfl, HB.out⟩
    · have k1 : decide ((r : Int) < -(s : Int)) = false := decide_eq_false m1
      by_cases m2 : -(s : Int) < (r : Int)
      · have k2 : decide (-(s : Int) < (r : Int)) = true := decide_eq_true m2
        have kc : (C == 1) = true := by rw [hC]; unfold cmpI; rw [if_neg m1, if_pos m2]; rfl
        clear hC
        go_enter Try.func3, Try.ntmps3
        go_wp2_with fail
        refine HJ2.out.mono ?_
        rintro _ w1 ⟨rfl, hb1⟩
        have HB := Lib.hid hb1
        clear hb1
        go_wp2
        go_ret
        exact ⟨rfl, HB.out⟩
      · have k2 : decide (-(s : Int) < (r : Int)) = false := decide_eq_false m2
        have kc : (C == 0) = true := by rw [hC]; unfold cmpI; rw [if_neg m1, if_neg m2]; rfl
        clear hC
        go_enter Try.func3, Try.ntmps3
        go_wp2_with fail
        refine HJ2.out.mono ?_
        rintro _ w1 ⟨rfl, hb1⟩
        have HB := Lib.hid hb1
        clear hb1
        go_wp2
        go_ret
        exact ⟨rfl, HB.out⟩
  · have HJ := HI2.out
    rw [if_pos rfl, if_neg (by decide)] at HJ
    obtain ⟨C, hC⟩ : ∃ C, C = cmpI (-(r : Int)) ((s : Int)) := ⟨_, rfl⟩
    rw [← hC] at HJ
    have HJ2 := Lib.hid HJ
    clear HJ HI2
    by_cases m1 : -(r : Int) < (s : Int)
    · have k1 : decide (-(r : Int) < (s : Int)) = true := decide_eq_true m1
      have k3 : ¬ (s : Int) < -(r : Int) := by omega
      have k2 : decide ((s : Int) < -(r : Int)) = false := decide_eq_false k3
      have kc : (C == -1) = true := by rw [hC]; unfold cmpI; rw [if_pos m1]; rfl
      clear hC
      go_enter Try.func3, Try.ntmps3
      go_wp2_with fail
      refine HJ2.out.mono ?_
      rintro _ w1 ⟨rfl, hb1⟩
      have HB := Lib.hid hb1
      clear hb1
      go_wp2
      go_ret
      exact ⟨rfl, HB.out⟩
    · have k1 : decide (-(r : Int) < (s : Int)) = false := decide_eq_false m1
      by_cases m2 : (s : Int) < -(r : Int)
      · have k2 : decide ((s : Int) < -(r : Int)) = true := decide_eq_true m2
        have kc : (C == 1) = true := by rw [hC]; unfold cmpI; rw [if_neg m1, if_pos m2]; rfl
        clear hC
        go_enter Try.func3, Try.ntmps3
        go_wp2_with fail
        refine HJ2.out.mono ?_
        rintro _ w1 ⟨rfl, hb1⟩
        have HB := Lib.hid hb1
        clear hb1
        go_wp2
        go_ret
        exact ⟨rfl, HB.out⟩
      · have k2 : decide ((s : Int) < -(r : Int)) = false := decide_eq_false m2
        have kc : (C == 0) = true := by rw [hC]; unfold cmpI; rw [if_neg m1, if_neg m2]; rfl
        clear hC
        go_enter Try.func3, Try.ntmps3
        go_wp2_with fail
        refine HJ2.out.mono ?_
        rintro _ w1 ⟨rfl, hb1⟩
        have HB := Lib.hid hb1
        clear hb1
        go_wp2
        go_ret
        exact ⟨rfl, HB.out⟩
  · have HJ := HI2.out
    rw [if_pos rfl, if_pos rfl] at HJ
    obtain ⟨C, hC⟩ : ∃ C, C = cmpI (-(r : Int)) (-(s : Int)) := ⟨_, rfl⟩
    rw [← hC] at HJ
    have HJ2 := Lib.hid HJ
    clear HJ HI2
    by_cases m1 : -(r : Int) < -(s : Int)
    · have k1 : decide (-(r : Int) < -(s : Int)) = true := decide_eq_true m1
      have k3 : ¬ -(s : Int) < -(r : Int) := by omega
      have k2 : decide (-(s : Int) < -(r : Int)) = false := decide_eq_false k3
      have kc : (C == -1) = true := by rw [hC]; unfold cmpI; rw [if_pos m1]; rfl
      clear hC
      go_enter Try.func3, Try.ntmps3
      go_wp2_with fail
      refine HJ2.out.mono ?_
      rintro _ w1 ⟨rfl, hb1⟩
      have HB := Lib.hid hb1
      clear hb1
      go_wp2
      go_ret
      exact ⟨rfl, HB.out⟩
    · have k1 : decide (-(r : Int) < -(s : Int)) = false := decide_eq_false m1
      by_cases m2 : -(s : Int) < -(r : Int)
      · have k2 : decide (-(s : Int) < -(r : Int)) = true := decide_eq_true m2
        have kc : (C == 1) = true := by rw [hC]; unfold cmpI; rw [if_neg m1, if_pos m2]; rfl
        clear hC
        go_enter Try.func3, Try.ntmps3
        go_wp2_with fail
        refine HJ2.out.mono ?_
        rintro _ w1 ⟨rfl, hb1⟩
        have HB := Lib.hid hb1
        clear hb1
        go_wp2
        go_ret
        exact ⟨rfl, HB.out⟩
      · have k2 : decide (-(s : Int) < -(r : Int)) = false := decide_eq_false m2
        have kc : (C == 0) = true := by rw [hC]; unfold cmpI; rw [if_neg m1, if_neg m2]; rfl
        clear hC
        go_enter Try.func3, Try.ntmps3
        go_wp2_with fail
        refine HJ2.out.mono ?_
        rintro _ w1 ⟨rfl, hb1⟩
        have HB := Lib.hid hb1
        clear hb1
        go_wp2
        go_ret
        exact ⟨rfl, HB.out⟩
end Go.Proofs.Ytlgnaioodnhkjaa
