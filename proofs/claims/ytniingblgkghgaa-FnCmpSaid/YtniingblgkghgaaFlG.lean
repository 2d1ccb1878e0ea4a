/-
Floats: Cmp; two numbers of 64 bits are compared as floats. No condition.
-/
import Derived.Test.YtniingblgkghgaaFlF
namespace Go.Proofs.Ytniingblgkghgaa
open Go.RowKit

/-- What Cmp answers. -/
def cmpFV (f1 : Nat) (n1 : Bool) (e1 : Int) (xs : List Nat) (f2 : Nat) (n2 : Bool) (e2 : Int) (ys : List Nat) : Int :=
  if ordV f1 n1 < ordV f2 n2 then -1 else if ordV f2 n2 < ordV f1 n1 then 1 else if ordV f1 n1 = -1 then ucmpV e2 e1 ys xs else if ordV f1 n1 = 1 then ucmpV e1 e2 xs ys else 0
theorem ordV_bd {f : Nat} (neg : Bool) (h : f ≤ 2) : -2 ≤ ordV f neg ∧ ordV f neg ≤ 2 := by unfold ordV; split <;> omega
set_option maxRecDepth 100000 in
set_option maxHeartbeats 1600000 in
theorem cmpF_any (b1 b2 p1 m1 f1 p2 m2 f2 : Nat) (a1 e1 a2 e2 : Int) (n1 n2 : Bool) (v1 v2 : Value) (xs ys : List Nat) (w : World) (h1 : FltR w b1 p1 m1 a1 f1 n1 v1 e1) (h2 : FltR w b2 p2 m2 a2 f2 n2 v2 e2) (hf1 : f1 ≤ 2) (hf2 : f2 ≤ 2) (r1 : f1 = 1 → RW w v1 xs) (r2 : f2 = 1 → RW w v2 ys) (hl1 : xs.length ≤ 1000000000) (hl2 : ys.length ≤ 1000000000) :
    Calls Try.prog 38 #[.pointer (some ⟨b1, 0, none⟩), .pointer (some ⟨b2, 0, none⟩)] w fun e' w' => e' = .returned (.int .i64 (cmpFV f1 n1 e1 xs f2 n2 e2 ys)) ∧ ∃ n, w' = w.drewN n := by
  obtain ⟨o1, ho1⟩ : ∃ o1, o1 = ordV f1 n1 := ⟨_, rfl⟩
  obtain ⟨o2, ho2⟩ : ∃ o2, o2 = ordV f2 n2 := ⟨_, rfl⟩
  have hb1 := ordV_bd n1 hf1
  have hb2 := ordV_bd n2 hf2
  have hd : cmpFV f1 n1 e1 xs f2 n2 e2 ys = if o1 < o2 then -1 else if o2 < o1 then 1 else if o1 = -1 then ucmpV e2 e1 ys xs else if o1 = 1 then ucmpV e1 e2 xs ys else 0 := by rw [ho1, ho2]; rfl
  have hfin : (o1 = -1 ∨ o1 = 1) → f1 = 1 := by rw [ho1]; unfold ordV; split <;> omega
  have hfin2 : (o2 = -1 ∨ o2 = 1) → f2 = 1 := by rw [ho2]; unfold ordV; split <;> omega
  rw [← ho1] at hb1
  rw [← ho2] at hb2
  obtain ⟨hb11, hb12⟩ := hb1
  obtain ⟨hb21, hb22⟩ := hb2
  have HO1 := Lib.hid ho1
  have HO2 := Lib.hid ho2
  have HD := Lib.hid hd
  have H1 := Lib.hid h1
  have H2 := Lib.hid h2
  have R1 := Lib.hid (fun h => r1 (hfin h))
  have R2 := Lib.hid (fun h => r2 (hfin2 h))
  clear h1 h2 r1 r2 hd ho1 ho2 hfin hfin2
  by_cases hlt : o1 < o2
  · have t1 : decide (o1 < o2) = true := decide_eq_true hlt
    have E := Lib.hid (HD.out.trans (if_pos hlt))
    go_enter Try.func38, Try.ntmps38
    go_wp2_with (first | (go_at_call_of 59 (Value.pointer (some ⟨b1, 0, none⟩)); refine (ord_any b1 _ _ _ _ _ _ _ w H1.out hf1).mono ?_; rintro _ _ ⟨rfl, rfl⟩; rw [← HO1.out]) | (go_at_call 59; refine (ord_any b2 _ _ _ _ _ _ _ w H2.out hf2).mono ?_; rintro _ _ ⟨rfl, rfl⟩; rw [← HO2.out]))
    go_ret
    exact ⟨ret_int E.out.symm, 0, rfl⟩
  · have t1 : decide (o1 < o2) = false := decide_eq_false hlt
    by_cases hgt : o2 < o1
    · have t2 : decide (o2 < o1) = true := decide_eq_true hgt
      have E := Lib.hid (HD.out.trans ((if_neg hlt).trans (if_pos hgt)))
      go_enter Try.func38, Try.ntmps38
      go_wp2_with (first | (go_at_call_of 59 (Value.pointer (some ⟨b1, 0, none⟩)); refine (ord_any b1 _ _ _ _ _ _ _ w H1.out hf1).mono ?_; rintro _ _ ⟨rfl, rfl⟩; rw [← HO1.out]) | (go_at_call 59; refine (ord_any b2 _ _ _ _ _ _ _ w H2.out hf2).mono ?_; rintro _ _ ⟨rfl, rfl⟩; rw [← HO2.out]))
      go_ret
      exact ⟨ret_int E.out.symm, 0, rfl⟩
    · obtain rfl : o1 = o2 := by omega
      have t2 : decide (o1 < o1) = false := decide_eq_false (by omega)
      have E := Lib.hid (HD.out.trans ((if_neg hlt).trans (if_neg hgt)))
      clear hlt hgt t1
      rcases (by omega : o1 = -1 ∨ o1 = 1 ∨ o1 = 0 ∨ o1 = 2 ∨ o1 = -2) with rfl | rfl | rfl | rfl | rfl
      · have E1 := E.out
        rw [if_pos rfl] at E1
        have E' := Lib.hid E1
        clear E E1
        go_enter Try.func38, Try.ntmps38
        go_wp2_with (first | (go_at_call_of 59 (Value.pointer (some ⟨b1, 0, none⟩)); refine (ord_any b1 _ _ _ _ _ _ _ w H1.out hf1).mono ?_; rintro _ _ ⟨rfl, rfl⟩; rw [← HO1.out]) | (go_at_call 59; refine (ord_any b2 _ _ _ _ _ _ _ w H2.out hf2).mono ?_; rintro _ _ ⟨rfl, rfl⟩; rw [← HO2.out]))
        refine (ucmp_any b2 b1 _ _ _ _ _ _ _ _ _ _ _ _ _ _ ys xs w H2.out H1.out (R2.out (by simp)) (R1.out (by simp)) hl2 hl1).mono ?_
        rintro _ _ ⟨rfl, nn, rfl⟩
        go_wp2
        go_ret
        exact ⟨ret_int E'.out.symm, nn, rfl⟩
      · have E1 := E.out
        rw [if_neg (by decide), if_pos rfl] at E1
        have E' := Lib.hid E1
        clear E E1
        go_enter Try.func38, Try.ntmps38
        go_wp2_with (first | (go_at_call_of 59 (Value.pointer (some ⟨b1, 0, none⟩)); refine (ord_any b1 _ _ _ _ _ _ _ w H1.out hf1).mono ?_; rintro _ _ ⟨rfl, rfl⟩; rw [← HO1.out]) | (go_at_call 59; refine (ord_any b2 _ _ _ _ _ _ _ w H2.out hf2).mono ?_; rintro _ _ ⟨rfl, rfl⟩; rw [← HO2.out]))
        refine (ucmp_any b1 b2 _ _ _ _ _ _ _ _ _ _ _ _ _ _ xs ys w H1.out H2.out (R1.out (by simp)) (R2.out (by simp)) hl1 hl2).mono ?_
        rintro _ _ ⟨rfl, nn, rfl⟩
        go_wp2
        go_ret
        exact ⟨ret_int E'.out.symm, nn, rfl⟩
      all_goals
        have E1 := E.out
        rw [if_neg (by decide), if_neg (by decide)] at E1
        have E' := Lib.hid E1
        clear E E1
        go_enter Try.func38, Try.ntmps38
        go_wp2_with (first | (go_at_call_of 59 (Value.pointer (some ⟨b1, 0, none⟩)); refine (ord_any b1 _ _ _ _ _ _ _ w H1.out hf1).mono ?_; rintro _ _ ⟨rfl, rfl⟩; rw [← HO1.out]) | (go_at_call 59; refine (ord_any b2 _ _ _ _ _ _ _ w H2.out hf2).mono ?_; rintro _ _ ⟨rfl, rfl⟩; rw [← HO2.out]))
        go_ret
        exact ⟨ret_int E'.out.symm, 0, rfl⟩
/-- The order of two numbers. -/
def cmpI (a b : Int) : Int := if a < b then -1 else if b < a then 1 else 0
theorem cmpN_mul (x y : Nat) {S : Nat} (h : 0 < S) : cmpN (x * S) (y * S) = cmpN x y := by
  rcases Nat.lt_trichotomy x y with h1 | h1 | h1
  · rw [cmpN_lt h1, cmpN_lt (Nat.mul_lt_mul_of_pos_right h1 h)]
  · rw [h1, cmpN_eq, cmpN_eq]
  · rw [cmpN_gt h1, cmpN_gt (Nat.mul_lt_mul_of_pos_right h1 h)]
theorem bl_lt {x y : Nat} (h : bl x < bl y) : x < y := by
  refine Nat.lt_of_not_le fun hc => ?_
  have := bl_mono hc
  omega
/-- One word each: the order of the magnitudes. -/
theorem ucmpV_one (x y : Nat) : ucmpV (bl x : Nat) (bl y : Nat) [x * 2 ^ (64 - bl x)] [y * 2 ^ (64 - bl y)] = cmpN x y := by
  rcases Nat.lt_trichotomy (bl x) (bl y) with h | h | h
  · rw [ucmpV_lt _ _ (by omega), cmpN_lt (bl_lt h)]
  · rw [h, ucmpV_eq]
    have hS : 0 < 2 ^ (64 - bl y) := Nat.pow_pos (by decide)
    have e : ∀ z, topV [z] 1 = z * 18446744073709551616 := fun z => by simp [topV, wv]
    show cmpN (topV [x * 2 ^ (64 - bl y)] 1) (topV [y * 2 ^ (64 - bl y)] 1) = _
    rw [e, e, cmpN_mul _ _ (by decide), cmpN_mul _ _ hS]
  · rw [ucmpV_gt _ _ (by omega), cmpN_gt (bl_lt h)]
theorem cmpFV_int {a b : Int} (ha : a ≠ 0) (hb : b ≠ 0) : cmpFV 1 (decide (a < 0)) (bl a.natAbs : Nat) [a.natAbs * 2 ^ (64 - bl a.natAbs)] 1 (decide (b < 0)) (bl b.natAbs : Nat) [b.natAbs * 2 ^ (64 - bl b.natAbs)] = cmpI a b := by
  unfold cmpFV cmpI ordV
  rw [ucmpV_one, ucmpV_one]
  unfold cmpN
  by_cases h1 : a < 0 <;> by_cases h2 : b < 0 <;> simp only [h1, h2, decide_true, decide_false, if_true, if_false, Bool.false_eq_true] <;> (repeat' split) <;> omega
theorem cmpFV_zl {b : Int} (e : Int) (xs : List Nat) (hb : b ≠ 0) (e2 : Int) (ys : List Nat) : cmpFV 0 false e xs 1 (decide (b < 0)) e2 ys = cmpI 0 b := by
  unfold cmpFV cmpI ordV
  by_cases h2 : b < 0 <;> simp only [h2, decide_true, decide_false, if_true, if_false, Bool.false_eq_true] <;> (repeat' split) <;> omega
theorem cmpFV_zr {a : Int} (e : Int) (xs : List Nat) (ha : a ≠ 0) (e2 : Int) (ys : List Nat) : cmpFV 1 (decide (a < 0)) e xs 0 false e2 ys = cmpI a 0 := by
  unfold cmpFV cmpI ordV
  by_cases h2 : a < 0 <;> simp only [h2, decide_true, decide_false, if_true, if_false, Bool.false_eq_true] <;> (repeat' split) <;> omega
end Go.Proofs.Ytniingblgkghgaa
