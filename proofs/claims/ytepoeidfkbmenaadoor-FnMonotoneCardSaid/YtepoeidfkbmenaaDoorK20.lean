/-
Texts of this proof, joined: FlS FlT FlU FlV SrC SrD SrE SrF TzF TzG LwA. No condition.
-/
import Derived.Test.YtepoeidfkbmenaaDoorK03
import Derived.Test.YtepoeidfkbmenaaDoorK06
import Derived.Test.YtepoeidfkbmenaaDoorK19
/-
The thin package's Cmp, the statements' end. No condition.
-/
namespace Go.Proofs.YtepoeidfkbmenaaDoor
open Go.RowKit

theorem FloatAt.below {w w' : World} {B g p m f M : Nat} {neg : Bool} {e : Int} (h : FloatAt w B g p m f neg M e) (hb : Below w.heap.size w w') : FloatAt w' B g p m f neg M e := by
  obtain ⟨h1, r, x, h2, h3⟩ := h
  exact ⟨h1, r, x, h2.below hb, fun hf => ⟨(h3 hf).1, (h3 hf).2.below hb⟩⟩
/-- The order of two Reals as Cmp reckons it. -/
def cmpRV (f1 : Nat) (n1 : Bool) (M1 : Nat) (e1 : Int) (f2 : Nat) (n2 : Bool) (M2 : Nat) (e2 : Int) : Int :=
  cmpFV f1 n1 ((bl M1 : Nat) + e1) (topN M1) f2 n2 ((bl M2 : Nat) + e2) (topN M2)
theorem cmpFV_eq {f1 f2 : Nat} {n1 n2 : Bool} {x1 x2 y1 y2 : Int} {xs ys xs' ys' : List Nat} (h1 : f1 = 1 → x1 = y1 ∧ xs = xs') (h2 : f2 = 1 → x2 = y2 ∧ ys = ys') (hf1 : f1 ≤ 2) (hf2 : f2 ≤ 2) :
    cmpFV f1 n1 x1 xs f2 n2 x2 ys = cmpFV f1 n1 y1 xs' f2 n2 y2 ys' := by
  by_cases c1 : f1 = 1
  · by_cases c2 : f2 = 1
    · rw [(h1 c1).1, (h2 c2).1, (h1 c1).2, (h2 c2).2]
    · rw [(h1 c1).1, (h1 c1).2]
      have : f2 = 0 ∨ f2 = 2 := by omega
      rcases this with rfl | rfl <;> subst c1 <;> cases n1 <;> cases n2 <;> simp [cmpFV, ordV]
  · have c : f1 = 0 ∨ f1 = 2 := by omega
    have d : f2 = 0 ∨ f2 = 1 ∨ f2 = 2 := by omega
    rcases c with rfl | rfl <;> rcases d with rfl | rfl | rfl <;> cases n1 <;> cases n2 <;> simp [cmpFV, ordV]
theorem topN_lt {M : Nat} : ∀ d ∈ topN M, d < 18446744073709551616 := wdsN_lt
theorem topN_if {f M : Nat} (h : f = 1 → nw M ≤ 1000000) : (if f = 1 then topN M else []).length ≤ 1000000000 := by
  split
  · rename_i hf; rw [topN_length]; have := h hf; omega
  · exact Nat.zero_le _
theorem cmpFat {B1 B2 g1 g2 p1 m1 f1 M1 p2 m2 f2 M2 : Nat} {n1 n2 : Bool} {e1 e2 : Int} (w : World) (h1 : FloatAt w B1 g1 p1 m1 f1 n1 M1 e1) (h2 : FloatAt w B2 g2 p2 m2 f2 n2 M2 e2) (hf1 : f1 ≤ 2) (hf2 : f2 ≤ 2) (hl1 : f1 = 1 → nw M1 ≤ 1000000) (hl2 : f2 = 1 → nw M2 ≤ 1000000) :
    Calls Tryd.prog 66 #[.pointer (some ⟨g1, 0, none⟩), .pointer (some ⟨g2, 0, none⟩)] w fun e' w' => e' = .returned (.int .i64 (cmpRV f1 n1 M1 e1 f2 n2 M2 e2)) ∧ Below w.heap.size w w' := by
  obtain ⟨-, r1, x1, a1, b1⟩ := h1
  obtain ⟨-, r2, x2, a2, b2⟩ := h2
  refine (cmpF_any g1 g2 p1 m1 f1 p2 m2 f2 0 x1 0 x2 n1 n2 r1 r2 (if f1 = 1 then topN M1 else []) (if f2 = 1 then topN M2 else []) w a1 a2 hf1 hf2 (fun h => by rw [if_pos h]; exact (b1 h).2.rw' topN_lt) (fun h => by rw [if_pos h]; exact (b2 h).2.rw' topN_lt) (topN_if hl1) (topN_if hl2)).mono ?_
  rintro _ w' ⟨rfl, n, rfl⟩
  exact ⟨by rw [cmpFV_eq (fun h => ⟨(b1 h).1, if_pos h⟩) (fun h => ⟨(b2 h).1, if_pos h⟩) hf1 hf2]; rfl, undrewN' (Below.refl _ _)⟩
theorem RealOk.form {P E p m f : Nat} {ws : List Nat} {e : Int} (h : RealOk P E p m f ws e) : f ≤ 2 := by
  obtain ⟨_, _, _, h | h | ⟨h, _⟩⟩ := h <;> omega
theorem RealOk.len {P E p m f : Nat} {ws : List Nat} {e : Int} (h : RealOk P E p m f ws e) (hf : f = 1) : ws.length ≤ 1000000 := by
  obtain ⟨_, _, _, h | h | h⟩ := h
  · omega
  · omega
  · exact h.2.2.2.1
theorem ks24 {W X : World} {k l : Nat} {a b c d e f a' b' c' d' e' f' : Value} {T : TypeId} (hr : W.heap[k]? = some (.cells #[a, b, c, d, e, f] T (0, 0))) (hq : W.heap[l]? = some (.cells #[a', b', c', d', e', f'] T (0, 0))) (h : Below W.heap.size W X) :
    Below W.heap.size W X ∧ (X.cell? ⟨k, 0, none⟩ = some a ∧ X.cell? ⟨k, 1, none⟩ = some b ∧ X.cell? ⟨k, 2, none⟩ = some c ∧ X.cell? ⟨k, 3, none⟩ = some d ∧ X.cell? ⟨k, 4, none⟩ = some e ∧ X.cell? ⟨k, 5, none⟩ = some f) ∧
    X.cell? ⟨l, 0, none⟩ = some a' ∧ X.cell? ⟨l, 1, none⟩ = some b' ∧ X.cell? ⟨l, 2, none⟩ = some c' ∧ X.cell? ⟨l, 3, none⟩ = some d' ∧ X.cell? ⟨l, 4, none⟩ = some e' ∧ X.cell? ⟨l, 5, none⟩ = some f' :=
  ⟨h, (ks12 hr h).2, (ks12 hq h).2⟩
set_option maxRecDepth 100000 in
set_option maxHeartbeats 1600000 in
theorem impCmpF (P E p1 m1 f1 p2 m2 f2 : Nat) (n1 n2 : Bool) (v1 v2 : Value) (e1 e2 : Int) (xs ys : List Nat) (w : World) (hv1 : RW w v1 xs) (hv2 : RW w v2 ys) (ho1 : RealOk P E p1 m1 f1 xs e1) (ho2 : RealOk P E p2 m2 f2 ys e2) (hP : P ≤ 64000000) (hE : E ≤ 1000000000) :
    Calls Tryd.prog 42 #[.agg #[.int .u64 p1, .int .i64 m1, .int .i64 f1, .bool n1, v1, .int .i64 e1], .agg #[.int .u64 p2, .int .i64 m2, .int .i64 f2, .bool n2, v2, .int .i64 e2]] w fun e' w' => e' = .returned (.int .i64 (cmpRV f1 n1 (wv xs) e1 f2 n2 (wv ys) e2)) ∧ Below w.heap.size w w' := by
  have hS1 := hv1.isS
  have hS2 := hv2.isS
  have hnw1 : f1 = 1 → nw (wv xs) ≤ 1000000 := fun h => by have := nw_le (wv_lt hv1.lt); have := ho1.len h; omega
  have hnw2 : f2 = 1 → nw (wv ys) ≤ 1000000 := fun h => by have := nw_le (wv_lt hv2.lt); have := ho2.len h; omega
  have hab := (Below.refl w.heap.size w).alloc (Nat.le_refl _) (.cells #[.int .u64 p1, .int .i64 m1, .int .i64 f1, .bool n1, v1, .int .i64 e1] 25)
  have hac := hab.alloc hab.size (.cells #[.int .u64 p2, .int .i64 m2, .int .i64 f2, .bool n2, v2, .int .i64 e2] 25)
  obtain ⟨X, hX⟩ : ∃ X, X = (w.alloc (.cells #[.int .u64 p1, .int .i64 m1, .int .i64 f1, .bool n1, v1, .int .i64 e1] 25)).alloc (.cells #[.int .u64 p2, .int .i64 m2, .int .i64 f2, .bool n2, v2, .int .i64 e2] 25) := ⟨_, rfl⟩
  have hr1 : X.heap[w.heap.size]? = some (.cells #[.int .u64 p1, .int .i64 m1, .int .i64 f1, .bool n1, v1, .int .i64 e1] 25 (0, 0)) := by
    rw [hX]; exact keep_row (fbone _) (box_row (Below.refl _ _))
  have hr2 : X.heap[w.heap.size + 1]? = some (.cells #[.int .u64 p2, .int .i64 m2, .int .i64 f2, .bool n2, v2, .int .i64 e2] 25 (0, 0)) := by
    rw [hX]
    have := box_row (Below.refl _ ((w.alloc (.cells #[.int .u64 p1, .int .i64 m1, .int .i64 f1, .bool n1, v1, .int .i64 e1] 25)).alloc (.cells #[.int .u64 p2, .int .i64 m2, .int .i64 f2, .bool n2, v2, .int .i64 e2] 25)))
    simpa using this
  rw [← hX] at hac
  have V1 := Lib.hid (hv1.below hac)
  have V2 := Lib.hid (hv2.below hac)
  have HO1 := Lib.hid ho1
  have HO2 := Lib.hid ho2
  have HF1 := Lib.hid ho1.form
  have HF2 := Lib.hid ho2.form
  have HN1 := Lib.hid hnw1
  have HN2 := Lib.hid hnw2
  have HR1 := Lib.hid hr1
  have HR2 := Lib.hid hr2
  have hwX := Lib.hid hac
  have hcc := Below.refl X.heap.size X
  have hXs := hac.size
  clear hv1 hv2 ho1 ho2 hab hac hr1 hr2 hnw1 hnw2
  go_enter Tryd.func42, Tryd.ntmps42
  go_upto_region 1 with fail
  rw [← hX]
  clear hX
  first
    | (go_region_held3 (fun w' => Below X.heap.size X w' ∧ (w'.cell? ⟨w.heap.size, 0, none⟩ = some (.int .u64 (p1 : Int)) ∧ w'.cell? ⟨w.heap.size, 1, none⟩ = some (.int .i64 (m1 : Int)) ∧ w'.cell? ⟨w.heap.size, 2, none⟩ = some (.int .i64 (f1 : Int)) ∧ w'.cell? ⟨w.heap.size, 3, none⟩ = some (.bool n1) ∧ w'.cell? ⟨w.heap.size, 4, none⟩ = some v1 ∧ w'.cell? ⟨w.heap.size, 5, none⟩ = some (.int .i64 e1)) ∧ w'.cell? ⟨w.heap.size + 1, 0, none⟩ = some (.int .u64 (p2 : Int)) ∧ w'.cell? ⟨w.heap.size + 1, 1, none⟩ = some (.int .i64 (m2 : Int)) ∧ w'.cell? ⟨w.heap.size + 1, 2, none⟩ = some (.int .i64 (f2 : Int)) ∧ w'.cell? ⟨w.heap.size + 1, 3, none⟩ = some (.bool n2) ∧ w'.cell? ⟨w.heap.size + 1, 4, none⟩ = some v2 ∧ w'.cell? ⟨w.heap.size + 1, 5, none⟩ = some (.int .i64 e2))
        ((refine ks24 HR1.out HR2.out ?_; first | assumption | exact Below.drew hcc))
        (first
          | (go_at_call 43; refine (float_any P E p2 m2 f2 n2 v2 e2 ys _ (V2.out.below hb3) HO2.out hP hE).mono ?_; rintro _ w4 ⟨g2, rfl, hF2, hb4⟩; have G1 := Lib.hid (hF1.below hb4); have G2 := Lib.hid hF2; clear hF1 hF2; have hb4 := bthen hb3 hb4)
          | (go_at_call 43; refine (float_any P E p1 m1 f1 n1 v1 e1 xs _ (V1.out.below (And.left (by assumption))) HO1.out hP hE).mono ?_; rintro _ w3 ⟨g1, rfl, hF1, hb3⟩; have hb3 := bthenL hb3 (by assumption))
          | (go_at_call 66; refine (cmpFat _ G1.out G2.out HF1.out HF2.out HN1.out HN2.out).mono ?_; rintro _ w5 ⟨rfl, hb5⟩; have hb5 := bthen hb4 hb5)))
    | fail
  all_goals
    go_wp2
    go_ret
    exact ⟨rfl, hwX.out.trans (hb5.mono hXs)⟩
def endV (f : Nat) (neg : Bool) : Int := if f = 2 then (if neg then -1 else 1) else 0
end Go.Proofs.YtepoeidfkbmenaaDoor

/-
The reference's dyadic values: Sign, Opposite. No condition.
-/
namespace Go.Proofs.YtepoeidfkbmenaaDoor
open Go.RowKit

/-- The sign of a reference's value. -/
def sgD (neg : Bool) (n : Nat) : Int := if n = 0 then 0 else if neg then -1 else 1
def sI (neg : Bool) (n : Nat) : Int := if neg then -(n : Int) else n
theorem nl0 {n : Nat} : nl n = 0 ↔ n = 0 := ⟨fun h => by rcases Nat.eq_zero_or_pos n with h' | h'; exact h'; have := nl_pos h'; omega, fun h => by rw [h]; rfl⟩
set_option maxRecDepth 100000 in
theorem dSign (neg : Bool) (a : Value) (e : Int) (n : Nat) (w : World) (h : NatV w a n) :
    Calls Tryd.prog 21 #[.agg #[.bool neg, a, .int .i64 e]] w fun e' w' => e' = .returned (.int .i64 (sgD neg n)) ∧ Below w.heap.size w w' := by
  have hS := h.isS
  have hL := h.len
  clear h
  have hab := (Below.refl w.heap.size w).alloc (Nat.le_refl _) (.cells #[.bool neg, a, .int .i64 e] 33)
  obtain ⟨l, hl⟩ : ∃ l, l = nl n := ⟨_, rfl⟩
  rw [← hl] at hL
  by_cases h0 : n = 0
  · have E : Hid (sgD neg n = 0) := Lib.hid (by unfold sgD; rw [if_pos h0])
    have l0 : l = 0 := by rw [hl]; exact nl0.2 h0
    subst l0
    clear h0 hl
    go_enter Tryd.func21, Tryd.ntmps21
    go_wp2
    go_ret
    exact ⟨congrArg (fun z => Ending.returned (.int .i64 z)) E.out.symm, hab⟩
  · have l0 : ¬ l = 0 := by rw [hl]; exact fun h => h0 (nl0.1 h)
    have t1 : ((l : Int) == 0) = false := by rw [beq_eq_false_iff_ne]; omega
    have E : Hid (sgD neg n = if neg then -1 else 1) := Lib.hid (by unfold sgD; rw [if_neg h0])
    clear h0 hl l0
    cases neg
    · go_enter Tryd.func21, Tryd.ntmps21
      go_wp2
      go_ret
      exact ⟨congrArg (fun z => Ending.returned (.int .i64 z)) E.out.symm, hab⟩
    · go_enter Tryd.func21, Tryd.ntmps21
      go_wp2
      go_ret
      exact ⟨congrArg (fun z => Ending.returned (.int .i64 z)) E.out.symm, hab⟩
set_option maxRecDepth 100000 in
set_option maxHeartbeats 800000 in
theorem dOpp (neg : Bool) (a : Value) (e : Int) (w : World) (hS : IsS a) :
    Calls Tryd.prog 40 #[.agg #[.bool neg, a, .int .i64 e]] w fun e' w' => e' = .returned (.agg #[.bool (!neg), a, .int .i64 e]) ∧ Below w.heap.size w w' := by
  have hab := (Below.refl w.heap.size w).alloc (Nat.le_refl _) (.cells #[.bool neg, a, .int .i64 e] 33)
  have hac := hab.alloc hab.size (.cells #[.bool false, .slice none 0 0, .int .i64 0] 33)
  obtain ⟨X, hX⟩ : ∃ X, X = (w.alloc (.cells #[.bool neg, a, .int .i64 e] 33)).alloc (.cells #[.bool false, .slice none 0 0, .int .i64 0] 33) := ⟨_, rfl⟩
  have hr1 : X.heap[w.heap.size]? = some (.cells #[.bool neg, a, .int .i64 e] 33 (0, 0)) := by
    rw [hX]; exact keep_row (fbone _) (box_row (Below.refl _ _))
  have hr2 : X.heap[w.heap.size + 1]? = some (.cells #[.bool false, .slice none 0 0, .int .i64 0] 33 (0, 0)) := by
    rw [hX]
    have := box_row (Below.refl _ ((w.alloc (.cells #[.bool neg, a, .int .i64 e] 33)).alloc (.cells #[.bool false, .slice none 0 0, .int .i64 0] 33)))
    simpa using this
  rw [← hX] at hac
  obtain ⟨x0, x1, x2, -, -, -⟩ := row3 hr1
  obtain ⟨y0, y1, y2, z0, z1, z2⟩ := row3 hr2
  have HR2 := Lib.hid hr2
  have HB := Lib.hid hac
  clear hr1 hr2 hab hac
  go_enter Tryd.func40, Tryd.ntmps40
  go_upto_region 1 with fail
  rw [← hX]
  clear hX
  go_wp2
  obtain ⟨hx0, hx1, hx2, -, -, -⟩ := row3 (row3_set (x := .bool (!neg)) (y := a) (z := .int .i64 e) HR2.out)
  have hbY := bset (i := 2) (u := .int .i64 e) (bset (i := 1) (u := a) (bset (i := 0) (u := .bool (!neg)) HB.out (Nat.le_succ _)) (Nat.le_succ _)) (Nat.le_succ _)
  refine bodyPost_ret (v := .agg #[.bool (!neg), a, .int .i64 e]) ?_ rfl ⟨rfl, hbY⟩
  simp [results, Tryd.results40, go_sem, hx0, hx1, hx2]
end Go.Proofs.YtepoeidfkbmenaaDoor

/-
The order of two Reals: Cmp's answer is the order of the values. Plain law. No condition.
-/
namespace Go.Proofs.YtepoeidfkbmenaaDoor
open Go.RowKit

theorem mul_two_lt {M1 M2 a b : Nat} (h2 : 0 < M2) (h : bl M1 + a < bl M2 + b) : M1 * 2 ^ a < M2 * 2 ^ b := by
  have hp := bl_pos h2
  have k1 : M1 * 2 ^ a < 2 ^ bl M1 * 2 ^ a := Nat.mul_lt_mul_of_pos_right (lt_bl M1) (Nat.two_pow_pos a)
  have k2 : 2 ^ (bl M2 - 1) * 2 ^ b ≤ M2 * 2 ^ b := Nat.mul_le_mul_right _ (bl_ge h2)
  rw [← Nat.pow_add] at k1 k2
  have k3 : 2 ^ (bl M1 + a) ≤ 2 ^ (bl M2 - 1 + b) := Nat.pow_le_pow_right (by decide) (by omega)
  omega
theorem topV_topN {M n : Nat} (h : 0 < M) : topV (topN M) n = M * 2 ^ (64 * nw M - bl M + 64 * n) := by
  unfold topV
  rw [topN_wv h, show (18446744073709551616 : Nat) = 2 ^ 64 from rfl, ← Nat.pow_mul, Nat.mul_assoc, ← Nat.pow_add]
theorem ucmp_real {M1 M2 a b : Nat} {e1 e2 e : Int} (h1 : 0 < M1) (h2 : 0 < M2) (ha : e1 = e + a) (hb : e2 = e + b) :
    ucmpV ((bl M1 : Nat) + e1) ((bl M2 : Nat) + e2) (topN M1) (topN M2) = cmpN (M1 * 2 ^ a) (M2 * 2 ^ b) := by
  subst ha hb
  rcases Nat.lt_trichotomy (bl M1 + a) (bl M2 + b) with h | h | h
  · rw [cmpN_lt (mul_two_lt h2 h)]; unfold ucmpV; rw [if_pos (by omega)]
  · rw [show ((bl M2 : Nat) : Int) + (e + b) = ((bl M1 : Nat) : Int) + (e + a) by omega, ucmpV_eq, topV_topN h1, topV_topN h2, topN_length, topN_length]
    have n1 := nw_bl h1
    have n2 := nw_bl h2
    rw [← cmpN_mul _ _ (Nat.two_pow_pos a), ← cmpN_mul (M1 * 2 ^ a) _ (Nat.two_pow_pos (64 * nw M1 - bl M1 + 64 * nw M2))]
    congr 1
    · rw [Nat.mul_assoc, Nat.mul_assoc, Nat.mul_comm (2 ^ a)]
    · rw [Nat.mul_assoc, Nat.mul_assoc, ← Nat.pow_add, ← Nat.pow_add]
      congr 2
      omega
  · rw [cmpN_gt (mul_two_lt h1 h)]; unfold ucmpV; rw [if_neg (by omega), if_pos (by omega)]
theorem cmpI_nat (x y : Nat) : cmpI (x : Int) (y : Int) = cmpN x y := by
  unfold cmpI cmpN
  simp only [Int.ofNat_lt]
theorem cmpI_neg (x y : Nat) : cmpI (-(x : Int)) (-(y : Int)) = cmpN y x := by
  unfold cmpI cmpN
  by_cases h : x < y
  · rw [if_neg (by omega), if_pos (by omega), if_neg (by omega), if_pos h]
  · by_cases h' : y < x
    · rw [if_pos (by omega), if_pos h']
    · rw [if_neg (by omega), if_neg (by omega), if_neg (by omega), if_neg (by omega)]
theorem cmpI_lt {x y : Int} (h : x < y) : cmpI x y = -1 := if_pos h
theorem cmpI_gt {x y : Int} (h : y < x) : cmpI x y = 1 := by unfold cmpI; rw [if_neg (by omega), if_pos h]
theorem cmpRV_law {f1 f2 M1 M2 a b : Nat} {n1 n2 : Bool} {e1 e2 e : Int} (hf1 : f1 ≤ 1) (hf2 : f2 ≤ 1) (h1 : f1 = 1 → 0 < M1 ∧ e1 = e + a) (h2 : f2 = 1 → 0 < M2 ∧ e2 = e + b) :
    cmpRV f1 n1 M1 e1 f2 n2 M2 e2 = cmpI (if f1 = 1 then sI n1 (M1 * 2 ^ a) else 0) (if f2 = 1 then sI n2 (M2 * 2 ^ b) else 0) := by
  have c1 : f1 = 0 ∨ f1 = 1 := by omega
  have c2 : f2 = 0 ∨ f2 = 1 := by omega
  have pos : ∀ M c : Nat, 0 < M → (0 : Int) < ((M * 2 ^ c : Nat) : Int) := fun M c h => by
    have := Nat.mul_pos h (Nat.two_pow_pos c)
    exact Int.ofNat_lt.2 this
  unfold cmpRV cmpFV
  rcases c1 with rfl | rfl <;> rcases c2 with rfl | rfl
  · cases n1 <;> cases n2 <;> rfl
  · have p := pos M2 b (h2 rfl).1
    cases n1 <;> cases n2 <;> simp only [ordV, sI, if_true, if_false, Bool.false_eq_true, Nat.zero_ne_one] <;>
      first
        | (rw [cmpI_lt (by omega)]; rfl)
        | (rw [cmpI_gt (by omega)]; rfl)
  · have p := pos M1 a (h1 rfl).1
    cases n1 <;> cases n2 <;> simp only [ordV, sI, if_true, if_false, Bool.false_eq_true, Nat.zero_ne_one] <;>
      first
        | (rw [cmpI_lt (by omega)]; rfl)
        | (rw [cmpI_gt (by omega)]; rfl)
  · have p := pos M1 a (h1 rfl).1
    have q := pos M2 b (h2 rfl).1
    have k := ucmp_real (h1 rfl).1 (h2 rfl).1 (h1 rfl).2 (h2 rfl).2
    have k' := ucmp_real (h2 rfl).1 (h1 rfl).1 (h2 rfl).2 (h1 rfl).2
    cases n1 <;> cases n2 <;> simp only [ordV, sI, if_true, if_false, Bool.false_eq_true]
    · rw [cmpI_nat, ← k]; rfl
    · rw [cmpI_gt (by omega)]; rfl
    · rw [cmpI_lt (by omega)]; rfl
    · rw [cmpI_neg, ← k']; rfl
end Go.Proofs.YtepoeidfkbmenaaDoor

/-
The reference's OfReal. No condition.
-/
namespace Go.Proofs.YtepoeidfkbmenaaDoor
open Go.RowKit

theorem natv_dyad {w : World} {k T n : Nat} {a : Bool} {b x y z v : Value} (hb : IsS b) (hv : NatV w v n) (h : w.heap[k]? = some (.cells #[.bool a, b, .int .i64 0] T (0, 0))) :
    NatV (((w.setCell ⟨k, 0, none⟩ x).setCell ⟨k, 1, none⟩ y).setCell ⟨k, 2, none⟩ z) v n := by
  refine ⟨hv.isS, hv.len, fun i hi => ?_⟩
  have hne : sBlk v ≠ k := by
    intro he
    have ht := hv.cell (nl n - 1) (by omega)
    rw [he, cell_of_row w k _ _ _ _ h] at ht
    obtain ⟨b1, b2, b3, rfl⟩ := hb.form
    have hd : dig n (nl n - 1) ≠ 0 := dig_last (Nat.pos_of_ne_zero fun h0 => by rw [h0] at hi; rw [nl_zero] at hi; omega)
    rcases Nat.lt_or_ge (sOff v + (nl n - 1)) 3 with h3 | h3
    · rcases (by omega : sOff v + (nl n - 1) = 0 ∨ sOff v + (nl n - 1) = 1 ∨ sOff v + (nl n - 1) = 2) with e | e | e <;> rw [e] at ht <;> simp at ht
      exact hd (by omega)
    · rw [Array.getElem?_eq_none (by simpa using h3)] at ht; cases ht
  have hh : (((w.setCell ⟨k, 0, none⟩ x).setCell ⟨k, 1, none⟩ y).setCell ⟨k, 2, none⟩ z).heap[sBlk v]? = w.heap[sBlk v]? := by
    rw [heap_setCell_other _ _ _ _ (by simpa using hne), heap_setCell_other _ _ _ _ (by simpa using hne), heap_setCell_other _ _ _ _ (by simpa using hne)]
  exact (World.cell?_of_block hh).trans (hv.cell i hi)
theorem ks6R {X : World} {k t i : Nat} {a b c d e f u : Value} (hk : t ≠ k)
    (h : X.cell? ⟨k, 0, none⟩ = some a ∧ X.cell? ⟨k, 1, none⟩ = some b ∧ X.cell? ⟨k, 2, none⟩ = some c ∧ X.cell? ⟨k, 3, none⟩ = some d ∧ X.cell? ⟨k, 4, none⟩ = some e ∧ X.cell? ⟨k, 5, none⟩ = some f) :
    (X.setCell ⟨t, i, none⟩ u).cell? ⟨k, 0, none⟩ = some a ∧ (X.setCell ⟨t, i, none⟩ u).cell? ⟨k, 1, none⟩ = some b ∧ (X.setCell ⟨t, i, none⟩ u).cell? ⟨k, 2, none⟩ = some c ∧ (X.setCell ⟨t, i, none⟩ u).cell? ⟨k, 3, none⟩ = some d ∧ (X.setCell ⟨t, i, none⟩ u).cell? ⟨k, 4, none⟩ = some e ∧ (X.setCell ⟨t, i, none⟩ u).cell? ⟨k, 5, none⟩ = some f := by
  have hk' : ∀ j, (X.setCell ⟨t, i, none⟩ u).cell? ⟨k, j, none⟩ = X.cell? ⟨k, j, none⟩ := fun j => cell_other (by simpa using hk)
  simp only [hk']; exact h
/-- A dyadic value of the reference. -/
def DyV (w : World) (v : Value) (n : Bool) (x : Nat) (e : Int) : Prop := ∃ a, v = .agg #[.bool n, a, .int .i64 e] ∧ NatV w a x
set_option maxRecDepth 100000 in
set_option maxHeartbeats 800000 in
theorem ofReal_other (p m f : Nat) (e : Int) (neg : Bool) (v : Value) (w : World) (_hS : IsS v) (hf : f ≠ 1) :
    Calls Tryd.prog 16 #[.agg #[.int .u64 p, .int .i64 m, .int .i64 f, .bool neg, v, .int .i64 e]] w fun e' w' => ∃ r, e' = .returned r ∧ DyV w' r false 0 0 ∧ Below w.heap.size w w' := by
  have t1 : ((f : Int) != 1) = true := by rw [bne_iff_ne]; omega
  have hab := (Below.refl w.heap.size w).alloc (Nat.le_refl _) (.cells #[.int .u64 p, .int .i64 m, .int .i64 f, .bool neg, v, .int .i64 e] 25)
  have hac := hab.alloc hab.size (.cells #[.bool false, .slice none 0 0, .int .i64 0] 33)
  obtain ⟨X, hX⟩ : ∃ X, X = (w.alloc (.cells #[.int .u64 p, .int .i64 m, .int .i64 f, .bool neg, v, .int .i64 e] 25)).alloc (.cells #[.bool false, .slice none 0 0, .int .i64 0] 33) := ⟨_, rfl⟩
  have hr1 : X.heap[w.heap.size]? = some (.cells #[.int .u64 p, .int .i64 m, .int .i64 f, .bool neg, v, .int .i64 e] 25 (0, 0)) := by
    rw [hX]; exact keep_row (fbone _) (box_row (Below.refl _ _))
  have hr2 : X.heap[w.heap.size + 1]? = some (.cells #[.bool false, .slice none 0 0, .int .i64 0] 33 (0, 0)) := by
    rw [hX]
    have := box_row (Below.refl _ ((w.alloc (.cells #[.int .u64 p, .int .i64 m, .int .i64 f, .bool neg, v, .int .i64 e] 25)).alloc (.cells #[.bool false, .slice none 0 0, .int .i64 0] 33)))
    simpa using this
  rw [← hX] at hac
  obtain ⟨-, x0, x1, x2, x3, x4, x5⟩ := ks12 hr1 (Below.refl _ _)
  obtain ⟨y0, y1, y2, z0, z1, z2⟩ := row3 hr2
  have HR2 := Lib.hid hr2
  have HB := Lib.hid hac
  clear hr1 hr2 hab hac hf
  go_enter Tryd.func16, Tryd.ntmps16
  go_upto_region 1 with fail
  rw [← hX]
  clear hX
  go_wp2
  obtain ⟨hx0, hx1, hx2, -, -, -⟩ := row3 (row3_set (x := .bool false) (y := .slice none 0 0) (z := .int .i64 0) HR2.out)
  have hbY := bset (i := 2) (u := .int .i64 0) (bset (i := 1) (u := .slice none 0 0) (bset (i := 0) (u := .bool false) HB.out (Nat.le_succ _)) (Nat.le_succ _)) (Nat.le_succ _)
  refine bodyPost_ret (v := .agg #[.bool false, .slice none 0 0, .int .i64 0]) ?_ rfl ⟨_, rfl, ⟨_, rfl, NatV.zero IsS.nil rfl⟩, hbY⟩
  simp [results, Tryd.results16, go_sem, hx0, hx1, hx2]
set_option maxRecDepth 100000 in
set_option maxHeartbeats 1600000 in
theorem ofReal_one (p m : Nat) (e : Int) (neg : Bool) (v : Value) (ws : List Nat) (w : World) (hv : RW w v ws) (hl : ws.length ≤ 1000000) :
    Calls Tryd.prog 16 #[.agg #[.int .u64 p, .int .i64 m, .int .i64 1, .bool neg, v, .int .i64 e]] w fun e' w' => ∃ r, e' = .returned r ∧ DyV w' r neg (wv ws) e ∧ Below w.heap.size w w' := by
  have hS := hv.isS
  have hab := (Below.refl w.heap.size w).alloc (Nat.le_refl _) (.cells #[.int .u64 p, .int .i64 m, .int .i64 1, .bool neg, v, .int .i64 e] 25)
  have hac := hab.alloc hab.size (.cells #[.bool false, .slice none 0 0, .int .i64 0] 33)
  obtain ⟨X, hX⟩ : ∃ X, X = (w.alloc (.cells #[.int .u64 p, .int .i64 m, .int .i64 1, .bool neg, v, .int .i64 e] 25)).alloc (.cells #[.bool false, .slice none 0 0, .int .i64 0] 33) := ⟨_, rfl⟩
  have hr1 : X.heap[w.heap.size]? = some (.cells #[.int .u64 p, .int .i64 m, .int .i64 1, .bool neg, v, .int .i64 e] 25 (0, 0)) := by
    rw [hX]; exact keep_row (fbone _) (box_row (Below.refl _ _))
  have hr2 : X.heap[w.heap.size + 1]? = some (.cells #[.bool false, .slice none 0 0, .int .i64 0] 33 (0, 0)) := by
    rw [hX]
    have := box_row (Below.refl _ ((w.alloc (.cells #[.int .u64 p, .int .i64 m, .int .i64 1, .bool neg, v, .int .i64 e] 25)).alloc (.cells #[.bool false, .slice none 0 0, .int .i64 0] 33)))
    simpa using this
  rw [← hX] at hac
  obtain ⟨-, x0, x1, x2, x3, x4, x5⟩ := ks12 hr1 (Below.refl _ _)
  have HR1 := Lib.hid hr1
  have HR2 := Lib.hid hr2
  have HB := Lib.hid hac
  have HV := Lib.hid (hv.below hac)
  have hcc := Below.refl X.heap.size X
  have hXs := hac.size
  clear hr1 hr2 hab hac hv
  go_enter Tryd.func16, Tryd.ntmps16
  go_upto_region 1 with fail
  rw [← hX]
  clear hX
  go_upto_region 3 with fail
  have hN := Lib.hid (show w.heap.size + 1 ≠ w.heap.size by omega)
  clear x0 x1 x2 x3 x4 x5
  first
    | (go_region_held3 (fun w' => w'.cell? ⟨w.heap.size, 0, none⟩ = some (.int .u64 (p : Int)) ∧ w'.cell? ⟨w.heap.size, 1, none⟩ = some (.int .i64 (m : Int)) ∧ w'.cell? ⟨w.heap.size, 2, none⟩ = some (.int .i64 1) ∧ w'.cell? ⟨w.heap.size, 3, none⟩ = some (.bool neg) ∧ w'.cell? ⟨w.heap.size, 4, none⟩ = some v ∧ w'.cell? ⟨w.heap.size, 5, none⟩ = some (.int .i64 e))
        ((first | (refine (ks12 HR1.out ?_).2; first | assumption | exact Below.drew hcc) | exact ks6R hN.out (ks6R hN.out (ks6R hN.out (ks12 HR1.out (by assumption)).2))))
        (first
          | (go_at_call 25; refine (spOf v ws _ (HV.out.below (Below.drew hcc)) (by omega)).mono ?_; rintro _ w3 ⟨d, rfl, hd, hb3⟩; have hSd := hd.isS; have hb3 : Below X.heap.size X w3 := bthen (Below.drew hcc) hb3; have hvr := keep_row hb3 HR2.out; obtain ⟨hv0, hv1, hv2, hf0, hf1, hf2⟩ := row3 hvr)))
    | fail
  all_goals go_wp2
  all_goals
    obtain ⟨hx0, hx1, hx2, -, -, -⟩ := row3 (row3_set (x := .bool neg) (y := d) (z := .int .i64 e) hvr)
    have hn := natv_dyad (x := .bool neg) (y := d) (z := .int .i64 e) IsS.nil hd hvr
    have hbY := bset (i := 2) (u := .int .i64 e) (bset (i := 1) (u := d) (bset (i := 0) (u := .bool neg) (HB.out.trans (hb3.mono hXs)) (Nat.le_succ _)) (Nat.le_succ _)) (Nat.le_succ _)
    refine bodyPost_ret (v := .agg #[.bool neg, d, .int .i64 e]) ?_ rfl ⟨_, rfl, ⟨_, rfl, hn⟩, hbY⟩
    simp [results, Tryd.results16, go_sem, hx0, hx1, hx2]
end Go.Proofs.YtepoeidfkbmenaaDoor

/-
The reference's Cut and Round. No condition.
-/
namespace Go.Proofs.YtepoeidfkbmenaaDoor
open Go.RowKit

/-- A magnitude by 2 to k, rounded. -/
def ctU (m : Nat) (neg : Bool) (x k : Nat) : Bool := awy neg (decide (x / 2 ^ k % 2 = 1)) (lef (x % 2 ^ k) (2 ^ k) 0) m
def ctQ (m : Nat) (neg : Bool) (x k : Nat) : Nat := x / 2 ^ k + if ctU m neg x k then 1 else 0
def ctA (m : Nat) (neg : Bool) (x k : Nat) : Int := if lef (x % 2 ^ k) (2 ^ k) 0 = 0 then 0 else if ctU m neg x k != neg then 1 else -1
theorem ct_rQ (p m : Nat) (neg : Bool) (M : Nat) : ctQ m neg M (rk p M) = rQ p m neg 0 M := rfl
theorem ct_rA (p m : Nat) (neg : Bool) (M : Nat) : ctA m neg M (rk p M) = rA p m neg 0 M := rfl
theorem lef_le (R D s : Nat) : lef R D s ≤ 3 := by unfold lef; repeat' split
                                                   all_goals omega
theorem nl_succ (x : Nat) : nl (x + 1) ≤ nl x + 1 := nl_le (by have := lt_nl x; rw [Nat.pow_succ]; omega)
set_option maxRecDepth 100000 in
set_option maxHeartbeats 1600000 in
theorem spCut_pos (neg : Bool) (a : Value) (x k m : Nat) (w : World) (ha : NatV w a x) (hx : nl x ≤ 10000000) (hk0 : 0 < k) (hk : k ≤ 160000000) (hm : m ≤ 5) :
    Calls Tryd.prog 23 #[.bool neg, a, .int .i64 k, .int .i64 m] w fun e w' => ∃ r, e = .returned (.tuple #[r, .int .i64 (ctA m neg x k)]) ∧ NPost (ctQ m neg x k) w r w' := by
  have hSa := ha.isS
  have Hs := Lib.hid (spSplit a x k w ha (by omega) (by omega))
  have hq : nl (x / 2 ^ k) ≤ 100000000 := Nat.le_trans (nl_mono (Nat.div_le_self x _)) (by omega)
  have t0 : decide ((k : Int) ≤ 0) = false := decide_eq_false (by omega)
  have hl3 := lef_le (x % 2 ^ k) (2 ^ k) 0
  obtain ⟨U, hU⟩ : ∃ U, U = ctU m neg x k := ⟨_, rfl⟩
  obtain ⟨l, hl⟩ : ∃ l, l = lef (x % 2 ^ k) (2 ^ k) 0 := ⟨_, rfl⟩
  obtain ⟨q, hqq⟩ : ∃ q, q = x / 2 ^ k := ⟨_, rfl⟩
  have hU2 : U = awy neg (decide (q / 2 ^ 0 % 2 = 1)) l m := by rw [hU, hl, hqq, Nat.pow_zero, Nat.div_one]; rfl
  have HA : Hid (ctA m neg x k = if l = 0 then 0 else if U != neg then 1 else -1) := Lib.hid (by rw [hU, hl]; rfl)
  have HQ : Hid (ctQ m neg x k = q + if U then 1 else 0) := Lib.hid (by rw [hU, hqq]; rfl)
  rw [← hl, ← hqq] at Hs
  rw [← hl] at hl3
  rw [← hqq] at hq
  have HU := Lib.hid hU2
  have HL := Lib.hid hl
  have HUU := Lib.hid hU
  clear hU hU2 hl hqq ha
  go_enter Tryd.func23, Tryd.ntmps23
  go_wp2_with fail
  refine Hs.out.mono ?_
  rintro _ w1 ⟨r1, rfl, hn1, hb1⟩
  have hS1 := hn1.isS
  have HN := Lib.hid hn1
  have HB := Lib.hid hb1
  clear hn1 hb1
  by_cases hl0 : l = 0
  · have t1 : ((l : Int) == 0) = true := by rw [hl0]; rfl
    have HL0 := Lib.hid hl0
    clear hl0
    go_wp2
    go_ret2
    have hu : U = false := by rw [HU.out, HL0.out]; exact awy_zero _ _ _
    refine ⟨r1, ?_, ?_, HB.out⟩
    · rw [HA.out, if_pos HL0.out]; rfl
    · rw [HQ.out, hu]; exact HN.out
  · have t1 : ((l : Int) == 0) = false := by rw [beq_eq_false_iff_ne]; omega
    have HL0 := Lib.hid hl0
    clear hl0
    have hq2 : nl q ≤ 1000000000 := by omega
    have hH := spHas r1 q 0 w1 HN.out hq2 (by omega)
    rw [show ((0 : Nat) : Int) = 0 from rfl] at hH
    have HH := Lib.hid hH
    clear hH
    go_wp2_with fail
    refine HH.out.mono ?_
    rintro _ _ ⟨rfl, rfl⟩
    obtain ⟨od, hod⟩ : ∃ o, o = decide (q / 2 ^ 0 % 2 = 1) := ⟨_, rfl⟩
    have hU3 := HU.out
    rw [← hod] at hU3 ⊢
    have HU3 := Lib.hid hU3
    clear hod hU3
    go_wp2_with fail
    refine (spAway neg od l m w1 hl3 hm).mono ?_
    rintro _ _ ⟨rfl, rfl⟩
    rw [← HU3.out]
    cases U with
    | false =>
      cases neg with
      | false =>
        go_wp2
        go_ret2
        refine ⟨r1, ?_, ?_, HB.out⟩
        · rw [HA.out, if_neg HL0.out]; rfl
        · rw [HQ.out]; exact HN.out
      | true =>
        go_wp2
        go_ret2
        refine ⟨r1, ?_, ?_, HB.out⟩
        · rw [HA.out, if_neg HL0.out]; rfl
        · rw [HQ.out]; exact HN.out
    | true =>
      have hSm := spSmall 1 w1 (by decide)
      rw [show ((1 : Nat) : Int) = 1 from rfl] at hSm
      have HSm := Lib.hid hSm
      clear hSm
      go_wp2_with fail
      refine HSm.out.mono ?_
      rintro _ w2 ⟨r2, rfl, hn2, hb2⟩
      have hS2 := hn2.isS
      have HN2 := Lib.hid hn2
      have HN12 := Lib.hid (HN.out.below hb2)
      have HB2 := Lib.hid (bthen HB.out hb2)
      clear hn2 hb2
      go_wp2_with fail
      refine (spAdd r1 r2 q 1 w2 HN12.out HN2.out hq2 (by decide)).mono ?_
      rintro _ w3 ⟨r3, rfl, hn3, hb3⟩
      have hS3 := hn3.isS
      have HN3 := Lib.hid hn3
      have HB3 := Lib.hid (bthen HB2.out hb3)
      clear hn3 hb3
      cases neg with
      | false =>
        go_wp2
        go_ret2
        refine ⟨r3, ?_, ?_, HB3.out⟩
        · rw [HA.out, if_neg HL0.out]; rfl
        · rw [HQ.out]; exact HN3.out
      | true =>
        go_wp2
        go_ret2
        refine ⟨r3, ?_, ?_, HB3.out⟩
        · rw [HA.out, if_neg HL0.out]; rfl
        · rw [HQ.out]; exact HN3.out
set_option maxRecDepth 100000 in
theorem spCut_neg (neg : Bool) (a : Value) (x k : Nat) (n m : Int) (w : World) (ha : NatV w a x) (hx : nl x ≤ 10000000) (hn : n = -(k : Int)) (hk : k ≤ 160000000) :
    Calls Tryd.prog 23 #[.bool neg, a, .int .i64 n, .int .i64 m] w fun e w' => ∃ r, e = .returned (.tuple #[r, .int .i64 0]) ∧ NPost (x * 2 ^ k) w r w' := by
  have hSa := ha.isS
  have t0 : decide (n ≤ 0) = true := decide_eq_true (by omega)
  have e1 : -n = (k : Int) := by omega
  have g1 : -160000000 ≤ n := by omega
  have g2 : n ≤ 0 := by omega
  have HS := Lib.hid (spShl a x k w ha (by omega) (by omega))
  clear hn ha
  go_enter Tryd.func23, Tryd.ntmps23
  go_wp2_with fail
  refine HS.out.mono ?_
  rintro _ w1 ⟨r1, rfl, hn1, hb1⟩
  have hS1 := hn1.isS
  have HN := Lib.hid hn1
  have HB := Lib.hid hb1
  clear hn1 hb1
  go_wp2
  go_ret2
  exact ⟨r1, rfl, HN.out, HB.out⟩
end Go.Proofs.YtepoeidfkbmenaaDoor

/-
The reference's Round. No condition.
-/
namespace Go.Proofs.YtepoeidfkbmenaaDoor
open Go.RowKit

theorem ctQ_zero (m : Nat) (neg : Bool) (x : Nat) : ctQ m neg x 0 = x ∧ ctA m neg x 0 = 0 := by
  have h : lef (x % 2 ^ 0) (2 ^ 0) 0 = 0 := by rw [Nat.pow_zero, Nat.mod_one]; exact lef_exact _
  refine ⟨?_, by unfold ctA; rw [if_pos h]⟩
  unfold ctQ ctU; rw [h, awy_zero]; simp
theorem spCut_any (neg : Bool) (a : Value) (x k m : Nat) (w : World) (ha : NatV w a x) (hx : nl x ≤ 10000000) (hk : k ≤ 160000000) (hm : m ≤ 5) :
    Calls Tryd.prog 23 #[.bool neg, a, .int .i64 k, .int .i64 m] w fun e w' => ∃ r, e = .returned (.tuple #[r, .int .i64 (ctA m neg x k)]) ∧ NPost (ctQ m neg x k) w r w' := by
  rcases Nat.eq_zero_or_pos k with rfl | h
  · rw [(ctQ_zero m neg x).1, (ctQ_zero m neg x).2]
    have := spCut_neg neg a x 0 ((0 : Nat) : Int) (m : Int) w ha hx rfl (by decide)
    rw [Nat.pow_zero, Nat.mul_one] at this
    exact this
  · exact spCut_pos neg a x k m w ha hx h hk hm
set_option maxRecDepth 100000 in
set_option maxHeartbeats 1600000 in
theorem spRound (neg : Bool) (a : Value) (e : Int) (x p m : Nat) (w : World) (ha : NatV w a x) (hx : bl x ≤ 10000000) (hp : p ≤ 100000000) (hm : m ≤ 5) (he1 : -4000000000 ≤ e) (he2 : e ≤ 4000000000) :
    Calls Tryd.prog 36 #[.agg #[.bool neg, a, .int .i64 e], .int .i64 p, .int .i64 m] w fun e' w' => ∃ r, e' = .returned (.tuple #[.agg #[.bool neg, r, .int .i64 (e + (rk p x : Nat))], .int .i64 (rA p m neg 0 x)]) ∧ NPost (rQ p m neg 0 x) w r w' := by
  have hSa := ha.isS
  have hnl : nl x ≤ 10000000 := nl_bl (by omega)
  have hab := (Below.refl w.heap.size w).alloc (Nat.le_refl _) (.cells #[.bool neg, a, .int .i64 e] 33)
  have hac := hab.alloc hab.size (.cells #[.bool false, .slice none 0 0, .int .i64 0] 33)
  obtain ⟨X, hX⟩ : ∃ X, X = (w.alloc (.cells #[.bool neg, a, .int .i64 e] 33)).alloc (.cells #[.bool false, .slice none 0 0, .int .i64 0] 33) := ⟨_, rfl⟩
  have hr1 : X.heap[w.heap.size]? = some (.cells #[.bool neg, a, .int .i64 e] 33 (0, 0)) := by
    rw [hX]; exact keep_row (fbone _) (box_row (Below.refl _ _))
  have hr2 : X.heap[w.heap.size + 1]? = some (.cells #[.bool false, .slice none 0 0, .int .i64 0] 33 (0, 0)) := by
    rw [hX]
    have := box_row (Below.refl _ ((w.alloc (.cells #[.bool neg, a, .int .i64 e] 33)).alloc (.cells #[.bool false, .slice none 0 0, .int .i64 0] 33)))
    simpa using this
  rw [← hX] at hac
  obtain ⟨x0, x1, x2, -, -, -⟩ := row3 hr1
  have HR1 := Lib.hid hr1
  have HR2 := Lib.hid hr2
  have HN := Lib.hid (ha.below hac)
  have HB := Lib.hid hac
  have hXs := hac.size
  obtain ⟨l, hl⟩ : ∃ l, l = bl x := ⟨_, rfl⟩
  obtain ⟨k, hk⟩ : ∃ k, k = rk p x := ⟨_, rfl⟩
  have emax : max (0 : Int) ((l : Int) - (p : Int)) = (k : Int) := by rw [hk, hl]; unfold rk; omega
  have hkl : k ≤ 10000000 := by rw [hk]; unfold rk; omega
  have hll : l ≤ 10000000 := by omega
  have HL := Lib.hid hl
  have HK := Lib.hid hk
  have hx9 : nl x ≤ 1000000000 := by omega
  rw [← hk]
  clear hr1 hr2 hab hac ha hl hk hx
  go_enter Tryd.func36, Tryd.ntmps36
  go_upto_region 1 with fail
  rw [← hX]
  clear hX
  go_wp2_with fail
  refine (spLen a x X HN.out hx9).mono ?_
  rintro _ _ ⟨rfl, rfl⟩
  rw [← HL.out]
  go_wp2_with fail
  refine (spCut_any neg a x k m X HN.out hnl (by omega) hm).mono ?_
  rintro _ w1 ⟨r1, rfl, hn1, hb1⟩
  have hS1 := hn1.isS
  have hr1 := keep_row hb1 HR1.out
  have hr2 := keep_row hb1 HR2.out
  have HN1 := Lib.hid hn1
  have HB1 := Lib.hid (HB.out.trans (hb1.mono hXs))
  have HQ2 := Lib.hid hr2
  obtain ⟨y0, y1, y2, -, -, -⟩ := row3 hr1
  obtain ⟨z0, z1, z2, g0, g1, g2⟩ := row3 hr2
  clear x0 x1 x2 hn1 hb1 hr1 hr2 HR1 HR2 HB
  obtain ⟨A, hA⟩ : ∃ A, A = ctA m neg x k := ⟨_, rfl⟩
  rw [← hA]
  have HA := Lib.hid hA
  clear hA
  obtain ⟨E, hE⟩ : ∃ E, E = e + (k : Int) := ⟨_, rfl⟩
  have HE := Lib.hid hE
  have hE2 : e + (k : Int) = E := hE.symm
  have hEb : -4000000000 ≤ E ∧ E ≤ 4010000000 := by omega
  clear hE
  go_wp2
  obtain ⟨hx0, hx1, hx2, -, -, -⟩ := row3 (row3_set (x := .bool neg) (y := r1) (z := .int .i64 E) HQ2.out)
  have hn := natv_dyad (x := .bool neg) (y := r1) (z := .int .i64 E) IsS.nil HN1.out HQ2.out
  have hbY := bset (i := 2) (u := .int .i64 E) (bset (i := 1) (u := r1) (bset (i := 0) (u := .bool neg) HB1.out (Nat.le_succ _)) (Nat.le_succ _)) (Nat.le_succ _)
  refine bodyPost_ret (v := .tuple #[.agg #[.bool neg, r1, .int .i64 E], .int .i64 A]) ?_ rfl ⟨r1, ?_, ?_⟩
  · simp [results, Tryd.results36, go_sem, hx0, hx1, hx2]
  · rw [HA.out, HE.out, HK.out]; rfl
  · rw [HK.out] at hn
    exact ⟨hn, hbY⟩
end Go.Proofs.YtepoeidfkbmenaaDoor

/-
The reference's IsReal, where it is true; the statements' rounds. No condition.
-/
namespace Go.Proofs.YtepoeidfkbmenaaDoor
open Go.RowKit

/-- What is told of a value with a precision and a mode. -/
def Told (w : World) (z : Value) (p m : Nat) (n : Bool) (x : Nat) (e : Int) : Prop :=
  ∃ (f : Nat) (ng : Bool) (v : Value) (E : Int) (zs : List Nat), z = .agg #[.int .u64 p, .int .i64 m, .int .i64 f, .bool ng, v, .int .i64 E] ∧ RW w v zs ∧
    (x = 0 → f = 0 ∧ zs = [] ∧ E = 0) ∧ (x ≠ 0 → f = 1 ∧ ng = n ∧ zs = wds (od x) ∧ E = e + (tz x : Nat))
theorem ks18 {W X : World} {k l : Nat} {a b c d e f a' b' c' : Value} {T T' : TypeId} (hr : W.heap[k]? = some (.cells #[a, b, c, d, e, f] T (0, 0))) (hq : W.heap[l]? = some (.cells #[a', b', c'] T' (0, 0))) (h : Below W.heap.size W X) :
    (X.cell? ⟨k, 0, none⟩ = some a ∧ X.cell? ⟨k, 1, none⟩ = some b ∧ X.cell? ⟨k, 2, none⟩ = some c ∧ X.cell? ⟨k, 3, none⟩ = some d ∧ X.cell? ⟨k, 4, none⟩ = some e ∧ X.cell? ⟨k, 5, none⟩ = some f) ∧
    X.cell? ⟨l, 0, none⟩ = some a' ∧ X.cell? ⟨l, 1, none⟩ = some b' ∧ X.cell? ⟨l, 2, none⟩ = some c' :=
  ⟨(ks12 hr h).2, (row_at (keep_row h hq) rfl).1, (row_at (keep_row h hq) rfl).1, (row_at (keep_row h hq) rfl).1⟩
set_option maxRecDepth 100000 in
set_option maxHeartbeats 1600000 in
theorem spIsReal (z : Value) (p m : Nat) (n : Bool) (a : Value) (x : Nat) (e : Int) (w : World) (hz : Told w z p m n x e) (ha : NatV w a x) (hx : bl x ≤ 10000000) (he1 : -4100000000 ≤ e) (he2 : e ≤ 4100000000) :
    Calls Tryd.prog 60 #[z, .int .u64 p, .int .i64 m, .agg #[.bool n, a, .int .i64 e]] w fun e' w' => e' = .returned (.bool true) ∧ Below w.heap.size w w' := by
  obtain ⟨f, ng, v, E, zs, rfl, hv, h0, h1⟩ := hz
  have hSv := hv.isS
  have hSa := ha.isS
  have hLv := hv.len
  have hLa := ha.len
  have hnl : nl x ≤ 10000000 := nl_bl (by omega)
  have hab := (Below.refl w.heap.size w).alloc (Nat.le_refl _) (.cells #[.int .u64 p, .int .i64 m, .int .i64 f, .bool ng, v, .int .i64 E] 25)
  have hac := hab.alloc hab.size (.cells #[.bool n, a, .int .i64 e] 33)
  obtain ⟨X, hX⟩ : ∃ X, X = (w.alloc (.cells #[.int .u64 p, .int .i64 m, .int .i64 f, .bool ng, v, .int .i64 E] 25)).alloc (.cells #[.bool n, a, .int .i64 e] 33) := ⟨_, rfl⟩
  have hr1 : X.heap[w.heap.size]? = some (.cells #[.int .u64 p, .int .i64 m, .int .i64 f, .bool ng, v, .int .i64 E] 25 (0, 0)) := by
    rw [hX]; exact keep_row (fbone _) (box_row (Below.refl _ _))
  have hr2 : X.heap[w.heap.size + 1]? = some (.cells #[.bool n, a, .int .i64 e] 33 (0, 0)) := by
    rw [hX]
    have := box_row (Below.refl _ ((w.alloc (.cells #[.int .u64 p, .int .i64 m, .int .i64 f, .bool ng, v, .int .i64 E] 25)).alloc (.cells #[.bool n, a, .int .i64 e] 33)))
    simpa using this
  rw [← hX] at hac
  obtain ⟨⟨x0, x1, x2, x3, x4, x5⟩, y0, y1, y2⟩ := ks18 hr1 hr2 (Below.refl _ _)
  have HR1 := Lib.hid hr1
  have HR2 := Lib.hid hr2
  have HV := Lib.hid (hv.below hac)
  have HA := Lib.hid (ha.below hac)
  have HB := Lib.hid hac
  have hXs := hac.size
  clear hr1 hr2 hab hac hv ha
  by_cases hx0 : x = 0
  · obtain ⟨hf, hzs, hE⟩ := h0 hx0
    have hl0 : nl x = 0 := by rw [hx0]; rfl
    rw [hl0] at hLa
    have q1 : ((f : Int) == 0) = true := by rw [hf]; rfl
    have q2 : (E == 0) = true := by rw [hE]; rfl
    rw [hzs] at hLv
    have hLv' : sLen v = 0 := hLv
    clear h0 h1 hx0 hl0 hx hnl hf hzs hE hLv
    go_enter Tryd.func60, Tryd.ntmps60
    go_upto_region 1 with fail
    rw [← hX]
    clear hX
    go_wp2
    go_ret
    exact ⟨rfl, HB.out⟩
  · obtain ⟨hf, rfl, hzs, hE⟩ := h1 hx0
    have q1 : ((f : Int) == 1) = true := by rw [hf]; rfl
    have hxp : 0 < x := by omega
    have hnp := nl_pos hxp
    have t0 : ((nl x : Int) == 0) = false := by rw [beq_eq_false_iff_ne]; omega
    have htl := tz_le hxp
    obtain ⟨t, ht⟩ : ∃ t, t = tz x := ⟨_, rfl⟩
    obtain ⟨L, hL⟩ : ∃ L, L = nl x := ⟨_, rfl⟩
    have HT := Lib.hid ht
    rw [← ht] at hE htl
    have htb : t ≤ 10000000 := by omega
    have hE2 : e + (t : Int) = E := hE.symm
    have HZ := Lib.hid hzs
    rw [← hL] at hLa hnl hnp t0
    have HLN := Lib.hid hL
    have hod : nl (od x) ≤ 100000000 := by
      have : od x ≤ x := by rw [od]; exact Nat.div_le_self _ _
      have := nl_mono this; omega
    have HOW : Hid (nw (od x) ≤ 100000000) := Lib.hid (by rw [nw_bl (od_pos hxp)]; have := bl_od hxp; omega)
    clear h0 h1 hx0 hE ht hL hzs hf
    go_enter Tryd.func60, Tryd.ntmps60
    go_upto_region 1 with fail
    rw [← hX]
    clear hX
    go_wp2_with fail
    refine (spOdd a x X HA.out (by rw [← HLN.out]; omega) hxp).mono ?_
    rintro _ w1 ⟨r1, rfl, hn1, hb1⟩
    rw [← HT.out]
    have hS1 := hn1.isS
    have HN1 := Lib.hid hn1
    have HB1 := Lib.hid (HB.out.trans (hb1.mono hXs))
    have HV1 := Lib.hid (HV.out.below hb1)
    clear x0 x1 x2 x3 x4 x5 y0 y1 y2
    obtain ⟨⟨x0, x1, x2, x3, x4, x5⟩, y0, y1, y2⟩ := ks18 HR1.out HR2.out hb1
    have hKeep := Lib.hid hb1
    clear hn1 hb1
    go_wp2_with fail
    refine (spHasWords v r1 zs (od x) w1 HV1.out HN1.out (by rw [HZ.out, wds_length]; have := HOW.out; omega) (by omega)).mono ?_
    rintro _ w2 ⟨rfl, hb2⟩
    rw [show decide (zs = wds (od x)) = true from decide_eq_true HZ.out]
    have HB2 := Lib.hid (HB1.out.trans (hb2.mono (Nat.le_trans hXs hKeep.out.size)))
    clear x0 x1 x2 x3 x4 x5 y0 y1 y2
    obtain ⟨⟨x0, x1, x2, x3, x4, x5⟩, y0, y1, y2⟩ := ks18 HR1.out HR2.out (bthen hKeep.out hb2)
    clear hb2
    go_wp2
    go_ret
    exact ⟨rfl, HB2.out⟩
end Go.Proofs.YtepoeidfkbmenaaDoor

/-
The statements' rounds, where it is true. No condition.
-/
namespace Go.Proofs.YtepoeidfkbmenaaDoor
open Go.RowKit

theorem Told.below {w w' : World} {z : Value} {p m x : Nat} {n : Bool} {e : Int} (h : Told w z p m n x e) (hb : Below w.heap.size w w') : Told w' z p m n x e := by
  obtain ⟨f, ng, v, E, zs, h1, h2, h3, h4⟩ := h
  exact ⟨f, ng, v, E, zs, h1, h2.below hb, h3, h4⟩
theorem Told.form {w : World} {z : Value} {p m x : Nat} {n : Bool} {e : Int} (h : Told w z p m n x e) : ∃ (f : Nat) (ng : Bool) (v : Value) (E : Int), z = .agg #[.int .u64 p, .int .i64 m, .int .i64 f, .bool ng, v, .int .i64 E] ∧ IsS v := by
  obtain ⟨f, ng, v, E, zs, h1, h2, -, -⟩ := h
  exact ⟨f, ng, v, E, h1, h2.isS⟩
theorem rk_le (p x : Nat) : rk p x ≤ bl x := by unfold rk; omega
theorem bl_rQ (p m : Nat) (neg : Bool) (s x : Nat) : bl (rQ p m neg s x) ≤ bl x + 1 := by
  refine bl_le ?_
  have h1 := lt_bl x
  have h2 : rQ p m neg s x ≤ x + 1 := by unfold rQ; have := Nat.div_le_self x (2 ^ rk p x); split <;> omega
  rw [Nat.pow_succ]
  have := Nat.two_pow_pos (bl x)
  omega
set_option maxRecDepth 100000 in
set_option maxHeartbeats 1600000 in
theorem rounds_any (z : Value) (acc : Int) (n : Bool) (a : Value) (x : Nat) (e : Int) (p m : Nat) (w : World) (hz : Told w z p m n (rQ p m n 0 x) (e + (rk p x : Nat))) (hacc : acc = rA p m n 0 x) (ha : NatV w a x)
    (hx : bl x ≤ 9000000) (hp : p ≤ 10000000) (hm : m ≤ 5) (he1 : -4000000000 ≤ e) (he2 : e ≤ 4000000000) :
    Calls Tryd.prog 34 #[z, .int .i64 acc, .agg #[.bool n, a, .int .i64 e], .int .u64 p, .int .i64 m] w fun e' w' => e' = .returned (.bool true) ∧ Below w.heap.size w w' := by
  obtain ⟨f, ng, v, E, rfl, hSv⟩ := hz.form
  have hSa := ha.isS
  have hab := (Below.refl w.heap.size w).alloc (Nat.le_refl _) (.cells #[.int .u64 p, .int .i64 m, .int .i64 f, .bool ng, v, .int .i64 E] 25)
  have hac := hab.alloc hab.size (.cells #[.bool n, a, .int .i64 e] 33)
  obtain ⟨X, hX⟩ : ∃ X, X = (w.alloc (.cells #[.int .u64 p, .int .i64 m, .int .i64 f, .bool ng, v, .int .i64 E] 25)).alloc (.cells #[.bool n, a, .int .i64 e] 33) := ⟨_, rfl⟩
  have hr1 : X.heap[w.heap.size]? = some (.cells #[.int .u64 p, .int .i64 m, .int .i64 f, .bool ng, v, .int .i64 E] 25 (0, 0)) := by
    rw [hX]; exact keep_row (fbone _) (box_row (Below.refl _ _))
  have hr2 : X.heap[w.heap.size + 1]? = some (.cells #[.bool n, a, .int .i64 e] 33 (0, 0)) := by
    rw [hX]
    have := box_row (Below.refl _ ((w.alloc (.cells #[.int .u64 p, .int .i64 m, .int .i64 f, .bool ng, v, .int .i64 E] 25)).alloc (.cells #[.bool n, a, .int .i64 e] 33)))
    simpa using this
  rw [← hX] at hac
  obtain ⟨⟨x0, x1, x2, x3, x4, x5⟩, y0, y1, y2⟩ := ks18 hr1 hr2 (Below.refl _ _)
  have HR1 := Lib.hid hr1
  have HZ := Lib.hid (hz.below hac)
  have HA := Lib.hid (ha.below hac)
  have HB := Lib.hid hac
  have hXs := hac.size
  have HACC := Lib.hid hacc
  have hk := rk_le p x
  have hbq := bl_rQ p m n 0 x
  have HBX := Lib.hid hx
  obtain ⟨k, hkk⟩ : ∃ k, k = rk p x := ⟨_, rfl⟩
  rw [← hkk] at hk HZ
  have hkl : k ≤ 9000000 := by omega
  have hqb : bl (rQ p m n 0 x) ≤ 10000000 := by omega
  have HK := Lib.hid hkk
  clear hr1 hr2 hab hac hz ha hacc hk hbq hkk hx
  go_enter Tryd.func34, Tryd.ntmps34
  go_upto_region 1 with fail
  rw [← hX]
  clear hX
  go_wp2_with fail
  refine (spRound n a e x p m X HA.out (by have := HBX.out; omega) (by omega) hm he1 he2).mono ?_
  rintro _ w1 ⟨r, rfl, hn1, hb1⟩
  rw [← HK.out]
  have hS1 := hn1.isS
  have HN1 := Lib.hid hn1
  have HX1 := Lib.hid hb1
  have HB1 := Lib.hid (HB.out.trans (hb1.mono hXs))
  have hXs1 := hb1.size
  clear x0 x1 x2 x3 x4 x5 y0 y1 y2 hn1 hb1
  obtain ⟨A, hA⟩ : ∃ A, A = rA p m n 0 x := ⟨_, rfl⟩
  rw [← hA]
  have q1 : (acc == A) = true := by rw [HACC.out, hA]; exact beq_self_eq_true _
  obtain ⟨F, hF⟩ : ∃ F, F = e + (k : Int) := ⟨_, rfl⟩
  have HF := Lib.hid hF
  rw [← hF]
  have hFb : -4000000000 ≤ F ∧ F ≤ 4009000000 := by omega
  clear hA hF
  obtain ⟨w2, hw2⟩ : ∃ w2, w2 = w1.alloc (.cells #[.bool n, r, .int .i64 F] 33) := ⟨_, rfl⟩
  have hrow2 : w2.heap[w1.heap.size]? = some (.cells #[.bool n, r, .int .i64 F] 33 (0, 0)) := by rw [hw2]; exact box_row (Below.refl _ _)
  have hB2 : Below w1.heap.size w1 w2 := by
    rw [hw2]
    exact (Below.refl w1.heap.size w1).alloc (Nat.le_refl _) _
  have hN2 : NatV w2 r (rQ p m n 0 x) := HN1.out.below hB2
  have HZ2 := Lib.hid ((HZ.out.below HX1.out).below hB2)
  obtain ⟨v0, v1, v2, -, -, -⟩ := row3 hrow2
  obtain ⟨-, x0, x1, x2, x3, x4, x5⟩ := ks12 HR1.out (bthen HX1.out hB2)
  have HN2 := Lib.hid hN2
  have HBB := Lib.hid (HB1.out.trans (hB2.mono (Nat.le_trans hXs hXs1)))
  clear hrow2 hB2 hN2
  go_upto_region 2 with fail
  rw [← hw2]
  clear hw2
  go_wp2_with fail
  refine (spIsReal (.agg #[.int .u64 p, .int .i64 m, .int .i64 f, .bool ng, v, .int .i64 E]) p m n r (rQ p m n 0 x) F w2 (by rw [HF.out]; exact HZ2.out) HN2.out hqb (by omega) (by omega)).mono ?_
  rintro _ w3 ⟨rfl, hb3⟩
  have HB3 := Lib.hid (HBB.out.trans (hb3.mono HBB.out.size))
  clear hb3
  go_wp2
  go_ret
  exact ⟨rfl, HB3.out⟩
end Go.Proofs.YtepoeidfkbmenaaDoor

/-
The thin package's both and MinPrec. No condition.
-/
namespace Go.Proofs.YtepoeidfkbmenaaDoor
open Go.RowKit

theorem RealV.below {w w' : World} {z : Value} {p m f M : Nat} {neg : Bool} {X : Int} (h : RealV w z p m f neg M X) (hb : Below w.heap.size w w') : RealV w' z p m f neg M X := by
  obtain ⟨v, E, zs, B, h1, h2, hd, h3, h4⟩ := h
  exact ⟨v, E, zs, B, h1, h2.below hb, hd, h3, h4⟩
theorem RealV.told {w : World} {z : Value} {p m M x : Nat} {neg : Bool} {X e : Int} (h : RealV w z p m 1 neg M X) (hM : 0 < M) (hq : deq M X x e) : Told w z p m neg x e := by
  obtain ⟨v, E, zs, B, h1, h2', hd, -, h4⟩ := h
  have h2 := h2'.rw' hd
  obtain ⟨h5, h6⟩ := h4 rfl
  have hx := hq.pos hM
  obtain ⟨k1, k2⟩ := hq.od hM
  exact ⟨1, neg, v, E, zs, h1, h2, fun h => by omega, fun _ => ⟨rfl, rfl, by rw [h5, k1], by rw [h6, k2]⟩⟩
theorem RealV.told0 {w : World} {z : Value} {p m M : Nat} {neg n : Bool} {X e : Int} (h : RealV w z p m 0 neg M X) : Told w z p m n 0 e := by
  obtain ⟨v, E, zs, B, h1, h2', hd, h3, -⟩ := h
  have h2 := h2'.rw' hd
  obtain ⟨h5, h6⟩ := h3 (by decide)
  exact ⟨0, neg, v, E, zs, h1, h2, fun _ => ⟨rfl, h5, h6⟩, fun h => absurd rfl h⟩
theorem FVal.form {w : World} {B b p m f M : Nat} {a : Int} {neg : Bool} {X : Int} (h : FVal w B b p m a f neg M X) : ∃ v e, FltR w b p m a f neg v e := by
  obtain ⟨v, e, h, -⟩ := h; exact ⟨v, e, h⟩
/-- real of a Float's value. -/
theorem implReal (B b p m f : Nat) (a : Int) (neg : Bool) (M : Nat) (X : Int) (w : World) (h : FVal w B b p m a f neg M X) (hf : f ≤ 2) (hp : p ≤ 64000000) (hm : m ≤ 255) (hp0 : f = 1 → 0 < p) (hX : f = 1 → -900000000 ≤ X ∧ X + bl M ≤ 900000000) (hT : TabW w) :
    Calls Tryd.prog 81 #[.pointer (some ⟨b, 0, none⟩)] w fun e' w' => ∃ z, e' = .returned z ∧ RealV w' z p m f neg M X ∧ Below w.heap.size w w' := by
  obtain ⟨v, e, h1, h2⟩ := h
  by_cases h3 : f = 1
  · subst h3
    obtain ⟨hM, ws, ho, hg, hq⟩ := h2 rfl
    have h0 := hq.symm.pos hM
    have hb := hq.bl h0
    rw [hg.bl] at hb
    have := hX rfl
    exact real_one b p m a e neg v ws w h1 ho hg (hp0 rfl) hp hm M X hM hq (by omega) (by omega) hT
  · exact real_other b p m f a e neg v w h1 (by omega) hp hm M X
set_option maxRecDepth 100000 in
set_option maxHeartbeats 1600000 in
theorem implBoth (B b p m f : Nat) (a : Int) (neg : Bool) (M : Nat) (X : Int) (w : World) (h : FVal w B b p m a f neg M X) (hf : f ≤ 2) (hp : p ≤ 64000000) (hm : m ≤ 255) (hp0 : f = 1 → 0 < p) (hX : f = 1 → -900000000 ≤ X ∧ X + bl M ≤ 900000000) (hT : TabW w) (ha : -1 ≤ a ∧ a ≤ 1) :
    Calls Tryd.prog 56 #[.pointer (some ⟨b, 0, none⟩)] w fun e' w' => ∃ z, e' = .returned (.tuple #[z, .int .i64 a]) ∧ RealV w' z p m f neg M X ∧ Below w.heap.size w w' := by
  have hab := (Below.refl w.heap.size w).alloc (Nat.le_refl _) (.cells #[.int .u64 0, .int .i64 0, .int .i64 0, .bool false, .slice none 0 0, .int .i64 0] 25)
  obtain ⟨Y, hY⟩ : ∃ Y, Y = w.alloc (.cells #[.int .u64 0, .int .i64 0, .int .i64 0, .bool false, .slice none 0 0, .int .i64 0] 25) := ⟨_, rfl⟩
  have hr1 : Y.heap[w.heap.size]? = some (.cells #[.int .u64 0, .int .i64 0, .int .i64 0, .bool false, .slice none 0 0, .int .i64 0] 25 (0, 0)) := by rw [hY]; exact box_row (Below.refl _ _)
  rw [← hY] at hab
  have HF := Lib.hid (h.below hab)
  have HR := Lib.hid (implReal B b p m f a neg M X Y (h.below hab) hf hp hm hp0 hX (hT.below hab))
  have HR1 := Lib.hid hr1
  have HAB := Lib.hid hab
  clear h hr1 hT hX hab hp0
  go_enter Tryd.func56, Tryd.ntmps56
  go_upto_region 1 with fail
  rw [← hY]
  clear hY
  go_wp2_with fail
  refine HR.out.mono ?_
  rintro _ w1 ⟨z, rfl, hz, hb1⟩
  obtain ⟨v, e, hv⟩ := (HF.out.below hb1).form
  have HV := Lib.hid hv
  have q1 := keep_row hb1 HR1.out
  have B1 := Lib.hid (HAB.out.trans (hb1.mono HAB.out.size))
  obtain ⟨v', E, zs, Bz, rfl, h2, hd, h3, h4⟩ := hz
  have hSv := h2.isS
  have H2 := Lib.hid h2
  have H34 := Lib.hid (And.intro hd (And.intro h3 h4))
  have HQ1 := Lib.hid q1
  obtain ⟨⟨x0, x1, x2, x3, x4, x5⟩, g0, g1, g2, g3, g4, g5⟩ := row6 q1
  clear hv hb1 q1 h2 h3 h4 hd
  go_wp2_with fail
  refine (fAcc HV.out).mono ?_
  rintro _ _ ⟨rfl, rfl⟩
  go_wp2_with fail
  have HS := row6_set (x := .int .u64 (p : Int)) (y := .int .i64 (m : Int)) (z := .int .i64 (f : Int)) (x' := .bool neg) (y' := v') (z' := .int .i64 E) HQ1.out
  have HB := bset6 (x := .int .u64 (p : Int)) (y := .int .i64 (m : Int)) (z := .int .i64 (f : Int)) (x' := .bool neg) (y' := v') (z' := .int .i64 E) B1.out (Nat.le_refl _)
  obtain ⟨⟨a0, a1, a2, a3, a4, a5⟩, -⟩ := row6 HS
  refine bodyPost_ret (v := .tuple #[.agg #[.int .u64 p, .int .i64 m, .int .i64 f, .bool neg, v', .int .i64 E], .int .i64 a]) ?_ rfl ⟨_, rfl, ⟨_, _, _, Bz, rfl, ?_, H34.out.1, H34.out.2⟩, HB⟩
  · simp [results, Tryd.results56, go_sem, a0, a1, a2, a3, a4, a5]
  · exact H2.out.same fun hc => by
      have hne : sBlk v' ≠ w.heap.size := H2.out.ne_row HQ1.out (by decide) hc
      exact heap6_other hne
end Go.Proofs.YtepoeidfkbmenaaDoor

/-
The thin package's MinPrec; the statement on it. No condition.
-/
namespace Go.Proofs.YtepoeidfkbmenaaDoor
open Go.RowKit

set_option maxRecDepth 100000 in
theorem minPrec_other (b p m f : Nat) (a e : Int) (neg : Bool) (v : Value) (w : World) (h : FltR w b p m a f neg v e) (hf : f ≠ 1) :
    Calls Tryd.prog 71 #[.pointer (some ⟨b, 0, none⟩)] w fun e' w' => e' = .returned (.int .u64 0) ∧ w = w' := by
  obtain ⟨c0, c1, c2, c3, c4, c5, c6⟩ := h.cells
  have t : ((f : Int) != 1) = true := by rw [bne_iff_ne]; omega
  clear h hf
  go_enter Tryd.func71, Tryd.ntmps71
  go_wp2
  go_ret
  exact ⟨rfl, rfl⟩
def mpV (f M : Nat) : Nat := if f = 1 then bl (od M) else 0
theorem minPrec_val (B b p m f : Nat) (a : Int) (neg : Bool) (M : Nat) (X : Int) (w : World) (h : FVal w B b p m a f neg M X) (hT : TabW w) :
    Calls Tryd.prog 71 #[.pointer (some ⟨b, 0, none⟩)] w fun e' w' => e' = .returned (.int .u64 (mpV f M : Nat)) ∧ Below w.heap.size w w' := by
  obtain ⟨v, e, h1, h2⟩ := h
  by_cases h3 : f = 1
  · subst h3
    obtain ⟨hM, ws, ho, hg, hq⟩ := h2 rfl
    have h0 := hq.symm.pos hM
    refine (minPrec_one b p m a e neg v ws w h1 (ho.rw' hg.2.2.1) h0 hg.2.1 hg.bl hT).mono ?_
    rintro _ w' ⟨rfl, n, rfl⟩
    rw [(hq.od h0).1]
    exact ⟨by rw [mpV, if_pos rfl], undrewN' (Below.refl _ _)⟩
  · refine (minPrec_other b p m f a e neg v w h1 h3).mono ?_
    rintro _ _ ⟨rfl, rfl⟩
    exact ⟨by rw [mpV, if_neg h3]; rfl, Below.refl _ _⟩
/-- impl.float's value. -/
theorem float_val (P E p m f : Nat) (neg : Bool) (v : Value) (e : Int) (ws : List Nat) (w : World) (hv : RW w v ws) (ho : RealOk P E p m f ws e) (hP : P ≤ 64000000) (hE : E ≤ 1000000000) :
    Calls Tryd.prog 43 #[.agg #[.int .u64 p, .int .i64 m, .int .i64 f, .bool neg, v, .int .i64 e]] w fun e' w' => ∃ g, e' = .returned (.pointer (some ⟨g, 0, none⟩)) ∧ (w.heap.size ≤ g ∧ FVal w' w.heap.size g p m 0 f neg (wv ws) e) ∧ Below w.heap.size w w' := by
  refine (float_any P E p m f neg v e ws w hv ho hP hE).mono ?_
  rintro _ w' ⟨g, rfl, hF, hb⟩
  refine ⟨g, rfl, ⟨hF.1, hF.val fun hf => ?_⟩, hb⟩
  subst hf
  obtain ⟨-, -, -, h | h | h⟩ := ho
  · exact absurd h (by decide)
  · exact absurd h (by decide)
  · exact ⟨h.2.1, h.2.2.1, by have := nw_le (wv_lt hv.lt); have := h.2.2.2.1; omega⟩
end Go.Proofs.YtepoeidfkbmenaaDoor

/-
Rows of reals in a world, for the statements' walks. No condition.
-/
namespace Go.Proofs.YtepoeidfkbmenaaDoor
open Go.RowKit

theorem row_chain11 {w : World} {a : Array Value} {A : TypeId} : (w.alloc (.cells a A)).heap[w.heap.size]? = some (.cells a A (0, 0)) := box_row (Below.refl _ _)
theorem row_chain21 {w : World} {a b : Array Value} {A B : TypeId} : ((w.alloc (.cells a A)).alloc (.cells b B)).heap[w.heap.size]? = some (.cells a A (0, 0)) := keep_row (fbone _) row_chain11
theorem row_chain22 {w : World} {a b : Array Value} {A B : TypeId} : ((w.alloc (.cells a A)).alloc (.cells b B)).heap[w.heap.size + 1]? = some (.cells b B (0, 0)) := by
  have := row_chain11 (w := w.alloc (.cells a A)) (a := b) (A := B)
  simpa using this
theorem row_chain31 {w : World} {a b c : Array Value} {A B C : TypeId} : (((w.alloc (.cells a A)).alloc (.cells b B)).alloc (.cells c C)).heap[w.heap.size]? = some (.cells a A (0, 0)) := keep_row (fbone _) row_chain21
theorem row_chain32 {w : World} {a b c : Array Value} {A B C : TypeId} : (((w.alloc (.cells a A)).alloc (.cells b B)).alloc (.cells c C)).heap[w.heap.size + 1]? = some (.cells b B (0, 0)) := keep_row (fbone _) row_chain22
theorem row_chain33 {w : World} {a b c : Array Value} {A B C : TypeId} : (((w.alloc (.cells a A)).alloc (.cells b B)).alloc (.cells c C)).heap[w.heap.size + 2]? = some (.cells c C (0, 0)) := by
  have := row_chain11 (w := (w.alloc (.cells a A)).alloc (.cells b B)) (a := c) (A := C)
  simpa using this
section
variable {W X : World} {i j k l : Nat} {a b c d e f a' b' c' d' e' f' a'' b'' c'' d'' e'' f'' x y z : Value} {T T' T'' U : TypeId}
theorem ksR1 (hr : W.heap[i]? = some (.cells #[a, b, c, d, e, f] T (0, 0))) (h : Below W.heap.size W X) :
    Below W.heap.size W X ∧ X.cell? ⟨i, 0, none⟩ = some a ∧ X.cell? ⟨i, 1, none⟩ = some b ∧ X.cell? ⟨i, 2, none⟩ = some c ∧ X.cell? ⟨i, 3, none⟩ = some d ∧ X.cell? ⟨i, 4, none⟩ = some e ∧ X.cell? ⟨i, 5, none⟩ = some f := ks12 hr h
theorem ksR2 (hr : W.heap[i]? = some (.cells #[a, b, c, d, e, f] T (0, 0))) (hq : W.heap[j]? = some (.cells #[a', b', c', d', e', f'] T' (0, 0))) (h : Below W.heap.size W X) :
    Below W.heap.size W X ∧ (X.cell? ⟨i, 0, none⟩ = some a ∧ X.cell? ⟨i, 1, none⟩ = some b ∧ X.cell? ⟨i, 2, none⟩ = some c ∧ X.cell? ⟨i, 3, none⟩ = some d ∧ X.cell? ⟨i, 4, none⟩ = some e ∧ X.cell? ⟨i, 5, none⟩ = some f) ∧
    (X.cell? ⟨j, 0, none⟩ = some a' ∧ X.cell? ⟨j, 1, none⟩ = some b' ∧ X.cell? ⟨j, 2, none⟩ = some c' ∧ X.cell? ⟨j, 3, none⟩ = some d' ∧ X.cell? ⟨j, 4, none⟩ = some e' ∧ X.cell? ⟨j, 5, none⟩ = some f') :=
  ⟨h, (ks12 hr h).2, (ks12 hq h).2⟩
theorem ksR3 (hr : W.heap[i]? = some (.cells #[a, b, c, d, e, f] T (0, 0))) (hq : W.heap[j]? = some (.cells #[a', b', c', d', e', f'] T' (0, 0))) (hs : W.heap[k]? = some (.cells #[a'', b'', c'', d'', e'', f''] T'' (0, 0))) (h : Below W.heap.size W X) :
    Below W.heap.size W X ∧ (X.cell? ⟨i, 0, none⟩ = some a ∧ X.cell? ⟨i, 1, none⟩ = some b ∧ X.cell? ⟨i, 2, none⟩ = some c ∧ X.cell? ⟨i, 3, none⟩ = some d ∧ X.cell? ⟨i, 4, none⟩ = some e ∧ X.cell? ⟨i, 5, none⟩ = some f) ∧
    (X.cell? ⟨j, 0, none⟩ = some a' ∧ X.cell? ⟨j, 1, none⟩ = some b' ∧ X.cell? ⟨j, 2, none⟩ = some c' ∧ X.cell? ⟨j, 3, none⟩ = some d' ∧ X.cell? ⟨j, 4, none⟩ = some e' ∧ X.cell? ⟨j, 5, none⟩ = some f') ∧
    (X.cell? ⟨k, 0, none⟩ = some a'' ∧ X.cell? ⟨k, 1, none⟩ = some b'' ∧ X.cell? ⟨k, 2, none⟩ = some c'' ∧ X.cell? ⟨k, 3, none⟩ = some d'' ∧ X.cell? ⟨k, 4, none⟩ = some e'' ∧ X.cell? ⟨k, 5, none⟩ = some f'') :=
  ⟨h, (ks12 hr h).2, (ks12 hq h).2, (ks12 hs h).2⟩
end
end Go.Proofs.YtepoeidfkbmenaaDoor
