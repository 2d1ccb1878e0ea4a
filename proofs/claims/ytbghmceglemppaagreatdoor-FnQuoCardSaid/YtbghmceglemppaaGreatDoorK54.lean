/-
Texts of this proof, joined: FlT FlU FlV LwA AsA AsE. No condition.
-/
import Derived.Test.YtbghmceglemppaaGreatDoorK13
import Derived.Test.YtbghmceglemppaaGreatDoorK41
import Derived.Test.YtbghmceglemppaaGreatDoorK52
import Derived.Test.YtbghmceglemppaaGreatDoorK53
/-
The reference's dyadic values: Sign, Opposite. No condition.
-/
namespace Go.Proofs.YtbghmceglemppaaGreatDoor
open Go.RowKit

/-- The sign of a reference's value. -/
def sgD (neg : Bool) (n : Nat) : Int := if n = 0 then 0 else if neg then -1 else 1
def sI (neg : Bool) (n : Nat) : Int := if neg then -(n : Int) else n
theorem nl0 {n : Nat} : nl n = 0 ↔ n = 0 := ⟨fun h => by rcases Nat.eq_zero_or_pos n with h' | h'; exact h'; have := nl_pos h'; omega, fun h => by rw [h]; rfl⟩
set_option maxRecDepth 100000 in
theorem dSign (neg : Bool) (a : Value) (e : Int) (n : Nat) (w : World) (h : NatV w a n) :
    Calls Tryz.prog 60 #[.agg #[.bool neg, a, .int .i64 e]] w fun e' w' => e' = .returned (.int .i64 (sgD neg n)) ∧ Below w.heap.size w w' := by
  have hS := h.isS
  have hL := h.len
  clear h
  have hab := (Below.refl w.heap.size w).alloc (Nat.le_refl _) (.cells #[.bool neg, a, .int .i64 e] 30)
  obtain ⟨l, hl⟩ : ∃ l, l = nl n := ⟨_, rfl⟩
  rw [← hl] at hL
  by_cases h0 : n = 0
  · have E : Hid (sgD neg n = 0) := Lib.hid (by unfold sgD; rw [if_pos h0])
    have l0 : l = 0 := by rw [hl]; exact nl0.2 h0
    subst l0
    clear h0 hl
    go_enter Tryz.func60, Tryz.ntmps60
    go_wp2
    go_ret
    exact ⟨congrArg (fun z => Ending.returned (.int .i64 z)) E.out.symm, hab⟩
  · have l0 : ¬ l = 0 := by rw [hl]; exact fun h => h0 (nl0.1 h)
    have t1 : ((l : Int) == 0) = false := by rw [beq_eq_false_iff_ne]; omega
    have E : Hid (sgD neg n = if neg then -1 else 1) := Lib.hid (by unfold sgD; rw [if_neg h0])
    clear h0 hl l0
    cases neg
    · go_enter Tryz.func60, Tryz.ntmps60
      go_wp2
      go_ret
      exact ⟨congrArg (fun z => Ending.returned (.int .i64 z)) E.out.symm, hab⟩
    · go_enter Tryz.func60, Tryz.ntmps60
      go_wp2
      go_ret
      exact ⟨congrArg (fun z => Ending.returned (.int .i64 z)) E.out.symm, hab⟩
set_option maxRecDepth 100000 in
set_option maxHeartbeats 800000 in
theorem dOpp (neg : Bool) (a : Value) (e : Int) (w : World) (hS : IsS a) :
    Calls Tryz.prog 22 #[.agg #[.bool neg, a, .int .i64 e]] w fun e' w' => e' = .returned (.agg #[.bool (!neg), a, .int .i64 e]) ∧ Below w.heap.size w w' := by
  have hab := (Below.refl w.heap.size w).alloc (Nat.le_refl _) (.cells #[.bool neg, a, .int .i64 e] 30)
  have hac := hab.alloc hab.size (.cells #[.bool false, .slice none 0 0, .int .i64 0] 30)
  obtain ⟨X, hX⟩ : ∃ X, X = (w.alloc (.cells #[.bool neg, a, .int .i64 e] 30)).alloc (.cells #[.bool false, .slice none 0 0, .int .i64 0] 30) := ⟨_, rfl⟩
  have hr1 : X.heap[w.heap.size]? = some (.cells #[.bool neg, a, .int .i64 e] 30 (0, 0)) := by
    rw [hX]; exact keep_row (fbone _) (box_row (Below.refl _ _))
  have hr2 : X.heap[w.heap.size + 1]? = some (.cells #[.bool false, .slice none 0 0, .int .i64 0] 30 (0, 0)) := by
    rw [hX]
    have := box_row (Below.refl _ ((w.alloc (.cells #[.bool neg, a, .int .i64 e] 30)).alloc (.cells #[.bool false, .slice none 0 0, .int .i64 0] 30)))
    simpa using this
  rw [← hX] at hac
  obtain ⟨x0, x1, x2, -, -, -⟩ := row3 hr1
  obtain ⟨y0, y1, y2, z0, z1, z2⟩ := row3 hr2
  have HR2 := Lib.hid hr2
  have HB := Lib.hid hac
  clear hr1 hr2 hab hac
  go_enter Tryz.func22, Tryz.ntmps22
  go_upto_region 1 with fail
  rw [← hX]
  clear hX
  go_wp2
  obtain ⟨hx0, hx1, hx2, -, -, -⟩ := row3 (row3_set (x := .bool (!neg)) (y := a) (z := .int .i64 e) HR2.out)
  have hbY := bset (i := 2) (u := .int .i64 e) (bset (i := 1) (u := a) (bset (i := 0) (u := .bool (!neg)) HB.out (Nat.le_succ _)) (Nat.le_succ _)) (Nat.le_succ _)
  refine bodyPost_ret (v := .agg #[.bool (!neg), a, .int .i64 e]) ?_ rfl ⟨rfl, hbY⟩
  simp [results, Tryz.results22, go_sem, hx0, hx1, hx2]
end Go.Proofs.YtbghmceglemppaaGreatDoor

/-
The order of two Reals: Cmp's answer is the order of the values. Plain law. No condition.
-/
namespace Go.Proofs.YtbghmceglemppaaGreatDoor
open Go.RowKit

theorem mul_two_lt {M1 M2 a b : Nat} (h2 : 0 < M2) (h : bl M1 + a < bl M2 + b) : M1 * 2 ^ a < M2 * 2 ^ b := by
  have hp := bl_pos h2
  have k1 : M1 * 2 ^ a < 2 ^ bl M1 * 2 ^ a := Nat.mul_lt_mul_of_pos_right (lt_bl M1) (Nat.two_pow_pos a)
  have k2 : 2 ^ (bl M2 - 1) * 2 ^ b ≤ M2 * 2 ^ b := Nat.mul_le_mul_right _ (bl_ge h2)
  rw [← Nat.pow_add] at k1 k2
  have k3 : 2 ^ (bl M1 + a) ≤ 2 ^ (bl M2 - 1 + b) := Nat.pow_le_pow_right (by decide) (by omega)
  omega
theorem topV_topN {M n : Nat} (h : 0 < M) : topV (topN M) n = M * 2 ^ (64 * nw M - bl M + 64 * n) := by
  unfold topV
  rw [topN_wv h, show (18446744073709551616 : Nat) = 2 ^ 64 from rfl, ← Nat.pow_mul, Nat.mul_assoc, ← Nat.pow_add]
theorem ucmp_real {M1 M2 a b : Nat} {e1 e2 e : Int} (h1 : 0 < M1) (h2 : 0 < M2) (ha : e1 = e + a) (hb : e2 = e + b) :
    ucmpV ((bl M1 : Nat) + e1) ((bl M2 : Nat) + e2) (topN M1) (topN M2) = cmpN (M1 * 2 ^ a) (M2 * 2 ^ b) := by
  subst ha hb
  rcases Nat.lt_trichotomy (bl M1 + a) (bl M2 + b) with h | h | h
  · rw [cmpN_lt (mul_two_lt h2 h)]; unfold ucmpV; rw [if_pos (by omega)]
  · rw [show ((bl M2 : Nat) : Int) + (e + b) = ((bl M1 : Nat) : Int) + (e + a) by omega, ucmpV_eq, topV_topN h1, topV_topN h2, topN_length, topN_length]
    have n1 := nw_bl h1
    have n2 := nw_bl h2
    rw [← cmpN_mul _ _ (Nat.two_pow_pos a), ← cmpN_mul (M1 * 2 ^ a) _ (Nat.two_pow_pos (64 * nw M1 - bl M1 + 64 * nw M2))]
    congr 1
    · rw [Nat.mul_assoc, Nat.mul_assoc, Nat.mul_comm (2 ^ a)]
    · rw [Nat.mul_assoc, Nat.mul_assoc, ← Nat.pow_add, ← Nat.pow_add]
      congr 2
      omega
  · rw [cmpN_gt (mul_two_lt h1 h)]; unfold ucmpV; rw [if_neg (by omega), if_pos (by omega)]
theorem cmpI_nat (x y : Nat) : cmpI (x : Int) (y : Int) = cmpN x y := by
  unfold cmpI cmpN
  simp only [Int.ofNat_lt]
theorem cmpI_neg (x y : Nat) : cmpI (-(x : Int)) (-(y : Int)) = cmpN y x := by
  unfold cmpI cmpN
  by_cases h : x < y
  · rw [if_neg (by omega), if_pos (by omega), if_neg (by omega), if_pos h]
  · by_cases h' : y < x
    · rw [if_pos (by omega), if_pos h']
    · rw [if_neg (by omega), if_neg (by omega), if_neg (by omega), if_neg (by omega)]
theorem cmpI_lt {x y : Int} (h : x < y) : cmpI x y = -1 := if_pos h
theorem cmpI_gt {x y : Int} (h : y < x) : cmpI x y = 1 := by unfold cmpI; rw [if_neg (by omega), if_pos h]
theorem cmpRV_law {f1 f2 M1 M2 a b : Nat} {n1 n2 : Bool} {e1 e2 e : Int} (hf1 : f1 ≤ 1) (hf2 : f2 ≤ 1) (h1 : f1 = 1 → 0 < M1 ∧ e1 = e + a) (h2 : f2 = 1 → 0 < M2 ∧ e2 = e + b) :
    cmpRV f1 n1 M1 e1 f2 n2 M2 e2 = cmpI (if f1 = 1 then sI n1 (M1 * 2 ^ a) else 0) (if f2 = 1 then sI n2 (M2 * 2 ^ b) else 0) := by
  have c1 : f1 = 0 ∨ f1 = 1 := by omega
  have c2 : f2 = 0 ∨ f2 = 1 := by omega
  have pos : ∀ M c : Nat, 0 < M → (0 : Int) < ((M * 2 ^ c : Nat) : Int) := fun M c h => by
    have := Nat.mul_pos h (Nat.two_pow_pos c)
    exact Int.ofNat_lt.2 this
  unfold cmpRV cmpFV
  rcases c1 with rfl | rfl <;> rcases c2 with rfl | rfl
  · cases n1 <;> cases n2 <;> rfl
  · have p := pos M2 b (h2 rfl).1
    cases n1 <;> cases n2 <;> simp only [ordV, sI, if_true, if_false, Bool.false_eq_true, Nat.zero_ne_one] <;>
      first
        | (rw [cmpI_lt (by omega)]; rfl)
        | (rw [cmpI_gt (by omega)]; rfl)
  · have p := pos M1 a (h1 rfl).1
    cases n1 <;> cases n2 <;> simp only [ordV, sI, if_true, if_false, Bool.false_eq_true, Nat.zero_ne_one] <;>
      first
        | (rw [cmpI_lt (by omega)]; rfl)
        | (rw [cmpI_gt (by omega)]; rfl)
  · have p := pos M1 a (h1 rfl).1
    have q := pos M2 b (h2 rfl).1
    have k := ucmp_real (h1 rfl).1 (h2 rfl).1 (h1 rfl).2 (h2 rfl).2
    have k' := ucmp_real (h2 rfl).1 (h1 rfl).1 (h2 rfl).2 (h1 rfl).2
    cases n1 <;> cases n2 <;> simp only [ordV, sI, if_true, if_false, Bool.false_eq_true]
    · rw [cmpI_nat, ← k]; rfl
    · rw [cmpI_gt (by omega)]; rfl
    · rw [cmpI_lt (by omega)]; rfl
    · rw [cmpI_neg, ← k']; rfl
end Go.Proofs.YtbghmceglemppaaGreatDoor

/-
The reference's OfReal. No condition.
-/
namespace Go.Proofs.YtbghmceglemppaaGreatDoor
open Go.RowKit

theorem ks6R {X : World} {k t i : Nat} {a b c d e f u : Value} (hk : t ≠ k)
    (h : X.cell? ⟨k, 0, none⟩ = some a ∧ X.cell? ⟨k, 1, none⟩ = some b ∧ X.cell? ⟨k, 2, none⟩ = some c ∧ X.cell? ⟨k, 3, none⟩ = some d ∧ X.cell? ⟨k, 4, none⟩ = some e ∧ X.cell? ⟨k, 5, none⟩ = some f) :
    (X.setCell ⟨t, i, none⟩ u).cell? ⟨k, 0, none⟩ = some a ∧ (X.setCell ⟨t, i, none⟩ u).cell? ⟨k, 1, none⟩ = some b ∧ (X.setCell ⟨t, i, none⟩ u).cell? ⟨k, 2, none⟩ = some c ∧ (X.setCell ⟨t, i, none⟩ u).cell? ⟨k, 3, none⟩ = some d ∧ (X.setCell ⟨t, i, none⟩ u).cell? ⟨k, 4, none⟩ = some e ∧ (X.setCell ⟨t, i, none⟩ u).cell? ⟨k, 5, none⟩ = some f := by
  have hk' : ∀ j, (X.setCell ⟨t, i, none⟩ u).cell? ⟨k, j, none⟩ = X.cell? ⟨k, j, none⟩ := fun j => cell_other (by simpa using hk)
  simp only [hk']; exact h
set_option maxRecDepth 100000 in
set_option maxHeartbeats 800000 in
theorem ofReal_other (p m f : Nat) (e : Int) (neg : Bool) (v : Value) (w : World) (_hS : IsS v) (hf : f ≠ 1) :
    Calls Tryz.prog 17 #[.agg #[.int .u64 p, .int .i64 m, .int .i64 f, .bool neg, v, .int .i64 e]] w fun e' w' => ∃ r, e' = .returned r ∧ DyV w' r false 0 0 ∧ Below w.heap.size w w' := by
  have t1 : ((f : Int) != 1) = true := by rw [bne_iff_ne]; omega
  have hab := (Below.refl w.heap.size w).alloc (Nat.le_refl _) (.cells #[.int .u64 p, .int .i64 m, .int .i64 f, .bool neg, v, .int .i64 e] 25)
  have hac := hab.alloc hab.size (.cells #[.bool false, .slice none 0 0, .int .i64 0] 30)
  obtain ⟨X, hX⟩ : ∃ X, X = (w.alloc (.cells #[.int .u64 p, .int .i64 m, .int .i64 f, .bool neg, v, .int .i64 e] 25)).alloc (.cells #[.bool false, .slice none 0 0, .int .i64 0] 30) := ⟨_, rfl⟩
  have hr1 : X.heap[w.heap.size]? = some (.cells #[.int .u64 p, .int .i64 m, .int .i64 f, .bool neg, v, .int .i64 e] 25 (0, 0)) := by
    rw [hX]; exact keep_row (fbone _) (box_row (Below.refl _ _))
  have hr2 : X.heap[w.heap.size + 1]? = some (.cells #[.bool false, .slice none 0 0, .int .i64 0] 30 (0, 0)) := by
    rw [hX]
    have := box_row (Below.refl _ ((w.alloc (.cells #[.int .u64 p, .int .i64 m, .int .i64 f, .bool neg, v, .int .i64 e] 25)).alloc (.cells #[.bool false, .slice none 0 0, .int .i64 0] 30)))
    simpa using this
  rw [← hX] at hac
  obtain ⟨-, x0, x1, x2, x3, x4, x5⟩ := ks12 hr1 (Below.refl _ _)
  obtain ⟨y0, y1, y2, z0, z1, z2⟩ := row3 hr2
  have HR2 := Lib.hid hr2
  have HB := Lib.hid hac
  clear hr1 hr2 hab hac hf
  go_enter Tryz.func17, Tryz.ntmps17
  go_upto_region 1 with fail
  rw [← hX]
  clear hX
  go_wp2
  obtain ⟨hx0, hx1, hx2, -, -, -⟩ := row3 (row3_set (x := .bool false) (y := .slice none 0 0) (z := .int .i64 0) HR2.out)
  have hbY := bset (i := 2) (u := .int .i64 0) (bset (i := 1) (u := .slice none 0 0) (bset (i := 0) (u := .bool false) HB.out (Nat.le_succ _)) (Nat.le_succ _)) (Nat.le_succ _)
  refine bodyPost_ret (v := .agg #[.bool false, .slice none 0 0, .int .i64 0]) ?_ rfl ⟨_, rfl, ⟨_, rfl, NatV.zero IsS.nil rfl⟩, hbY⟩
  simp [results, Tryz.results17, go_sem, hx0, hx1, hx2]
set_option maxRecDepth 100000 in
set_option maxHeartbeats 1600000 in
theorem ofReal_one (p m : Nat) (e : Int) (neg : Bool) (v : Value) (ws : List Nat) (w : World) (hv : RW w v ws) (hl : ws.length ≤ 1000000) :
    Calls Tryz.prog 17 #[.agg #[.int .u64 p, .int .i64 m, .int .i64 1, .bool neg, v, .int .i64 e]] w fun e' w' => ∃ r, e' = .returned r ∧ DyV w' r neg (wv ws) e ∧ Below w.heap.size w w' := by
  have hS := hv.isS
  have hab := (Below.refl w.heap.size w).alloc (Nat.le_refl _) (.cells #[.int .u64 p, .int .i64 m, .int .i64 1, .bool neg, v, .int .i64 e] 25)
  have hac := hab.alloc hab.size (.cells #[.bool false, .slice none 0 0, .int .i64 0] 30)
  obtain ⟨X, hX⟩ : ∃ X, X = (w.alloc (.cells #[.int .u64 p, .int .i64 m, .int .i64 1, .bool neg, v, .int .i64 e] 25)).alloc (.cells #[.bool false, .slice none 0 0, .int .i64 0] 30) := ⟨_, rfl⟩
  have hr1 : X.heap[w.heap.size]? = some (.cells #[.int .u64 p, .int .i64 m, .int .i64 1, .bool neg, v, .int .i64 e] 25 (0, 0)) := by
    rw [hX]; exact keep_row (fbone _) (box_row (Below.refl _ _))
  have hr2 : X.heap[w.heap.size + 1]? = some (.cells #[.bool false, .slice none 0 0, .int .i64 0] 30 (0, 0)) := by
    rw [hX]
    have := box_row (Below.refl _ ((w.alloc (.cells #[.int .u64 p, .int .i64 m, .int .i64 1, .bool neg, v, .int .i64 e] 25)).alloc (.cells #[.bool false, .slice none 0 0, .int .i64 0] 30)))
    simpa using this
  rw [← hX] at hac
  obtain ⟨-, x0, x1, x2, x3, x4, x5⟩ := ks12 hr1 (Below.refl _ _)
  have HR1 := Lib.hid hr1
  have HR2 := Lib.hid hr2
  have HB := Lib.hid hac
  have HV := Lib.hid (hv.below hac)
  have hcc := Below.refl X.heap.size X
  have hXs := hac.size
  clear hr1 hr2 hab hac hv
  go_enter Tryz.func17, Tryz.ntmps17
  go_upto_region 1 with fail
  rw [← hX]
  clear hX
  go_upto_region 3 with fail
  have hN := Lib.hid (show w.heap.size + 1 ≠ w.heap.size by omega)
  clear x0 x1 x2 x3 x4 x5
  first
    | (go_region_held3 (fun w' => w'.cell? ⟨w.heap.size, 0, none⟩ = some (.int .u64 (p : Int)) ∧ w'.cell? ⟨w.heap.size, 1, none⟩ = some (.int .i64 (m : Int)) ∧ w'.cell? ⟨w.heap.size, 2, none⟩ = some (.int .i64 1) ∧ w'.cell? ⟨w.heap.size, 3, none⟩ = some (.bool neg) ∧ w'.cell? ⟨w.heap.size, 4, none⟩ = some v ∧ w'.cell? ⟨w.heap.size, 5, none⟩ = some (.int .i64 e))
        ((first | (refine (ks12 HR1.out ?_).2; first | assumption | exact Below.drew hcc) | exact ks6R hN.out (ks6R hN.out (ks6R hN.out (ks12 HR1.out (by assumption)).2))))
        (first
          | (go_at_call 59; refine (spOf v ws _ (HV.out.below (Below.drew hcc)) (by omega)).mono ?_; rintro _ w3 ⟨d, rfl, hd, hb3⟩; have hSd := hd.isS; have hb3 : Below X.heap.size X w3 := bthen (Below.drew hcc) hb3; have hvr := keep_row hb3 HR2.out; obtain ⟨hv0, hv1, hv2, hf0, hf1, hf2⟩ := row3 hvr)))
    | fail
  all_goals go_wp2
  all_goals
    obtain ⟨hx0, hx1, hx2, -, -, -⟩ := row3 (row3_set (x := .bool neg) (y := d) (z := .int .i64 e) hvr)
    have hn := natv_dyad (x := .bool neg) (y := d) (z := .int .i64 e) IsS.nil hd hvr
    have hbY := bset (i := 2) (u := .int .i64 e) (bset (i := 1) (u := d) (bset (i := 0) (u := .bool neg) (HB.out.trans (hb3.mono hXs)) (Nat.le_succ _)) (Nat.le_succ _)) (Nat.le_succ _)
    refine bodyPost_ret (v := .agg #[.bool neg, d, .int .i64 e]) ?_ rfl ⟨_, rfl, ⟨_, rfl, hn⟩, hbY⟩
    simp [results, Tryz.results17, go_sem, hx0, hx1, hx2]
end Go.Proofs.YtbghmceglemppaaGreatDoor

/-
Rows of reals in a world, for the statements' walks. No condition.
-/
namespace Go.Proofs.YtbghmceglemppaaGreatDoor
open Go.RowKit
/-- The form of a number. -/
def fO (M : Nat) : Nat := if M = 0 then 0 else 1

theorem row_chain11 {w : World} {a : Array Value} {A : TypeId} : (w.alloc (.cells a A)).heap[w.heap.size]? = some (.cells a A (0, 0)) := box_row (Below.refl _ _)
theorem row_chain21 {w : World} {a b : Array Value} {A B : TypeId} : ((w.alloc (.cells a A)).alloc (.cells b B)).heap[w.heap.size]? = some (.cells a A (0, 0)) := keep_row (fbone _) row_chain11
theorem row_chain22 {w : World} {a b : Array Value} {A B : TypeId} : ((w.alloc (.cells a A)).alloc (.cells b B)).heap[w.heap.size + 1]? = some (.cells b B (0, 0)) := by
  have := row_chain11 (w := w.alloc (.cells a A)) (a := b) (A := B)
  simpa using this
theorem row_chain31 {w : World} {a b c : Array Value} {A B C : TypeId} : (((w.alloc (.cells a A)).alloc (.cells b B)).alloc (.cells c C)).heap[w.heap.size]? = some (.cells a A (0, 0)) := keep_row (fbone _) row_chain21
theorem row_chain32 {w : World} {a b c : Array Value} {A B C : TypeId} : (((w.alloc (.cells a A)).alloc (.cells b B)).alloc (.cells c C)).heap[w.heap.size + 1]? = some (.cells b B (0, 0)) := keep_row (fbone _) row_chain22
theorem row_chain33 {w : World} {a b c : Array Value} {A B C : TypeId} : (((w.alloc (.cells a A)).alloc (.cells b B)).alloc (.cells c C)).heap[w.heap.size + 2]? = some (.cells c C (0, 0)) := by
  have := row_chain11 (w := (w.alloc (.cells a A)).alloc (.cells b B)) (a := c) (A := C)
  simpa using this
section
variable {W X : World} {i j k l : Nat} {a b c d e f a' b' c' d' e' f' a'' b'' c'' d'' e'' f'' x y z : Value} {T T' T'' U : TypeId}
theorem ksR1 (hr : W.heap[i]? = some (.cells #[a, b, c, d, e, f] T (0, 0))) (h : Below W.heap.size W X) :
    Below W.heap.size W X ∧ X.cell? ⟨i, 0, none⟩ = some a ∧ X.cell? ⟨i, 1, none⟩ = some b ∧ X.cell? ⟨i, 2, none⟩ = some c ∧ X.cell? ⟨i, 3, none⟩ = some d ∧ X.cell? ⟨i, 4, none⟩ = some e ∧ X.cell? ⟨i, 5, none⟩ = some f := ks12 hr h
theorem ksR2 (hr : W.heap[i]? = some (.cells #[a, b, c, d, e, f] T (0, 0))) (hq : W.heap[j]? = some (.cells #[a', b', c', d', e', f'] T' (0, 0))) (h : Below W.heap.size W X) :
    Below W.heap.size W X ∧ (X.cell? ⟨i, 0, none⟩ = some a ∧ X.cell? ⟨i, 1, none⟩ = some b ∧ X.cell? ⟨i, 2, none⟩ = some c ∧ X.cell? ⟨i, 3, none⟩ = some d ∧ X.cell? ⟨i, 4, none⟩ = some e ∧ X.cell? ⟨i, 5, none⟩ = some f) ∧
    (X.cell? ⟨j, 0, none⟩ = some a' ∧ X.cell? ⟨j, 1, none⟩ = some b' ∧ X.cell? ⟨j, 2, none⟩ = some c' ∧ X.cell? ⟨j, 3, none⟩ = some d' ∧ X.cell? ⟨j, 4, none⟩ = some e' ∧ X.cell? ⟨j, 5, none⟩ = some f') :=
  ⟨h, (ks12 hr h).2, (ks12 hq h).2⟩
theorem ksR3 (hr : W.heap[i]? = some (.cells #[a, b, c, d, e, f] T (0, 0))) (hq : W.heap[j]? = some (.cells #[a', b', c', d', e', f'] T' (0, 0))) (hs : W.heap[k]? = some (.cells #[a'', b'', c'', d'', e'', f''] T'' (0, 0))) (h : Below W.heap.size W X) :
    Below W.heap.size W X ∧ (X.cell? ⟨i, 0, none⟩ = some a ∧ X.cell? ⟨i, 1, none⟩ = some b ∧ X.cell? ⟨i, 2, none⟩ = some c ∧ X.cell? ⟨i, 3, none⟩ = some d ∧ X.cell? ⟨i, 4, none⟩ = some e ∧ X.cell? ⟨i, 5, none⟩ = some f) ∧
    (X.cell? ⟨j, 0, none⟩ = some a' ∧ X.cell? ⟨j, 1, none⟩ = some b' ∧ X.cell? ⟨j, 2, none⟩ = some c' ∧ X.cell? ⟨j, 3, none⟩ = some d' ∧ X.cell? ⟨j, 4, none⟩ = some e' ∧ X.cell? ⟨j, 5, none⟩ = some f') ∧
    (X.cell? ⟨k, 0, none⟩ = some a'' ∧ X.cell? ⟨k, 1, none⟩ = some b'' ∧ X.cell? ⟨k, 2, none⟩ = some c'' ∧ X.cell? ⟨k, 3, none⟩ = some d'' ∧ X.cell? ⟨k, 4, none⟩ = some e'' ∧ X.cell? ⟨k, 5, none⟩ = some f'') :=
  ⟨h, (ks12 hr h).2, (ks12 hq h).2, (ks12 hs h).2⟩
end
end Go.Proofs.YtbghmceglemppaaGreatDoor

/-
Sums and differences of dyadic values. No condition.
-/
namespace Go.Proofs.YtbghmceglemppaaGreatDoor
open Go.RowKit

theorem deq_lift {X M : Nat} {ex E : Int} (h : deq X ex M E) {e : Int} (h1 : e ≤ ex) (h2 : e ≤ E) : X * 2 ^ (ex - e).toNat = M * 2 ^ (E - e).toNat := by
  obtain ⟨i, j, h3, h4⟩ := h
  by_cases hi : i ≤ (ex - e).toNat
  · rw [show (ex - e).toNat = i + ((ex - e).toNat - i) by omega, Nat.pow_add, ← Nat.mul_assoc, h3, Nat.mul_assoc, ← Nat.pow_add]
    congr 2; omega
  · have hp : 0 < 2 ^ (i - (ex - e).toNat) := Nat.two_pow_pos _
    apply Nat.eq_of_mul_eq_mul_right hp
    rw [Nat.mul_assoc, ← Nat.pow_add, show (ex - e).toNat + (i - (ex - e).toNat) = i by omega, h3, Nat.mul_assoc, ← Nat.pow_add]
    congr 2; omega
/-- A magnitude brought to a lower exponent. -/
def lo (M : Nat) (E e : Int) : Nat := M * 2 ^ (E - e).toNat
theorem lo_lo {M : Nat} {E e t : Int} (h1 : e ≤ E) (h2 : t ≤ e) : lo M E e * 2 ^ (e - t).toNat = lo M E t := by
  unfold lo; rw [Nat.mul_assoc, ← Nat.pow_add]; congr 2; omega
theorem deq_lo {X M : Nat} {ex E : Int} (h : deq X ex M E) {e : Int} (h1 : e ≤ ex) (h2 : e ≤ E) : lo X ex e = lo M E e := deq_lift h h1 h2
theorem lo_self (M : Nat) (E : Int) : lo M E E = M := by unfold lo; simp
theorem lo_pos {M : Nat} {E e : Int} (h : 0 < M) : 0 < lo M E e := Nat.mul_pos h (Nat.two_pow_pos _)
theorem bl_lo (M : Nat) (E e : Int) : bl (lo M E e) ≤ bl M + (E - e).toNat := by
  refine bl_le ?_
  rw [Nat.pow_add]; exact Nat.mul_lt_mul_of_pos_right (lt_bl M) (Nat.two_pow_pos _)
/-- The sum at the lower exponent. -/
def suM (M : Nat) (E : Int) (N : Nat) (F : Int) : Nat := lo M E (min E F) + lo N F (min E F)
def diM (M : Nat) (E : Int) (N : Nat) (F : Int) : Nat := lo M E (min E F) - lo N F (min E F)
theorem deq_of_lo {S T : Nat} {e g t : Int} (h1 : t ≤ e) (h2 : t ≤ g) (h : S * 2 ^ (e - t).toNat = T * 2 ^ (g - t).toNat) : deq S e T g := ⟨(e - t).toNat, (g - t).toNat, h, by omega⟩
theorem deq_su {X Y M N : Nat} {ex ey E F : Int} (h1 : deq X ex M E) (h2 : deq Y ey N F) : deq (suM X ex Y ey) (min ex ey) (suM M E N F) (min E F) := by
  refine deq_of_lo (t := min (min ex ey) (min E F)) (by omega) (by omega) ?_
  unfold suM
  rw [Nat.add_mul, Nat.add_mul, lo_lo (by omega) (by omega), lo_lo (by omega) (by omega), lo_lo (by omega) (by omega), lo_lo (by omega) (by omega), deq_lo h1 (by omega) (by omega), deq_lo h2 (by omega) (by omega)]
theorem deq_di {X Y M N : Nat} {ex ey E F : Int} (h1 : deq X ex M E) (h2 : deq Y ey N F) : deq (diM X ex Y ey) (min ex ey) (diM M E N F) (min E F) := by
  refine deq_of_lo (t := min (min ex ey) (min E F)) (by omega) (by omega) ?_
  unfold diM
  rw [Nat.sub_mul, Nat.sub_mul, lo_lo (by omega) (by omega), lo_lo (by omega) (by omega), lo_lo (by omega) (by omega), lo_lo (by omega) (by omega), deq_lo h1 (by omega) (by omega), deq_lo h2 (by omega) (by omega)]
theorem deq_le {X Y M N : Nat} {ex ey E F : Int} (h1 : deq X ex M E) (h2 : deq Y ey N F) : lo Y ey (min ex ey) ≤ lo X ex (min ex ey) ↔ lo N F (min E F) ≤ lo M E (min E F) := by
  have hA : 0 < 2 ^ (min ex ey - min (min ex ey) (min E F)).toNat := Nat.two_pow_pos _
  have hB : 0 < 2 ^ (min E F - min (min ex ey) (min E F)).toNat := Nat.two_pow_pos _
  have e1 : lo Y ey (min ex ey) * 2 ^ (min ex ey - min (min ex ey) (min E F)).toNat = lo N F (min E F) * 2 ^ (min E F - min (min ex ey) (min E F)).toNat := by
    rw [lo_lo (by omega) (by omega), lo_lo (by omega) (by omega), deq_lo h2 (by omega) (by omega)]
  have e2 : lo X ex (min ex ey) * 2 ^ (min ex ey - min (min ex ey) (min E F)).toNat = lo M E (min E F) * 2 ^ (min E F - min (min ex ey) (min E F)).toNat := by
    rw [lo_lo (by omega) (by omega), lo_lo (by omega) (by omega), deq_lo h1 (by omega) (by omega)]
  rw [← Nat.mul_le_mul_right_iff hA, e1, e2, Nat.mul_le_mul_right_iff hB]
theorem suM_comm (M : Nat) (E : Int) (N : Nat) (F : Int) : suM M E N F = suM N F M E := by
  unfold suM; rw [Nat.add_comm, show min E F = min F E by omega]
/-- A Float's mantissa is a number without a word 0 at its top. -/
theorem Good.wds {ws : List Nat} {p : Nat} (h : Good ws p) : ws = wds (wv ws) := by
  have h1 := h.bl
  obtain ⟨h2, -, h3, h4, -⟩ := h
  have hp : 0 < wv ws := Nat.lt_of_lt_of_le (Nat.two_pow_pos _) h4
  exact wds_of h3 (by rw [nw_bl hp, h1]; omega)
end Go.Proofs.YtbghmceglemppaaGreatDoor

/-
Floats: what uadd and usub need. No condition.
-/
namespace Go.Proofs.YtbghmceglemppaaGreatDoor
open Go.RowKit

theorem bl_diM (M : Nat) (E : Int) (N : Nat) (F : Int) : bl (diM M E N F) ≤ bl M + (E - min E F).toNat := Nat.le_trans (bl_mono (Nat.sub_le _ _)) (bl_lo _ _ _)
theorem bl_suM (M : Nat) (E : Int) (N : Nat) (F : Int) : bl (suM M E N F) ≤ max (bl M + (E - min E F).toNat) (bl N + (F - min E F).toNat) + 1 := by
  refine bl_le ?_
  unfold suM
  have h1 := lt_bl (lo M E (min E F))
  have h2 := lt_bl (lo N F (min E F))
  have h3 := bl_lo M E (min E F)
  have h4 := bl_lo N F (min E F)
  have h5 := Nat.pow_le_pow_right (show 0 < 2 by decide) (show bl (lo M E (min E F)) ≤ max (bl M + (E - min E F).toNat) (bl N + (F - min E F).toNat) by omega)
  have h6 := Nat.pow_le_pow_right (show 0 < 2 by decide) (show bl (lo N F (min E F)) ≤ max (bl M + (E - min E F).toNat) (bl N + (F - min E F).toNat) by omega)
  rw [Nat.pow_succ]; omega
theorem nw_of_bl {n k : Nat} (h : bl n ≤ 64 * k) : nw n ≤ k := by
  rcases Nat.eq_zero_or_pos n with h0 | h0
  · rw [h0, nw_zero]; exact Nat.zero_le _
  · rw [nw_bl h0]; omega
end Go.Proofs.YtbghmceglemppaaGreatDoor
