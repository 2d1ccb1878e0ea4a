/-
Texts of this proof, joined: FlS FlT FlU FlV LwA StD StF DyA LwB VvA KpA KpB KpC. No condition.
-/
import Derived.Test.YtgbmlaffilccnaaGreatDoorK06
import Derived.Test.YtgbmlaffilccnaaGreatDoorK14
import Derived.Test.YtgbmlaffilccnaaGreatDoorK16
import Derived.Test.YtgbmlaffilccnaaGreatDoorK17
import Derived.Laws.BitsAllLaws
/-
The thin package's Cmp, the statements' end. No condition.
-/
namespace Go.Proofs.YtgbmlaffilccnaaGreatDoor
open Go.RowKit

theorem FloatAt.below {w w' : World} {B g p m f M : Nat} {neg : Bool} {e : Int} (h : FloatAt w B g p m f neg M e) (hb : Below w.heap.size w w') : FloatAt w' B g p m f neg M e := by
  obtain ⟨h1, r, x, h2, h3⟩ := h
  exact ⟨h1, r, x, h2.below hb, fun hf => ⟨(h3 hf).1, (h3 hf).2.below hb⟩⟩
/-- The order of two Reals as Cmp reckons it. -/
def cmpRV (f1 : Nat) (n1 : Bool) (M1 : Nat) (e1 : Int) (f2 : Nat) (n2 : Bool) (M2 : Nat) (e2 : Int) : Int :=
  cmpFV f1 n1 ((bl M1 : Nat) + e1) (topN M1) f2 n2 ((bl M2 : Nat) + e2) (topN M2)
theorem cmpFV_eq {f1 f2 : Nat} {n1 n2 : Bool} {x1 x2 y1 y2 : Int} {xs ys xs' ys' : List Nat} (h1 : f1 = 1 → x1 = y1 ∧ xs = xs') (h2 : f2 = 1 → x2 = y2 ∧ ys = ys') (hf1 : f1 ≤ 2) (hf2 : f2 ≤ 2) :
    cmpFV f1 n1 x1 xs f2 n2 x2 ys = cmpFV f1 n1 y1 xs' f2 n2 y2 ys' := by
  by_cases c1 : f1 = 1
  · by_cases c2 : f2 = 1
    · rw [(h1 c1).1, (h2 c2).1, (h1 c1).2, (h2 c2).2]
    · rw [(h1 c1).1, (h1 c1).2]
      have : f2 = 0 ∨ f2 = 2 := by omega
      rcases this with rfl | rfl <;> subst c1 <;> cases n1 <;> cases n2 <;> simp [cmpFV, ordV]
  · have c : f1 = 0 ∨ f1 = 2 := by omega
    have d : f2 = 0 ∨ f2 = 1 ∨ f2 = 2 := by omega
    rcases c with rfl | rfl <;> rcases d with rfl | rfl | rfl <;> cases n1 <;> cases n2 <;> simp [cmpFV, ordV]
theorem topN_lt {M : Nat} : ∀ d ∈ topN M, d < 18446744073709551616 := wdsN_lt
theorem topN_if {f M : Nat} (h : f = 1 → nw M ≤ 1000000) : (if f = 1 then topN M else []).length ≤ 1000000000 := by
  split
  · rename_i hf; rw [topN_length]; have := h hf; omega
  · exact Nat.zero_le _
theorem RealOk.form {P E p m f : Nat} {ws : List Nat} {e : Int} (h : RealOk P E p m f ws e) : f ≤ 2 := by
  obtain ⟨_, _, _, h | h | ⟨h, _⟩⟩ := h <;> omega
theorem RealOk.len {P E p m f : Nat} {ws : List Nat} {e : Int} (h : RealOk P E p m f ws e) (hf : f = 1) : ws.length ≤ 1000000 := by
  obtain ⟨_, _, _, h | h | h⟩ := h
  · omega
  · omega
  · exact h.2.2.2.1
theorem ks24 {W X : World} {k l : Nat} {a b c d e f a' b' c' d' e' f' : Value} {T : TypeId} (hr : W.heap[k]? = some (.cells #[a, b, c, d, e, f] T (0, 0))) (hq : W.heap[l]? = some (.cells #[a', b', c', d', e', f'] T (0, 0))) (h : Below W.heap.size W X) :
    Below W.heap.size W X ∧ (X.cell? ⟨k, 0, none⟩ = some a ∧ X.cell? ⟨k, 1, none⟩ = some b ∧ X.cell? ⟨k, 2, none⟩ = some c ∧ X.cell? ⟨k, 3, none⟩ = some d ∧ X.cell? ⟨k, 4, none⟩ = some e ∧ X.cell? ⟨k, 5, none⟩ = some f) ∧
    X.cell? ⟨l, 0, none⟩ = some a' ∧ X.cell? ⟨l, 1, none⟩ = some b' ∧ X.cell? ⟨l, 2, none⟩ = some c' ∧ X.cell? ⟨l, 3, none⟩ = some d' ∧ X.cell? ⟨l, 4, none⟩ = some e' ∧ X.cell? ⟨l, 5, none⟩ = some f' :=
  ⟨h, (ks12 hr h).2, (ks12 hq h).2⟩
def endV (f : Nat) (neg : Bool) : Int := if f = 2 then (if neg then -1 else 1) else 0
end Go.Proofs.YtgbmlaffilccnaaGreatDoor

/-
The reference's dyadic values: Sign, Opposite. No condition.
-/
namespace Go.Proofs.YtgbmlaffilccnaaGreatDoor
open Go.RowKit

/-- The sign of a reference's value. -/
def sgD (neg : Bool) (n : Nat) : Int := if n = 0 then 0 else if neg then -1 else 1
def sI (neg : Bool) (n : Nat) : Int := if neg then -(n : Int) else n
theorem nl0 {n : Nat} : nl n = 0 ↔ n = 0 := ⟨fun h => by rcases Nat.eq_zero_or_pos n with h' | h'; exact h'; have := nl_pos h'; omega, fun h => by rw [h]; rfl⟩
set_option maxRecDepth 100000 in
theorem dSign (neg : Bool) (a : Value) (e : Int) (n : Nat) (w : World) (h : NatV w a n) :
    Calls Tryz.prog 27 #[.agg #[.bool neg, a, .int .i64 e]] w fun e' w' => e' = .returned (.int .i64 (sgD neg n)) ∧ Below w.heap.size w w' := by
  have hS := h.isS
  have hL := h.len
  clear h
  have hab := (Below.refl w.heap.size w).alloc (Nat.le_refl _) (.cells #[.bool neg, a, .int .i64 e] 36)
  obtain ⟨l, hl⟩ : ∃ l, l = nl n := ⟨_, rfl⟩
  rw [← hl] at hL
  by_cases h0 : n = 0
  · have E : Hid (sgD neg n = 0) := Lib.hid (by unfold sgD; rw [if_pos h0])
    have l0 : l = 0 := by rw [hl]; exact nl0.2 h0
    subst l0
    clear h0 hl
    go_enter Tryz.func27, Tryz.ntmps27
    go_wp2
    go_ret
    exact ⟨congrArg (fun z => Ending.returned (.int .i64 z)) E.out.symm, hab⟩
  · have l0 : ¬ l = 0 := by rw [hl]; exact fun h => h0 (nl0.1 h)
    have t1 : ((l : Int) == 0) = false := by rw [beq_eq_false_iff_ne]; omega
    have E : Hid (sgD neg n = if neg then -1 else 1) := Lib.hid (by unfold sgD; rw [if_neg h0])
    clear h0 hl l0
    cases neg
    · go_enter Tryz.func27, Tryz.ntmps27
      go_wp2
      go_ret
      exact ⟨congrArg (fun z => Ending.returned (.int .i64 z)) E.out.symm, hab⟩
    · go_enter Tryz.func27, Tryz.ntmps27
      go_wp2
      go_ret
      exact ⟨congrArg (fun z => Ending.returned (.int .i64 z)) E.out.symm, hab⟩
set_option maxRecDepth 100000 in
set_option maxHeartbeats 800000 in
theorem dOpp (neg : Bool) (a : Value) (e : Int) (w : World) (hS : IsS a) :
    Calls Tryz.prog 15 #[.agg #[.bool neg, a, .int .i64 e]] w fun e' w' => e' = .returned (.agg #[.bool (!neg), a, .int .i64 e]) ∧ Below w.heap.size w w' := by
  have hab := (Below.refl w.heap.size w).alloc (Nat.le_refl _) (.cells #[.bool neg, a, .int .i64 e] 36)
  have hac := hab.alloc hab.size (.cells #[.bool false, .slice none 0 0, .int .i64 0] 36)
  obtain ⟨X, hX⟩ : ∃ X, X = (w.alloc (.cells #[.bool neg, a, .int .i64 e] 36)).alloc (.cells #[.bool false, .slice none 0 0, .int .i64 0] 36) := ⟨_, rfl⟩
  have hr1 : X.heap[w.heap.size]? = some (.cells #[.bool neg, a, .int .i64 e] 36 (0, 0)) := by
    rw [hX]; exact keep_row (fbone _) (box_row (Below.refl _ _))
  have hr2 : X.heap[w.heap.size + 1]? = some (.cells #[.bool false, .slice none 0 0, .int .i64 0] 36 (0, 0)) := by
    rw [hX]
    have := box_row (Below.refl _ ((w.alloc (.cells #[.bool neg, a, .int .i64 e] 36)).alloc (.cells #[.bool false, .slice none 0 0, .int .i64 0] 36)))
    simpa using this
  rw [← hX] at hac
  obtain ⟨x0, x1, x2, -, -, -⟩ := row3 hr1
  obtain ⟨y0, y1, y2, z0, z1, z2⟩ := row3 hr2
  have HR2 := Lib.hid hr2
  have HB := Lib.hid hac
  clear hr1 hr2 hab hac
  go_enter Tryz.func15, Tryz.ntmps15
  go_upto_region 1 with fail
  rw [← hX]
  clear hX
  go_wp2
  obtain ⟨hx0, hx1, hx2, -, -, -⟩ := row3 (row3_set (x := .bool (!neg)) (y := a) (z := .int .i64 e) HR2.out)
  have hbY := bset (i := 2) (u := .int .i64 e) (bset (i := 1) (u := a) (bset (i := 0) (u := .bool (!neg)) HB.out (Nat.le_succ _)) (Nat.le_succ _)) (Nat.le_succ _)
  refine bodyPost_ret (v := .agg #[.bool (!neg), a, .int .i64 e]) ?_ rfl ⟨rfl, hbY⟩
  simp [results, Tryz.results15, go_sem, hx0, hx1, hx2]
end Go.Proofs.YtgbmlaffilccnaaGreatDoor

/-
The order of two Reals: Cmp's answer is the order of the values. Plain law. No condition.
-/
namespace Go.Proofs.YtgbmlaffilccnaaGreatDoor
open Go.RowKit

theorem mul_two_lt {M1 M2 a b : Nat} (h2 : 0 < M2) (h : bl M1 + a < bl M2 + b) : M1 * 2 ^ a < M2 * 2 ^ b := by
  have hp := bl_pos h2
  have k1 : M1 * 2 ^ a < 2 ^ bl M1 * 2 ^ a := Nat.mul_lt_mul_of_pos_right (lt_bl M1) (Nat.two_pow_pos a)
  have k2 : 2 ^ (bl M2 - 1) * 2 ^ b ≤ M2 * 2 ^ b := Nat.mul_le_mul_right _ (bl_ge h2)
  rw [← Nat.pow_add] at k1 k2
  have k3 : 2 ^ (bl M1 + a) ≤ 2 ^ (bl M2 - 1 + b) := Nat.pow_le_pow_right (by decide) (by omega)
  omega
theorem topV_topN {M n : Nat} (h : 0 < M) : topV (topN M) n = M * 2 ^ (64 * nw M - bl M + 64 * n) := by
  unfold topV
  rw [topN_wv h, show (18446744073709551616 : Nat) = 2 ^ 64 from rfl, ← Nat.pow_mul, Nat.mul_assoc, ← Nat.pow_add]
theorem ucmp_real {M1 M2 a b : Nat} {e1 e2 e : Int} (h1 : 0 < M1) (h2 : 0 < M2) (ha : e1 = e + a) (hb : e2 = e + b) :
    ucmpV ((bl M1 : Nat) + e1) ((bl M2 : Nat) + e2) (topN M1) (topN M2) = cmpN (M1 * 2 ^ a) (M2 * 2 ^ b) := by
  subst ha hb
  rcases Nat.lt_trichotomy (bl M1 + a) (bl M2 + b) with h | h | h
  · rw [cmpN_lt (mul_two_lt h2 h)]; unfold ucmpV; rw [if_pos (by omega)]
  · rw [show ((bl M2 : Nat) : Int) + (e + b) = ((bl M1 : Nat) : Int) + (e + a) by omega, ucmpV_eq, topV_topN h1, topV_topN h2, topN_length, topN_length]
    have n1 := nw_bl h1
    have n2 := nw_bl h2
    rw [← cmpN_mul _ _ (Nat.two_pow_pos a), ← cmpN_mul (M1 * 2 ^ a) _ (Nat.two_pow_pos (64 * nw M1 - bl M1 + 64 * nw M2))]
    congr 1
    · rw [Nat.mul_assoc, Nat.mul_assoc, Nat.mul_comm (2 ^ a)]
    · rw [Nat.mul_assoc, Nat.mul_assoc, ← Nat.pow_add, ← Nat.pow_add]
      congr 2
      omega
  · rw [cmpN_gt (mul_two_lt h1 h)]; unfold ucmpV; rw [if_neg (by omega), if_pos (by omega)]
theorem cmpI_nat (x y : Nat) : cmpI (x : Int) (y : Int) = cmpN x y := by
  unfold cmpI cmpN
  simp only [Int.ofNat_lt]
theorem cmpI_neg (x y : Nat) : cmpI (-(x : Int)) (-(y : Int)) = cmpN y x := by
  unfold cmpI cmpN
  by_cases h : x < y
  · rw [if_neg (by omega), if_pos (by omega), if_neg (by omega), if_pos h]
  · by_cases h' : y < x
    · rw [if_pos (by omega), if_pos h']
    · rw [if_neg (by omega), if_neg (by omega), if_neg (by omega), if_neg (by omega)]
theorem cmpI_lt {x y : Int} (h : x < y) : cmpI x y = -1 := if_pos h
theorem cmpI_gt {x y : Int} (h : y < x) : cmpI x y = 1 := by unfold cmpI; rw [if_neg (by omega), if_pos h]
theorem cmpRV_law {f1 f2 M1 M2 a b : Nat} {n1 n2 : Bool} {e1 e2 e : Int} (hf1 : f1 ≤ 1) (hf2 : f2 ≤ 1) (h1 : f1 = 1 → 0 < M1 ∧ e1 = e + a) (h2 : f2 = 1 → 0 < M2 ∧ e2 = e + b) :
    cmpRV f1 n1 M1 e1 f2 n2 M2 e2 = cmpI (if f1 = 1 then sI n1 (M1 * 2 ^ a) else 0) (if f2 = 1 then sI n2 (M2 * 2 ^ b) else 0) := by
  have c1 : f1 = 0 ∨ f1 = 1 := by omega
  have c2 : f2 = 0 ∨ f2 = 1 := by omega
  have pos : ∀ M c : Nat, 0 < M → (0 : Int) < ((M * 2 ^ c : Nat) : Int) := fun M c h => by
    have := Nat.mul_pos h (Nat.two_pow_pos c)
    exact Int.ofNat_lt.2 this
  unfold cmpRV cmpFV
  rcases c1 with rfl | rfl <;> rcases c2 with rfl | rfl
  · cases n1 <;> cases n2 <;> rfl
  · have p := pos M2 b (h2 rfl).1
    cases n1 <;> cases n2 <;> simp only [ordV, sI, if_true, if_false, Bool.false_eq_true, Nat.zero_ne_one] <;>
      first
        | (rw [cmpI_lt (by omega)]; rfl)
        | (rw [cmpI_gt (by omega)]; rfl)
  · have p := pos M1 a (h1 rfl).1
    cases n1 <;> cases n2 <;> simp only [ordV, sI, if_true, if_false, Bool.false_eq_true, Nat.zero_ne_one] <;>
      first
        | (rw [cmpI_lt (by omega)]; rfl)
        | (rw [cmpI_gt (by omega)]; rfl)
  · have p := pos M1 a (h1 rfl).1
    have q := pos M2 b (h2 rfl).1
    have k := ucmp_real (h1 rfl).1 (h2 rfl).1 (h1 rfl).2 (h2 rfl).2
    have k' := ucmp_real (h2 rfl).1 (h1 rfl).1 (h2 rfl).2 (h1 rfl).2
    cases n1 <;> cases n2 <;> simp only [ordV, sI, if_true, if_false, Bool.false_eq_true]
    · rw [cmpI_nat, ← k]; rfl
    · rw [cmpI_gt (by omega)]; rfl
    · rw [cmpI_lt (by omega)]; rfl
    · rw [cmpI_neg, ← k']; rfl
end Go.Proofs.YtgbmlaffilccnaaGreatDoor

/-
The reference's OfReal. No condition.
-/
namespace Go.Proofs.YtgbmlaffilccnaaGreatDoor
open Go.RowKit

theorem ks6R {X : World} {k t i : Nat} {a b c d e f u : Value} (hk : t ≠ k)
    (h : X.cell? ⟨k, 0, none⟩ = some a ∧ X.cell? ⟨k, 1, none⟩ = some b ∧ X.cell? ⟨k, 2, none⟩ = some c ∧ X.cell? ⟨k, 3, none⟩ = some d ∧ X.cell? ⟨k, 4, none⟩ = some e ∧ X.cell? ⟨k, 5, none⟩ = some f) :
    (X.setCell ⟨t, i, none⟩ u).cell? ⟨k, 0, none⟩ = some a ∧ (X.setCell ⟨t, i, none⟩ u).cell? ⟨k, 1, none⟩ = some b ∧ (X.setCell ⟨t, i, none⟩ u).cell? ⟨k, 2, none⟩ = some c ∧ (X.setCell ⟨t, i, none⟩ u).cell? ⟨k, 3, none⟩ = some d ∧ (X.setCell ⟨t, i, none⟩ u).cell? ⟨k, 4, none⟩ = some e ∧ (X.setCell ⟨t, i, none⟩ u).cell? ⟨k, 5, none⟩ = some f := by
  have hk' : ∀ j, (X.setCell ⟨t, i, none⟩ u).cell? ⟨k, j, none⟩ = X.cell? ⟨k, j, none⟩ := fun j => cell_other (by simpa using hk)
  simp only [hk']; exact h
set_option maxRecDepth 100000 in
set_option maxHeartbeats 800000 in
theorem ofReal_other (p m f : Nat) (e : Int) (neg : Bool) (v : Value) (w : World) (_hS : IsS v) (hf : f ≠ 1) :
    Calls Tryz.prog 10 #[.agg #[.int .u64 p, .int .i64 m, .int .i64 f, .bool neg, v, .int .i64 e]] w fun e' w' => ∃ r, e' = .returned r ∧ DyV w' r false 0 0 ∧ Below w.heap.size w w' := by
  have t1 : ((f : Int) != 1) = true := by rw [bne_iff_ne]; omega
  have hab := (Below.refl w.heap.size w).alloc (Nat.le_refl _) (.cells #[.int .u64 p, .int .i64 m, .int .i64 f, .bool neg, v, .int .i64 e] 26)
  have hac := hab.alloc hab.size (.cells #[.bool false, .slice none 0 0, .int .i64 0] 36)
  obtain ⟨X, hX⟩ : ∃ X, X = (w.alloc (.cells #[.int .u64 p, .int .i64 m, .int .i64 f, .bool neg, v, .int .i64 e] 26)).alloc (.cells #[.bool false, .slice none 0 0, .int .i64 0] 36) := ⟨_, rfl⟩
  have hr1 : X.heap[w.heap.size]? = some (.cells #[.int .u64 p, .int .i64 m, .int .i64 f, .bool neg, v, .int .i64 e] 26 (0, 0)) := by
    rw [hX]; exact keep_row (fbone _) (box_row (Below.refl _ _))
  have hr2 : X.heap[w.heap.size + 1]? = some (.cells #[.bool false, .slice none 0 0, .int .i64 0] 36 (0, 0)) := by
    rw [hX]
    have := box_row (Below.refl _ ((w.alloc (.cells #[.int .u64 p, .int .i64 m, .int .i64 f, .bool neg, v, .int .i64 e] 26)).alloc (.cells #[.bool false, .slice none 0 0, .int .i64 0] 36)))
    simpa using this
  rw [← hX] at hac
  obtain ⟨-, x0, x1, x2, x3, x4, x5⟩ := ks12 hr1 (Below.refl _ _)
  obtain ⟨y0, y1, y2, z0, z1, z2⟩ := row3 hr2
  have HR2 := Lib.hid hr2
  have HB := Lib.hid hac
  clear hr1 hr2 hab hac hf
  go_enter Tryz.func10, Tryz.ntmps10
  go_upto_region 1 with fail
  rw [← hX]
  clear hX
  go_wp2
  obtain ⟨hx0, hx1, hx2, -, -, -⟩ := row3 (row3_set (x := .bool false) (y := .slice none 0 0) (z := .int .i64 0) HR2.out)
  have hbY := bset (i := 2) (u := .int .i64 0) (bset (i := 1) (u := .slice none 0 0) (bset (i := 0) (u := .bool false) HB.out (Nat.le_succ _)) (Nat.le_succ _)) (Nat.le_succ _)
  refine bodyPost_ret (v := .agg #[.bool false, .slice none 0 0, .int .i64 0]) ?_ rfl ⟨_, rfl, ⟨_, rfl, NatV.zero IsS.nil rfl⟩, hbY⟩
  simp [results, Tryz.results10, go_sem, hx0, hx1, hx2]
set_option maxRecDepth 100000 in
set_option maxHeartbeats 1600000 in
theorem ofReal_one (p m : Nat) (e : Int) (neg : Bool) (v : Value) (ws : List Nat) (w : World) (hv : RW w v ws) (hl : ws.length ≤ 1000000) :
    Calls Tryz.prog 10 #[.agg #[.int .u64 p, .int .i64 m, .int .i64 1, .bool neg, v, .int .i64 e]] w fun e' w' => ∃ r, e' = .returned r ∧ DyV w' r neg (wv ws) e ∧ Below w.heap.size w w' := by
  have hS := hv.isS
  have hab := (Below.refl w.heap.size w).alloc (Nat.le_refl _) (.cells #[.int .u64 p, .int .i64 m, .int .i64 1, .bool neg, v, .int .i64 e] 26)
  have hac := hab.alloc hab.size (.cells #[.bool false, .slice none 0 0, .int .i64 0] 36)
  obtain ⟨X, hX⟩ : ∃ X, X = (w.alloc (.cells #[.int .u64 p, .int .i64 m, .int .i64 1, .bool neg, v, .int .i64 e] 26)).alloc (.cells #[.bool false, .slice none 0 0, .int .i64 0] 36) := ⟨_, rfl⟩
  have hr1 : X.heap[w.heap.size]? = some (.cells #[.int .u64 p, .int .i64 m, .int .i64 1, .bool neg, v, .int .i64 e] 26 (0, 0)) := by
    rw [hX]; exact keep_row (fbone _) (box_row (Below.refl _ _))
  have hr2 : X.heap[w.heap.size + 1]? = some (.cells #[.bool false, .slice none 0 0, .int .i64 0] 36 (0, 0)) := by
    rw [hX]
    have := box_row (Below.refl _ ((w.alloc (.cells #[.int .u64 p, .int .i64 m, .int .i64 1, .bool neg, v, .int .i64 e] 26)).alloc (.cells #[.bool false, .slice none 0 0, .int .i64 0] 36)))
    simpa using this
  rw [← hX] at hac
  obtain ⟨-, x0, x1, x2, x3, x4, x5⟩ := ks12 hr1 (Below.refl _ _)
  have HR1 := Lib.hid hr1
  have HR2 := Lib.hid hr2
  have HB := Lib.hid hac
  have HV := Lib.hid (hv.below hac)
  have hcc := Below.refl X.heap.size X
  have hXs := hac.size
  clear hr1 hr2 hab hac hv
  go_enter Tryz.func10, Tryz.ntmps10
  go_upto_region 1 with fail
  rw [← hX]
  clear hX
  go_upto_region 3 with fail
  have hN := Lib.hid (show w.heap.size + 1 ≠ w.heap.size by omega)
  clear x0 x1 x2 x3 x4 x5
  first
    | (go_region_held3 (fun w' => w'.cell? ⟨w.heap.size, 0, none⟩ = some (.int .u64 (p : Int)) ∧ w'.cell? ⟨w.heap.size, 1, none⟩ = some (.int .i64 (m : Int)) ∧ w'.cell? ⟨w.heap.size, 2, none⟩ = some (.int .i64 1) ∧ w'.cell? ⟨w.heap.size, 3, none⟩ = some (.bool neg) ∧ w'.cell? ⟨w.heap.size, 4, none⟩ = some v ∧ w'.cell? ⟨w.heap.size, 5, none⟩ = some (.int .i64 e))
        ((first | (refine (ks12 HR1.out ?_).2; first | assumption | exact Below.drew hcc) | exact ks6R hN.out (ks6R hN.out (ks6R hN.out (ks12 HR1.out (by assumption)).2))))
        (first
          | (go_at_call 25; refine (spOf v ws _ (HV.out.below (Below.drew hcc)) (by omega)).mono ?_; rintro _ w3 ⟨d, rfl, hd, hb3⟩; have hSd := hd.isS; have hb3 : Below X.heap.size X w3 := bthen (Below.drew hcc) hb3; have hvr := keep_row hb3 HR2.out; obtain ⟨hv0, hv1, hv2, hf0, hf1, hf2⟩ := row3 hvr)))
    | fail
  all_goals go_wp2
  all_goals
    obtain ⟨hx0, hx1, hx2, -, -, -⟩ := row3 (row3_set (x := .bool neg) (y := d) (z := .int .i64 e) hvr)
    have hn := natv_dyad (x := .bool neg) (y := d) (z := .int .i64 e) IsS.nil hd hvr
    have hbY := bset (i := 2) (u := .int .i64 e) (bset (i := 1) (u := d) (bset (i := 0) (u := .bool neg) (HB.out.trans (hb3.mono hXs)) (Nat.le_succ _)) (Nat.le_succ _)) (Nat.le_succ _)
    refine bodyPost_ret (v := .agg #[.bool neg, d, .int .i64 e]) ?_ rfl ⟨_, rfl, ⟨_, rfl, hn⟩, hbY⟩
    simp [results, Tryz.results10, go_sem, hx0, hx1, hx2]
end Go.Proofs.YtgbmlaffilccnaaGreatDoor

/-
Rows of reals in a world, for the statements' walks. No condition.
-/
namespace Go.Proofs.YtgbmlaffilccnaaGreatDoor
open Go.RowKit
/-- The form of a number. -/
def fO (M : Nat) : Nat := if M = 0 then 0 else 1

theorem row_chain11 {w : World} {a : Array Value} {A : TypeId} : (w.alloc (.cells a A)).heap[w.heap.size]? = some (.cells a A (0, 0)) := box_row (Below.refl _ _)
theorem row_chain21 {w : World} {a b : Array Value} {A B : TypeId} : ((w.alloc (.cells a A)).alloc (.cells b B)).heap[w.heap.size]? = some (.cells a A (0, 0)) := keep_row (fbone _) row_chain11
theorem row_chain22 {w : World} {a b : Array Value} {A B : TypeId} : ((w.alloc (.cells a A)).alloc (.cells b B)).heap[w.heap.size + 1]? = some (.cells b B (0, 0)) := by
  have := row_chain11 (w := w.alloc (.cells a A)) (a := b) (A := B)
  simpa using this
theorem row_chain31 {w : World} {a b c : Array Value} {A B C : TypeId} : (((w.alloc (.cells a A)).alloc (.cells b B)).alloc (.cells c C)).heap[w.heap.size]? = some (.cells a A (0, 0)) := keep_row (fbone _) row_chain21
theorem row_chain32 {w : World} {a b c : Array Value} {A B C : TypeId} : (((w.alloc (.cells a A)).alloc (.cells b B)).alloc (.cells c C)).heap[w.heap.size + 1]? = some (.cells b B (0, 0)) := keep_row (fbone _) row_chain22
theorem row_chain33 {w : World} {a b c : Array Value} {A B C : TypeId} : (((w.alloc (.cells a A)).alloc (.cells b B)).alloc (.cells c C)).heap[w.heap.size + 2]? = some (.cells c C (0, 0)) := by
  have := row_chain11 (w := (w.alloc (.cells a A)).alloc (.cells b B)) (a := c) (A := C)
  simpa using this
section
variable {W X : World} {i j k l : Nat} {a b c d e f a' b' c' d' e' f' a'' b'' c'' d'' e'' f'' x y z : Value} {T T' T'' U : TypeId}
theorem ksR1 (hr : W.heap[i]? = some (.cells #[a, b, c, d, e, f] T (0, 0))) (h : Below W.heap.size W X) :
    Below W.heap.size W X ∧ X.cell? ⟨i, 0, none⟩ = some a ∧ X.cell? ⟨i, 1, none⟩ = some b ∧ X.cell? ⟨i, 2, none⟩ = some c ∧ X.cell? ⟨i, 3, none⟩ = some d ∧ X.cell? ⟨i, 4, none⟩ = some e ∧ X.cell? ⟨i, 5, none⟩ = some f := ks12 hr h
theorem ksR2 (hr : W.heap[i]? = some (.cells #[a, b, c, d, e, f] T (0, 0))) (hq : W.heap[j]? = some (.cells #[a', b', c', d', e', f'] T' (0, 0))) (h : Below W.heap.size W X) :
    Below W.heap.size W X ∧ (X.cell? ⟨i, 0, none⟩ = some a ∧ X.cell? ⟨i, 1, none⟩ = some b ∧ X.cell? ⟨i, 2, none⟩ = some c ∧ X.cell? ⟨i, 3, none⟩ = some d ∧ X.cell? ⟨i, 4, none⟩ = some e ∧ X.cell? ⟨i, 5, none⟩ = some f) ∧
    (X.cell? ⟨j, 0, none⟩ = some a' ∧ X.cell? ⟨j, 1, none⟩ = some b' ∧ X.cell? ⟨j, 2, none⟩ = some c' ∧ X.cell? ⟨j, 3, none⟩ = some d' ∧ X.cell? ⟨j, 4, none⟩ = some e' ∧ X.cell? ⟨j, 5, none⟩ = some f') :=
  ⟨h, (ks12 hr h).2, (ks12 hq h).2⟩
theorem ksR3 (hr : W.heap[i]? = some (.cells #[a, b, c, d, e, f] T (0, 0))) (hq : W.heap[j]? = some (.cells #[a', b', c', d', e', f'] T' (0, 0))) (hs : W.heap[k]? = some (.cells #[a'', b'', c'', d'', e'', f''] T'' (0, 0))) (h : Below W.heap.size W X) :
    Below W.heap.size W X ∧ (X.cell? ⟨i, 0, none⟩ = some a ∧ X.cell? ⟨i, 1, none⟩ = some b ∧ X.cell? ⟨i, 2, none⟩ = some c ∧ X.cell? ⟨i, 3, none⟩ = some d ∧ X.cell? ⟨i, 4, none⟩ = some e ∧ X.cell? ⟨i, 5, none⟩ = some f) ∧
    (X.cell? ⟨j, 0, none⟩ = some a' ∧ X.cell? ⟨j, 1, none⟩ = some b' ∧ X.cell? ⟨j, 2, none⟩ = some c' ∧ X.cell? ⟨j, 3, none⟩ = some d' ∧ X.cell? ⟨j, 4, none⟩ = some e' ∧ X.cell? ⟨j, 5, none⟩ = some f') ∧
    (X.cell? ⟨k, 0, none⟩ = some a'' ∧ X.cell? ⟨k, 1, none⟩ = some b'' ∧ X.cell? ⟨k, 2, none⟩ = some c'' ∧ X.cell? ⟨k, 3, none⟩ = some d'' ∧ X.cell? ⟨k, 4, none⟩ = some e'' ∧ X.cell? ⟨k, 5, none⟩ = some f'') :=
  ⟨h, (ks12 hr h).2, (ks12 hq h).2, (ks12 hs h).2⟩
end
end Go.Proofs.YtgbmlaffilccnaaGreatDoor

/-
The thin package's Set, Neg, Abs. No condition.
-/
namespace Go.Proofs.YtgbmlaffilccnaaGreatDoor
open Go.RowKit

theorem bthenX {B : Nat} {a b c : World} (h : Below B a b) (k : Below B b c) : Below B a c := h.trans k
theorem stA_bd (f p m : Nat) (neg : Bool) (M : Nat) : -1 ≤ stA f p m neg M ∧ stA f p m neg M ≤ 1 := by
  unfold stA rA; repeat' split
  all_goals omega
theorem rQ_range {p m M : Nat} {neg : Bool} {e : Int} (h : bl M ≤ 1000000 ∧ -2120000000 ≤ e ∧ e ≤ 2120000000) : -2140000000 ≤ e + (rk p M : Nat) ∧ e + (rk p M : Nat) + bl (rQ p m neg 0 M) ≤ 2140000000 := by
  have h1 := rk_le p M
  have h2 := bl_rQ p m neg 0 M
  omega
end Go.Proofs.YtgbmlaffilccnaaGreatDoor

/-
The thin package's SetPrec, SetMantExp, MantExp, IsInt. No condition.
-/
namespace Go.Proofs.YtgbmlaffilccnaaGreatDoor
open Go.RowKit

end Go.Proofs.YtgbmlaffilccnaaGreatDoor

/-
The value of a Real in the reference. No condition.
-/
namespace Go.Proofs.YtgbmlaffilccnaaGreatDoor
open Go.RowKit

def dyN (f : Nat) (n : Bool) : Bool := if f = 1 then n else false
def dyM (f M : Nat) : Nat := if f = 1 then M else 0
def dyE (f : Nat) (e : Int) : Int := if f = 1 then e else 0
theorem ofReal_any (P E p m f : Nat) (e : Int) (neg : Bool) (v : Value) (ws : List Nat) (w : World) (hv : RW w v ws) (ho : RealOk P E p m f ws e) :
    Calls Tryz.prog 10 #[.agg #[.int .u64 p, .int .i64 m, .int .i64 f, .bool neg, v, .int .i64 e]] w fun e' w' => ∃ r, e' = .returned r ∧ DyV w' r (dyN f neg) (dyM f (wv ws)) (dyE f e) ∧ Below w.heap.size w w' := by
  by_cases hf : f = 1
  · subst hf
    obtain ⟨-, -, -, h | h | h⟩ := ho
    · exact absurd h (by decide)
    · exact absurd h (by decide)
    · exact ofReal_one p m e neg v ws w hv h.2.2.2.1
  · rw [dyN, dyM, dyE, if_neg hf, if_neg hf, if_neg hf]
    exact ofReal_other p m f e neg v w hv.isS hf
theorem dy_nl {P E p m f : Nat} {e : Int} {ws : List Nat} (ho : RealOk P E p m f ws e) (hP : P ≤ 64000) : bl (dyM f (wv ws)) ≤ P ∧ -(E : Int) ≤ dyE f e ∧ dyE f e ≤ E := by
  obtain ⟨h1, h2, -, h⟩ := ho
  by_cases hf : f = 1
  · subst hf
    rw [dyM, dyE, if_pos rfl, if_pos rfl]
    rcases h with h | h | h
    · exact absurd h (by decide)
    · exact absurd h (by decide)
    · exact ⟨Nat.le_trans h.2.2.1 h2, h.2.2.2.2.1, h.2.2.2.2.2⟩
  · rw [dyM, dyE, if_neg hf, if_neg hf, bl_zero]; omega
theorem RealOk.pos {P E p m f : Nat} {ws : List Nat} {e : Int} (h : RealOk P E p m f ws e) (hf : f = 1) : 0 < wv ws := by
  subst hf
  obtain ⟨-, -, -, h | h | h⟩ := h
  · exact absurd h (by decide)
  · exact absurd h (by decide)
  · exact h.2.1
end Go.Proofs.YtgbmlaffilccnaaGreatDoor

/-
What is told of a Real against its reference. No condition.
-/
namespace Go.Proofs.YtgbmlaffilccnaaGreatDoor
open Go.RowKit

theorem rQ_zero (p m : Nat) (neg : Bool) : rk p 0 = 0 ∧ rQ p m neg 0 0 = 0 ∧ rA p m neg 0 0 = 0 := rQ_fits neg (by rw [bl_zero]; exact Nat.zero_le _)
theorem told_dy {w : World} {z : Value} {p m f M : Nat} {n : Bool} {e : Int} (hf : f = 0 ∨ f = 1) (hz : RealV w z p m f n (rQ p m n 0 M) (e + (rk p M : Nat))) (hM : f = 1 → 0 < M) (hp : 0 < p) :
    Told w z p m (dyN f n) (rQ p m (dyN f n) 0 (dyM f M)) (dyE f e + (rk p (dyM f M) : Nat)) := by
  rcases hf with rfl | rfl
  · obtain ⟨h1, h2, -⟩ := rQ_zero p m (dyN 0 n)
    rw [show dyM 0 M = 0 from rfl, h2]
    exact hz.told0
  · rw [show dyN 1 n = n from rfl, show dyM 1 M = M from rfl, show dyE 1 e = e from rfl]
    exact hz.told (rQ_pos n 0 hp (hM rfl)) (deq.refl _ _)
theorem stA_dy {p m f M : Nat} {n : Bool} (hf : f = 0 ∨ f = 1) : stA f p m n M = rA p m (dyN f n) 0 (dyM f M) := by
  rcases hf with rfl | rfl
  · exact (rQ_zero p m (dyN 0 n)).2.2.symm
  · rfl
theorem RealV.form {w : World} {z : Value} {p m f M : Nat} {neg : Bool} {X : Int} (h : RealV w z p m f neg M X) : ∃ (v : Value) (E : Int), z = .agg #[.int .u64 p, .int .i64 m, .int .i64 f, .bool neg, v, .int .i64 E] ∧ IsS v := by
  obtain ⟨v, E, zs, B, h1, h2, -⟩ := h
  exact ⟨v, E, h1, h2.isS⟩
theorem RealOk.form' {P E p m f : Nat} {ws : List Nat} {e : Int} (h : RealOk P E p m f ws e) : f ≤ 2 := by
  obtain ⟨-, -, -, h | h | h⟩ := h <;> omega
theorem pOf_self (k p : Nat) : pOf k (max p p) = pOf k p := by rw [Nat.max_self]
end Go.Proofs.YtgbmlaffilccnaaGreatDoor

/-
What is written inside a part of a row: frames; clear and copy of a part. No condition.
-/
namespace Go.Proofs.YtgbmlaffilccnaaGreatDoor
open Go.RowKit

/-- Of what was there, nothing but the cells from lo on and below hi of block b has turned. -/
structure FrB (b lo hi : Nat) (w w' : World) : Prop where
  only : Only b w w'
  row : ∀ cur e fr, w.heap[b]? = some (.cells cur e fr) → ∃ cur', w'.heap[b]? = some (.cells cur' e fr) ∧ cur'.size = cur.size ∧ ∀ i, i < lo ∨ hi ≤ i → cur'[i]? = cur[i]?
theorem FrB.refl (b lo hi : Nat) (w : World) : FrB b lo hi w w := ⟨Only.refl _ _, fun cur _e _fr h => ⟨cur, h, rfl, fun _ _ => rfl⟩⟩
theorem FrB.trans {b lo hi : Nat} {w1 w2 w3 : World} (h : FrB b lo hi w1 w2) (hz : w1.heap.size ≤ w2.heap.size) (k : FrB b lo hi w2 w3) : FrB b lo hi w1 w3 := by
  refine ⟨h.only.trans hz k.only, fun cur e fr hr => ?_⟩
  obtain ⟨c1, h1, h2, h3⟩ := h.row cur e fr hr
  obtain ⟨c2, k1, k2, k3⟩ := k.row c1 e fr h1
  exact ⟨c2, k1, k2.trans h2, fun i hi => (k3 i hi).trans (h3 i hi)⟩
theorem FrB.mono {b lo hi lo' hi' : Nat} {w w' : World} (h : FrB b lo hi w w') (h1 : lo' ≤ lo) (h2 : hi ≤ hi') : FrB b lo' hi' w w' := by
  refine ⟨h.only, fun cur e fr hr => ?_⟩
  obtain ⟨c1, k1, k2, k3⟩ := h.row cur e fr hr
  exact ⟨c1, k1, k2, fun i hi => k3 i (by omega)⟩
theorem FrB.drewN {b lo hi n : Nat} {w w' : World} (h : FrB b lo hi w w') : FrB b lo hi w (w'.drewN n) := ⟨h.only, h.row⟩
theorem FrB.undrewN {b lo hi n : Nat} {w w' : World} (h : FrB b lo hi (w.drewN n) w') : FrB b lo hi w w' := ⟨h.only, h.row⟩
theorem FrB.set {b lo hi i : Nat} {w w' : World} (h : FrB b lo hi w w') (h1 : lo ≤ i) (h2 : i < hi) (u : Value) : FrB b lo hi w (w'.setCell ⟨b, i, none⟩ u) := by
  refine ⟨fun k hk hne => (heap_setCell_other _ _ _ _ (by simpa using hne)).trans (h.only k hk hne), fun cur e fr hr => ?_⟩
  obtain ⟨c1, k1, k2, k3⟩ := h.row cur e fr hr
  refine ⟨c1.setIfInBounds i u, by simp [World.setCell, Array.getElem?_modify, k1], by simpa using k2, fun j hj => ?_⟩
  rw [Array.getElem?_setIfInBounds, if_neg (by omega)]
  exact k3 j hj
theorem FrB.setRow {b lo hi : Nat} {w : World} {cur cur' : Array Value} {e : TypeId} {fr : Nat × Nat} (hr : w.heap[b]? = some (.cells cur e fr)) (hs : cur'.size = cur.size) (h : ∀ i, i < lo ∨ hi ≤ i → cur'[i]? = cur[i]?) : FrB b lo hi w (w.setRow b cur') := by
  refine ⟨fun k hk hne => setRow_other w _ k _ hne, fun c e' fr' hc => ?_⟩
  rw [hr] at hc
  cases hc
  exact ⟨cur', setRow_heap w _ _ _ _ _ hr, hs, h⟩
/-- A cell outside of the part is as it was. -/
theorem FrB.cell {b lo hi : Nat} {w w' : World} (h : FrB b lo hi w w') {k i : Nat} {u : Value} (hc : w.cell? ⟨k, i, none⟩ = some u) (hn : k = b → i < lo ∨ hi ≤ i) : w'.cell? ⟨k, i, none⟩ = some u := by
  have hlt := World.block_lt_of_cell? w _ hc
  by_cases hk : k = b
  · subst hk
    unfold World.cell? at hc ⊢
    simp only at hc hlt ⊢
    cases hr : w.heap[k]? with
    | none => rw [hr] at hc; simp at hc
    | some o =>
      rw [hr] at hc
      cases o with
      | cells cur e fr =>
        obtain ⟨c1, k1, k2, k3⟩ := h.row cur e fr hr
        rw [k1]
        simp only at hc ⊢
        rw [k3 i (hn rfl)]; exact hc
      | map es cl => simp at hc
      | _ => simp_all
  · exact (World.cell?_of_block (h.only k hlt hk)).trans hc
theorem FrB.rw {b lo hi : Nat} {w w' : World} {v : Value} {ws : List Nat} (h : FrB b lo hi w w') (hv : RW w v ws) (hn : sBlk v = b → sOff v + ws.length ≤ lo ∨ hi ≤ sOff v) : RW w' v ws :=
  ⟨⟨hv.ri.isS, hv.ri.len, fun i hi => h.cell (hv.ri.cell i hi) (fun hb => by have := hn hb; rw [ints_length] at hi; omega)⟩, hv.lt⟩
/-- A part of an owned slice was written anew. -/
theorem Own.patch {w w' : World} {B : Nat} {e : TypeId} {v : Value} {xs ys : List Value} (h : Own w B e v xs) {l n : Nat} (h1 : l ≤ n) (h2 : n ≤ xs.length) (hy : ys.length = n - l)
    (k : Own w' B e (subS v l n) ys) (f : FrB (sBlk v) (sOff v + l) (sOff v + n) w w') : Own w' B e v (xs.take l ++ (ys ++ xs.drop n)) := by
  have hl := h.len
  have hcap := h.isS.le
  refine ⟨h.isS, by simp; omega, h.cap, ?_⟩
  rcases h.row with h0 | ⟨hb, cur, hg, hsz, ht⟩
  · exact .inl h0
  · obtain ⟨c1, g1, g2, g3⟩ := f.row cur e (0, 0) hg
    refine .inr ⟨hb, c1, g1, by omega, ?_⟩
    have hlen : (xs.take l ++ (ys ++ xs.drop n)).length = xs.length := by simp; omega
    rw [hlen]
    apply List.ext_getElem?
    intro i
    rw [List.getElem?_take]
    have hx : ∀ j, j < xs.length → xs[j]? = cur[sOff v + j]? := fun j hj => by
      rw [← ht, List.getElem?_take, if_pos hj, List.getElem?_drop]; simp
    by_cases hi : i < xs.length
    · rw [if_pos hi, List.getElem?_drop]
      have e1 : c1.toList[sOff v + i]? = c1[sOff v + i]? := by simp
      rw [e1]
      by_cases hil : i < l
      · rw [g3 _ (by omega), List.getElem?_append_left (by simp; omega), List.getElem?_take, if_pos hil, hx i hi]
      · rw [List.getElem?_append_right (by simp; omega)]
        have e2 : (xs.take l).length = l := by simp; omega
        rw [e2]
        by_cases hin : i < n
        · rw [List.getElem?_append_left (by omega)]
          obtain ⟨u, hu⟩ : ∃ u, ys[i - l]? = some u := ⟨_, List.getElem?_eq_getElem (by omega)⟩
          have hc := k.cell hu
          rw [subS_blk h.isS, subS_off h.isS (by omega), show sOff v + l + (i - l) = sOff v + i by omega, cell_of_row w' _ _ c1 e (0, 0) g1] at hc
          rw [hu]; exact hc
        · rw [g3 _ (by omega), List.getElem?_append_right (by omega), hy, List.getElem?_drop, show n + (i - l - (n - l)) = i by omega, hx i hi]
    · rw [if_neg hi, List.getElem?_eq_none (by rw [hlen]; omega)]
theorem laid_get {cur cs : List Value} {o i : Nat} (h : o + cs.length ≤ cur.length) (hi : i < o ∨ o + cs.length ≤ i) : (cur.take o ++ (cs ++ cur.drop (o + cs.length)))[i]? = cur[i]? := by
  have e2 : (cur.take o).length = o := by simp; omega
  rcases hi with hi | hi
  · rw [List.getElem?_append_left (by omega), List.getElem?_take, if_pos hi]
  · rw [List.getElem?_append_right (by omega), e2, List.getElem?_append_right (by omega), List.getElem?_drop]
    congr 1; omega
/-- clear of an owned slice. -/
theorem wpList_clear_O {P : Program} {w : World} {ops : Array Oper} {rest : List Oper} {o : Oper} {a : Act} {Q : Exit → Act → World → Prop} (hgd : o.guard = none) (s : Operand) (t : TypeId)
    (ho : o.op = .call { callee := .builtin .clear, args := #[s], argTypes := #[t] }) {e : TypeId} {bytes : Nat} {z : Value} (E : ElemT P t e bytes z) (hz1 : z.oneCell' = true) (v : Value) (hs : a.eval s = v) (B : Nat) (xs : List Value) (hown : Own w B e v xs)
    (h : ∀ w', Own w' B e v (List.replicate xs.length z) → Below B w w' → FrB (sBlk v) (sOff v) (sOff v + xs.length) w w' → wpList P ops Q rest (a.put o.dst (.tuple #[])) w') : wpList P ops Q (o :: rest) a w := by
  have hL := hown.len
  have hC := hown.isS.le
  obtain ⟨i, hi, hz, hsz, hbb, hzc⟩ := E.info
  by_cases h0 : xs.length = 0
  · obtain rfl : xs = [] := List.eq_nil_of_length_eq_zero h0
    obtain ⟨p, n, c, rfl⟩ := hown.isS.form
    have hn : n = 0 := by simpa [sLen] using hL
    subst hn
    refine wpList_plain hgd fun K hK => ?_
    have hrun : (Builtin.clear_ #[t] o.type #[.slice p 0 c]).run P w = .ok (.tuple #[]) w := by
      cases p <;> simp [Builtin.clear_, run_underlying E.ht, Result.andThen]
    unfold Oper.wp
    simp [execOp, ho, resolve, invoke, builtin, hs, hrun, Result.andThen]
    exact hK _ _ (h w hown (Below.refl _ _) (FrB.refl _ _ _ _))
  · rcases hown.row with hr | ⟨hb, cur, hg, hcs, ht⟩
    · omega
    · have hv := hown.isS.out (by omega)
      refine wpList_plain hgd fun K hK => ?_
      have hzl : (Builtin.zeroCells #[z] xs.length).toList = List.replicate xs.length z := by
        apply List.ext_getElem
        · simp [Builtin.zeroCells]
        · intro j h1 h2
          simp [Builtin.zeroCells, Nat.mod_one]
      have hst := run_storeCells_at (P := P) (sBlk v) (sOff v) e (List.replicate xs.length z) 0 cur w hg (by simp; omega) (fun x hx => by rw [List.eq_of_mem_replicate hx]; exact hz1)
      have hrun : (Builtin.clear_ #[t] o.type #[v]).run P w = .ok (.tuple #[]) (w.setRow (sBlk v) (cur.toList.take (sOff v) ++ (List.replicate xs.length z ++ cur.toList.drop (sOff v + xs.length))).toArray) := by
        rw [hv, hL]
        obtain ⟨m, hm⟩ : ∃ m, xs.length = m + 1 := ⟨xs.length - 1, by omega⟩
        rw [hm] at hst hzl ⊢
        simp [Builtin.clear_, run_underlying E.ht, zeroValue, typeInfo, hi, hz, hzc, hzl, Result.andThen]
        have := hst
        simp at this
        rw [this]
      unfold Oper.wp
      simp only [execOp, ho, resolve, invoke, builtin, Sem.run_bind, Sem.run_pure, Result.andThen_ok, List.map_toArray, List.map_cons, List.map_nil, hs, hrun]
      have hsz2 : (cur.toList.take (sOff v) ++ (List.replicate xs.length z ++ cur.toList.drop (sOff v + xs.length))).toArray.size = cur.size := by simp; omega
      refine hK _ _ (h _ ⟨hown.isS, by simpa using hL, hown.cap, .inr ⟨hb, _, setRow_heap w _ _ _ _ _ hg, by rw [hsz2]; exact hcs, ?_⟩⟩ (below_setRow (Below.refl _ _) hb _) (FrB.setRow hg hsz2 fun i hi => ?_))
      · have hlt : (cur.toList.take (sOff v)).length = sOff v := by simp; omega
        simp only [List.length_replicate]
        rw [List.drop_left' hlt, List.take_left' (by simp)]
      · have := laid_get (cur := cur.toList) (cs := List.replicate xs.length z) (o := sOff v) (i := i) (by simp; omega) (by simpa using hi)
        simpa using this
/-- copy onto an owned slice, the part told. -/
theorem wpList_copy_W {P : Program} {w : World} {ops : Array Oper} {rest : List Oper} {o : Oper} {a : Act} {Q : Exit → Act → World → Prop} (hgd : o.guard = none) (d s : Operand) (dT sT : TypeId)
    (ho : o.op = .call { callee := .builtin .copy, args := #[d, s], argTypes := #[dT, sT] }) (elem : TypeId) (hu : P.underlying dT = some (.slice elem)) (hsz : (P.info? elem).map (·.size) = some 1)
    (v vx : Value) (hd : a.eval d = v) (hs : a.eval s = vx) (B : Nat) (xs : List Value) (hown : Own w B elem v xs) (cs : List Value) (hlen : cs.length = xs.length) (hsx : IsS vx) (hlx : sLen vx = cs.length)
    (hsrc : ∀ j u, cs[j]? = some u → w.cell? ⟨sBlk vx, sOff vx + j, none⟩ = some u) (h1 : ∀ v ∈ cs, v.oneCell' = true)
    (h : ∀ w', Own w' B elem v cs → Below B w w' → FrB (sBlk v) (sOff v) (sOff v + xs.length) w w' → (cs.length = 0 → w' = w) → wpList P ops Q rest (a.put o.dst (goInt cs.length)) w') : wpList P ops Q (o :: rest) a w := by
  have hL := hown.len
  have hC := hown.isS.le
  have hCx := hsx.le
  by_cases h0 : cs.length = 0
  · obtain rfl : cs = [] := List.eq_nil_of_length_eq_zero h0
    obtain rfl : xs = [] := List.eq_nil_of_length_eq_zero (by simpa using hlen.symm)
    obtain ⟨p, n, c, rfl⟩ := hown.isS.form
    obtain ⟨p', n', c', rfl⟩ := hsx.form
    have hn : n = 0 := by simpa [sLen] using hL
    subst hn
    exact wpList_copy_nothing hgd d s dT sT ho elem hu hsz p p' 0 c n' c' hd hs (by simp) (h w hown (Below.refl _ _) (FrB.refl _ _ _ _) (fun _ => rfl))
  · rcases hown.row with hr | ⟨hb, cur, hg, hcs, ht⟩
    · omega
    · have hv := hown.isS.out (by omega)
      have hvx := hsx.out (by omega)
      have hsz2 : (cur.toList.take (sOff v) ++ (cs ++ cur.toList.drop (sOff v + cs.length))).toArray.size = cur.size := by simp; omega
      refine wpList_copy_own hgd d s dT sT ho elem hu hsz (sBlk v) (sOff v) (sLen v) (sCap v) ⟨sBlk vx, sOff vx, none⟩ (sLen vx) (sCap vx) (hd.trans hv) (hs.trans hvx) cur elem hg cs (by rw [hlx, hL, hlen]; simp) (fun j u hj => by rw [add_none]; exact hsrc j u hj) (by omega) h1 ?_
      refine h _ ⟨hown.isS, by omega, hown.cap, .inr ⟨hb, _, setRow_heap w _ _ _ _ _ hg, by rw [hsz2]; exact hcs, ?_⟩⟩ (below_setRow (Below.refl _ _) hb _) (FrB.setRow hg hsz2 fun i hi => ?_) (fun hc => absurd hc h0)
      · have hlt : (cur.toList.take (sOff v)).length = sOff v := by simp; omega
        rw [List.drop_left' hlt, List.take_left' rfl]
      · have := laid_get (cur := cur.toList) (cs := cs) (o := sOff v) (i := i) (by simp; omega) (by rw [hlen]; exact hi)
        simpa using this
/-- The words behind i rounds of a loop that writes them in their order: they are Z. -/
def Vv (v : Value) (n B i Z : Nat) (w wr : World) : Prop :=
  ∃ (os : List Value) (ds : List Nat), Own wr B 116 v os ∧ os.length = n ∧ os.take i = cellsW ds ∧ ds.length = i ∧ (∀ d ∈ ds, d < 18446744073709551616) ∧ wv ds = Z ∧ Below B w wr ∧ FrB (sBlk v) (sOff v) (sOff v + i) w wr
theorem Vv.start {v : Value} {B n : Nat} {os : List Value} {w : World} (h : Own w B 116 v os) (hn : os.length = n) : Vv v n B 0 0 w w :=
  ⟨os, [], h, hn, (by simp [cellsW]), rfl, (fun d hd => by cases hd), rfl, Below.refl _ _, FrB.refl _ _ _ _⟩
theorem Vv.put {v : Value} {n B i Z : Nat} {w wr : World} (h : Vv v n B i Z w wr) (hi : i < n) (hc : B ≤ sBlk v) {d : Nat} (hd : d < 18446744073709551616) :
    Vv v n B (i + 1) (Z + 18446744073709551616 ^ i * d) w (wr.setCell ⟨sBlk v, sOff v + i, none⟩ (.int .u64 (d : Int))) := by
  obtain ⟨os, ds, h1, h2, h3, h4, h5, h6, h7, h8⟩ := h
  have ho := h1.set (i := i) (by omega) (.int .u64 (d : Int))
  refine ⟨os.set i (.int .u64 (d : Int)), ds ++ [d], ho, by simpa using h2, ?_, by simp; omega, ?_, ?_, bset h7 hc, (h8.mono (Nat.le_refl _) (by omega)).set (by omega) (by omega) _⟩
  · have e1 : (os.take i).length = i := by simp; omega
    rw [← cellsW_snoc, ← h3, List.take_set, List.take_succ_eq_append_getElem (by omega : i < os.length), List.set_append_right _ _ (by omega), e1]
    simp
  · intro x hx
    rcases List.mem_append.1 hx with h | h
    · exact h5 x h
    · rw [List.mem_singleton] at h; rw [h]; exact hd
  · rw [wv_snoc, h4, h6]
theorem Vv.drewN {v : Value} {n B i Z k : Nat} {w wr : World} (h : Vv v n B i Z w wr) : Vv v n B i Z w (wr.drewN k) := by
  obtain ⟨os, ds, h1, h2, h3, h4, h5, h6, h7, h8⟩ := h
  exact ⟨os, ds, h1.drewN _, h2, h3, h4, h5, h6, undrewN' h7, h8.drewN⟩
/-- All of the words are Z's. -/
def VvP (v : Value) (n B Z : Nat) (w w' : World) : Prop := Own w' B 116 v (cellsW (wdsN Z n)) ∧ Below B w w' ∧ FrB (sBlk v) (sOff v) (sOff v + n) w w'
theorem wdsN_eq {os : List Nat} {n Z : Nat} (hl : os.length = n) (hd : ∀ d ∈ os, d < 18446744073709551616) (h : ∃ c, Z = wv os + 18446744073709551616 ^ n * c) : os = wdsN Z n := by
  obtain ⟨c, rfl⟩ := h
  refine wv_inj hd wdsN_lt (by rw [wdsN_length, hl]) ?_
  rw [wdsN_wv, Nat.add_mul_mod_self_left, Nat.mod_eq_of_lt]
  have := wv_lt hd
  rw [hl] at this; exact this
theorem Vv.done {v : Value} {n B Z : Nat} {w wr : World} (h : Vv v n B n Z w wr) {Y : Nat} (c : Nat) (hY : Y = Z + 18446744073709551616 ^ n * c) : VvP v n B Y w wr := by
  obtain ⟨os, ds, h1, h2, h3, h4, h5, h6, h7, h8⟩ := h
  rw [List.take_of_length_le (by omega)] at h3
  rw [VvP, ← wdsN_eq h4 h5 ⟨c, by rw [h6]; exact hY⟩, ← h3]
  exact ⟨h1, h7, h8⟩
/-- A word of a source that lies elsewhere, or not ahead of what is written. -/
theorem Vv.src {v x : Value} {n B i Z : Nat} {xs : List Nat} {w wr : World} (h : Vv v n B i Z w wr) (hx : RW w x xs) (hal : sBlk x = sBlk v → sOff v ≤ sOff x) {j : Nat} (hij : i ≤ j) (hj : j < xs.length) : wr.cell? ⟨sBlk x, sOff x + j, none⟩ = some (.int .u64 ((xs.getD j 0 : Nat) : Int)) := by
  obtain ⟨os, ds, h1, h2, h3, h4, h5, h6, h7, h8⟩ := h
  exact h8.cell (hx.cell j hj) (fun hb => by have := hal hb; omega)
theorem Vv.frozen {v : Value} {n B i Z : Nat} {w wr : World} (h : Vv v n B i Z w wr) (hc : 0 < sCap v) (k : Nat) : wr.frozen? ⟨sBlk v, k, none⟩ = false := by
  obtain ⟨os, ds, h1, -⟩ := h
  exact h1.frozen hc k
/-- The cell that is to be written. -/
theorem Vv.own {v : Value} {n B i Z : Nat} {w wr : World} (h : Vv v n B i Z w wr) {k : Nat} (hk : k < n) : ∃ u : Value, wr.cell? ⟨sBlk v, sOff v + k, none⟩ = some u := by
  obtain ⟨os, ds, h1, h2, -⟩ := h
  exact ⟨_, h1.cell (List.getElem?_eq_getElem (by omega))⟩
end Go.Proofs.YtgbmlaffilccnaaGreatDoor

/-
The bytes of a number, the greatest first: plain arithmetic. No condition.
-/
namespace Go.Proofs.YtgbmlaffilccnaaGreatDoor
open Go.RowKit

/-- The byte with the index i. -/
def byt (n i : Nat) : Nat := n / 256 ^ i % 256
/-- L bytes of a number, the greatest first. -/
def bbs (L n : Nat) : List Nat := (List.range L).map fun p => byt n (L - 1 - p)
theorem byt_lt (n i : Nat) : byt n i < 256 := Nat.mod_lt _ (by decide)
theorem bbs_length (L n : Nat) : (bbs L n).length = L := by simp [bbs]
theorem bbs_getD {L n p : Nat} (h : p < L) : (bbs L n).getD p 0 = byt n (L - 1 - p) := by simp [bbs, List.getD_eq_getElem?_getD, h]
theorem bbs_none {L n p : Nat} (h : L ≤ p) : (bbs L n).getD p 0 = 0 := by rw [List.getD_eq_getElem?_getD, List.getElem?_eq_none (by rw [bbs_length]; exact h)]; rfl
theorem bbs_ext {L n : Nat} {a : List Nat} (hl : a.length = L) (h : ∀ p, p < L → a.getD p 0 = byt n (L - 1 - p)) : a = bbs L n := by
  refine list_ext_getD (by rw [bbs_length]; exact hl) fun p => ?_
  by_cases hp : p < L
  · rw [h p hp, bbs_getD hp]
  · rw [bbs_none (by omega), List.getD_eq_getElem?_getD, List.getElem?_eq_none (by omega)]; rfl
theorem byt_mod (n m i : Nat) : byt (n % 256 ^ m) i = if i < m then byt n i else 0 := by
  unfold byt
  split
  · rename_i h
    obtain ⟨k, rfl⟩ : ∃ k, m = i + (k + 1) := ⟨m - i - 1, by omega⟩
    rw [Nat.pow_add, Nat.mod_mul_right_div_self, Nat.pow_succ, Nat.mod_mod_of_dvd _ (Nat.dvd_mul_left _ _)]
  · rename_i h
    rw [Nat.div_eq_of_lt (Nat.lt_of_lt_of_le (Nat.mod_lt _ (Nat.pow_pos (by decide))) (Nat.pow_le_pow_right (by decide) (by omega)))]
theorem byt_div (n a i : Nat) : byt (n / 256 ^ a) i = byt n (a + i) := by
  unfold byt; rw [Nat.div_div_eq_div_mul, ← Nat.pow_add]
theorem byt_zero (i : Nat) : byt 0 i = 0 := by unfold byt; rw [Nat.zero_div]
theorem bbs_zero (L : Nat) : bbs L 0 = List.replicate L 0 := (bbs_ext (by simp) fun p hp => by rw [byt_zero]; simp [List.getD_eq_getElem?_getD, hp]).symm
theorem bbs_set {L m : Nat} (n : Nat) (h : m < L) : (bbs L (n % 256 ^ m)).set (L - 1 - m) (byt n m) = bbs L (n % 256 ^ (m + 1)) := by
  refine bbs_ext (by rw [List.length_set, bbs_length]) fun p hp => ?_
  rw [List.getD_eq_getElem?_getD, List.getElem?_set]
  by_cases he : L - 1 - m = p
  · rw [if_pos he, if_pos (by rw [bbs_length]; omega), byt_mod, if_pos (by omega), show L - 1 - p = m by omega]; rfl
  · rw [if_neg he, ← List.getD_eq_getElem?_getD, bbs_getD hp, byt_mod, byt_mod]
    by_cases hm : L - 1 - p < m
    · rw [if_pos hm, if_pos (by omega)]
    · rw [if_neg hm, if_neg (by omega)]
theorem bbs_drop {L k : Nat} (n : Nat) (h : k ≤ L) : (bbs L n).drop (L - k) = bbs k n := by
  refine bbs_ext (by rw [List.length_drop, bbs_length]; omega) fun p hp => ?_
  rw [List.getD_eq_getElem?_getD, List.getElem?_drop, ← List.getD_eq_getElem?_getD, bbs_getD (by omega), show L - 1 - (L - k + p) = k - 1 - p by omega]
theorem bbs_take {L i : Nat} (n : Nat) (h : i ≤ L) : (bbs L n).take i = bbs i (n / 256 ^ (L - i)) := by
  refine bbs_ext (by rw [List.length_take, bbs_length]; omega) fun p hp => ?_
  rw [List.getD_eq_getElem?_getD, List.getElem?_take, if_pos hp, ← List.getD_eq_getElem?_getD, bbs_getD (by omega), byt_div, show L - i + (i - 1 - p) = L - 1 - p by omega]
theorem bbs_mod (k n : Nat) : bbs k (n % 256 ^ k) = bbs k n :=
  bbs_ext (bbs_length _ _) fun p hp => by rw [bbs_getD hp, byt_mod, if_pos (by omega)]
theorem word_256 (t : Nat) : (18446744073709551616 : Nat) ^ t = 256 ^ (8 * t) := by rw [Nat.pow_mul]
theorem byt_word (n t : Nat) {j : Nat} (hj : j < 8) : byt (wdg n t) j = byt n (8 * t + j) := by
  unfold wdg
  rw [show (18446744073709551616 : Nat) = 256 ^ 8 by decide, byt_mod, if_pos hj, ← Nat.pow_mul, byt_div]
/-- The window of eight bytes that is a word. -/
theorem bbs_word {n N k : Nat} (h : 8 * (k + 1) ≤ n) : ((bbs n N).take (n - 8 * k)).drop (n - 8 * k - 8) = bbs 8 (wdg N k) := by
  rw [bbs_take N (by omega : n - 8 * k ≤ n), bbs_drop _ (by omega : 8 ≤ n - 8 * k), show n - (n - 8 * k) = 8 * k by omega, ← word_256]
  exact (bbs_mod 8 _).symm
theorem byt_eval4 (n : Nat) : byt n 3 * 16777216 + byt n 2 * 65536 + byt n 1 * 256 + byt n 0 = n % 4294967296 := by
  unfold byt
  simp only [Nat.reducePow, Nat.pow_zero, Nat.div_one, Nat.pow_one]
  omega
theorem byt_step (n m : Nat) : n % 256 ^ (m + 1) = n % 256 ^ m + byt n m * 256 ^ m := by
  rw [Nat.mod_pow_succ, Nat.mul_comm]; rfl
def cellsB (bs : List Nat) : List Value := bs.map fun (d : Nat) => Value.int .u8 (d : Int)
theorem cellsB_length (bs : List Nat) : (cellsB bs).length = bs.length := by simp [cellsB]
theorem cellsB_eq (bs : List Nat) : cellsB bs = (ints bs).map (Value.int .u8) := by simp [cellsB, ints]
theorem cellsB_set (bs : List Nat) (i d : Nat) : (cellsB bs).set i (.int .u8 (d : Int)) = cellsB (bs.set i d) := by simp [cellsB, List.map_set]
theorem cellsB_rep (n : Nat) : List.replicate n (.int .u8 0) = cellsB (bbs n 0) := by rw [bbs_zero]; simp [cellsB]
theorem cellsB_append (a b : List Nat) : cellsB a ++ cellsB b = cellsB (a ++ b) := by simp [cellsB]
theorem cellsB_take (bs : List Nat) (k : Nat) : (cellsB bs).take k = cellsB (bs.take k) := by simp [cellsB, List.map_take]
theorem cellsB_drop (bs : List Nat) (k : Nat) : (cellsB bs).drop k = cellsB (bs.drop k) := by simp [cellsB, List.map_drop]
theorem cellsB_at {bs : List Nat} {i : Nat} (h : i < bs.length) : (cellsB bs)[i]? = some (.int .u8 ((bs.getD i 0 : Nat) : Int)) := by
  simp [cellsB, List.getD_eq_getElem?_getD, h]
theorem bbs_cell {L n i : Nat} (h : i < L) : (cellsB (bbs L n))[i]? = some (.int .u8 ((byt n (L - 1 - i) : Nat) : Int)) := by
  rw [cellsB_at (by rw [bbs_length]; exact h), bbs_getD h]
/-- A word that is joined out of a low part and a byte shifted over it. -/
theorem or_byte {s d b : Nat} (hd : d < 2 ^ s) : d ||| (b * 2 ^ s) = d + b * 2 ^ s := by
  rw [Nat.mul_comm b, Nat.add_comm, Nat.two_pow_add_eq_or_of_lt hd, Nat.or_comm]
end Go.Proofs.YtgbmlaffilccnaaGreatDoor

/-
A number's bytes: nat.bytes. No condition.
-/
namespace Go.Proofs.YtgbmlaffilccnaaGreatDoor
open Go.RowKit

/-- The buffer behind m bytes, written from its end on. -/
def Bf (buf : Value) (L N B m : Nat) (w wr : World) : Prop := Own wr B 5 buf (cellsB (bbs L (N % 256 ^ m))) ∧ Below B w wr ∧ FrB (sBlk buf) (sOff buf) (sOff buf + L) w wr
theorem Bf.put {buf : Value} {L N B m : Nat} {w wr : World} (h : Bf buf L N B m w wr) (hm : m < L) (hc : 0 < sCap buf) : Bf buf L N B (m + 1) w (wr.setCell ⟨sBlk buf, sOff buf + (L - 1 - m), none⟩ (.int .u8 ((byt N m : Nat) : Int))) := by
  refine ⟨?_, bset h.2.1 (h.1.lt hc).1, h.2.2.set (by omega) (by omega) _⟩
  have := h.1.set (i := L - 1 - m) (by rw [cellsB_length, bbs_length]; omega) (.int .u8 ((byt N m : Nat) : Int))
  rw [cellsB_set, bbs_set N hm] at this
  exact this
theorem Bf.start {buf : Value} {L N B : Nat} {w : World} (h : Own w B 5 buf (cellsB (bbs L 0))) : Bf buf L N B 0 w w := by
  refine ⟨?_, Below.refl _ _, FrB.refl _ _ _ _⟩
  rw [Nat.pow_zero, Nat.mod_one]; exact h
theorem wdg_byte (N t : Nat) {j : Nat} (hj : j < 8) : wdg N t / 256 ^ j % 256 = byt N (8 * t + j) := byt_word N t hj
theorem pow_next {N c : Nat} (h : N < 256 ^ (c + 1)) (h0 : byt N c = 0) : N < 256 ^ c := by
  have := byt_step N c
  rw [Nat.mod_eq_of_lt h, h0, Nat.zero_mul, Nat.add_zero] at this
  rw [this]; exact Nat.mod_lt _ (Nat.pow_pos (by decide))
set_option maxRecDepth 100000 in
set_option maxHeartbeats 1600000 in
theorem bytes_any (x buf : Value) (xs : List Nat) (B L : Nat) (w : World) (hx : RW w x xs) (hb : Own w B 5 buf (cellsB (bbs L 0))) (hl : 8 * xs.length ≤ L) (hL : L ≤ 1000000000) (hne : 0 < xs.length → sBlk x ≠ sBlk buf) :
    Calls Tryz.prog 41 #[x, buf] w fun e w' => ∃ c : Nat, e = .returned (.int .i64 ((L - c : Nat) : Int)) ∧ (c ≤ 8 * xs.length ∧ wv xs < 256 ^ c) ∧ Own w' B 5 buf (cellsB (bbs L (wv xs))) ∧ Below B w w' ∧ FrB (sBlk buf) (sOff buf) (sOff buf + L) w w' := by
  have hSx := hx.isS
  have hSb := hb.isS
  have hLx := hx.len
  have hLb : sLen buf = L := by rw [hb.len, cellsB_length, bbs_length]
  have hCb := hSb.le
  obtain ⟨N, hN⟩ : ∃ N, N = wv xs := ⟨_, rfl⟩
  obtain ⟨n, hn⟩ : ∃ n, n = xs.length := ⟨_, rfl⟩
  have HW : Hid (∀ t, xs.getD t 0 = wdg N t) := Lib.hid (fun t => by rw [hN, wv_dig hx.lt])
  have HN : Hid (N < 256 ^ (8 * n)) := Lib.hid (by rw [hN, hn, ← word_256]; exact wv_lt hx.lt)
  rw [← hn] at hLx hl hne
  have HX := Lib.hid hx
  have HE := Lib.hid hne
  have Hn := Lib.hid hn
  have R0 := Lib.hid (Bf.start (N := N) hb)
  rw [← hN, ← hn]
  clear hx hb hne hn hN
  go_enter Tryz.func41, Tryz.ntmps41
  go_wp2
  go_loopw [4, 12] (fun i k wr => ∃ t I : Nat, t ≤ n ∧ I + 8 * t = L ∧ i = .int .i64 I ∧ k = .int .i64 t ∧ Bf buf L N B (8 * t) w wr) (fun _ k _ => n - (intOf k).toNat)
  case atStart => exact ⟨0, L, Nat.zero_le _, rfl, rfl, rfl, R0.out⟩
  case round =>
    obtain ⟨t, I, ht, hI, rfl, rfl, hB⟩ := hrel
    by_cases hlt : t < n
    · have t1 : decide (t < n) = true := decide_eq_true hlt
      have hBx := hB.2.2.rw HX.out (fun h => absurd h (HE.out (by omega)))
      have c0 := hBx.cell t (by rw [← Hn.out]; exact hlt)
      rw [HW.out] at c0
      obtain ⟨D, hD⟩ : ∃ D, D = wdg N t := ⟨_, rfl⟩
      have hDb := wdg_lt N t
      rw [← hD] at c0 hDb
      have HD := Lib.hid hD
      have RB := Lib.hid hB
      clear hBx hB hD
      go_wp2
      go_loopw [4, 6, 7] (fun i d j wx => ∃ j' p d' : Nat, j' ≤ 8 ∧ p + (8 * t + j') = L ∧ i = .int .i64 p ∧ j = .int .i64 j' ∧ d = .int .u64 d' ∧ d' = D / 256 ^ j' ∧ Bf buf L N B (8 * t + j') w wx) (fun _ _ j _ => 8 - (intOf j).toNat)
      case atStart => exact ⟨0, I, D, by decide, hI, rfl, rfl, rfl, by rw [Nat.pow_zero, Nat.div_one], RB.out⟩
      case round =>
        obtain ⟨j', p, d', hj, hp, rfl, rfl, rfl, hd, hB⟩ := hrel
        by_cases hj8 : j' < 8
        · obtain ⟨q, rfl⟩ : ∃ q, p = q + 1 := ⟨p - 1, by omega⟩
          have t2 : decide (j' < 8) = true := decide_eq_true hj8
          have hcap : 0 < sCap buf := by omega
          have hbt : d' % 256 = byt N (8 * t + j') := by rw [hd, HD.out]; exact wdg_byte N t hj8
          have hq : q = L - 1 - (8 * t + j') := by omega
          have hput := hB.put (by omega) hcap
          rw [← hq] at hput
          obtain ⟨bt, hbtv⟩ : ∃ bt, bt = byt N (8 * t + j') := ⟨_, rfl⟩
          rw [← hbtv] at hput hbt
          have e1 : ((d' : Int) % 256) = (bt : Int) := by omega
          have e2 : IntKind.u8.wrap (d' : Int) = (bt : Int) := by rw [IntKind.wrap_u8']; exact e1
          have fz := hB.1.frozen hcap (sOff buf + q)
          obtain ⟨u, cu⟩ : ∃ u, wr.cell? ⟨sBlk buf, sOff buf + q, none⟩ = some u := ⟨_, hB.1.cell (bbs_cell (by omega))⟩
          have hqL : q < sLen buf := by omega
          have HP := Lib.hid hput
          have Hd := Lib.hid hd
          have hdb : d' < 18446744073709551616 := by rw [hd]; exact Nat.lt_of_le_of_lt (Nat.div_le_self _ _) hDb
          clear hput hbt hbtv hB hd hq
          go_wp2
          go_roundw
          case rel => exact ⟨j' + 1, q, d' / 256, by omega, by omega, rfl, by go_num, by go_num, by rw [Hd.out, Nat.div_div_eq_div_mul, Nat.pow_succ], HP.out⟩
          case measure => simp [intOf]; omega
        · have h8 : j' = 8 := by omega
          subst h8
          have t2 : decide ((8 : Nat) < 8) = false := by decide
          have HB := Lib.hid hB
          clear hd hB
          go_wp2
          go_roundw
          case rel => exact ⟨t + 1, p, by omega, by omega, rfl, by go_num, HB.out⟩
          case measure => simp [intOf]; omega
    · have htn : t = n := by omega
      subst htn
      have hB8 := hB
      rw [Bf, Nat.mod_eq_of_lt HN.out] at hB8
      have HB := Lib.hid hB8
      have cb : Hid (∀ i, i < L → wr.cell? ⟨sBlk buf, sOff buf + i, none⟩ = some (.int .u8 ((byt N (L - 1 - i) : Nat) : Int))) := Lib.hid (fun i hi => hB8.1.cell (bbs_cell hi))
      clear hB hB8
      go_wp2
      go_loop [4] (fun i => ∃ c p : Nat, p + c = L ∧ c ≤ 8 * t ∧ N < 256 ^ c ∧ i = .int .i64 p) (fun i => L - (intOf i).toNat)
      case atStart => exact ⟨8 * t, I, hI, Nat.le_refl _, HN.out, rfl⟩
      case round =>
        obtain ⟨c, p, hp, hc, hNc, rfl⟩ := hrel
        have HC := Lib.hid hNc
        clear hNc
        have fin : Hid (∃ c' : Nat, Ending.returned (.int .i64 (p : Int)) = .returned (.int .i64 ((L - c' : Nat) : Int)) ∧ (c' ≤ 8 * t ∧ N < 256 ^ c') ∧ Own wr B 5 buf (cellsB (bbs L N)) ∧ Below B w wr ∧ FrB (sBlk buf) (sOff buf) (sOff buf + L) w wr) :=
          Lib.hid ⟨c, by rw [show L - c = p by omega], ⟨hc, HC.out⟩, HB.out⟩
        by_cases hpl : p < L
        · have t3 : decide (p < L) = true := decide_eq_true hpl
          have cc := cb.out p hpl
          obtain ⟨bt, hbt⟩ : ∃ bt, bt = byt N (L - 1 - p) := ⟨_, rfl⟩
          rw [← hbt] at cc
          have Hb := Lib.hid hbt
          clear hbt
          by_cases hz : bt = 0
          · have t4 : ((bt : Int) == 0) = true := by rw [beq_iff_eq]; omega
            have Hz := Lib.hid hz
            clear hz
            go_wp2
            go_round
            case rel =>
              refine ⟨c - 1, p + 1, by omega, by omega, ?_, by go_num⟩
              refine pow_next (c := c - 1) (by rw [show c - 1 + 1 = c by omega]; exact HC.out) ?_
              rw [show c - 1 = L - 1 - p by omega, ← Hb.out]; exact Hz.out
            case measure => simp [intOf]; omega
          · have t4 : ((bt : Int) == 0) = false := by rw [beq_eq_false_iff_ne]; omega
            go_wp2
            go_ret
            exact fin.out
        · have t3 : decide (p < L) = false := decide_eq_false hpl
          go_wp2
          go_ret
          exact fin.out
end Go.Proofs.YtgbmlaffilccnaaGreatDoor

/-
Numbers out of bytes, the greatest first: beUint32, beUint64, bigEndianWord, bePutUint32. No condition.
-/
namespace Go.Proofs.YtgbmlaffilccnaaGreatDoor
open Go.RowKit

theorem RI.cellB {w : World} {v : Value} {bs : List Nat} (h : RI .u8 w v (ints bs)) {i : Nat} (hi : i < bs.length) : w.cell? ⟨sBlk v, sOff v + i, none⟩ = some (.int .u8 ((bs.getD i 0 : Nat) : Int)) := by
  rw [h.cell i (by rw [ints_length]; exact hi)]
  simp [ints, List.getD_eq_getElem?_getD, List.getElem?_eq_getElem hi]
theorem or_u32 {s d b : Nat} (hd : d < 2 ^ s) (hs : d < 4294967296) (hb : b * 2 ^ s < 4294967296) : bits .or .u32 (d : Int) ((b * 2 ^ s : Nat) : Int) = ((d + b * 2 ^ s : Nat) : Int) := by
  rw [u32_or_nat _ _ hs hb, or_byte hd]
set_option maxRecDepth 100000 in
set_option maxHeartbeats 800000 in
theorem be32_any (v : Value) (bs : List Nat) (n : Nat) (w : World) (hv : RI .u8 w v (ints bs)) (h4 : 4 ≤ bs.length) (h0 : bs.getD 0 0 = byt n 3) (h1 : bs.getD 1 0 = byt n 2) (h2 : bs.getD 2 0 = byt n 1) (h3 : bs.getD 3 0 = byt n 0) :
    Calls Tryz.prog 45 #[v] w fun e w' => e = .returned (.int .u32 ((n % 4294967296 : Nat) : Int)) ∧ ∃ k, w' = w.drewN k := by
  have hS := hv.isS
  have hL : sLen v = bs.length := by rw [hv.len, ints_length]
  have hCv := hS.le
  have c0 := hv.cellB (i := 0) (by omega)
  have c1 := hv.cellB (i := 1) (by omega)
  have c2 := hv.cellB (i := 2) (by omega)
  have c3 := hv.cellB (i := 3) (by omega)
  rw [h0, Nat.add_zero] at c0
  rw [h1] at c1
  rw [h2] at c2
  rw [h3] at c3
  have he := byt_eval4 n
  have b0 := byt_lt n 0
  have b1 := byt_lt n 1
  have b2 := byt_lt n 2
  have b3 := byt_lt n 3
  obtain ⟨N, hN⟩ : ∃ N, N = n % 4294967296 := ⟨_, rfl⟩
  rw [← hN] at he ⊢
  generalize byt n 0 = a0 at *
  generalize byt n 1 = a1 at *
  generalize byt n 2 = a2 at *
  generalize byt n 3 = a3 at *
  have o1 : bits .or .u32 (a0 : Int) ((a1 : Int) * 256) = ((a0 + a1 * 256 : Nat) : Int) := by
    have := or_u32 (s := 8) (d := a0) (b := a1) (by omega) (by omega) (by omega)
    simpa using this
  have o2 : bits .or .u32 ((a0 + a1 * 256 : Nat) : Int) ((a2 : Int) * 65536) = ((a0 + a1 * 256 + a2 * 65536 : Nat) : Int) := by
    have := or_u32 (s := 16) (d := a0 + a1 * 256) (b := a2) (by omega) (by omega) (by omega)
    simpa using this
  have o3 : bits .or .u32 ((a0 + a1 * 256 + a2 * 65536 : Nat) : Int) ((a3 : Int) * 16777216) = (N : Int) := by
    have := or_u32 (s := 24) (d := a0 + a1 * 256 + a2 * 65536) (b := a3) (by omega) (by omega) (by omega)
    rw [show a0 + a1 * 256 + a2 * 65536 + a3 * 2 ^ 24 = N by omega] at this
    simpa using this
  obtain ⟨p, hp⟩ : ∃ p, p = a0 + a1 * 256 := ⟨_, rfl⟩
  obtain ⟨q, hq⟩ : ∃ q, q = a0 + a1 * 256 + a2 * 65536 := ⟨_, rfl⟩
  rw [← hq] at o2 o3
  rw [← hp] at o1 o2
  have L4 : 4 ≤ sLen v := by omega
  clear hv h0 h1 h2 h3 he hN hp hq hL h4
  go_enter Tryz.func45, Tryz.ntmps45
  go_wp2_with fail
  go_quiet (fail)
  go_wp2
  go_ret
  exact ⟨rfl, _, rfl⟩
theorem or_u64b {s d b : Nat} (hd : d < 2 ^ s) (hs : d < 18446744073709551616) (hb : b * 2 ^ s < 18446744073709551616) : bits .or .u64 ((b * 2 ^ s : Nat) : Int) (d : Int) = ((d + b * 2 ^ s : Nat) : Int) := by
  rw [u64_or_nat _ _ hb hs, Nat.or_comm, or_byte hd]
set_option maxRecDepth 100000 in
set_option maxHeartbeats 800000 in
theorem be64_any (v : Value) (n : Nat) (w : World) (hv : RI .u8 w v (ints (bbs 8 n))) (hn : n < 18446744073709551616) :
    Calls Tryz.prog 97 #[v] w fun e w' => e = .returned (.int .u64 (n : Int)) ∧ ∃ k, w' = w.drewN k := by
  have hS := hv.isS
  have hL : sLen v = 8 := by rw [hv.len, ints_length, bbs_length]
  have hCv := hS.le
  have c7 := hv.cellB (i := 7) (by rw [bbs_length]; decide)
  obtain ⟨u7, hu7⟩ : ∃ u, u = (bbs 8 n).getD 7 0 := ⟨_, rfl⟩
  rw [← hu7] at c7
  have hsub := hv.sub (l := 4) (n := 8) (by decide) (by rw [ints_length, bbs_length]; decide)
  have hlist : ((ints (bbs 8 n)).take 8).drop 4 = ints (bbs 4 n) := by
    have := bbs_drop (L := 8) (k := 4) n (by decide)
    simp only [Nat.reduceSub] at this
    rw [List.take_of_length_le (by rw [ints_length, bbs_length]; exact Nat.le_refl _), ← this]
    simp [ints]
  rw [hlist] at hsub
  have H1 : Hid (∀ k, Calls Tryz.prog 45 #[v] (w.drewN k) fun e w' => e = .returned (.int .u32 ((n / 4294967296 : Nat) : Int)) ∧ ∃ j, w' = (w.drewN k).drewN j) := Lib.hid (fun k => by
    have := be32_any v (bbs 8 n) (n / 256 ^ 4) (w.drewN k) ⟨hv.isS, hv.len, hv.cell⟩ (by rw [bbs_length]; decide) (by rw [bbs_getD (by decide), byt_div]) (by rw [bbs_getD (by decide), byt_div]) (by rw [bbs_getD (by decide), byt_div]) (by rw [bbs_getD (by decide), byt_div])
    rw [show n / 256 ^ 4 % 4294967296 = n / 4294967296 by simp only [Nat.reducePow]; omega] at this
    exact this)
  have H2 : Hid (∀ k, Calls Tryz.prog 45 #[subS v 4 8] (w.drewN k) fun e w' => e = .returned (.int .u32 ((n % 4294967296 : Nat) : Int)) ∧ ∃ j, w' = (w.drewN k).drewN j) := Lib.hid (fun k =>
    be32_any (subS v 4 8) (bbs 4 n) n (w.drewN k) ⟨hsub.isS, hsub.len, hsub.cell⟩ (by rw [bbs_length]; decide) (by rw [bbs_getD (by decide)]) (by rw [bbs_getD (by decide)]) (by rw [bbs_getD (by decide)]) (by rw [bbs_getD (by decide)]))
  obtain ⟨a, ha⟩ : ∃ a, a = n / 4294967296 := ⟨_, rfl⟩
  obtain ⟨b, hb⟩ : ∃ b, b = n % 4294967296 := ⟨_, rfl⟩
  rw [← ha] at H1
  rw [← hb] at H2
  have ha' : a < 4294967296 := by omega
  have hb' : b < 4294967296 := by omega
  have o1 : bits .or .u64 ((a : Int) * 4294967296) (b : Int) = (n : Int) := by
    have := or_u64b (s := 32) (d := b) (b := a) (by omega) (by omega) (by omega)
    rw [show b + a * 2 ^ 32 = n by omega] at this
    simpa using this
  have hSs := hsub.isS
  clear hv hu7 hsub hlist ha hb hn
  go_enter Tryz.func97, Tryz.ntmps97
  go_wp2_with fail
  go_quiet ((first
    | (go_at_call 45; (with_reducible refine (H1.out _).mono ?_); rintro _ _ ⟨rfl, n, rfl⟩; exact ⟨rfl, _, World.drewN_drewN _ _ _⟩)
    | (go_at_call 45; (with_reducible refine (H2.out _).mono ?_); rintro _ _ ⟨rfl, n, rfl⟩; exact ⟨rfl, _, World.drewN_drewN _ _ _⟩)))
  go_wp2
  go_ret
  exact ⟨rfl, _, rfl⟩
set_option maxRecDepth 100000 in
theorem beWord_any (v : Value) (n : Nat) (w : World) (hv : RI .u8 w v (ints (bbs 8 n))) (hn : n < 18446744073709551616) :
    Calls Tryz.prog 76 #[v] w fun e w' => e = .returned (.int .u64 (n : Int)) ∧ ∃ k, w' = w.drewN k := by
  have hS := hv.isS
  have H := Lib.hid (be64_any v n w hv hn)
  clear hv
  go_enter Tryz.func76, Tryz.ntmps76
  go_wp2_with fail
  refine H.out.mono ?_
  rintro _ _ ⟨rfl, n, rfl⟩
  go_wp2
  go_ret
  exact ⟨rfl, _, rfl⟩
set_option maxRecDepth 100000 in
set_option maxHeartbeats 800000 in
theorem put32_any (v : Value) (os : List Value) (n B : Nat) (w : World) (ho : Own w B 5 v os) (h4 : os.length = 4) (hn : n < 4294967296) :
    Calls Tryz.prog 40 #[v, .int .u32 (n : Int)] w fun e w' => e = .returned (.tuple #[]) ∧ Own w' B 5 v (cellsB (bbs 4 n)) ∧ Below B w w' ∧ FrB (sBlk v) (sOff v) (sOff v + 4) w w' := by
  have hS := ho.isS
  have hL : sLen v = 4 := by rw [ho.len, h4]
  have hCv := hS.le
  have hc : 0 < sCap v := by omega
  obtain ⟨o0, o1, o2, o3, rfl⟩ : ∃ a b c d, os = [a, b, c, d] := by
    match os, h4 with
    | [a, b, c, d], _ => exact ⟨a, b, c, d, rfl⟩
  have c0 := ho.cell (i := 0) (u := o0) rfl
  have c1 := ho.cell (i := 1) (u := o1) rfl
  have c2 := ho.cell (i := 2) (u := o2) rfl
  have c3 := ho.cell (i := 3) (u := o3) rfl
  rw [Nat.add_zero] at c0
  have f0 := ho.frozen hc (sOff v)
  have f1 := ho.frozen hc (sOff v + 1)
  have f2 := ho.frozen hc (sOff v + 2)
  have f3 := ho.frozen hc (sOff v + 3)
  obtain ⟨a3, h3⟩ : ∃ a, a = byt n 3 := ⟨_, rfl⟩
  obtain ⟨a2, h2⟩ : ∃ a, a = byt n 2 := ⟨_, rfl⟩
  obtain ⟨a1, h1⟩ : ∃ a, a = byt n 1 := ⟨_, rfl⟩
  obtain ⟨a0, h0⟩ : ∃ a, a = byt n 0 := ⟨_, rfl⟩
  have e3 : (n : Int) / 16777216 % 256 = (a3 : Int) := by rw [h3]; unfold byt; simp only [Nat.reducePow]; omega
  have e3' : (n : Int) / 16777216 = (a3 : Int) := by omega
  have e2 : (n : Int) / 65536 % 256 = (a2 : Int) := by rw [h2]; unfold byt; simp only [Nat.reducePow]; omega
  have e1 : (n : Int) / 256 % 256 = (a1 : Int) := by rw [h1]; unfold byt; simp only [Nat.reducePow]; omega
  have e0 : (n : Int) % 256 = (a0 : Int) := by rw [h0]; unfold byt; simp only [Nat.reducePow]; omega
  have Q : Hid (Own ((((w.setCell ⟨sBlk v, sOff v, none⟩ (.int .u8 (a3 : Int))).setCell ⟨sBlk v, sOff v + 1, none⟩ (.int .u8 (a2 : Int))).setCell ⟨sBlk v, sOff v + 2, none⟩ (.int .u8 (a1 : Int))).setCell ⟨sBlk v, sOff v + 3, none⟩ (.int .u8 (a0 : Int))) B 5 v (cellsB (bbs 4 n)) ∧
      Below B w ((((w.setCell ⟨sBlk v, sOff v, none⟩ (.int .u8 (a3 : Int))).setCell ⟨sBlk v, sOff v + 1, none⟩ (.int .u8 (a2 : Int))).setCell ⟨sBlk v, sOff v + 2, none⟩ (.int .u8 (a1 : Int))).setCell ⟨sBlk v, sOff v + 3, none⟩ (.int .u8 (a0 : Int))) ∧
      FrB (sBlk v) (sOff v) (sOff v + 4) w ((((w.setCell ⟨sBlk v, sOff v, none⟩ (.int .u8 (a3 : Int))).setCell ⟨sBlk v, sOff v + 1, none⟩ (.int .u8 (a2 : Int))).setCell ⟨sBlk v, sOff v + 2, none⟩ (.int .u8 (a1 : Int))).setCell ⟨sBlk v, sOff v + 3, none⟩ (.int .u8 (a0 : Int)))) := Lib.hid (by
    have hB := (ho.lt hc).1
    refine ⟨?_, bset (bset (bset (bset (Below.refl _ _) hB) hB) hB) hB, ((((FrB.refl _ _ _ _).set (by omega) (by omega) _).set (by omega) (by omega) _).set (by omega) (by omega) _).set (by omega) (by omega) _⟩
    have := (((ho.set (i := 0) (by simp) (.int .u8 (a3 : Int))).set (i := 1) (by simp) (.int .u8 (a2 : Int))).set (i := 2) (by simp) (.int .u8 (a1 : Int))).set (i := 3) (by simp) (.int .u8 (a0 : Int))
    rw [Nat.add_zero] at this
    have el : ((([o0, o1, o2, o3].set 0 (.int .u8 (a3 : Int))).set 1 (.int .u8 (a2 : Int))).set 2 (.int .u8 (a1 : Int))).set 3 (.int .u8 (a0 : Int)) = cellsB (bbs 4 n) := by
      rw [h0, h1, h2, h3]; rfl
    rw [el] at this
    exact this)
  clear ho h0 h1 h2 h3 h4
  go_enter Tryz.func40, Tryz.ntmps40
  go_wp2
  go_end0
  exact ⟨rfl, Q.out⟩
end Go.Proofs.YtgbmlaffilccnaaGreatDoor
