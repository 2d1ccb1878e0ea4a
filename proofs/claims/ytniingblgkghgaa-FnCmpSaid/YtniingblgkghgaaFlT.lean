/-
The reference's dyadic values: Sign, Opposite. No condition.
-/
import Derived.Test.YtniingblgkghgaaFlS
namespace Go.Proofs.Ytniingblgkghgaa
open Go.RowKit

/-- The sign of a reference's value. -/
def sgD (neg : Bool) (n : Nat) : Int := if n = 0 then 0 else if neg then -1 else 1
def sI (neg : Bool) (n : Nat) : Int := if neg then -(n : Int) else n
theorem nl0 {n : Nat} : nl n = 0 ↔ n = 0 := ⟨fun h => by rcases Nat.eq_zero_or_pos n with h' | h'; exact h'; have := nl_pos h'; omega, fun h => by rw [h]; rfl⟩
set_option maxRecDepth 100000 in
theorem dSign (neg : Bool) (a : Value) (e : Int) (n : Nat) (w : World) (h : NatV w a n) :
    Calls Try.prog 43 #[.agg #[.bool neg, a, .int .i64 e]] w fun e' w' => e' = .returned (.int .i64 (sgD neg n)) ∧ Below w.heap.size w w' := by
  have hS := h.isS
  have hL := h.len
  clear h
  have hab := (Below.refl w.heap.size w).alloc (Nat.le_refl _) (.cells #[.bool neg, a, .int .i64 e] 36)
  obtain ⟨l, hl⟩ : ∃ l, l = nl n := ⟨_, rfl⟩
  rw [← hl] at hL
  by_cases h0 : n = 0
  · have E : Hid (sgD neg n = 0) := Lib.hid (by unfold sgD; rw [if_pos h0])
    have l0 : l = 0 := by rw [hl]; exact nl0.2 h0
    subst l0
    clear h0 hl
    go_enter Try.func43, Try.ntmps43
    go_wp2
    go_ret
    exact ⟨congrArg (fun z => Ending.returned (.int .i64 z)) E.out.symm, hab⟩
  · have l0 : ¬ l = 0 := by rw [hl]; exact fun h => h0 (nl0.1 h)
    have t1 : ((l : Int) == 0) = false := by rw [beq_eq_false_iff_ne]; omega
    have E : Hid (sgD neg n = if neg then -1 else 1) := Lib.hid (by unfold sgD; rw [if_neg h0])
    clear h0 hl l0
    cases neg
    · go_enter Try.func43, Try.ntmps43
      go_wp2
      go_ret
      exact ⟨congrArg (fun z => Ending.returned (.int .i64 z)) E.out.symm, hab⟩
    · go_enter Try.func43, Try.ntmps43
      go_wp2
      go_ret
      exact ⟨congrArg (fun z => Ending.returned (.int .i64 z)) E.out.symm, hab⟩
set_option maxRecDepth 100000 in
set_option maxHeartbeats 800000 in
theorem dOpp (neg : Bool) (a : Value) (e : Int) (w : World) (hS : IsS a) :
    Calls Try.prog 45 #[.agg #[.bool neg, a, .int .i64 e]] w fun e' w' => e' = .returned (.agg #[.bool (!neg), a, .int .i64 e]) ∧ Below w.heap.size w w' := by
  have hab := (Below.refl w.heap.size w).alloc (Nat.le_refl _) (.cells #[.bool neg, a, .int .i64 e] 36)
  have hac := hab.alloc hab.size (.cells #[.bool false, .slice none 0 0, .int .i64 0] 36)
  obtain ⟨X, hX⟩ : ∃ X, X = (w.alloc (.cells #[.bool neg, a, .int .i64 e] 36)).alloc (.cells #[.bool false, .slice none 0 0, .int .i64 0] 36) := ⟨_, rfl⟩
  have hr1 : X.heap[w.heap.size]? = some (.cells #[.bool neg, a, .int .i64 e] 36 (0, 0)) := by
    rw [hX]; exact keep_row (fbone _) (box_row (Below.refl _ _))
  have hr2 : X.heap[w.heap.size + 1]? = some (.cells #[.bool false, .slice none 0 0, .int .i64 0] 36 (0, 0)) := by
    rw [hX]
    have := box_row (Below.refl _ ((w.alloc (.cells #[.bool neg, a, .int .i64 e] 36)).alloc (.cells #[.bool false, .slice none 0 0, .int .i64 0] 36)))
    simpa using this
  rw [← hX] at hac
  obtain ⟨x0, x1, x2, -, -, -⟩ := row3 hr1
  obtain ⟨y0, y1, y2, z0, z1, z2⟩ := row3 hr2
  have HR2 := Lib.hid hr2
  have HB := Lib.hid hac
  clear hr1 hr2 hab hac
  go_enter Try.func45, Try.ntmps45
  go_upto_region 1 with fail
  rw [← hX]
  clear hX
  go_wp2
  obtain ⟨hx0, hx1, hx2, -, -, -⟩ := row3 (row3_set (x := .bool (!neg)) (y := a) (z := .int .i64 e) HR2.out)
  have hbY := bset (i := 2) (u := .int .i64 e) (bset (i := 1) (u := a) (bset (i := 0) (u := .bool (!neg)) HB.out (Nat.le_succ _)) (Nat.le_succ _)) (Nat.le_succ _)
  refine bodyPost_ret (v := .agg #[.bool (!neg), a, .int .i64 e]) ?_ rfl ⟨rfl, hbY⟩
  simp [results, Try.results45, go_sem, hx0, hx1, hx2]
end Go.Proofs.Ytniingblgkghgaa
