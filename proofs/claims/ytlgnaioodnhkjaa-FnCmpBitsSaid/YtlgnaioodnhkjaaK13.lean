/-
Texts of this proof, joined: FlS FlT. No condition.
-/
import Derived.Test.YtlgnaioodnhkjaaK12
/-
The thin package's Cmp, the statements' end. No condition.
-/
namespace Go.Proofs.Ytlgnaioodnhkjaa
open Go.RowKit

theorem FloatAt.below {w w' : World} {B g p m f M : Nat} {neg : Bool} {e : Int} (h : FloatAt w B g p m f neg M e) (hb : Below w.heap.size w w') : FloatAt w' B g p m f neg M e := by
  obtain ⟨h1, r, x, h2, h3⟩ := h
  exact ⟨h1, r, x, h2.below hb, fun hf => ⟨(h3 hf).1, (h3 hf).2.below hb⟩⟩
/-- The order of two Reals as Cmp reckons it. -/
def cmpRV (f1 : Nat) (n1 : Bool) (M1 : Nat) (e1 : Int) (f2 : Nat) (n2 : Bool) (M2 : Nat) (e2 : Int) : Int :=
  cmpFV f1 n1 ((bl M1 : Nat) + e1) (topN M1) f2 n2 ((bl M2 : Nat) + e2) (topN M2)
theorem cmpFV_eq {f1 f2 : Nat} {n1 n2 : Bool} {x1 x2 y1 y2 : Int} {xs ys xs' ys' : List Nat} (h1 : f1 = 1 → x1 = y1 ∧ xs = xs') (h2 : f2 = 1 → x2 = y2 ∧ ys = ys') (hf1 : f1 ≤ 2) (hf2 : f2 ≤ 2) :
    cmpFV f1 n1 x1 xs f2 n2 x2 ys = cmpFV f1 n1 y1 xs' f2 n2 y2 ys' := by
  by_cases c1 : f1 = 1
  · by_cases c2 : f2 = 1
    · rw [(h1 c1).1, (h2 c2).1, (h1 c1).2, (h2 c2).2]
    · rw [(h1 c1).1, (h1 c1).2]
      have : f2 = 0 ∨ f2 = 2 := by omega
      rcases this with rfl | rfl <;> subst c1 <;> cases n1 <;> cases n2 <;> simp [cmpFV, ordV]
  · have c : f1 = 0 ∨ f1 = 2 := by omega
    have d : f2 = 0 ∨ f2 = 1 ∨ f2 = 2 := by omega
    rcases c with rfl | rfl <;> rcases d with rfl | rfl | rfl <;> cases n1 <;> cases n2 <;> simp [cmpFV, ordV]
theorem topN_lt {M : Nat} : ∀ d ∈ topN M, d < 18446744073709551616 := wdsN_lt
theorem topN_if {f M : Nat} (h : f = 1 → nw M ≤ 1000000) : (if f = 1 then topN M else []).length ≤ 1000000000 := by
  split
  · rename_i hf; rw [topN_length]; have := h hf; omega
  · exact Nat.zero_le _
theorem cmpFat {B1 B2 g1 g2 p1 m1 f1 M1 p2 m2 f2 M2 : Nat} {n1 n2 : Bool} {e1 e2 : Int} (w : World) (h1 : FloatAt w B1 g1 p1 m1 f1 n1 M1 e1) (h2 : FloatAt w B2 g2 p2 m2 f2 n2 M2 e2) (hf1 : f1 ≤ 2) (hf2 : f2 ≤ 2) (hl1 : f1 = 1 → nw M1 ≤ 1000000) (hl2 : f2 = 1 → nw M2 ≤ 1000000) :
    Calls Try.prog 42 #[.pointer (some ⟨g1, 0, none⟩), .pointer (some ⟨g2, 0, none⟩)] w fun e' w' => e' = .returned (.int .i64 (cmpRV f1 n1 M1 e1 f2 n2 M2 e2)) ∧ Below w.heap.size w w' := by
  obtain ⟨-, r1, x1, a1, b1⟩ := h1
  obtain ⟨-, r2, x2, a2, b2⟩ := h2
  refine (cmpF_any g1 g2 p1 m1 f1 p2 m2 f2 0 x1 0 x2 n1 n2 r1 r2 (if f1 = 1 then topN M1 else []) (if f2 = 1 then topN M2 else []) w a1 a2 hf1 hf2 (fun h => by rw [if_pos h]; exact (b1 h).2.rw' topN_lt) (fun h => by rw [if_pos h]; exact (b2 h).2.rw' topN_lt) (topN_if hl1) (topN_if hl2)).mono ?_
  rintro _ w' ⟨rfl, n, rfl⟩
  exact ⟨by rw [cmpFV_eq (fun h => ⟨(b1 h).1, if_pos h⟩) (fun h => ⟨(b2 h).1, if_pos h⟩) hf1 hf2]; rfl, undrewN' (Below.refl _ _)⟩
theorem RealOk.form {P E p m f : Nat} {ws : List Nat} {e : Int} (h : RealOk P E p m f ws e) : f ≤ 2 := by
  obtain ⟨_, _, _, h | h | ⟨h, _⟩⟩ := h <;> omega
theorem RealOk.len {P E p m f : Nat} {ws : List Nat} {e : Int} (h : RealOk P E p m f ws e) (hf : f = 1) : ws.length ≤ 1000000 := by
  obtain ⟨_, _, _, h | h | h⟩ := h
  · omega
  · omega
  · exact h.2.2.2.1
theorem ks24 {W X : World} {k l : Nat} {a b c d e f a' b' c' d' e' f' : Value} {T : TypeId} (hr : W.heap[k]? = some (.cells #[a, b, c, d, e, f] T (0, 0))) (hq : W.heap[l]? = some (.cells #[a', b', c', d', e', f'] T (0, 0))) (h : Below W.heap.size W X) :
    Below W.heap.size W X ∧ (X.cell? ⟨k, 0, none⟩ = some a ∧ X.cell? ⟨k, 1, none⟩ = some b ∧ X.cell? ⟨k, 2, none⟩ = some c ∧ X.cell? ⟨k, 3, none⟩ = some d ∧ X.cell? ⟨k, 4, none⟩ = some e ∧ X.cell? ⟨k, 5, none⟩ = some f) ∧
    X.cell? ⟨l, 0, none⟩ = some a' ∧ X.cell? ⟨l, 1, none⟩ = some b' ∧ X.cell? ⟨l, 2, none⟩ = some c' ∧ X.cell? ⟨l, 3, none⟩ = some d' ∧ X.cell? ⟨l, 4, none⟩ = some e' ∧ X.cell? ⟨l, 5, none⟩ = some f' :=
  ⟨h, (ks12 hr h).2, (ks12 hq h).2⟩
def endV (f : Nat) (neg : Bool) : Int := if f = 2 then (if neg then -1 else 1) else 0
end Go.Proofs.Ytlgnaioodnhkjaa

/-
The reference's dyadic values: Sign, Opposite. No condition.
-/
namespace Go.Proofs.Ytlgnaioodnhkjaa
open Go.RowKit

/-- The sign of a reference's value. -/
def sgD (neg : Bool) (n : Nat) : Int := if n = 0 then 0 else if neg then -1 else 1
def sI (neg : Bool) (n : Nat) : Int := if neg then -(n : Int) else n
theorem nl0 {n : Nat} : nl n = 0 ↔ n = 0 := ⟨fun h => by rcases Nat.eq_zero_or_pos n with h' | h'; exact h'; have := nl_pos h'; omega, fun h => by rw [h]; rfl⟩
set_option maxRecDepth 100000 in
theorem dSign (neg : Bool) (a : Value) (e : Int) (n : Nat) (w : World) (h : NatV w a n) :
    Calls Try.prog 46 #[.agg #[.bool neg, a, .int .i64 e]] w fun e' w' => e' = .returned (.int .i64 (sgD neg n)) ∧ Below w.heap.size w w' := by
  have hS := h.isS
  have hL := h.len
  clear h
  have hab := (Below.refl w.heap.size w).alloc (Nat.le_refl _) (.cells #[.bool neg, a, .int .i64 e] 32)
  obtain ⟨l, hl⟩ : ∃ l, l = nl n := ⟨_, rfl⟩
  rw [← hl] at hL
  by_cases h0 : n = 0
  · have E : Hid (sgD neg n = 0) := Lib.hid (by unfold sgD; rw [if_pos h0])
    have l0 : l = 0 := by rw [hl]; exact nl0.2 h0
    subst l0
    clear h0 hl
    go_enter Try.func46, Try.ntmps46
    go_wp2
    go_ret
    exact ⟨congrArg (fun z => Ending.returned (.int .i64 z)) E.out.symm, hab⟩
  · have l0 : ¬ l = 0 := by rw [hl]; exact fun h => h0 (nl0.1 h)
    have t1 : ((l : Int) == 0) = false := by rw [beq_eq_false_iff_ne]; omega
    have E : Hid (sgD neg n = if neg then -1 else 1) := Lib.hid (by unfold sgD; rw [if_neg h0])
    clear h0 hl l0
    cases neg
    · go_enter Try.func46, Try.ntmps46
      go_wp2
      go_ret
      exact ⟨congrArg (fun z => Ending.returned (.int .i64 z)) E.out.symm, hab⟩
    · go_enter Try.func46, Try.ntmps46
      go_wp2
      go_ret
      exact ⟨congrArg (fun z => Ending.returned (.int .i64 z)) E.out.symm, hab⟩
set_option maxRecDepth 100000 in
set_option maxHeartbeats 800000 in
theorem dOpp (neg : Bool) (a : Value) (e : Int) (w : World) (hS : IsS a) :
    Calls Try.prog 92 #[.agg #[.bool neg, a, .int .i64 e]] w fun e' w' => e' = .returned (.agg #[.bool (!neg), a, .int .i64 e]) ∧ Below w.heap.size w w' := by
  have hab := (Below.refl w.heap.size w).alloc (Nat.le_refl _) (.cells #[.bool neg, a, .int .i64 e] 32)
  have hac := hab.alloc hab.size (.cells #[.bool false, .slice none 0 0, .int .i64 0] 32)
  obtain ⟨X, hX⟩ : ∃ X, X = (w.alloc (.cells #[.bool neg, a, .int .i64 e] 32)).alloc (.cells #[.bool false, .slice none 0 0, .int .i64 0] 32) := ⟨_, rfl⟩
  have hr1 : X.heap[w.heap.size]? = some (.cells #[.bool neg, a, .int .i64 e] 32 (0, 0)) := by
    rw [hX]; exact keep_row (fbone _) (box_row (Below.refl _ _))
  have hr2 : X.heap[w.heap.size + 1]? = some (.cells #[.bool false, .slice none 0 0, .int .i64 0] 32 (0, 0)) := by
    rw [hX]
    have := box_row (Below.refl _ ((w.alloc (.cells #[.bool neg, a, .int .i64 e] 32)).alloc (.cells #[.bool false, .slice none 0 0, .int .i64 0] 32)))
    simpa using this
  rw [← hX] at hac
  obtain ⟨x0, x1, x2, -, -, -⟩ := row3 hr1
  obtain ⟨y0, y1, y2, z0, z1, z2⟩ := row3 hr2
  have HR2 := Lib.hid hr2
  have HB := Lib.hid hac
  clear hr1 hr2 hab hac
  go_enter Try.func92, Try.ntmps92
  go_upto_region 1 with fail
  rw [← hX]
  clear hX
  go_wp2
  obtain ⟨hx0, hx1, hx2, -, -, -⟩ := row3 (row3_set (x := .bool (!neg)) (y := a) (z := .int .i64 e) HR2.out)
  have hbY := bset (i := 2) (u := .int .i64 e) (bset (i := 1) (u := a) (bset (i := 0) (u := .bool (!neg)) HB.out (Nat.le_succ _)) (Nat.le_succ _)) (Nat.le_succ _)
  refine bodyPost_ret (v := .agg #[.bool (!neg), a, .int .i64 e]) ?_ rfl ⟨rfl, hbY⟩
  simp [results, Try.results92, go_sem, hx0, hx1, hx2]
end Go.Proofs.Ytlgnaioodnhkjaa
