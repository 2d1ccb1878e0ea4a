/-
Texts of this proof, joined: FlY. No condition.
-/
import Derived.Test.YtlgnaioodnhkjaaK26
import Derived.Test.YtlgnaioodnhkjaaK29
/-
The statement on the order of two floats. No condition.
-/
namespace Go.Proofs.Ytlgnaioodnhkjaa
open Go.RowKit

/-- Order of the values of two reals. -/
theorem order_real (P E _f1 _f2 : Nat) (n1 n2 : Bool) (a b : Value) (e1 e2 : Int) (x y : Nat) (w : World) (ha : NatV w a x) (hb : NatV w b y)
    (hx : bl x ≤ P) (g1 : -(E : Int) ≤ e1) (g2 : e1 ≤ E) (hy : bl y ≤ P) (g3 : -(E : Int) ≤ e2) (g4 : e2 ≤ E) (hP : P ≤ 64000) (hE : E ≤ 100000000) :
    Calls Try.prog 52 #[.agg #[.bool n1, a, .int .i64 e1], .agg #[.bool n2, b, .int .i64 e2]] w fun e' w' =>
      e' = .returned (.int .i64 (cmpI (sI n1 (x * 2 ^ (e1 - min e1 e2).toNat)) (sI n2 (y * 2 ^ (e2 - min e1 e2).toNat)))) ∧ Below w.heap.size w w' := by
  have k1 := bl_two x (e1 - min e1 e2).toNat
  have k2 := bl_two y (e2 - min e1 e2).toNat
  exact dOrder n1 n2 a b e1 e2 (min e1 e2) x y (e1 - min e1 e2).toNat (e2 - min e1 e2).toNat w ha hb rfl (by omega) (by omega) (by omega) (by omega) (by omega) (by omega) (by omega)
    (nl_of_bl (by omega)) (nl_of_bl (by omega)) (by omega) (by omega) (nl_of_bl (by omega)) (nl_of_bl (by omega))
/-- What is asked of Cmp's answer. -/
def wantC (f1 : Nat) (n1 : Bool) (M1 : Nat) (e1 : Int) (f2 : Nat) (n2 : Bool) (M2 : Nat) (e2 : Int) : Int :=
  cmpI (sI (dyN f1 n1) (dyM f1 M1 * 2 ^ (dyE f1 e1 - min (dyE f1 e1) (dyE f2 e2)).toNat)) (sI (dyN f2 n2) (dyM f2 M2 * 2 ^ (dyE f2 e2 - min (dyE f1 e1) (dyE f2 e2)).toNat))
theorem wantC_eq {f1 f2 M1 M2 : Nat} {n1 n2 : Bool} {e1 e2 : Int} (hf1 : f1 ≤ 1) (hf2 : f2 ≤ 1) (h1 : f1 = 1 → 0 < M1) (h2 : f2 = 1 → 0 < M2) :
    cmpRV f1 n1 M1 e1 f2 n2 M2 e2 = wantC f1 n1 M1 e1 f2 n2 M2 e2 := by
  rw [cmpRV_law (a := (dyE f1 e1 - min (dyE f1 e1) (dyE f2 e2)).toNat) (b := (dyE f2 e2 - min (dyE f1 e1) (dyE f2 e2)).toNat) (e := min (dyE f1 e1) (dyE f2 e2)) hf1 hf2
    (fun h => ⟨h1 h, by subst h; simp only [dyE, if_true]; split <;> omega⟩) (fun h => ⟨h2 h, by subst h; simp only [dyE, if_true]; split <;> omega⟩)]
  unfold wantC
  rcases (by omega : f1 = 0 ∨ f1 = 1) with rfl | rfl <;> rcases (by omega : f2 = 0 ∨ f2 = 1) with rfl | rfl <;> simp [dyN, dyM, dyE, sI]
theorem cmpRV_lt {f1 f2 M1 M2 : Nat} {n1 n2 : Bool} {e1 e2 : Int} (hf1 : f1 ≤ 2) (hf2 : f2 ≤ 2) (h : endV f1 n1 < endV f2 n2) : cmpRV f1 n1 M1 e1 f2 n2 M2 e2 = -1 := by
  unfold cmpRV cmpFV
  rw [if_pos]
  unfold endV at h; unfold ordV
  split at h <;> split at h <;> cases n1 <;> cases n2 <;> simp_all <;> omega
theorem cmpRV_gt {f1 f2 M1 M2 : Nat} {n1 n2 : Bool} {e1 e2 : Int} (hf1 : f1 ≤ 2) (hf2 : f2 ≤ 2) (h : endV f2 n2 < endV f1 n1) : cmpRV f1 n1 M1 e1 f2 n2 M2 e2 = 1 := by
  unfold cmpRV cmpFV
  have : ordV f2 n2 < ordV f1 n1 := by
    unfold endV at h; unfold ordV
    split at h <;> split at h <;> cases n1 <;> cases n2 <;> simp_all <;> omega
  rw [if_neg (by omega), if_pos this]
theorem cmpRV_eq {f1 f2 M1 M2 : Nat} {n1 n2 : Bool} {e1 e2 : Int} (hf1 : f1 ≤ 2) (hf2 : f2 ≤ 2) (h : endV f1 n1 = endV f2 n2) (h0 : endV f1 n1 ≠ 0) : cmpRV f1 n1 M1 e1 f2 n2 M2 e2 = 0 := by
  have h2 : f1 = 2 := by
    refine Classical.byContradiction fun hc => h0 ?_
    unfold endV; rw [if_neg hc]
  have h3 : f2 = 2 := by
    refine Classical.byContradiction fun hc => h0 ?_
    rw [h]; unfold endV; rw [if_neg hc]
  subst h2; subst h3
  have : n1 = n2 := by cases n1 <;> cases n2 <;> simp_all [endV]
  subst this
  unfold cmpRV cmpFV
  cases n1 <;> simp [ordV]
theorem end0 {f : Nat} {n : Bool} (hf : f ≤ 2) (h : endV f n = 0) : f ≤ 1 := by
  refine Classical.byContradiction fun hc => ?_
  have : f = 2 := by omega
  subst this
  cases n <;> simp [endV] at h
end Go.Proofs.Ytlgnaioodnhkjaa
