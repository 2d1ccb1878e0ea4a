/-
Fractions of the statements: IsNumber, IsFraction. No condition.
-/
import Derived.Test.YtniingblgkghgaaWdD
namespace Go.Proofs.Ytniingblgkghgaa
open Go.RowKit

theorem IsS.form {v : Value} (h : IsS v) : ∃ a n c, v = .slice a n c := by
  cases v <;> first | exact ⟨_, _, _, rfl⟩ | exact h.elim
@[go_sem] theorem match_S {v : Value} (h : IsS v) : Value.cells.match_1 (motive := fun _ => Array Value) v (fun cs => cs) (fun v => #[v]) = #[v] := by
  obtain ⟨a1, n1, c1, rfl⟩ := h.form
  rfl
theorem nl_wv {ws : List Nat} (h : ∀ d ∈ ws, d < 18446744073709551616) : nl (wv ws) ≤ 4 * ws.length := nl_le (by rw [← wpow]; exact wv_lt h)
def isNum (b : Bool) (ws : List Nat) (neg : Bool) (n : Nat) : Bool := (b == (neg && decide (0 < n))) && decide (ws = wds n)
theorem len_pos_iff (n : Nat) : decide (0 < nl n) = decide (0 < n) := by
  rcases Nat.eq_zero_or_pos n with h | h
  · subst h; rfl
  · rw [decide_eq_true h, decide_eq_true (nl_pos h)]
def isFrac (b : Bool) (ns ds : List Nat) (neg : Bool) (n d : Nat) : Bool := isNum b ns neg n && decide (ds = wds d)
end Go.Proofs.Ytniingblgkghgaa
