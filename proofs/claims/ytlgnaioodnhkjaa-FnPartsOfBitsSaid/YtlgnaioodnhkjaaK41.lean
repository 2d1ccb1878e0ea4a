/-
Texts of this proof, joined: FiA. No condition.
-/
import Derived.Test.YtlgnaioodnhkjaaK40
/-
The statements' finite. No condition.
-/
namespace Go.Proofs.Ytlgnaioodnhkjaa
open Go.RowKit

set_option maxRecDepth 100000 in
theorem finite_any (x : Nat) (w : World) (hx : x < 18446744073709551616) :
    Calls Try.prog 19 #[.int .u64 x] w fun e' w' => e' = .returned (.bool (decide (x / 4503599627370496 % 2048 < 2047))) ∧ w = w' := by
  obtain ⟨u1, u2⟩ := ob_field hx
  have u3 := and_2047 u2
  obtain ⟨c, hc⟩ : ∃ c, c = x / 4503599627370496 := ⟨_, rfl⟩
  rw [← hc] at u1 u2 u3 ⊢
  obtain ⟨g, hg⟩ : ∃ g, g = c % 2048 := ⟨_, rfl⟩
  rw [← hg] at u3 ⊢
  clear hc hg
  by_cases h : g < 2047
  · have t1 : decide (g < 2047) = true := decide_eq_true h
    have t2 : decide ((g : Int) < 2047) = true := decide_eq_true (by omega)
    rw [t1]
    clear h
    go_enter Try.func19, Try.ntmps19
    go_wp2
    go_ret
    exact ⟨rfl, rfl⟩
  · have t1 : decide (g < 2047) = false := decide_eq_false h
    have t2 : decide ((g : Int) < 2047) = false := decide_eq_false (by omega)
    rw [t1]
    clear h
    go_enter Try.func19, Try.ntmps19
    go_wp2
    go_ret
    exact ⟨rfl, rfl⟩
end Go.Proofs.Ytlgnaioodnhkjaa
