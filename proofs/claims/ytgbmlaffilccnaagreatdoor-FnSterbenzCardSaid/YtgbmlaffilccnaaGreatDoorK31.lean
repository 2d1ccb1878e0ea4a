/-
Texts of this proof, joined: AdA. No condition.
-/
import Derived.Test.YtgbmlaffilccnaaGreatDoorK16
import Derived.Test.YtgbmlaffilccnaaGreatDoorK27
import Derived.Test.YtgbmlaffilccnaaGreatDoorK30
/-
Floats: Add and Sub of a new receiver. No condition.
-/
namespace Go.Proofs.YtgbmlaffilccnaaGreatDoor
open Go.RowKit

theorem smV_same (n : Bool) (M : Nat) (E : Int) (N : Nat) (F : Int) : smV n M E n N F = sI n (suM M E N F) := by
  unfold smV suM; cases n <;> simp [sI] <;> omega
theorem smV_ge {n : Bool} {M N : Nat} {E F : Int} (h : lo N F (min E F) ≤ lo M E (min E F)) : smV n M E (!n) N F = sI n (diM M E N F) := by
  unfold smV diM; cases n <;> simp [sI] <;> omega
theorem smV_le {n : Bool} {M N : Nat} {E F : Int} (h : lo M E (min E F) ≤ lo N F (min E F)) : smV n M E (!n) N F = sI (!n) (diM N F M E) := by
  unfold smV diM; rw [Int.min_comm F E]; cases n <;> simp [sI] <;> omega
theorem ucmp_lo {M N : Nat} {E F : Int} (hM : 0 < M) (hN : 0 < N) : ucmpV ((bl M : Nat) + E) ((bl N : Nat) + F) (topN M) (topN N) = cmpN (lo M E (min E F)) (lo N F (min E F)) :=
  ucmp_real (e := min E F) hM hN (by omega) (by omega)
theorem cmpN_pos {a b : Nat} : (0 < cmpN a b) ↔ b < a := by
  rcases Nat.lt_trichotomy a b with h | h | h
  · rw [cmpN_lt h]; omega
  · rw [h, cmpN_eq]; omega
  · rw [cmpN_gt h]; omega
theorem ucmp_at {B1 B2 g1 g2 p1 m1 p2 m2 M N : Nat} {n1 n2 : Bool} {E F : Int} (w : World) (h1 : FloatAt w B1 g1 p1 m1 1 n1 M E) (h2 : FloatAt w B2 g2 p2 m2 1 n2 N F) (hM : 0 < M) (hN : 0 < N) (hbM : bl M ≤ 10000) (hbN : bl N ≤ 10000) :
    Calls Tryz.prog 63 #[.pointer (some ⟨g1, 0, none⟩), .pointer (some ⟨g2, 0, none⟩)] w fun e' w' => e' = .returned (.int .i64 (cmpN (lo M E (min E F)) (lo N F (min E F)))) ∧ ∃ n, w' = w.drewN n := by
  obtain ⟨-, r1, x1, a1, b1⟩ := h1
  obtain ⟨-, r2, x2, a2, b2⟩ := h2
  obtain ⟨rfl, o1⟩ := b1 rfl
  obtain ⟨rfl, o2⟩ := b2 rfl
  have hn1 := nw_bl hM
  have hn2 := nw_bl hN
  have := ucmp_any g1 g2 p1 m1 1 p2 m2 1 0 _ 0 _ n1 n2 r1 r2 (topN M) (topN N) w a1 a2 (o1.rw' topN_lt) (o2.rw' topN_lt) (by rw [topN_length]; omega) (by rw [topN_length]; omega)
  rw [ucmp_lo hM hN] at this
  exact this
end Go.Proofs.YtgbmlaffilccnaaGreatDoor
