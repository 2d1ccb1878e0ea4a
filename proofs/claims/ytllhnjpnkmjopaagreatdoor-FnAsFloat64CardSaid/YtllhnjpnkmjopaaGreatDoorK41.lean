/-
Texts of this proof, joined: AsC. No condition.
-/
import Derived.Test.YtllhnjpnkmjopaaGreatDoorK20
import Derived.Test.YtllhnjpnkmjopaaGreatDoorK39
import Derived.Test.YtllhnjpnkmjopaaGreatDoorK40
namespace Go.Proofs.YtllhnjpnkmjopaaGreatDoor
open Go.RowKit

theorem uadd_at (b B B1 B2 g1 g2 p m p1 m1 p2 m2 f0 M N : Nat) (a0 e0 E F : Int) (nz n1 n2 : Bool) (w : World) (h : FltR w b p m a0 f0 nz (.slice none 0 0) e0) (hB : B ≤ b) (h1 : FloatAt w B1 g1 p1 m1 1 n1 M E) (h2 : FloatAt w B2 g2 p2 m2 1 n2 N F)
    (hM : 0 < M) (hN : 0 < N) (hp1 : bl M ≤ p1) (hp2 : bl N ≤ p2) (hbM : bl M ≤ 10000) (hbN : bl N ≤ 10000) (hE : -1050000000 ≤ E ∧ E ≤ 1050000000) (hF : (-1050000000 ≤ F ∧ F ≤ 1050000000) ∧ -10000000 ≤ E - F ∧ E - F ≤ 10000000) (hb1 : b ≠ g1) (hb2 : b ≠ g2) (hp0 : 0 < p) (hp : p ≤ 64000000) (hm : m ≤ 5) :
    Calls Tryz.prog 145 #[.pointer (some ⟨b, 0, none⟩), .pointer (some ⟨g1, 0, none⟩), .pointer (some ⟨g2, 0, none⟩)] w fun e' w' => e' = .returned (.tuple #[]) ∧
      FVal w' B b p m (rA p m nz 0 (suM M E N F)) 1 nz (rQ p m nz 0 (suM M E N F)) (min E F + rk p (suM M E N F)) ∧ Below B w w' := by
  obtain ⟨r, x, k1, k2, k3, k4, k5, k6⟩ := h1.open hM hp1 hbM
  obtain ⟨s, y, l1, l2, l3, l4, l5, l6⟩ := h2.open hN hp2 hbN
  refine (uadd_new b B g1 g2 p m p1 m1 p2 m2 f0 a0 e0 0 0 x y nz n1 n2 r s (topN M) (topN N) w h hB k1 l1 k2 l2 k3 l3 hb1 hb2 hp0 hp hm (by omega) (by omega) (by omega) (by omega) (by omega) (by omega) (by omega) (by omega)).mono ?_
  rintro _ w' ⟨rfl, q, hb⟩
  refine ⟨rfl, ?_, hb⟩
  refine fval_trans q ?_ (deq_su k6 l6)
  exact Nat.lt_of_lt_of_le (lo_pos k3.posv) (Nat.le_add_right _ _)
theorem usub_at (b B B1 B2 g1 g2 p m p1 m1 p2 m2 f0 M N : Nat) (a0 e0 E F : Int) (nz n1 n2 : Bool) (w : World) (h : FltR w b p m a0 f0 nz (.slice none 0 0) e0) (hB : B ≤ b) (h1 : FloatAt w B1 g1 p1 m1 1 n1 M E) (h2 : FloatAt w B2 g2 p2 m2 1 n2 N F)
    (hM : 0 < M) (hN : 0 < N) (hp1 : bl M ≤ p1) (hp2 : bl N ≤ p2) (hbM : bl M ≤ 10000) (hbN : bl N ≤ 10000) (hE : -1050000000 ≤ E ∧ E ≤ 1050000000) (hF : (-1050000000 ≤ F ∧ F ≤ 1050000000) ∧ -10000000 ≤ E - F ∧ E - F ≤ 10000000) (hb1 : b ≠ g1) (hb2 : b ≠ g2) (hp0 : 0 < p) (hp : p ≤ 64000000) (hm : m ≤ 5)
    (hge : lo N F (min E F) ≤ lo M E (min E F)) :
    Calls Tryz.prog 147 #[.pointer (some ⟨b, 0, none⟩), .pointer (some ⟨g1, 0, none⟩), .pointer (some ⟨g2, 0, none⟩)] w fun e' w' => e' = .returned (.tuple #[]) ∧
      (diM M E N F = 0 ∧ (∃ v e, FltR w' b p m 0 0 false v e) ∨ 0 < diM M E N F ∧ FVal w' B b p m (rA p m nz 0 (diM M E N F)) 1 nz (rQ p m nz 0 (diM M E N F)) (min E F + rk p (diM M E N F))) ∧ Below B w w' := by
  obtain ⟨r, x, k1, k2, k3, k4, k5, k6⟩ := h1.open hM hp1 hbM
  obtain ⟨s, y, l1, l2, l3, l4, l5, l6⟩ := h2.open hN hp2 hbN
  refine (usub_new b B g1 g2 p m p1 m1 p2 m2 f0 a0 e0 0 0 x y nz n1 n2 r s (topN M) (topN N) w h hB k1 l1 k2 l2 k3 l3 hb1 hb2 hp0 hp hm (by omega) (by omega) (by omega) (by omega) (by omega) (by omega) (by omega) (by omega) ((deq_le k6 l6).2 hge)).mono ?_
  rintro _ w' ⟨rfl, q, hb⟩
  refine ⟨rfl, ?_, hb⟩
  rcases q with ⟨q0, q1⟩ | ⟨q0, q1⟩
  · exact .inl ⟨deq_zero (deq_di k6 l6) q0, q1⟩
  · exact .inr ⟨(deq_di k6 l6).pos q0, fval_trans q1 q0 (deq_di k6 l6)⟩
end Go.Proofs.YtllhnjpnkmjopaaGreatDoor
