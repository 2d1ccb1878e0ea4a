/-
Texts of this proof, joined: GcA GcF NmD. No condition.
-/
import Derived.Test.YtoddjkpckpekcaaGreatDoorK01
import Derived.Test.YtoddjkpckpekcaaGreatDoorK02
import Derived.Test.YtoddjkpckpekcaaGreatDoorK03
import Derived.Test.YtoddjkpckpekcaaGreatDoorK04
import Derived.Test.YtoddjkpckpekcaaGreatDoorK05
import Derived.Test.YtoddjkpckpekcaaGreatDoorK06
import Derived.Test.YtoddjkpckpekcaaGreatDoorK07
import Derived.Test.YtoddjkpckpekcaaGreatDoorK08
import Derived.Test.YtoddjkpckpekcaaGreatDoorK09
import Derived.Test.YtoddjkpckpekcaaGreatDoorK10
import Derived.Test.YtoddjkpckpekcaaGreatDoorK11
import Derived.Test.YtoddjkpckpekcaaGreatDoorK12
import Derived.Test.YtoddjkpckpekcaaGreatDoorK13
import Derived.Test.YtoddjkpckpekcaaGreatDoorK14
import Derived.Test.YtoddjkpckpekcaaGreatDoorK15
import Derived.Test.YtoddjkpckpekcaaGreatDoorK16
import Derived.Test.YtoddjkpckpekcaaGreatDoorK17
import Derived.Test.YtoddjkpckpekcaaGreatDoorK18
import Derived.Test.YtoddjkpckpekcaaGreatDoorK19
import Derived.Test.YtoddjkpckpekcaaGreatDoorK20
import Derived.Test.YtoddjkpckpekcaaGreatDoorK21
import Derived.Test.YtoddjkpckpekcaaGreatDoorK22
import Derived.Test.YtoddjkpckpekcaaGreatDoorK23
import Derived.Test.YtoddjkpckpekcaaGreatDoorK24
import Derived.Test.YtoddjkpckpekcaaGreatDoorK25
import Derived.Test.YtoddjkpckpekcaaGreatDoorK26
import Derived.Test.YtoddjkpckpekcaaGreatDoorK27
import Derived.Test.YtoddjkpckpekcaaGreatDoorK30
import Derived.Test.YtoddjkpckpekcaaGreatDoorK32
import Derived.Laws.Bits64b
namespace Go.Proofs.YtoddjkpckpekcaaGreatDoor
open Go.RowKit

theorem collins_t {A B a b K al be u0 u1 v0 v1 xp x : Nat} (hA : A = a * K + al) (hB : B = b * K + be) (h1 : al < K) (h2 : be < K)
    (e1 : xp + v0 * b = u0 * a) (e2 : x + u1 * a = v1 * b) (c1 : v1 ≤ x) (c2 : v0 + v1 + x ≤ xp) (hu1 : u1 ≤ v1) (hv : 0 < v1) :
    v0 * B ≤ u0 * A ∧ u1 * A ≤ v1 * B ∧ v1 * B - u1 * A < u0 * A - v0 * B := by
  have p1 : u0 * A = xp * K + v0 * b * K + u0 * al := by rw [hA, Nat.mul_add, ← Nat.mul_assoc, ← e1, Nat.add_mul]
  have p2 : v0 * B = v0 * b * K + v0 * be := by rw [hB, Nat.mul_add, ← Nat.mul_assoc]
  have p3 : v1 * B = x * K + u1 * a * K + v1 * be := by rw [hB, Nat.mul_add, ← Nat.mul_assoc, ← e2, Nat.add_mul]
  have p4 : u1 * A = u1 * a * K + u1 * al := by rw [hA, Nat.mul_add, ← Nat.mul_assoc]
  have q1 : v0 * be ≤ v0 * K := Nat.mul_le_mul_left _ (Nat.le_of_lt h2)
  have q2 : v1 * be < v1 * K := (Nat.mul_lt_mul_left hv).2 h2
  have q3 : u1 * al ≤ u1 * K := Nat.mul_le_mul_left _ (Nat.le_of_lt h1)
  have q4 : u1 * K ≤ v1 * K := Nat.mul_le_mul_right _ hu1
  have q5 : v1 * K ≤ x * K := Nat.mul_le_mul_right _ c1
  have q6 : (v0 + v1 + x) * K ≤ xp * K := Nat.mul_le_mul_right _ c2
  rw [Nat.add_mul, Nat.add_mul] at q6
  omega
theorem collins_f {A B a b K al be u0 u1 v0 v1 xp x : Nat} (hA : A = a * K + al) (hB : B = b * K + be) (h1 : al < K) (h2 : be < K)
    (e1 : xp + u0 * a = v0 * b) (e2 : x + v1 * b = u1 * a) (c1 : v1 ≤ x) (c2 : v0 + v1 + x ≤ xp) (hu0 : u0 ≤ v0) (hu1 : u1 ≤ v1) (hv : 0 < v1) :
    u0 * A ≤ v0 * B ∧ v1 * B ≤ u1 * A ∧ u1 * A - v1 * B < v0 * B - u0 * A := by
  have p1 : v0 * B = xp * K + u0 * a * K + v0 * be := by rw [hB, Nat.mul_add, ← Nat.mul_assoc, ← e1, Nat.add_mul]
  have p2 : u0 * A = u0 * a * K + u0 * al := by rw [hA, Nat.mul_add, ← Nat.mul_assoc]
  have p3 : u1 * A = x * K + v1 * b * K + u1 * al := by rw [hA, Nat.mul_add, ← Nat.mul_assoc, ← e2, Nat.add_mul]
  have p4 : v1 * B = v1 * b * K + v1 * be := by rw [hB, Nat.mul_add, ← Nat.mul_assoc]
  have q1 : u0 * al ≤ v0 * al := Nat.mul_le_mul_right _ hu0
  have q1' : v0 * al ≤ v0 * K := Nat.mul_le_mul_left _ (Nat.le_of_lt h1)
  have q2 : u1 * al ≤ v1 * al := Nat.mul_le_mul_right _ hu1
  have q2' : v1 * al < v1 * K := (Nat.mul_lt_mul_left hv).2 h1
  have q3 : v1 * be ≤ v1 * K := Nat.mul_le_mul_left _ (Nat.le_of_lt h2)
  have q5 : v1 * K ≤ x * K := Nat.mul_le_mul_right _ c1
  have q6 : (v0 + v1 + x) * K ≤ xp * K := Nat.mul_le_mul_right _ c2
  rw [Nat.add_mul, Nat.add_mul] at q6
  omega
theorem cross {A B A' B' u0 u1 v0 v1 : Nat} (h1 : A' + v0 * B = u0 * A) (h2 : B' + u1 * A = v1 * B) (hd : u0 * v1 = 1 + u1 * v0) :
    A = v1 * A' + v0 * B' ∧ B = u1 * A' + u0 * B' := by
  have i1 : (A' : Int) = u0 * A - v0 * B := by have := congrArg (Int.ofNat) h1; simp at this; omega
  have i2 : (B' : Int) = v1 * B - u1 * A := by have := congrArg (Int.ofNat) h2; simp at this; omega
  have i3 : (u0 : Int) * v1 = 1 + u1 * v0 := by have := congrArg (Int.ofNat) hd; simpa using this
  constructor
  · have : (A : Int) = v1 * A' + v0 * B' := by rw [i1, i2]; grind
    exact_mod_cast this
  · have : (B : Int) = u1 * A' + u0 * B' := by rw [i1, i2]; grind
    exact_mod_cast this
theorem dvd_of_sum {d a b c : Nat} (h : a + b = c) (hb : d ∣ b) (hc : d ∣ c) : d ∣ a := (Nat.dvd_add_left hb).1 (h ▸ hc)
def Lead (A B u0 u1 v0 v1 : Nat) (ev : Bool) : Prop :=
  v0 = 0 ∨ (0 < v0 ∧ 0 < u1 ∧ ∃ A' B', Smaller A B A' B' ∧ (if ev then A' + v0 * B = u0 * A ∧ B' + u1 * A = v1 * B else A' + u0 * A = v0 * B ∧ B' + v1 * B = u1 * A))
theorem Sim.lead {A B a b K al be x y u0 u1 u2 v0 v1 v2 : Nat} {ev : Bool} (h : Sim a b x y u0 u1 u2 v0 v1 v2 ev) (hA : A = a * K + al) (hB : B = b * K + be) (h1 : al < K) (h2 : be < K) :
    Lead A B u0 u1 v0 v1 ev := by
  rcases h.cert with h0 | ⟨g1, g2, g3, g4, xp, c1, c2, g5⟩
  · exact .inl h0
  rcases Nat.eq_zero_or_pos v0 with h0 | h0
  · exact .inl h0
  refine .inr ⟨h0, g2, ?_⟩
  have hs := h.sgn
  cases ev with
  | true =>
    obtain ⟨s1, -, -⟩ := hs
    obtain ⟨e1, hd⟩ := g5
    obtain ⟨k1, k2, k3⟩ := collins_t hA hB h1 h2 e1 s1 c1 c2 g4 g3
    have m1 : u0 * A - v0 * B + v0 * B = u0 * A := Nat.sub_add_cancel k1
    have m2 : v1 * B - u1 * A + u1 * A = v1 * B := Nat.sub_add_cancel k2
    obtain ⟨n1, n2⟩ := cross m1 m2 hd
    exact ⟨_, _, .of n1 n2 k3 g2 (fun d d1 d2 => ⟨dvd_of_sum m1 (Nat.dvd_mul_left_of_dvd d2 _) (Nat.dvd_mul_left_of_dvd d1 _), dvd_of_sum m2 (Nat.dvd_mul_left_of_dvd d1 _) (Nat.dvd_mul_left_of_dvd d2 _)⟩), m1, m2⟩
  | false =>
    obtain ⟨s1, -, -⟩ := hs
    obtain ⟨e1, hd⟩ := g5
    obtain ⟨k1, k2, k3⟩ := collins_f hA hB h1 h2 e1 s1 c1 c2 g1 g4 g3
    have m1 : v0 * B - u0 * A + u0 * A = v0 * B := Nat.sub_add_cancel k1
    have m2 : u1 * A - v1 * B + v1 * B = u1 * A := Nat.sub_add_cancel k2
    obtain ⟨n1, n2⟩ := cross (A := B) (B := A) (u0 := v0) (u1 := v1) (v0 := u0) (v1 := u1) m1 m2 (by rw [Nat.mul_comm v0, hd, Nat.mul_comm u0])
    exact ⟨_, _, .of n2 n1 k3 g2 (fun d d1 d2 => ⟨dvd_of_sum m1 (Nat.dvd_mul_left_of_dvd d1 _) (Nat.dvd_mul_left_of_dvd d2 _), dvd_of_sum m2 (Nat.dvd_mul_left_of_dvd d2 _) (Nat.dvd_mul_left_of_dvd d1 _)⟩), m1, m2⟩
theorem Al.self (v : Value) : Al v v := fun _ _ => rfl
theorem Quad.turn {w : World} {B a b q r : Nat} {ma mb mq mr : Bool} {va vb vq vr : Value} {za zb zq zr : List Value} (h : Quad w B a b q r ma mb mq mr va vb vq vr za zb zq zr) : Quad w B b q r a mb mq mr ma vb vq vr va zb zq zr za :=
  ⟨h.bb, h.bq, h.br, h.ba, h.sbq, h.sbr, h.sab.symm, h.sqr, h.saq.symm, h.sar.symm, h.nbq, h.nbr, h.nab.symm, h.nqr, h.naq.symm, h.nar.symm⟩
theorem mul_lead {A' B' A B u0 u1 v0 v1 : Nat} {ev : Bool} (hlt : B' < A') (h : if ev then A' + v0 * B = u0 * A ∧ B' + u1 * A = v1 * B else A' + u0 * A = v0 * B ∧ B' + v1 * B = u1 * A) :
    addM (!ev) (A * u0) ev (B * v0) = A' ∧ (decide (0 < addM (!ev) (A * u0) ev (B * v0)) && addN (!ev) (A * u0) ev (B * v0)) = false ∧ addM (!ev) (B * v1) ev (A * u1) = B' ∧ (decide (0 < addM (!ev) (B * v1) ev (A * u1)) && addN (!ev) (B * v1) ev (A * u1)) = false := by
  cases ev with
  | true =>
    obtain ⟨h1, h2⟩ := h
    rw [Nat.mul_comm v0, Nat.mul_comm u0] at h1
    rw [Nat.mul_comm u1, Nat.mul_comm v1] at h2
    have l1 : B * v0 ≤ A * u0 := by omega
    have l2 : A * u1 ≤ B * v1 := by omega
    simp only [addM, addN, Bool.not_true, if_neg (show ¬ false = true by decide), if_pos l1, if_pos l2, Bool.and_false]
    exact ⟨by omega, trivial, by omega, trivial⟩
  | false =>
    obtain ⟨h1, h2⟩ := h
    rw [Nat.mul_comm v0, Nat.mul_comm u0] at h1
    rw [Nat.mul_comm u1, Nat.mul_comm v1] at h2
    have l1 : ¬ B * v0 ≤ A * u0 := by omega
    simp only [addM, addN, Bool.not_false, if_neg (show ¬ true = false by decide), if_neg l1, Bool.not_true, Bool.and_false]
    refine ⟨by omega, trivial, ?_⟩
    by_cases l2 : A * u1 ≤ B * v1
    · rw [if_pos l2, if_pos l2]
      have h3 : B * v1 - A * u1 = 0 := by omega
      rw [h3]
      exact ⟨by omega, by simp⟩
    · rw [if_neg l2, if_neg l2]
      exact ⟨by omega, by simp⟩
theorem Quad.mul1 {w : World} {B a b q r X y : Nat} {ma mb mq mr neg : Bool} {va vb vq vr : Value} {za zb zq zr : List Value} (h : Quad w B a b q r ma mb mq mr va vb vq vr za zb zq zr) (hz : za = cellsW (wds X)) (_hX0 : 0 < X) (hX : nw X ≤ 100000000) (hy : y < 18446744073709551616) :
    Calls Tryz.prog 151 #[.pointer (some ⟨a, 0, none⟩), .pointer (some ⟨a, 0, none⟩), .bool neg, .int .u64 y] w fun e w' => e = .returned (.tuple #[]) ∧ (∃ v, Quad w' B a b q r (ma != neg) mb mq mr v vb vq vr (cellsW (wds (X * y))) zb zq zr) ∧ Below B w w' := by
  subst hz
  refine (mulW_any a a ma ma neg va va _ X y B w h.ba.row h.ba.row h.ba.own h.ba.ro (Al.self _) hy hX h.ba.le).mono ?_
  rintro e w' ⟨h1, h2⟩
  exact ⟨h1, h.put h2, h2.below⟩
theorem Quad.mul4 {w : World} {B a b q r X y : Nat} {ma mb mq mr neg : Bool} {va vb vq vr : Value} {za zb zq zr : List Value} (h : Quad w B a b q r ma mb mq mr va vb vq vr za zb zq zr) (hz : zr = cellsW (wds X)) (hX0 : 0 < X) (hX : nw X ≤ 100000000) (hy : y < 18446744073709551616) :
    Calls Tryz.prog 151 #[.pointer (some ⟨a, 0, none⟩), .pointer (some ⟨r, 0, none⟩), .bool neg, .int .u64 y] w fun e w' => e = .returned (.tuple #[]) ∧ (∃ v, Quad w' B a b q r (mr != neg) mb mq mr v vb vq vr (cellsW (wds (X * y))) zb zq zr) ∧ Below B w w' := by
  subst hz
  refine (mulW_any a r ma mr neg va vr za X y B w h.ba.row h.br.row h.ba.own h.br.ro  (h.sar.al h.br.own.isS (by rw [h.br.own.len, cellsW_length, wds_length]; exact nw_pos hX0)) hy hX h.ba.le).mono ?_
  rintro e w' ⟨h1, h2⟩
  exact ⟨h1, h.put h2, h2.below⟩
theorem Quad.mul2 {w : World} {B a b q r X y : Nat} {ma mb mq mr neg : Bool} {va vb vq vr : Value} {za zb zq zr : List Value} (h : Quad w B a b q r ma mb mq mr va vb vq vr za zb zq zr) (hz : zb = cellsW (wds X)) (hX0 : 0 < X) (hX : nw X ≤ 100000000) (hy : y < 18446744073709551616) :
    Calls Tryz.prog 151 #[.pointer (some ⟨a, 0, none⟩), .pointer (some ⟨b, 0, none⟩), .bool neg, .int .u64 y] w fun e w' => e = .returned (.tuple #[]) ∧ (∃ v, Quad w' B a b q r (mb != neg) mb mq mr v vb vq vr (cellsW (wds (X * y))) zb zq zr) ∧ Below B w w' := by
  subst hz
  refine (mulW_any a b ma mb neg va vb za X y B w h.ba.row h.bb.row h.ba.own h.bb.ro  (h.sab.al h.bb.own.isS (by rw [h.bb.own.len, cellsW_length, wds_length]; exact nw_pos hX0)) hy hX h.ba.le).mono ?_
  rintro e w' ⟨h1, h2⟩
  exact ⟨h1, h.put h2, h2.below⟩
theorem Quad.add3 {w : World} {B a b q r X Y : Nat} {ma mb mq mr : Bool} {va vb vq vr : Value} {za zb zq zr : List Value} (h : Quad w B a b q r ma mb mq mr va vb vq vr za zb zq zr) (hz : za = cellsW (wds X)) (hz2 : zq = cellsW (wds Y)) (hY0 : 0 < Y) (hX : nw X ≤ 1000000) (hY : nw Y ≤ 1000000) :
    Calls Tryz.prog 113 #[.pointer (some ⟨a, 0, none⟩), .pointer (some ⟨a, 0, none⟩), .pointer (some ⟨q, 0, none⟩)] w fun e w' => e = .returned (.pointer (some ⟨a, 0, none⟩)) ∧ (∃ v, Quad w' B a b q r (decide (0 < addM ma X mq Y) && addN ma X mq Y) mb mq mr v vb vq vr (cellsW (wds (addM ma X mq Y))) zb zq zr) ∧ Below B w w' := by
  subst hz hz2
  have hal : Al va vq := h.saq.al h.bq.own.isS (by rw [h.bq.own.len, cellsW_length, wds_length]; exact nw_pos hY0)
  refine (intAdd_any a 0 a 0 q 0 ma mq va va vq (.bool ma) _ X Y B _ _ _ _ _ _ w h.ba.row h.ba.row h.bq.row (by decide) rfl rfl rfl rfl rfl rfl h.ba.own h.ba.ro h.bq.ro (Al.self _) hal hX hY h.ba.le).mono ?_
  rintro e w' ⟨h1, h2⟩
  exact ⟨h1, h.put h2.box, h2.below⟩
theorem nw_mul_word {X y : Nat} (hy : y < 18446744073709551616) : nw (X * y) ≤ nw X + 1 := nw_le (by rw [Nat.pow_succ]; exact Nat.mul_lt_mul'' (lt_nw X) hy)
set_option maxRecDepth 100000 in
set_option maxHeartbeats 1600000 in
theorem lehmerUpdate_any (a b q r B X Y X' Y' u0 u1 v0 v1 : Nat) (ev mq mr : Bool) (va vb vq vr : Value) (zq zr : List Value) (w : World) (h : Quad w B a b q r false false mq mr va vb vq vr (cellsW (wds X)) (cellsW (wds Y)) zq zr)
    (hX0 : 0 < X) (hY0 : 0 < Y) (hX : nw X ≤ 1000) (hY : nw Y ≤ 1000) (h0 : u0 < 18446744073709551616) (h1 : u1 < 18446744073709551616) (h2 : v0 < 18446744073709551616) (h3 : v1 < 18446744073709551616) (hv0 : 0 < v0) (hu1 : 0 < u1) (hlt : Y' < X')
    (hl : if ev then X' + v0 * Y = u0 * X ∧ Y' + u1 * X = v1 * Y else X' + u0 * X = v0 * Y ∧ Y' + v1 * Y = u1 * X) :
    Calls Tryz.prog 149 #[.pointer (some ⟨a, 0, none⟩), .pointer (some ⟨b, 0, none⟩), .pointer (some ⟨q, 0, none⟩), .pointer (some ⟨r, 0, none⟩), .int .u64 u0, .int .u64 u1, .int .u64 v0, .int .u64 v1, .bool ev] w
      fun e w' => e = .returned (.tuple #[]) ∧ (∃ (mq' mr' : Bool) (va' vb' vq' vr' : Value) (zq' zr' : List Value), Quad w' B a b q r false false mq' mr' va' vb' vq' vr' (cellsW (wds X')) (cellsW (wds Y')) zq' zr') ∧ Below B w w' := by
  obtain ⟨e1, e2, e3, e4⟩ := mul_lead hlt hl
  have n1 : nw (Y * v0) ≤ 1001 := Nat.le_trans (nw_mul_word h2) (by omega)
  have n2 : nw (X * u1) ≤ 1001 := Nat.le_trans (nw_mul_word h1) (by omega)
  have n3 : nw (X * u0) ≤ 1001 := Nat.le_trans (nw_mul_word h0) (by omega)
  have n4 : nw (Y * v1) ≤ 1001 := Nat.le_trans (nw_mul_word h3) (by omega)
  have p1 : 0 < Y * v0 := Nat.mul_pos hY0 hv0
  have p2 : 0 < X * u1 := Nat.mul_pos hX0 hu1
  have H1 : Hid (Calls Tryz.prog 151 #[.pointer (some ⟨q, 0, none⟩), .pointer (some ⟨b, 0, none⟩), .bool ev, .int .u64 v0] w fun e w1 => e = .returned (.tuple #[]) ∧ (∃ v, Quad w1 B a b q r false false ev mr va vb v vr (cellsW (wds X)) (cellsW (wds Y)) (cellsW (wds (Y * v0))) zr) ∧ Below B w w1) := Lib.hid (by
    refine (h.turn.turn.mul4 rfl hY0 (by omega) h2).mono ?_
    rintro e w1 ⟨g1, ⟨v, g2⟩, g3⟩
    rw [Bool.false_bne] at g2
    exact ⟨g1, ⟨v, g2.turn.turn⟩, g3⟩)
  have H2 : Hid (∀ w1 v, Quad w1 B a b q r false false ev mr va vb v vr (cellsW (wds X)) (cellsW (wds Y)) (cellsW (wds (Y * v0))) zr → Calls Tryz.prog 151 #[.pointer (some ⟨r, 0, none⟩), .pointer (some ⟨a, 0, none⟩), .bool ev, .int .u64 u1] w1 fun e w2 => e = .returned (.tuple #[]) ∧ (∃ x, Quad w2 B a b q r false false ev ev va vb v x (cellsW (wds X)) (cellsW (wds Y)) (cellsW (wds (Y * v0))) (cellsW (wds (X * u1)))) ∧ Below B w1 w2) := Lib.hid (fun w1 v g => by
    refine (g.turn.turn.turn.mul2 rfl hX0 (by omega) h1).mono ?_
    rintro e w2 ⟨g1, ⟨x, g2⟩, g3⟩
    rw [Bool.false_bne] at g2
    exact ⟨g1, ⟨x, g2.turn⟩, g3⟩)
  have H3 : Hid (∀ w2 v x, Quad w2 B a b q r false false ev ev va vb v x (cellsW (wds X)) (cellsW (wds Y)) (cellsW (wds (Y * v0))) (cellsW (wds (X * u1))) → Calls Tryz.prog 151 #[.pointer (some ⟨a, 0, none⟩), .pointer (some ⟨a, 0, none⟩), .bool (!ev), .int .u64 u0] w2 fun e w3 => e = .returned (.tuple #[]) ∧ (∃ y, Quad w3 B a b q r (!ev) false ev ev y vb v x (cellsW (wds (X * u0))) (cellsW (wds Y)) (cellsW (wds (Y * v0))) (cellsW (wds (X * u1)))) ∧ Below B w2 w3) := Lib.hid (fun w2 v x g => by
    refine (g.mul1 rfl hX0 (by omega) h0).mono ?_
    rintro e w3 ⟨g1, ⟨y, g2⟩, g3⟩
    rw [Bool.false_bne] at g2
    exact ⟨g1, ⟨y, g2⟩, g3⟩)
  have H4 : Hid (∀ w3 v x y, Quad w3 B a b q r (!ev) false ev ev y vb v x (cellsW (wds (X * u0))) (cellsW (wds Y)) (cellsW (wds (Y * v0))) (cellsW (wds (X * u1))) → Calls Tryz.prog 151 #[.pointer (some ⟨b, 0, none⟩), .pointer (some ⟨b, 0, none⟩), .bool (!ev), .int .u64 v1] w3 fun e w4 => e = .returned (.tuple #[]) ∧ (∃ z, Quad w4 B a b q r (!ev) (!ev) ev ev y z v x (cellsW (wds (X * u0))) (cellsW (wds (Y * v1))) (cellsW (wds (Y * v0))) (cellsW (wds (X * u1)))) ∧ Below B w3 w4) := Lib.hid (fun w3 v x y g => by
    refine (g.turn.mul1 rfl hY0 (by omega) h3).mono ?_
    rintro e w4 ⟨g1, ⟨z, g2⟩, g3⟩
    rw [Bool.false_bne] at g2
    exact ⟨g1, ⟨z, g2.turn.turn.turn⟩, g3⟩)
  have H5 : Hid (∀ w4 v x y z, Quad w4 B a b q r (!ev) (!ev) ev ev y z v x (cellsW (wds (X * u0))) (cellsW (wds (Y * v1))) (cellsW (wds (Y * v0))) (cellsW (wds (X * u1))) → Calls Tryz.prog 113 #[.pointer (some ⟨a, 0, none⟩), .pointer (some ⟨a, 0, none⟩), .pointer (some ⟨q, 0, none⟩)] w4 fun e w5 => e = .returned (.pointer (some ⟨a, 0, none⟩)) ∧ (∃ s, Quad w5 B a b q r false (!ev) ev ev s z v x (cellsW (wds X')) (cellsW (wds (Y * v1))) (cellsW (wds (Y * v0))) (cellsW (wds (X * u1)))) ∧ Below B w4 w5) := Lib.hid (fun w4 v x y z g => by
    refine (g.add3 rfl rfl p1 (by omega) (by omega)).mono ?_
    rintro e w5 ⟨g1, ⟨s, g2⟩, g3⟩
    rw [e2, e1] at g2
    exact ⟨g1, ⟨s, g2⟩, g3⟩)
  have H6 : Hid (∀ w5 v x z s, Quad w5 B a b q r false (!ev) ev ev s z v x (cellsW (wds X')) (cellsW (wds (Y * v1))) (cellsW (wds (Y * v0))) (cellsW (wds (X * u1))) → Calls Tryz.prog 113 #[.pointer (some ⟨b, 0, none⟩), .pointer (some ⟨b, 0, none⟩), .pointer (some ⟨r, 0, none⟩)] w5 fun e w6 => e = .returned (.pointer (some ⟨b, 0, none⟩)) ∧ (∃ t, Quad w6 B a b q r false false ev ev s t v x (cellsW (wds X')) (cellsW (wds Y')) (cellsW (wds (Y * v0))) (cellsW (wds (X * u1)))) ∧ Below B w5 w6) := Lib.hid (fun w5 v x z s g => by
    refine (g.turn.add3 rfl rfl p2 (by omega) (by omega)).mono ?_
    rintro e w6 ⟨g1, ⟨t, g2⟩, g3⟩
    rw [e4, e3] at g2
    exact ⟨g1, ⟨t, g2.turn.turn.turn⟩, g3⟩)
  clear h hX0 hY0 hX hY h0 h1 h2 h3 hv0 hu1 hlt hl e1 e2 e3 e4 n1 n2 n3 n4 p1 p2
  go_enter Tryz.func149, Tryz.ntmps149
  go_wp2_with fail
  refine H1.out.mono ?_
  rintro _ w1 ⟨rfl, ⟨v, g1⟩, k1⟩
  go_wp2_with fail
  refine (H2.out w1 v g1).mono ?_
  rintro _ w2 ⟨rfl, ⟨x, g2⟩, k2⟩
  go_wp2_with fail
  refine (H3.out w2 v x g2).mono ?_
  rintro _ w3 ⟨rfl, ⟨y, g3⟩, k3⟩
  go_wp2_with fail
  refine (H4.out w3 v x y g3).mono ?_
  rintro _ w4 ⟨rfl, ⟨z, g4⟩, k4⟩
  go_wp2_with fail
  refine (H5.out w4 v x y z g4).mono ?_
  rintro _ w5 ⟨rfl, ⟨s, g5⟩, k5⟩
  go_wp2_with fail
  refine (H6.out w5 v x z s g5).mono ?_
  rintro _ w6 ⟨rfl, ⟨t, g6⟩, k6⟩
  go_wp2
  go_end0
  exact ⟨rfl, ⟨_, _, _, _, _, _, _, _, g6⟩, ((((k1.trans k2).trans k3).trans k4).trans k5).trans k6⟩
structure DvS (va q : Value) (N B s : Nat) (o o' : Option (Nat × Value)) (w w' : World) : Prop where
  own : Own w' B 98 q (cellsW (wds N))
  at' : 0 < sCap q → (0 < sCap va ∧ sBlk q = sBlk va) ∨ w.heap.size ≤ sBlk q
  st : StO w' B s 0 o'
  sb : ∀ k, SBk s o' k → SBk s o k ∨ w.heap.size ≤ k
  nsq : 0 < sCap q → ¬ SBk s o' (sBlk q)
  below : Below B w w'
  fr : ∀ k, k < w.heap.size → ¬ SBk s o k → (0 < sCap va → k ≠ sBlk va) → w'.heap[k]? = w.heap[k]?
set_option maxHeartbeats 800000 in
theorem div_to (va x rv : Value) (zs : List Value) (N D B s : Nat) (o : Option (Nat × Value)) (w : World) (hst : StO w B s 0 o) (oa : Own w B 98 va zs) (ha : 0 < sCap va → ¬ SBk s o (sBlk va)) (hx : RO w x (wds N)) (ax : Al va x) (hxS : ¬ SBk s o (sBlk x)) (hr : RO w rv (wds D)) (hrS : ¬ SBk s o (sBlk rv))
    (hD : 0 < D) (hn40 : nw D < 40) (hlu : nw N ≤ 90000) (hB : B ≤ w.heap.size) (hT : DivW w) (hg : 3 < B) :
    Calls Tryz.prog 61 #[va, .pointer (some ⟨s, 0, none⟩), .slice none 0 0, x, rv] w fun e w' => ∃ q r, e = .returned (.tuple #[q, r]) ∧ ∃ o', DvS va q (N / D) B s o o' w w' ∧ Own w' B 98 r (cellsW (wds (N % D))) ∧ (0 < sCap r → w.heap.size ≤ sBlk r) ∧ (0 < sCap q → 0 < sCap r → sBlk q ≠ sBlk r) ∧ (0 < sCap r → ¬ SBk s o' (sBlk r)) := by
  refine (div_stk va (.slice none 0 0) x rv zs [] N D B s 0 o w hst (by decide) ha (fun h => absurd h nil_cap) hxS hrS oa (Own.nil _ _ _) hx hr ax hD hn40 hlu (fun _ h => absurd h nil_cap) (fun h => absurd h nil_cap) (fun h => absurd h nil_cap) hB hT hg).mono ?_
  rintro e w' ⟨q, r, rfl, h | ⟨k, o', h⟩⟩
  · have hat : 0 < sCap r → w.heap.size ≤ sBlk r := fun hc => by
      rcases h.atr hc with ⟨a, _⟩ | a
      · exact absurd a nil_cap
      · exact a
    refine ⟨q, r, rfl, o, ⟨h.oq, h.atq, hst.keep fun k hk => h.fr k (hst.base hk).2 (fun hc he => ha hc (he ▸ hk)) (fun hc => absurd hc nil_cap), fun k hk => .inl hk, fun hc hk => ?_, h.below, fun k hk _ hv => h.fr k hk hv (fun hc => absurd hc nil_cap)⟩, h.or_, hat, h.ne, fun hc hk => ?_⟩
    · rcases h.atq hc with ⟨a, b⟩ | a
      · exact ha a (b ▸ hk)
      · have := (hst.base hk).2; omega
    · have h1 := hat hc
      have := (hst.base hk).2; omega
  · refine ⟨q, r, rfl, o', ⟨h.oq, h.atq, h.st, h.sb, h.nsq, undrewN h.below, fun k hk hn hv => h.fr k hk hn hv (fun hc => absurd hc nil_cap)⟩, h.or_, fun hc => ?_, h.ne, h.nsr⟩
    rcases h.atr hc with ⟨a, _⟩ | a
    · exact absurd a nil_cap
    · exact a
end Go.Proofs.YtoddjkpckpekcaaGreatDoor
