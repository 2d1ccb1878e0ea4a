/-
Texts of this proof, joined: GcA GcF NmD NmE. No condition.
-/
import Derived.Test.YtbghmceglemppaaGreatDoorK03
import Derived.Test.YtbghmceglemppaaGreatDoorK15
import Derived.Test.YtbghmceglemppaaGreatDoorK22
import Derived.Test.YtbghmceglemppaaGreatDoorK23
/-
The greatest common divisor by leading words: Collins' condition, plain arithmetic. No condition.
-/
namespace Go.Proofs.YtbghmceglemppaaGreatDoor
open Go.RowKit

/-- Two steps' cosequences at the leading parts hold at the numbers themselves: even steps. -/
theorem collins_t {A B a b K al be u0 u1 v0 v1 xp x : Nat} (hA : A = a * K + al) (hB : B = b * K + be) (h1 : al < K) (h2 : be < K)
    (e1 : xp + v0 * b = u0 * a) (e2 : x + u1 * a = v1 * b) (c1 : v1 ≤ x) (c2 : v0 + v1 + x ≤ xp) (hu1 : u1 ≤ v1) (hv : 0 < v1) :
    v0 * B ≤ u0 * A ∧ u1 * A ≤ v1 * B ∧ v1 * B - u1 * A < u0 * A - v0 * B := by
  have p1 : u0 * A = xp * K + v0 * b * K + u0 * al := by rw [hA, Nat.mul_add, ← Nat.mul_assoc, ← e1, Nat.add_mul]
  have p2 : v0 * B = v0 * b * K + v0 * be := by rw [hB, Nat.mul_add, ← Nat.mul_assoc]
  have p3 : v1 * B = x * K + u1 * a * K + v1 * be := by rw [hB, Nat.mul_add, ← Nat.mul_assoc, ← e2, Nat.add_mul]
  have p4 : u1 * A = u1 * a * K + u1 * al := by rw [hA, Nat.mul_add, ← Nat.mul_assoc]
  have q1 : v0 * be ≤ v0 * K := Nat.mul_le_mul_left _ (Nat.le_of_lt h2)
  have q2 : v1 * be < v1 * K := (Nat.mul_lt_mul_left hv).2 h2
  have q3 : u1 * al ≤ u1 * K := Nat.mul_le_mul_left _ (Nat.le_of_lt h1)
  have q4 : u1 * K ≤ v1 * K := Nat.mul_le_mul_right _ hu1
  have q5 : v1 * K ≤ x * K := Nat.mul_le_mul_right _ c1
  have q6 : (v0 + v1 + x) * K ≤ xp * K := Nat.mul_le_mul_right _ c2
  rw [Nat.add_mul, Nat.add_mul] at q6
  omega
theorem collins_f {A B a b K al be u0 u1 v0 v1 xp x : Nat} (hA : A = a * K + al) (hB : B = b * K + be) (h1 : al < K) (h2 : be < K)
    (e1 : xp + u0 * a = v0 * b) (e2 : x + v1 * b = u1 * a) (c1 : v1 ≤ x) (c2 : v0 + v1 + x ≤ xp) (hu0 : u0 ≤ v0) (hu1 : u1 ≤ v1) (hv : 0 < v1) :
    u0 * A ≤ v0 * B ∧ v1 * B ≤ u1 * A ∧ u1 * A - v1 * B < v0 * B - u0 * A := by
  have p1 : v0 * B = xp * K + u0 * a * K + v0 * be := by rw [hB, Nat.mul_add, ← Nat.mul_assoc, ← e1, Nat.add_mul]
  have p2 : u0 * A = u0 * a * K + u0 * al := by rw [hA, Nat.mul_add, ← Nat.mul_assoc]
  have p3 : u1 * A = x * K + v1 * b * K + u1 * al := by rw [hA, Nat.mul_add, ← Nat.mul_assoc, ← e2, Nat.add_mul]
  have p4 : v1 * B = v1 * b * K + v1 * be := by rw [hB, Nat.mul_add, ← Nat.mul_assoc]
  have q1 : u0 * al ≤ v0 * al := Nat.mul_le_mul_right _ hu0
  have q1' : v0 * al ≤ v0 * K := Nat.mul_le_mul_left _ (Nat.le_of_lt h1)
  have q2 : u1 * al ≤ v1 * al := Nat.mul_le_mul_right _ hu1
  have q2' : v1 * al < v1 * K := (Nat.mul_lt_mul_left hv).2 h1
  have q3 : v1 * be ≤ v1 * K := Nat.mul_le_mul_left _ (Nat.le_of_lt h2)
  have q5 : v1 * K ≤ x * K := Nat.mul_le_mul_right _ c1
  have q6 : (v0 + v1 + x) * K ≤ xp * K := Nat.mul_le_mul_right _ c2
  rw [Nat.add_mul, Nat.add_mul] at q6
  omega
/-- What the words found tell of the numbers: a smaller pair with the same divisors. -/
structure Smaller (A B A' B' : Nat) : Prop where
  lt : B' < A'
  less : B' < B
  top : A' ≤ B
  dvd : ∀ d, (d ∣ A ∧ d ∣ B) ↔ (d ∣ A' ∧ d ∣ B')
theorem Smaller.of {A B A' B' u0 u1 v0 v1 : Nat} (hA : A = v1 * A' + v0 * B') (hB : B = u1 * A' + u0 * B') (hlt : B' < A') (hu : 0 < u1)
    (hd : ∀ d, d ∣ A → d ∣ B → d ∣ A' ∧ d ∣ B') : Smaller A B A' B' := by
  have h1 : A' ≤ B := by
    rw [hB]; exact Nat.le_trans (Nat.le_mul_of_pos_left _ hu) (Nat.le_add_right _ _)
  refine ⟨hlt, by omega, h1, fun d => ⟨fun h => hd d h.1 h.2, fun h => ⟨?_, ?_⟩⟩⟩
  · rw [hA]; exact Nat.dvd_add (Nat.dvd_mul_left_of_dvd h.1 _) (Nat.dvd_mul_left_of_dvd h.2 _)
  · rw [hB]; exact Nat.dvd_add (Nat.dvd_mul_left_of_dvd h.1 _) (Nat.dvd_mul_left_of_dvd h.2 _)
theorem cross {A B A' B' u0 u1 v0 v1 : Nat} (h1 : A' + v0 * B = u0 * A) (h2 : B' + u1 * A = v1 * B) (hd : u0 * v1 = 1 + u1 * v0) :
    A = v1 * A' + v0 * B' ∧ B = u1 * A' + u0 * B' := by
  have i1 : (A' : Int) = u0 * A - v0 * B := by have := congrArg (Int.ofNat) h1; simp at this; omega
  have i2 : (B' : Int) = v1 * B - u1 * A := by have := congrArg (Int.ofNat) h2; simp at this; omega
  have i3 : (u0 : Int) * v1 = 1 + u1 * v0 := by have := congrArg (Int.ofNat) hd; simpa using this
  constructor
  · have : (A : Int) = v1 * A' + v0 * B' := by rw [i1, i2]; grind
    exact_mod_cast this
  · have : (B : Int) = u1 * A' + u0 * B' := by rw [i1, i2]; grind
    exact_mod_cast this
theorem dvd_of_sum {d a b c : Nat} (h : a + b = c) (hb : d ∣ b) (hc : d ∣ c) : d ∣ a := (Nat.dvd_add_left hb).1 (h ▸ hc)
/-- What lehmerSimulate tells: nothing (v0 is 0), or a smaller pair. -/
def Lead (A B u0 u1 v0 v1 : Nat) (ev : Bool) : Prop :=
  v0 = 0 ∨ (0 < v0 ∧ 0 < u1 ∧ ∃ A' B', Smaller A B A' B' ∧ (if ev then A' + v0 * B = u0 * A ∧ B' + u1 * A = v1 * B else A' + u0 * A = v0 * B ∧ B' + v1 * B = u1 * A))
/-- The loop's state: a and b the leading parts, x and y two of their remainders behind each other. -/
structure Sim (a b x y u0 u1 u2 v0 v1 v2 : Nat) (ev : Bool) : Prop where
  ha : a = v2 * x + v1 * y
  hb : b = u2 * x + u1 * y
  sgn : if ev then x + u1 * a = v1 * b ∧ y + v2 * b = u2 * a ∧ u2 * v1 = 1 + u1 * v2 else x + v1 * b = u1 * a ∧ y + u2 * a = v2 * b ∧ u1 * v2 = 1 + u2 * v1
  yx : y ≤ x
  u2v2 : u2 ≤ v2
  v2 : 0 < v2
  one : 0 < u1 + u2
  u1v1 : v1 = 0 ∨ (u1 ≤ v1 ∧ 0 < u2)
  zero : v1 = 0 → u2 = 0
  cert : v0 = 0 ∨ (u0 ≤ v0 ∧ 0 < u1 ∧ 0 < v1 ∧ u1 ≤ v1 ∧ ∃ xp, v1 ≤ x ∧ v0 + v1 + x ≤ xp ∧
    (if ev then xp + v0 * b = u0 * a ∧ u0 * v1 = 1 + u1 * v0 else xp + u0 * a = v0 * b ∧ u1 * v0 = 1 + u0 * v1))
theorem Sim.start {a b : Nat} (h : b ≤ a) : Sim a b a b 0 1 0 0 0 1 false :=
  ⟨by simp, by simp, by simp, h, by decide, by decide, by decide, .inl rfl, fun _ => rfl, .inl rfl⟩
theorem Sim.step {a b x y u0 u1 u2 v0 v1 v2 q r : Nat} {ev : Bool} (h : Sim a b x y u0 u1 u2 v0 v1 v2 ev) (c1 : v2 ≤ y) (c2 : v1 + v2 ≤ x - y) (hx : x = q * y + r) (hr : r < y) :
    Sim a b y r u1 u2 (u1 + q * u2) v1 v2 (v1 + q * v2) (!ev) := by
  have hq : 0 < q := by
    rcases Nat.eq_zero_or_pos q with h0 | h0
    · rw [h0, Nat.zero_mul] at hx; have := h.yx; omega
    · exact h0
  have hq2 : v2 ≤ q * v2 := Nat.le_mul_of_pos_left _ hq
  have hq3 : u2 ≤ q * u2 := Nat.le_mul_of_pos_left _ hq
  have e1 := h.ha
  have e2 := h.hb
  have h2 := h.sgn
  have hv2 := h.v2
  have hone := h.one
  have huv : q * u2 ≤ q * v2 := Nat.mul_le_mul_left _ h.u2v2
  refine ⟨?_, ?_, ?_, Nat.le_of_lt hr, ?_, by omega, by omega, .inr ⟨h.u2v2, by omega⟩, fun h0 => by omega, ?_⟩
  · rw [e1, hx]; grind
  · rw [e2, hx]; grind
  · cases ev with
    | true =>
      obtain ⟨s1, s2, s3⟩ := h2
      refine ⟨s2, ?_, ?_⟩
      · have : (r : Int) + (u1 + q * u2 : Nat) * a = (v1 + q * v2 : Nat) * b := by
          have t1 : (x : Int) + u1 * a = v1 * b := by exact_mod_cast s1
          have t2 : (y : Int) + v2 * b = u2 * a := by exact_mod_cast s2
          have t3 : (x : Int) = q * y + r := by exact_mod_cast hx
          push_cast
          grind
        exact_mod_cast this
      · have : ((u2 : Int)) * (v1 + q * v2 : Nat) = 1 + (u1 + q * u2 : Nat) * v2 := by
          have t3 : (u2 : Int) * v1 = 1 + u1 * v2 := by exact_mod_cast s3
          push_cast
          grind
        exact_mod_cast this
    | false =>
      obtain ⟨s1, s2, s3⟩ := h2
      refine ⟨s2, ?_, ?_⟩
      · have : (r : Int) + (v1 + q * v2 : Nat) * b = (u1 + q * u2 : Nat) * a := by
          have t1 : (x : Int) + v1 * b = u1 * a := by exact_mod_cast s1
          have t2 : (y : Int) + u2 * a = v2 * b := by exact_mod_cast s2
          have t3 : (x : Int) = q * y + r := by exact_mod_cast hx
          push_cast
          grind
        exact_mod_cast this
      · have : ((u1 + q * u2 : Nat) : Int) * v2 = 1 + u2 * (v1 + q * v2 : Nat) := by
          have t3 : (u1 : Int) * v2 = 1 + u2 * v1 := by exact_mod_cast s3
          push_cast
          grind
        exact_mod_cast this
  · rcases h.u1v1 with h0 | h0
    · have hu2 := h.zero h0
      have hs : u1 ≤ q * v2 := by
        have : u1 ≤ 1 := by
          cases ev with
          | true => obtain ⟨-, -, s3⟩ := h2; rw [hu2] at s3; omega
          | false =>
            obtain ⟨-, -, s3⟩ := h2
            rw [hu2, Nat.zero_mul] at s3
            have := Nat.le_mul_of_pos_right u1 hv2
            omega
        omega
      rw [hu2, Nat.mul_zero]; omega
    · omega
  · rcases Nat.eq_zero_or_pos v1 with h0 | h0
    · exact .inl h0
    · right
      have h3 := h.u1v1.resolve_left (by omega)
      refine ⟨h3.1, h3.2, hv2, h.u2v2, x, c1, by omega, ?_⟩
      cases ev with
      | true => obtain ⟨s1, s2, s3⟩ := h2; exact ⟨s1, s3⟩
      | false => obtain ⟨s1, s2, s3⟩ := h2; exact ⟨s1, s3⟩
/-- Nothing runs over. -/
theorem Sim.bd {a b x y u0 u1 u2 v0 v1 v2 : Nat} {ev : Bool} (h : Sim a b x y u0 u1 u2 v0 v1 v2 ev) (hx : 0 < x) (hba : b ≤ a) : v2 ≤ a ∧ u2 ≤ a ∧ (0 < y → v1 + v2 ≤ a ∧ u1 + u2 ≤ a ∧ u1 ≤ a) := by
  have h1 := h.ha
  have h2 := h.hb
  have p1 : v2 ≤ v2 * x := Nat.le_mul_of_pos_right _ hx
  have p2 : u2 ≤ u2 * x := Nat.le_mul_of_pos_right _ hx
  refine ⟨by omega, by omega, fun hy => ?_⟩
  have p3 : v1 ≤ v1 * y := Nat.le_mul_of_pos_right _ hy
  have p4 : u1 ≤ u1 * y := Nat.le_mul_of_pos_right _ hy
  omega
/-- What the state tells of numbers with these leading parts. -/
theorem Sim.lead {A B a b K al be x y u0 u1 u2 v0 v1 v2 : Nat} {ev : Bool} (h : Sim a b x y u0 u1 u2 v0 v1 v2 ev) (hA : A = a * K + al) (hB : B = b * K + be) (h1 : al < K) (h2 : be < K) :
    Lead A B u0 u1 v0 v1 ev := by
  rcases h.cert with h0 | ⟨g1, g2, g3, g4, xp, c1, c2, g5⟩
  · exact .inl h0
  rcases Nat.eq_zero_or_pos v0 with h0 | h0
  · exact .inl h0
  refine .inr ⟨h0, g2, ?_⟩
  have hs := h.sgn
  cases ev with
  | true =>
    obtain ⟨s1, -, -⟩ := hs
    obtain ⟨e1, hd⟩ := g5
    obtain ⟨k1, k2, k3⟩ := collins_t hA hB h1 h2 e1 s1 c1 c2 g4 g3
    have m1 : u0 * A - v0 * B + v0 * B = u0 * A := Nat.sub_add_cancel k1
    have m2 : v1 * B - u1 * A + u1 * A = v1 * B := Nat.sub_add_cancel k2
    obtain ⟨n1, n2⟩ := cross m1 m2 hd
    exact ⟨_, _, .of n1 n2 k3 g2 (fun d d1 d2 => ⟨dvd_of_sum m1 (Nat.dvd_mul_left_of_dvd d2 _) (Nat.dvd_mul_left_of_dvd d1 _), dvd_of_sum m2 (Nat.dvd_mul_left_of_dvd d1 _) (Nat.dvd_mul_left_of_dvd d2 _)⟩), m1, m2⟩
  | false =>
    obtain ⟨s1, -, -⟩ := hs
    obtain ⟨e1, hd⟩ := g5
    obtain ⟨k1, k2, k3⟩ := collins_f hA hB h1 h2 e1 s1 c1 c2 g1 g4 g3
    have m1 : v0 * B - u0 * A + u0 * A = v0 * B := Nat.sub_add_cancel k1
    have m2 : u1 * A - v1 * B + v1 * B = u1 * A := Nat.sub_add_cancel k2
    obtain ⟨n1, n2⟩ := cross (A := B) (B := A) (u0 := v0) (u1 := v1) (v0 := u0) (v1 := u1) m1 m2 (by rw [Nat.mul_comm v0, hd, Nat.mul_comm u0])
    exact ⟨_, _, .of n2 n1 k3 g2 (fun d d1 d2 => ⟨dvd_of_sum m1 (Nat.dvd_mul_left_of_dvd d1 _) (Nat.dvd_mul_left_of_dvd d2 _), dvd_of_sum m2 (Nat.dvd_mul_left_of_dvd d2 _) (Nat.dvd_mul_left_of_dvd d1 _)⟩), m1, m2⟩
end Go.Proofs.YtbghmceglemppaaGreatDoor

/-
The greatest common divisor: four boxes, lehmerUpdate. No condition.
-/
namespace Go.Proofs.YtbghmceglemppaaGreatDoor
open Go.RowKit

/-- An integer's box and its words. -/
structure Bx (w : World) (B b : Nat) (neg : Bool) (v : Value) (zs : List Value) : Prop where
  le : B ≤ b
  row : w.heap[b]? = some (.cells #[.bool neg, v] 111 (0, 0))
  own : Own w B 181 v zs
def Sep (v u : Value) : Prop := 0 < sCap v → 0 < sCap u → sBlk v ≠ sBlk u
theorem Sep.symm {v u : Value} (h : Sep v u) : Sep u v := fun a b he => h b a he.symm
theorem IntRo.box {b : Nat} {zneg : Bool} {v vz : Value} {neg : Bool} {N B : Nat} {w w' : World} (h : IntRo b 0 #[.bool zneg, v] 111 vz neg N B w w') : IntR b vz neg N B w w' := by
  obtain ⟨r, h1, h2, h3⟩ := h.row
  exact ⟨⟨r, h1, h2, h3⟩, h.below, h.fr⟩
theorem Bx.keep {w w' : World} {B b c : Nat} {n neg zneg : Bool} {v vz : Value} {ys zs : List Value} {N : Nat} (hc : Bx w B c n v ys) (hb : Bx w B b zneg vz zs) (h : IntR b vz neg N B w w') (hne : c ≠ b) (hs : Sep v vz) : Bx w' B c n v ys := by
  refine ⟨hc.le, (h.fr c (get_lt hc.row) hne (fun hz => hb.own.neRow hc.row (by decide) hz)).trans hc.row, hc.own.same fun hv => h.fr _ (hc.own.lt hv).2 (fun he => hc.own.neRow hb.row (by decide) hv he.symm) (fun hz => hs hv hz)⟩
theorem Bx.made {w w' : World} {B b : Nat} {neg zneg : Bool} {vz : Value} {zs : List Value} {N : Nat} (hb : Bx w B b zneg vz zs) (h : IntR b vz neg N B w w') : ∃ r, Bx w' B b neg r (cellsW (wds N)) ∧ ∀ {c : Nat} {n : Bool} {v : Value} {ys : List Value}, Bx w B c n v ys → Sep v vz → Sep v r := by
  obtain ⟨r, h1, h2, h3⟩ := h.row
  refine ⟨r, ⟨hb.le, h1, h2⟩, fun hc hs hv hr he => ?_⟩
  rcases h3 hr with ⟨a, e⟩ | a
  · exact hs hv a (he.trans e)
  · have := (hc.own.lt hv).2; omega
theorem Bx.ro {w : World} {B b N : Nat} {neg : Bool} {v : Value} (h : Bx w B b neg v (cellsW (wds N))) : RO w v (wds N) := h.own.ro fun _ hd => wds_lt hd
/-- Four boxes that lie apart: the numbers X and Y, and two for what is between. -/
structure Quad (w : World) (B a b q r : Nat) (ma mb mq mr : Bool) (va vb vq vr : Value) (za zb zq zr : List Value) : Prop where
  ba : Bx w B a ma va za
  bb : Bx w B b mb vb zb
  bq : Bx w B q mq vq zq
  br : Bx w B r mr vr zr
  sab : Sep va vb
  saq : Sep va vq
  sar : Sep va vr
  sbq : Sep vb vq
  sbr : Sep vb vr
  sqr : Sep vq vr
  nab : a ≠ b
  naq : a ≠ q
  nar : a ≠ r
  nbq : b ≠ q
  nbr : b ≠ r
  nqr : q ≠ r
theorem Sep.al {v u : Value} (h : Sep v u) (hu : IsS u) (hl : 0 < sLen u) : Al v u := fun hv he => absurd he.symm (h hv (by have := hu.le; omega))
theorem Al.self (v : Value) : Al v v := fun _ _ => rfl
/-- The turns of the boxes: each of them may stand in any place. -/
theorem Quad.turn {w : World} {B a b q r : Nat} {ma mb mq mr : Bool} {va vb vq vr : Value} {za zb zq zr : List Value} (h : Quad w B a b q r ma mb mq mr va vb vq vr za zb zq zr) : Quad w B b q r a mb mq mr ma vb vq vr va zb zq zr za :=
  ⟨h.bb, h.bq, h.br, h.ba, h.sbq, h.sbr, h.sab.symm, h.sqr, h.saq.symm, h.sar.symm, h.nbq, h.nbr, h.nab.symm, h.nqr, h.naq.symm, h.nar.symm⟩
/-- The first of the four is written. -/
theorem Quad.put {w w' : World} {B a b q r : Nat} {ma mb mq mr : Bool} {va vb vq vr : Value} {za zb zq zr : List Value} {neg : Bool} {N : Nat} (h : Quad w B a b q r ma mb mq mr va vb vq vr za zb zq zr) (hw : IntR a va neg N B w w') :
    ∃ v, Quad w' B a b q r neg mb mq mr v vb vq vr (cellsW (wds N)) zb zq zr := by
  obtain ⟨v, h1, h2⟩ := h.ba.made hw
  exact ⟨v, h1, h.bb.keep h.ba hw h.nab.symm h.sab.symm, h.bq.keep h.ba hw h.naq.symm h.saq.symm, h.br.keep h.ba hw h.nar.symm h.sar.symm,
    (h2 h.bb h.sab.symm).symm, (h2 h.bq h.saq.symm).symm, (h2 h.br h.sar.symm).symm, h.sbq, h.sbr, h.sqr, h.nab, h.naq, h.nar, h.nbq, h.nbr, h.nqr⟩
theorem mul_lead {A' B' A B u0 u1 v0 v1 : Nat} {ev : Bool} (hlt : B' < A') (h : if ev then A' + v0 * B = u0 * A ∧ B' + u1 * A = v1 * B else A' + u0 * A = v0 * B ∧ B' + v1 * B = u1 * A) :
    addM (!ev) (A * u0) ev (B * v0) = A' ∧ (decide (0 < addM (!ev) (A * u0) ev (B * v0)) && addN (!ev) (A * u0) ev (B * v0)) = false ∧ addM (!ev) (B * v1) ev (A * u1) = B' ∧ (decide (0 < addM (!ev) (B * v1) ev (A * u1)) && addN (!ev) (B * v1) ev (A * u1)) = false := by
  cases ev with
  | true =>
    obtain ⟨h1, h2⟩ := h
    rw [Nat.mul_comm v0, Nat.mul_comm u0] at h1
    rw [Nat.mul_comm u1, Nat.mul_comm v1] at h2
    have l1 : B * v0 ≤ A * u0 := by omega
    have l2 : A * u1 ≤ B * v1 := by omega
    simp only [addM, addN, Bool.not_true, if_neg (show ¬ false = true by decide), if_pos l1, if_pos l2, Bool.and_false]
    exact ⟨by omega, trivial, by omega, trivial⟩
  | false =>
    obtain ⟨h1, h2⟩ := h
    rw [Nat.mul_comm v0, Nat.mul_comm u0] at h1
    rw [Nat.mul_comm u1, Nat.mul_comm v1] at h2
    have l1 : ¬ B * v0 ≤ A * u0 := by omega
    simp only [addM, addN, Bool.not_false, if_neg (show ¬ true = false by decide), if_neg l1, Bool.not_true, Bool.and_false]
    refine ⟨by omega, trivial, ?_⟩
    by_cases l2 : A * u1 ≤ B * v1
    · rw [if_pos l2, if_pos l2]
      have h3 : B * v1 - A * u1 = 0 := by omega
      rw [h3]
      exact ⟨by omega, by simp⟩
    · rw [if_neg l2, if_neg l2]
      exact ⟨by omega, by simp⟩
theorem Quad.mul1 {w : World} {B a b q r X y : Nat} {ma mb mq mr neg : Bool} {va vb vq vr : Value} {za zb zq zr : List Value} (h : Quad w B a b q r ma mb mq mr va vb vq vr za zb zq zr) (hz : za = cellsW (wds X)) (_hX0 : 0 < X) (hX : nw X ≤ 100000000) (hy : y < 18446744073709551616) :
    Calls Tryz.prog 221 #[.pointer (some ⟨a, 0, none⟩), .pointer (some ⟨a, 0, none⟩), .bool neg, .int .u64 y] w fun e w' => e = .returned (.tuple #[]) ∧ (∃ v, Quad w' B a b q r (ma != neg) mb mq mr v vb vq vr (cellsW (wds (X * y))) zb zq zr) ∧ Below B w w' := by
  subst hz
  refine (mulW_any a a ma ma neg va va _ X y B w h.ba.row h.ba.row h.ba.own h.ba.ro (Al.self _) hy hX h.ba.le).mono ?_
  rintro e w' ⟨h1, h2⟩
  exact ⟨h1, h.put h2, h2.below⟩
theorem Quad.mul4 {w : World} {B a b q r X y : Nat} {ma mb mq mr neg : Bool} {va vb vq vr : Value} {za zb zq zr : List Value} (h : Quad w B a b q r ma mb mq mr va vb vq vr za zb zq zr) (hz : zr = cellsW (wds X)) (hX0 : 0 < X) (hX : nw X ≤ 100000000) (hy : y < 18446744073709551616) :
    Calls Tryz.prog 221 #[.pointer (some ⟨a, 0, none⟩), .pointer (some ⟨r, 0, none⟩), .bool neg, .int .u64 y] w fun e w' => e = .returned (.tuple #[]) ∧ (∃ v, Quad w' B a b q r (mr != neg) mb mq mr v vb vq vr (cellsW (wds (X * y))) zb zq zr) ∧ Below B w w' := by
  subst hz
  refine (mulW_any a r ma mr neg va vr za X y B w h.ba.row h.br.row h.ba.own h.br.ro  (h.sar.al h.br.own.isS (by rw [h.br.own.len, cellsW_length, wds_length]; exact nw_pos hX0)) hy hX h.ba.le).mono ?_
  rintro e w' ⟨h1, h2⟩
  exact ⟨h1, h.put h2, h2.below⟩
theorem Quad.mul2 {w : World} {B a b q r X y : Nat} {ma mb mq mr neg : Bool} {va vb vq vr : Value} {za zb zq zr : List Value} (h : Quad w B a b q r ma mb mq mr va vb vq vr za zb zq zr) (hz : zb = cellsW (wds X)) (hX0 : 0 < X) (hX : nw X ≤ 100000000) (hy : y < 18446744073709551616) :
    Calls Tryz.prog 221 #[.pointer (some ⟨a, 0, none⟩), .pointer (some ⟨b, 0, none⟩), .bool neg, .int .u64 y] w fun e w' => e = .returned (.tuple #[]) ∧ (∃ v, Quad w' B a b q r (mb != neg) mb mq mr v vb vq vr (cellsW (wds (X * y))) zb zq zr) ∧ Below B w w' := by
  subst hz
  refine (mulW_any a b ma mb neg va vb za X y B w h.ba.row h.bb.row h.ba.own h.bb.ro  (h.sab.al h.bb.own.isS (by rw [h.bb.own.len, cellsW_length, wds_length]; exact nw_pos hX0)) hy hX h.ba.le).mono ?_
  rintro e w' ⟨h1, h2⟩
  exact ⟨h1, h.put h2, h2.below⟩
theorem Quad.add3 {w : World} {B a b q r X Y : Nat} {ma mb mq mr : Bool} {va vb vq vr : Value} {za zb zq zr : List Value} (h : Quad w B a b q r ma mb mq mr va vb vq vr za zb zq zr) (hz : za = cellsW (wds X)) (hz2 : zq = cellsW (wds Y)) (hY0 : 0 < Y) (hX : nw X ≤ 1000000) (hY : nw Y ≤ 1000000) :
    Calls Tryz.prog 139 #[.pointer (some ⟨a, 0, none⟩), .pointer (some ⟨a, 0, none⟩), .pointer (some ⟨q, 0, none⟩)] w fun e w' => e = .returned (.pointer (some ⟨a, 0, none⟩)) ∧ (∃ v, Quad w' B a b q r (decide (0 < addM ma X mq Y) && addN ma X mq Y) mb mq mr v vb vq vr (cellsW (wds (addM ma X mq Y))) zb zq zr) ∧ Below B w w' := by
  subst hz hz2
  have hal : Al va vq := h.saq.al h.bq.own.isS (by rw [h.bq.own.len, cellsW_length, wds_length]; exact nw_pos hY0)
  refine (intAdd_any a 0 a 0 q 0 ma mq va va vq (.bool ma) _ X Y B _ _ _ _ _ _ w h.ba.row h.ba.row h.bq.row (by decide) rfl rfl rfl rfl rfl rfl h.ba.own h.ba.ro h.bq.ro (Al.self _) hal hX hY h.ba.le).mono ?_
  rintro e w' ⟨h1, h2⟩
  exact ⟨h1, h.put h2.box, h2.below⟩
theorem nw_mul_word {X y : Nat} (hy : y < 18446744073709551616) : nw (X * y) ≤ nw X + 1 := nw_le (by rw [Nat.pow_succ]; exact Nat.mul_lt_mul'' (lt_nw X) hy)
set_option maxRecDepth 100000 in
set_option maxHeartbeats 1600000 in
theorem lehmerUpdate_any (a b q r B X Y X' Y' u0 u1 v0 v1 : Nat) (ev mq mr : Bool) (va vb vq vr : Value) (zq zr : List Value) (w : World) (h : Quad w B a b q r false false mq mr va vb vq vr (cellsW (wds X)) (cellsW (wds Y)) zq zr)
    (hX0 : 0 < X) (hY0 : 0 < Y) (hX : nw X ≤ 1000) (hY : nw Y ≤ 1000) (h0 : u0 < 18446744073709551616) (h1 : u1 < 18446744073709551616) (h2 : v0 < 18446744073709551616) (h3 : v1 < 18446744073709551616) (hv0 : 0 < v0) (hu1 : 0 < u1) (hlt : Y' < X')
    (hl : if ev then X' + v0 * Y = u0 * X ∧ Y' + u1 * X = v1 * Y else X' + u0 * X = v0 * Y ∧ Y' + v1 * Y = u1 * X) :
    Calls Tryz.prog 219 #[.pointer (some ⟨a, 0, none⟩), .pointer (some ⟨b, 0, none⟩), .pointer (some ⟨q, 0, none⟩), .pointer (some ⟨r, 0, none⟩), .int .u64 u0, .int .u64 u1, .int .u64 v0, .int .u64 v1, .bool ev] w
      fun e w' => e = .returned (.tuple #[]) ∧ (∃ (mq' mr' : Bool) (va' vb' vq' vr' : Value) (zq' zr' : List Value), Quad w' B a b q r false false mq' mr' va' vb' vq' vr' (cellsW (wds X')) (cellsW (wds Y')) zq' zr') ∧ Below B w w' := by
  obtain ⟨e1, e2, e3, e4⟩ := mul_lead hlt hl
  have n1 : nw (Y * v0) ≤ 1001 := Nat.le_trans (nw_mul_word h2) (by omega)
  have n2 : nw (X * u1) ≤ 1001 := Nat.le_trans (nw_mul_word h1) (by omega)
  have n3 : nw (X * u0) ≤ 1001 := Nat.le_trans (nw_mul_word h0) (by omega)
  have n4 : nw (Y * v1) ≤ 1001 := Nat.le_trans (nw_mul_word h3) (by omega)
  have p1 : 0 < Y * v0 := Nat.mul_pos hY0 hv0
  have p2 : 0 < X * u1 := Nat.mul_pos hX0 hu1
  have H1 : Hid (Calls Tryz.prog 221 #[.pointer (some ⟨q, 0, none⟩), .pointer (some ⟨b, 0, none⟩), .bool ev, .int .u64 v0] w fun e w1 => e = .returned (.tuple #[]) ∧ (∃ v, Quad w1 B a b q r false false ev mr va vb v vr (cellsW (wds X)) (cellsW (wds Y)) (cellsW (wds (Y * v0))) zr) ∧ Below B w w1) := Lib.hid (by
    refine (h.turn.turn.mul4 rfl hY0 (by omega) h2).mono ?_
    rintro e w1 ⟨g1, ⟨v, g2⟩, g3⟩
    rw [Bool.false_bne] at g2
    exact ⟨g1, ⟨v, g2.turn.turn⟩, g3⟩)
  have H2 : Hid (∀ w1 v, Quad w1 B a b q r false false ev mr va vb v vr (cellsW (wds X)) (cellsW (wds Y)) (cellsW (wds (Y * v0))) zr → Calls Tryz.prog 221 #[.pointer (some ⟨r, 0, none⟩), .pointer (some ⟨a, 0, none⟩), .bool ev, .int .u64 u1] w1 fun e w2 => e = .returned (.tuple #[]) ∧ (∃ x, Quad w2 B a b q r false false ev ev va vb v x (cellsW (wds X)) (cellsW (wds Y)) (cellsW (wds (Y * v0))) (cellsW (wds (X * u1)))) ∧ Below B w1 w2) := Lib.hid (fun w1 v g => by
    refine (g.turn.turn.turn.mul2 rfl hX0 (by omega) h1).mono ?_
    rintro e w2 ⟨g1, ⟨x, g2⟩, g3⟩
    rw [Bool.false_bne] at g2
    exact ⟨g1, ⟨x, g2.turn⟩, g3⟩)
  have H3 : Hid (∀ w2 v x, Quad w2 B a b q r false false ev ev va vb v x (cellsW (wds X)) (cellsW (wds Y)) (cellsW (wds (Y * v0))) (cellsW (wds (X * u1))) → Calls Tryz.prog 221 #[.pointer (some ⟨a, 0, none⟩), .pointer (some ⟨a, 0, none⟩), .bool (!ev), .int .u64 u0] w2 fun e w3 => e = .returned (.tuple #[]) ∧ (∃ y, Quad w3 B a b q r (!ev) false ev ev y vb v x (cellsW (wds (X * u0))) (cellsW (wds Y)) (cellsW (wds (Y * v0))) (cellsW (wds (X * u1)))) ∧ Below B w2 w3) := Lib.hid (fun w2 v x g => by
    refine (g.mul1 rfl hX0 (by omega) h0).mono ?_
    rintro e w3 ⟨g1, ⟨y, g2⟩, g3⟩
    rw [Bool.false_bne] at g2
    exact ⟨g1, ⟨y, g2⟩, g3⟩)
  have H4 : Hid (∀ w3 v x y, Quad w3 B a b q r (!ev) false ev ev y vb v x (cellsW (wds (X * u0))) (cellsW (wds Y)) (cellsW (wds (Y * v0))) (cellsW (wds (X * u1))) → Calls Tryz.prog 221 #[.pointer (some ⟨b, 0, none⟩), .pointer (some ⟨b, 0, none⟩), .bool (!ev), .int .u64 v1] w3 fun e w4 => e = .returned (.tuple #[]) ∧ (∃ z, Quad w4 B a b q r (!ev) (!ev) ev ev y z v x (cellsW (wds (X * u0))) (cellsW (wds (Y * v1))) (cellsW (wds (Y * v0))) (cellsW (wds (X * u1)))) ∧ Below B w3 w4) := Lib.hid (fun w3 v x y g => by
    refine (g.turn.mul1 rfl hY0 (by omega) h3).mono ?_
    rintro e w4 ⟨g1, ⟨z, g2⟩, g3⟩
    rw [Bool.false_bne] at g2
    exact ⟨g1, ⟨z, g2.turn.turn.turn⟩, g3⟩)
  have H5 : Hid (∀ w4 v x y z, Quad w4 B a b q r (!ev) (!ev) ev ev y z v x (cellsW (wds (X * u0))) (cellsW (wds (Y * v1))) (cellsW (wds (Y * v0))) (cellsW (wds (X * u1))) → Calls Tryz.prog 139 #[.pointer (some ⟨a, 0, none⟩), .pointer (some ⟨a, 0, none⟩), .pointer (some ⟨q, 0, none⟩)] w4 fun e w5 => e = .returned (.pointer (some ⟨a, 0, none⟩)) ∧ (∃ s, Quad w5 B a b q r false (!ev) ev ev s z v x (cellsW (wds X')) (cellsW (wds (Y * v1))) (cellsW (wds (Y * v0))) (cellsW (wds (X * u1)))) ∧ Below B w4 w5) := Lib.hid (fun w4 v x y z g => by
    refine (g.add3 rfl rfl p1 (by omega) (by omega)).mono ?_
    rintro e w5 ⟨g1, ⟨s, g2⟩, g3⟩
    rw [e2, e1] at g2
    exact ⟨g1, ⟨s, g2⟩, g3⟩)
  have H6 : Hid (∀ w5 v x z s, Quad w5 B a b q r false (!ev) ev ev s z v x (cellsW (wds X')) (cellsW (wds (Y * v1))) (cellsW (wds (Y * v0))) (cellsW (wds (X * u1))) → Calls Tryz.prog 139 #[.pointer (some ⟨b, 0, none⟩), .pointer (some ⟨b, 0, none⟩), .pointer (some ⟨r, 0, none⟩)] w5 fun e w6 => e = .returned (.pointer (some ⟨b, 0, none⟩)) ∧ (∃ t, Quad w6 B a b q r false false ev ev s t v x (cellsW (wds X')) (cellsW (wds Y')) (cellsW (wds (Y * v0))) (cellsW (wds (X * u1)))) ∧ Below B w5 w6) := Lib.hid (fun w5 v x z s g => by
    refine (g.turn.add3 rfl rfl p2 (by omega) (by omega)).mono ?_
    rintro e w6 ⟨g1, ⟨t, g2⟩, g3⟩
    rw [e4, e3] at g2
    exact ⟨g1, ⟨t, g2.turn.turn.turn⟩, g3⟩)
  clear h hX0 hY0 hX hY h0 h1 h2 h3 hv0 hu1 hlt hl e1 e2 e3 e4 n1 n2 n3 n4 p1 p2
  go_enter Tryz.func219, Tryz.ntmps219
  go_wp2_with fail
  refine H1.out.mono ?_
  rintro _ w1 ⟨rfl, ⟨v, g1⟩, k1⟩
  go_wp2_with fail
  refine (H2.out w1 v g1).mono ?_
  rintro _ w2 ⟨rfl, ⟨x, g2⟩, k2⟩
  go_wp2_with fail
  refine (H3.out w2 v x g2).mono ?_
  rintro _ w3 ⟨rfl, ⟨y, g3⟩, k3⟩
  go_wp2_with fail
  refine (H4.out w3 v x y g3).mono ?_
  rintro _ w4 ⟨rfl, ⟨z, g4⟩, k4⟩
  go_wp2_with fail
  refine (H5.out w4 v x y z g4).mono ?_
  rintro _ w5 ⟨rfl, ⟨s, g5⟩, k5⟩
  go_wp2_with fail
  refine (H6.out w5 v x z s g5).mono ?_
  rintro _ w6 ⟨rfl, ⟨t, g6⟩, k6⟩
  go_wp2
  go_end0
  exact ⟨rfl, ⟨_, _, _, _, _, _, _, _, g6⟩, ((((k1.trans k2).trans k3).trans k4).trans k5).trans k6⟩
end Go.Proofs.YtbghmceglemppaaGreatDoor

/-
Division in place with a stack handed in: what it leaves where nobody looks at the remainder. No condition.
-/
namespace Go.Proofs.YtbghmceglemppaaGreatDoor
open Go.RowKit

theorem StO.keep {w w' : World} {B s L : Nat} {o : Option (Nat × Value)} (h : StO w B s L o) (hk : ∀ k, SBk s o k → w'.heap[k]? = w.heap[k]?) : StO w' B s L o := by
  match o, h with
  | none, ⟨h0, h1, h2⟩ => exact ⟨h0, (hk s (.inl rfl)).trans h1, h2⟩
  | some qv, ⟨h0, h1, h2, h3, xs, h4, h5⟩ => exact ⟨h0, h1, (hk s (.inl rfl)).trans h2, (hk qv.1 (.inr ⟨qv, rfl, .inl rfl⟩)).trans h3, xs, h4.same fun hc => hk _ (.inr ⟨qv, rfl, .inr ⟨hc, rfl⟩⟩), h5⟩
/-- What a division leaves: the quotient's words, the stack. -/
structure DvS (va q : Value) (N B s : Nat) (o o' : Option (Nat × Value)) (w w' : World) : Prop where
  own : Own w' B 181 q (cellsW (wds N))
  at' : 0 < sCap q → (0 < sCap va ∧ sBlk q = sBlk va) ∨ w.heap.size ≤ sBlk q
  st : StO w' B s 0 o'
  sb : ∀ k, SBk s o' k → SBk s o k ∨ w.heap.size ≤ k
  nsq : 0 < sCap q → ¬ SBk s o' (sBlk q)
  below : Below B w w'
  fr : ∀ k, k < w.heap.size → ¬ SBk s o k → (0 < sCap va → k ≠ sBlk va) → w'.heap[k]? = w.heap[k]?
theorem nil_cap : ¬ 0 < sCap (.slice none 0 0) := by decide
set_option maxHeartbeats 800000 in
theorem div_to (va x rv : Value) (zs : List Value) (N D B s : Nat) (o : Option (Nat × Value)) (w : World) (hst : StO w B s 0 o) (oa : Own w B 181 va zs) (ha : 0 < sCap va → ¬ SBk s o (sBlk va)) (hx : RO w x (wds N)) (ax : Al va x) (hxS : ¬ SBk s o (sBlk x)) (hr : RO w rv (wds D)) (hrS : ¬ SBk s o (sBlk rv))
    (hD : 0 < D) (hn40 : nw D < 40) (hlu : nw N ≤ 90000) (hB : B ≤ w.heap.size) (hT : DivW w) (hg : 4 < B) :
    Calls Tryz.prog 182 #[va, .pointer (some ⟨s, 0, none⟩), .slice none 0 0, x, rv] w fun e w' => ∃ q r, e = .returned (.tuple #[q, r]) ∧ ∃ o', DvS va q (N / D) B s o o' w w' ∧ Own w' B 181 r (cellsW (wds (N % D))) ∧ (0 < sCap r → w.heap.size ≤ sBlk r) ∧ (0 < sCap q → 0 < sCap r → sBlk q ≠ sBlk r) ∧ (0 < sCap r → ¬ SBk s o' (sBlk r)) := by
  refine (div_stk va (.slice none 0 0) x rv zs [] N D B s 0 o w hst (by decide) ha (fun h => absurd h nil_cap) hxS hrS oa (Own.nil _ _ _) hx hr ax hD hn40 hlu (fun _ h => absurd h nil_cap) (fun h => absurd h nil_cap) (fun h => absurd h nil_cap) hB hT hg).mono ?_
  rintro e w' ⟨q, r, rfl, h | ⟨k, o', h⟩⟩
  · have hat : 0 < sCap r → w.heap.size ≤ sBlk r := fun hc => by
      rcases h.atr hc with ⟨a, _⟩ | a
      · exact absurd a nil_cap
      · exact a
    refine ⟨q, r, rfl, o, ⟨h.oq, h.atq, hst.keep fun k hk => h.fr k (hst.base hk).2 (fun hc he => ha hc (he ▸ hk)) (fun hc => absurd hc nil_cap), fun k hk => .inl hk, fun hc hk => ?_, h.below, fun k hk _ hv => h.fr k hk hv (fun hc => absurd hc nil_cap)⟩, h.or_, hat, h.ne, fun hc hk => ?_⟩
    · rcases h.atq hc with ⟨a, b⟩ | a
      · exact ha a (b ▸ hk)
      · have := (hst.base hk).2; omega
    · have h1 := hat hc
      have := (hst.base hk).2; omega
  · refine ⟨q, r, rfl, o', ⟨h.oq, h.atq, h.st, h.sb, h.nsq, undrewN h.below, fun k hk hn hv => h.fr k hk hn hv (fun hc => absurd hc nil_cap)⟩, h.or_, fun hc => ?_, h.ne, h.nsr⟩
    rcases h.atr hc with ⟨a, _⟩ | a
    · exact absurd a nil_cap
    · exact a
end Go.Proofs.YtbghmceglemppaaGreatDoor

/-
What lies while Rat.norm divides: the fraction's box, the divisor's box, the stack. No condition.
-/
namespace Go.Proofs.YtbghmceglemppaaGreatDoor
open Go.RowKit

theorem StO.nrow {w : World} {B s L k T : Nat} {o : Option (Nat × Value)} {cs : Array Value} (h : StO w B s L o) (hr : w.heap[k]? = some (.cells cs T (0, 0))) (h1 : T ≠ 226) (h2 : T ≠ 257) (h3 : T ≠ 181) : ¬ SBk s o k := by
  intro hk
  match o, h with
  | none, ⟨_, g1, _⟩ =>
    rcases hk with rfl | ⟨_, h, _⟩
    · rw [hr] at g1; injection g1 with g1; injection g1 with _ g1; exact h1 g1
    · cases h
  | some qv, ⟨_, _, g2, g3, xs, g4, _⟩ =>
    rcases hk with rfl | ⟨_, h, h6 | ⟨h6, h7⟩⟩
    · rw [hr] at g2; injection g2 with g2; injection g2 with _ g2; exact h1 g2
    · cases h; rw [h6] at hr; rw [hr] at g3; injection g3 with g3; injection g3 with _ g3; exact h2 g3
    · cases h; exact g4.neRow hr h3 h6 h7
/-- All but the fraction's box and its old words lies as it was. -/
def NmF (g : Nat) (va vb : Value) (w w' : World) : Prop := ∀ k, k < w.heap.size → k ≠ g → (0 < sCap va → k ≠ sBlk va) → (0 < sCap vb → k ≠ sBlk vb) → w'.heap[k]? = w.heap[k]?
structure NmW (w0 : World) (va0 vb0 : Value) (g f s B N D G : Nat) (o : Option (Nat × Value)) (n m : Bool) (va vb rv : Value) (w : World) : Prop where
  row : w.heap[g]? = some (.cells #[.bool n, va, .bool m, vb] 113 (0, 0))
  rf : w.heap[f]? = some (.cells #[.bool false, rv] 111 (0, 0))
  oa : Own w B 181 va (cellsW (wds N))
  ob : Own w B 181 vb (cellsW (wds D))
  og : Own w B 181 rv (cellsW (wds G))
  ab : 0 < sCap va → 0 < sCap vb → sBlk va ≠ sBlk vb
  ag : 0 < sCap va → 0 < sCap rv → sBlk va ≠ sBlk rv
  bg : 0 < sCap vb → 0 < sCap rv → sBlk vb ≠ sBlk rv
  st : StO w B s 0 o
  na : 0 < sCap va → ¬ SBk s o (sBlk va)
  nb : 0 < sCap vb → ¬ SBk s o (sBlk vb)
  ng : 0 < sCap rv → ¬ SBk s o (sBlk rv)
  hg : B ≤ g
  tw : DivW w
  dg : 4 < B
  bl : Below B w0 w
  fr : NmF g va0 vb0 w0 w
  sw : ∀ k, SBk s o k → w0.heap.size ≤ k
  wa : 0 < sCap va → (0 < sCap va0 ∧ sBlk va = sBlk va0) ∨ w0.heap.size ≤ sBlk va
  wb : 0 < sCap vb → (0 < sCap vb0 ∧ sBlk vb = sBlk vb0) ∨ w0.heap.size ≤ sBlk vb
section
variable {w0 : World} {va0 vb0 : Value} {g f s B N D G : Nat} {o : Option (Nat × Value)} {n m : Bool} {va vb rv : Value} {w : World}
theorem NmW.below {w' : World} (h : NmW w0 va0 vb0 g f s B N D G o n m va vb rv w) (hb : Below w.heap.size w w') : NmW w0 va0 vb0 g f s B N D G o n m va vb rv w' :=
  ⟨keep_row hb h.row, keep_row hb h.rf, h.oa.below hb, h.ob.below hb, h.og.below hb, h.ab, h.ag, h.bg, h.st.below hb, h.na, h.nb, h.ng, h.hg, h.tw.below hb, h.dg, h.bl.trans (hb.mono (Nat.le_trans h.hg (Nat.le_of_lt (get_lt h.row)))), fun k hk a b c => (hb.block k (Nat.lt_of_lt_of_le hk h.bl.size)).trans (h.fr k hk a b c), h.sw, h.wa, h.wb⟩
theorem NmW.drewN (h : NmW w0 va0 vb0 g f s B N D G o n m va vb rv w) (k : Nat) : NmW w0 va0 vb0 g f s B N D G o n m va vb rv (w.drewN k) := h.below (undrewN' (Below.refl _ _))
theorem NmW.neRat {T : Nat} (h : NmW w0 va0 vb0 g f s B N D G o n m va vb rv w) {k : Nat} {cs : Array Value} (hr : w.heap[k]? = some (.cells cs T (0, 0))) (hT : T ≠ 113) : k ≠ g := fun he => by
  have := h.row
  rw [← he, hr] at this
  injection this with h1; injection h1 with _ h2; exact hT h2
/-- Where the fraction's box is written, all else lies as it was. -/
theorem NmW.put {i : Nat} {u : Value} {n' m' : Bool} (h : NmW w0 va0 vb0 g f s B N D G o n m va vb rv w) (he : (#[.bool n, va, .bool m, vb] : Array Value).setIfInBounds i u = #[.bool n', va, .bool m', vb]) : NmW w0 va0 vb0 g f s B N D G o n' m' va vb rv (w.setCell ⟨g, i, none⟩ u) := by
  have h1 := rowset (i := i) u h.row
  rw [he] at h1
  have hns : ¬ SBk s o g := h.st.nrow h.row (by decide) (by decide) (by decide)
  refine ⟨h1, ?_, h.oa.away h.row (by decide) i u, h.ob.away h.row (by decide) i u, h.og.away h.row (by decide) i u, h.ab, h.ag, h.bg, h.st.keep fun k hk => ?_, h.na, h.nb, h.ng, h.hg, ?_, h.dg, bset h.bl h.hg, fun k hk a b c => (heap_setCell_other _ _ _ _ (by simpa using a)).trans (h.fr k hk a b c), h.sw, h.wa, h.wb⟩
  · rw [heap_setCell_other _ _ _ _ (by simpa using h.neRat h.rf (by decide))]; exact h.rf
  · exact heap_setCell_other _ _ _ _ (by simp only; intro he2; exact hns (he2 ▸ hk))
  · exact h.tw.belowB (bset (Below.refl B w) h.hg) h.dg
theorem NmW.divA {q : Value} {o' : Option (Nat × Value)} {w' : World} (h : NmW w0 va0 vb0 g f s B N D G o n m va vb rv w) (d : DvS va q (N / G) B s o o' w w') :
    w'.heap[g]? = some (.cells #[.bool n, va, .bool m, vb] 113 (0, 0)) ∧ NmW w0 va0 vb0 g f s B (N / G) D G o' n m q vb rv (w'.setCell ⟨g, 1, none⟩ q) := by
  have hz := d.below.size
  have hns : ¬ SBk s o g := h.st.nrow h.row (by decide) (by decide) (by decide)
  have hnf : ¬ SBk s o f := h.st.nrow h.rf (by decide) (by decide) (by decide)
  have r1 : w'.heap[g]? = some (.cells #[.bool n, va, .bool m, vb] 113 (0, 0)) := (d.fr g (get_lt h.row) hns (fun hc => h.oa.neRow h.row (by decide) hc)).trans h.row
  have r2 : w'.heap[f]? = some (.cells #[.bool false, rv] 111 (0, 0)) := (d.fr f (get_lt h.rf) hnf (fun hc => h.oa.neRow h.rf (by decide) hc)).trans h.rf
  have ob' : Own w' B 181 vb (cellsW (wds D)) := h.ob.same fun hc => d.fr _ (h.ob.lt hc).2 (h.nb hc) (fun ha => (h.ab ha hc).symm)
  have og' : Own w' B 181 rv (cellsW (wds G)) := h.og.same fun hc => d.fr _ (h.og.lt hc).2 (h.ng hc) (fun ha => (h.ag ha hc).symm)
  have hq : ∀ {v : Value} {xs : List Value}, Own w B 181 v xs → (0 < sCap va → 0 < sCap v → sBlk va ≠ sBlk v) → 0 < sCap q → 0 < sCap v → sBlk q ≠ sBlk v := fun {v xs} ho hv hc hcv he => by
    rcases d.at' hc with ⟨a, b⟩ | a
    · exact hv a hcv (b.symm.trans he)
    · have := (ho.lt hcv).2; omega
  have hs' : ∀ {v : Value} {xs : List Value}, Own w B 181 v xs → (0 < sCap v → ¬ SBk s o (sBlk v)) → 0 < sCap v → ¬ SBk s o' (sBlk v) := fun {v xs} ho hv hc hk => by
    rcases d.sb _ hk with a | a
    · exact hv hc a
    · have := (ho.lt hc).2; omega
  have hbz := h.bl.size
  have hsw : ∀ k, SBk s o' k → w0.heap.size ≤ k := fun k hk => by
    rcases d.sb k hk with a | a
    · exact h.sw k a
    · omega
  have hwq : 0 < sCap q → (0 < sCap va0 ∧ sBlk q = sBlk va0) ∨ w0.heap.size ≤ sBlk q := fun hc => by
    rcases d.at' hc with ⟨a, b⟩ | a
    · rcases h.wa a with ⟨x, y⟩ | x
      · exact .inl ⟨x, b.trans y⟩
      · exact .inr (by omega)
    · exact .inr (by omega)
  have hfr : ∀ k, k < w0.heap.size → k ≠ g → (0 < sCap va0 → k ≠ sBlk va0) → (0 < sCap vb0 → k ≠ sBlk vb0) → w'.heap[k]? = w0.heap[k]? := fun k hk a b c => by
    refine (d.fr k (by omega) (fun hs => by have := h.sw k hs; omega) (fun hc he => ?_)).trans (h.fr k hk a b c)
    rcases h.wa hc with ⟨x, y⟩ | x
    · exact b x (he.trans y)
    · omega
  have h1 := rowset (i := 1) q r1
  have hns' : ¬ SBk s o' g := d.st.nrow r1 (by decide) (by decide) (by decide)
  refine ⟨r1, h1, ?_, d.own.away r1 (by decide) 1 q, ob'.away r1 (by decide) 1 q, og'.away r1 (by decide) 1 q, hq h.ob h.ab, hq h.og h.ag, h.bg, d.st.keep fun k hk => ?_, d.nsq, hs' h.ob h.nb, hs' h.og h.ng, h.hg, ?_, h.dg, bset (h.bl.trans d.below) h.hg, fun k hk a b c => ?_, hsw, hwq, h.wb⟩
  · rw [heap_setCell_other _ _ _ _ (by simpa using h.neRat h.rf (by decide))]; exact r2
  · exact heap_setCell_other _ _ _ _ (by simp only; intro he2; exact hns' (he2 ▸ hk))
  · exact (h.tw.belowB d.below h.dg).belowB (bset (Below.refl B w') h.hg) h.dg
  · exact (heap_setCell_other _ _ _ _ (by simpa using a)).trans (hfr k hk a b c)
theorem NmW.divB {q : Value} {o' : Option (Nat × Value)} {w' : World} (h : NmW w0 va0 vb0 g f s B N D G o n m va vb rv w) (d : DvS vb q (D / G) B s o o' w w') :
    w'.heap[g]? = some (.cells #[.bool n, va, .bool m, vb] 113 (0, 0)) ∧ NmW w0 va0 vb0 g f s B N (D / G) G o' n m va q rv (w'.setCell ⟨g, 3, none⟩ q) := by
  have hz := d.below.size
  have hns : ¬ SBk s o g := h.st.nrow h.row (by decide) (by decide) (by decide)
  have hnf : ¬ SBk s o f := h.st.nrow h.rf (by decide) (by decide) (by decide)
  have r1 : w'.heap[g]? = some (.cells #[.bool n, va, .bool m, vb] 113 (0, 0)) := (d.fr g (get_lt h.row) hns (fun hc => h.ob.neRow h.row (by decide) hc)).trans h.row
  have r2 : w'.heap[f]? = some (.cells #[.bool false, rv] 111 (0, 0)) := (d.fr f (get_lt h.rf) hnf (fun hc => h.ob.neRow h.rf (by decide) hc)).trans h.rf
  have oa' : Own w' B 181 va (cellsW (wds N)) := h.oa.same fun hc => d.fr _ (h.oa.lt hc).2 (h.na hc) (fun hb => h.ab hc hb)
  have og' : Own w' B 181 rv (cellsW (wds G)) := h.og.same fun hc => d.fr _ (h.og.lt hc).2 (h.ng hc) (fun hb => (h.bg hb hc).symm)
  have hq : ∀ {v : Value} {xs : List Value}, Own w B 181 v xs → (0 < sCap vb → 0 < sCap v → sBlk vb ≠ sBlk v) → 0 < sCap q → 0 < sCap v → sBlk q ≠ sBlk v := fun {v xs} ho hv hc hcv he => by
    rcases d.at' hc with ⟨a, b⟩ | a
    · exact hv a hcv (b.symm.trans he)
    · have := (ho.lt hcv).2; omega
  have hs' : ∀ {v : Value} {xs : List Value}, Own w B 181 v xs → (0 < sCap v → ¬ SBk s o (sBlk v)) → 0 < sCap v → ¬ SBk s o' (sBlk v) := fun {v xs} ho hv hc hk => by
    rcases d.sb _ hk with a | a
    · exact hv hc a
    · have := (ho.lt hc).2; omega
  have hbz := h.bl.size
  have hsw : ∀ k, SBk s o' k → w0.heap.size ≤ k := fun k hk => by
    rcases d.sb k hk with a | a
    · exact h.sw k a
    · omega
  have hwq : 0 < sCap q → (0 < sCap vb0 ∧ sBlk q = sBlk vb0) ∨ w0.heap.size ≤ sBlk q := fun hc => by
    rcases d.at' hc with ⟨a, b⟩ | a
    · rcases h.wb a with ⟨x, y⟩ | x
      · exact .inl ⟨x, b.trans y⟩
      · exact .inr (by omega)
    · exact .inr (by omega)
  have hfr : ∀ k, k < w0.heap.size → k ≠ g → (0 < sCap va0 → k ≠ sBlk va0) → (0 < sCap vb0 → k ≠ sBlk vb0) → w'.heap[k]? = w0.heap[k]? := fun k hk a b c => by
    refine (d.fr k (by omega) (fun hs => by have := h.sw k hs; omega) (fun hc he => ?_)).trans (h.fr k hk a b c)
    rcases h.wb hc with ⟨x, y⟩ | x
    · exact c x (he.trans y)
    · omega
  have h1 := rowset (i := 3) q r1
  have hns' : ¬ SBk s o' g := d.st.nrow r1 (by decide) (by decide) (by decide)
  refine ⟨r1, h1, ?_, oa'.away r1 (by decide) 3 q, d.own.away r1 (by decide) 3 q, og'.away r1 (by decide) 3 q, fun ha hc => (hq h.oa (fun x y => (h.ab y x).symm) hc ha).symm, h.ag, hq h.og h.bg, d.st.keep fun k hk => ?_, hs' h.oa h.na, d.nsq, hs' h.og h.ng, h.hg, ?_, h.dg, bset (h.bl.trans d.below) h.hg, fun k hk a b c => ?_, hsw, h.wa, hwq⟩
  · rw [heap_setCell_other _ _ _ _ (by simpa using h.neRat h.rf (by decide))]; exact r2
  · exact heap_setCell_other _ _ _ _ (by simp only; intro he2; exact hns' (he2 ▸ hk))
  · exact (h.tw.belowB d.below h.dg).belowB (bset (Below.refl B w') h.hg) h.dg
  · exact (heap_setCell_other _ _ _ _ (by simpa using a)).trans (hfr k hk a b c)
theorem NmW.callA (h : NmW w0 va0 vb0 g f s B N D G o n m va vb rv w) (hG : 0 < G) (hN : 0 < N) (hg40 : nw G < 40) (hn : nw N ≤ 90000) : Calls Tryz.prog 182 #[va, .pointer (some ⟨s, 0, none⟩), .slice none 0 0, va, rv] w fun e w' => ∃ q r, e = .returned (.tuple #[q, r]) ∧ IsS q ∧ IsS r ∧ ∃ o', DvS va q (N / G) B s o o' w w' := by
  have hca : 0 < sCap va := by have h1 := h.oa.len; have h2 := h.oa.isS.le; rw [cellsW_length, wds_length] at h1; have := nw_pos hN; omega
  have hcg : 0 < sCap rv := by have h1 := h.og.len; have h2 := h.og.isS.le; rw [cellsW_length, wds_length] at h1; have := nw_pos hG; omega
  refine (div_to va va rv _ N G B s o w h.st h.oa h.na (h.oa.ro (fun d hd => wds_lt hd)) (Al.self _) (h.na hca) (h.og.ro (fun d hd => wds_lt hd)) (h.ng hcg) hG hg40 hn (Nat.le_trans h.hg (Nat.le_of_lt (get_lt h.row))) h.tw h.dg).mono ?_
  rintro e w' ⟨q, r, h1, o', h2, h3, -⟩
  exact ⟨q, r, h1, h2.own.isS, h3.isS, o', h2⟩
theorem NmW.callB (h : NmW w0 va0 vb0 g f s B N D G o n m va vb rv w) (hG : 0 < G) (hD : 0 < D) (hg40 : nw G < 40) (hn : nw D ≤ 90000) : Calls Tryz.prog 182 #[vb, .pointer (some ⟨s, 0, none⟩), .slice none 0 0, vb, rv] w fun e w' => ∃ q r, e = .returned (.tuple #[q, r]) ∧ IsS q ∧ IsS r ∧ ∃ o', DvS vb q (D / G) B s o o' w w' := by
  have hca : 0 < sCap vb := by have h1 := h.ob.len; have h2 := h.ob.isS.le; rw [cellsW_length, wds_length] at h1; have := nw_pos hD; omega
  have hcg : 0 < sCap rv := by have h1 := h.og.len; have h2 := h.og.isS.le; rw [cellsW_length, wds_length] at h1; have := nw_pos hG; omega
  refine (div_to vb vb rv _ D G B s o w h.st h.ob h.nb (h.ob.ro (fun d hd => wds_lt hd)) (Al.self _) (h.nb hca) (h.og.ro (fun d hd => wds_lt hd)) (h.ng hcg) hG hg40 hn (Nat.le_trans h.hg (Nat.le_of_lt (get_lt h.row))) h.tw h.dg).mono ?_
  rintro e w' ⟨q, r, h1, o', h2, h3, -⟩
  exact ⟨q, r, h1, h2.own.isS, h3.isS, o', h2⟩
/-- What Rat.norm leaves. -/
structure NmP (g B N D : Nat) (n : Bool) (va vb : Value) (w w' : World) : Prop where
  rat : RatP w' B g n N D
  bl : Below B w w'
  fr : NmF g va vb w w'
/-- The stack's words go back to nothing; the fraction lies as it was. -/
theorem NmW.fin {q0 : Nat} {v0 : Value} (h : NmW w0 va0 vb0 g f s B N D G (some (q0, v0)) n false va vb rv w) : w.heap[s]? = some (.cells #[.pointer (some ⟨q0, 0, none⟩)] 226 (0, 0)) ∧ w.heap[q0]? = some (.cells #[v0] 257 (0, 0)) ∧ IsS v0 ∧ NmP g B N D n va0 vb0 w0 (w.setCell ⟨q0, 0, none⟩ (subS v0 0 0)) := by
  obtain ⟨_, h1, h2, h3, xs, h4, _⟩ := h.st
  simp only at h1 h2 h3 h4
  have hq := h.sw q0 (.inr ⟨_, rfl, .inl rfl⟩)
  refine ⟨h2, h3, h4.isS, ⟨va, vb, h.hg, ?_, h.oa.away h3 (by decide) 0 _, h.ob.away h3 (by decide) 0 _⟩, bset h.bl h1, fun k hk a b c => (heap_setCell_other _ _ _ _ (by simp only; omega)).trans (h.fr k hk a b c)⟩
  rw [heap_setCell_other _ _ _ _ (by simpa using (h.neRat h3 (by decide)).symm)]; exact h.row
theorem NmW.fin0 (h : NmW w0 va0 vb0 g f s B N D G none n false va vb rv w) : w.cell? ⟨s, 0, none⟩ = some (.pointer none) ∧ NmP g B N D n va0 vb0 w0 w := by
  obtain ⟨_, h1, _⟩ := h.st
  exact ⟨(row_at (i := 0) h1 rfl).1, ⟨va, vb, h.hg, h.row, h.oa, h.ob⟩, h.bl, h.fr⟩
end
end Go.Proofs.YtbghmceglemppaaGreatDoor
