/-
Texts of this proof, joined: GcA GcF NmD SqC SqD RiB NmA NmB. No condition.
-/
import Derived.Test.YtllhnjpnkmjopaaGreatDoorK03
import Derived.Test.YtllhnjpnkmjopaaGreatDoorK06
import Derived.Test.YtllhnjpnkmjopaaGreatDoorK13
import Derived.Test.YtllhnjpnkmjopaaGreatDoorK20
import Derived.Test.YtllhnjpnkmjopaaGreatDoorK22
import Derived.Test.YtllhnjpnkmjopaaGreatDoorK23
namespace Go.Proofs.YtllhnjpnkmjopaaGreatDoor
open Go.RowKit

theorem collins_t {A B a b K al be u0 u1 v0 v1 xp x : Nat} (hA : A = a * K + al) (hB : B = b * K + be) (h1 : al < K) (h2 : be < K)
    (e1 : xp + v0 * b = u0 * a) (e2 : x + u1 * a = v1 * b) (c1 : v1 ≤ x) (c2 : v0 + v1 + x ≤ xp) (hu1 : u1 ≤ v1) (hv : 0 < v1) :
    v0 * B ≤ u0 * A ∧ u1 * A ≤ v1 * B ∧ v1 * B - u1 * A < u0 * A - v0 * B := by
  have p1 : u0 * A = xp * K + v0 * b * K + u0 * al := by rw [hA, Nat.mul_add, ← Nat.mul_assoc, ← e1, Nat.add_mul]
  have p2 : v0 * B = v0 * b * K + v0 * be := by rw [hB, Nat.mul_add, ← Nat.mul_assoc]
  have p3 : v1 * B = x * K + u1 * a * K + v1 * be := by rw [hB, Nat.mul_add, ← Nat.mul_assoc, ← e2, Nat.add_mul]
  have p4 : u1 * A = u1 * a * K + u1 * al := by rw [hA, Nat.mul_add, ← Nat.mul_assoc]
  have q1 : v0 * be ≤ v0 * K := Nat.mul_le_mul_left _ (Nat.le_of_lt h2)
  have q2 : v1 * be < v1 * K := (Nat.mul_lt_mul_left hv).2 h2
  have q3 : u1 * al ≤ u1 * K := Nat.mul_le_mul_left _ (Nat.le_of_lt h1)
  have q4 : u1 * K ≤ v1 * K := Nat.mul_le_mul_right _ hu1
  have q5 : v1 * K ≤ x * K := Nat.mul_le_mul_right _ c1
  have q6 : (v0 + v1 + x) * K ≤ xp * K := Nat.mul_le_mul_right _ c2
  rw [Nat.add_mul, Nat.add_mul] at q6
  omega
theorem collins_f {A B a b K al be u0 u1 v0 v1 xp x : Nat} (hA : A = a * K + al) (hB : B = b * K + be) (h1 : al < K) (h2 : be < K)
    (e1 : xp + u0 * a = v0 * b) (e2 : x + v1 * b = u1 * a) (c1 : v1 ≤ x) (c2 : v0 + v1 + x ≤ xp) (hu0 : u0 ≤ v0) (hu1 : u1 ≤ v1) (hv : 0 < v1) :
    u0 * A ≤ v0 * B ∧ v1 * B ≤ u1 * A ∧ u1 * A - v1 * B < v0 * B - u0 * A := by
  have p1 : v0 * B = xp * K + u0 * a * K + v0 * be := by rw [hB, Nat.mul_add, ← Nat.mul_assoc, ← e1, Nat.add_mul]
  have p2 : u0 * A = u0 * a * K + u0 * al := by rw [hA, Nat.mul_add, ← Nat.mul_assoc]
  have p3 : u1 * A = x * K + v1 * b * K + u1 * al := by rw [hA, Nat.mul_add, ← Nat.mul_assoc, ← e2, Nat.add_mul]
  have p4 : v1 * B = v1 * b * K + v1 * be := by rw [hB, Nat.mul_add, ← Nat.mul_assoc]
  have q1 : u0 * al ≤ v0 * al := Nat.mul_le_mul_right _ hu0
  have q1' : v0 * al ≤ v0 * K := Nat.mul_le_mul_left _ (Nat.le_of_lt h1)
  have q2 : u1 * al ≤ v1 * al := Nat.mul_le_mul_right _ hu1
  have q2' : v1 * al < v1 * K := (Nat.mul_lt_mul_left hv).2 h1
  have q3 : v1 * be ≤ v1 * K := Nat.mul_le_mul_left _ (Nat.le_of_lt h2)
  have q5 : v1 * K ≤ x * K := Nat.mul_le_mul_right _ c1
  have q6 : (v0 + v1 + x) * K ≤ xp * K := Nat.mul_le_mul_right _ c2
  rw [Nat.add_mul, Nat.add_mul] at q6
  omega
structure Smaller (A B A' B' : Nat) : Prop where
  lt : B' < A'
  less : B' < B
  top : A' ≤ B
  dvd : ∀ d, (d ∣ A ∧ d ∣ B) ↔ (d ∣ A' ∧ d ∣ B')
theorem Smaller.of {A B A' B' u0 u1 v0 v1 : Nat} (hA : A = v1 * A' + v0 * B') (hB : B = u1 * A' + u0 * B') (hlt : B' < A') (hu : 0 < u1)
    (hd : ∀ d, d ∣ A → d ∣ B → d ∣ A' ∧ d ∣ B') : Smaller A B A' B' := by
  have h1 : A' ≤ B := by
    rw [hB]; exact Nat.le_trans (Nat.le_mul_of_pos_left _ hu) (Nat.le_add_right _ _)
  refine ⟨hlt, by omega, h1, fun d => ⟨fun h => hd d h.1 h.2, fun h => ⟨?_, ?_⟩⟩⟩
  · rw [hA]; exact Nat.dvd_add (Nat.dvd_mul_left_of_dvd h.1 _) (Nat.dvd_mul_left_of_dvd h.2 _)
  · rw [hB]; exact Nat.dvd_add (Nat.dvd_mul_left_of_dvd h.1 _) (Nat.dvd_mul_left_of_dvd h.2 _)
theorem cross {A B A' B' u0 u1 v0 v1 : Nat} (h1 : A' + v0 * B = u0 * A) (h2 : B' + u1 * A = v1 * B) (hd : u0 * v1 = 1 + u1 * v0) :
    A = v1 * A' + v0 * B' ∧ B = u1 * A' + u0 * B' := by
  have i1 : (A' : Int) = u0 * A - v0 * B := by have := congrArg (Int.ofNat) h1; simp at this; omega
  have i2 : (B' : Int) = v1 * B - u1 * A := by have := congrArg (Int.ofNat) h2; simp at this; omega
  have i3 : (u0 : Int) * v1 = 1 + u1 * v0 := by have := congrArg (Int.ofNat) hd; simpa using this
  constructor
  · have : (A : Int) = v1 * A' + v0 * B' := by rw [i1, i2]; grind
    exact_mod_cast this
  · have : (B : Int) = u1 * A' + u0 * B' := by rw [i1, i2]; grind
    exact_mod_cast this
theorem dvd_of_sum {d a b c : Nat} (h : a + b = c) (hb : d ∣ b) (hc : d ∣ c) : d ∣ a := (Nat.dvd_add_left hb).1 (h ▸ hc)
def Lead (A B u0 u1 v0 v1 : Nat) (ev : Bool) : Prop :=
  v0 = 0 ∨ (0 < v0 ∧ 0 < u1 ∧ ∃ A' B', Smaller A B A' B' ∧ (if ev then A' + v0 * B = u0 * A ∧ B' + u1 * A = v1 * B else A' + u0 * A = v0 * B ∧ B' + v1 * B = u1 * A))
structure Sim (a b x y u0 u1 u2 v0 v1 v2 : Nat) (ev : Bool) : Prop where
  ha : a = v2 * x + v1 * y
  hb : b = u2 * x + u1 * y
  sgn : if ev then x + u1 * a = v1 * b ∧ y + v2 * b = u2 * a ∧ u2 * v1 = 1 + u1 * v2 else x + v1 * b = u1 * a ∧ y + u2 * a = v2 * b ∧ u1 * v2 = 1 + u2 * v1
  yx : y ≤ x
  u2v2 : u2 ≤ v2
  v2 : 0 < v2
  one : 0 < u1 + u2
  u1v1 : v1 = 0 ∨ (u1 ≤ v1 ∧ 0 < u2)
  zero : v1 = 0 → u2 = 0
  cert : v0 = 0 ∨ (u0 ≤ v0 ∧ 0 < u1 ∧ 0 < v1 ∧ u1 ≤ v1 ∧ ∃ xp, v1 ≤ x ∧ v0 + v1 + x ≤ xp ∧
    (if ev then xp + v0 * b = u0 * a ∧ u0 * v1 = 1 + u1 * v0 else xp + u0 * a = v0 * b ∧ u1 * v0 = 1 + u0 * v1))
theorem Sim.start {a b : Nat} (h : b ≤ a) : Sim a b a b 0 1 0 0 0 1 false :=
  ⟨by simp, by simp, by simp, h, by decide, by decide, by decide, .inl rfl, fun _ => rfl, .inl rfl⟩
theorem Sim.step {a b x y u0 u1 u2 v0 v1 v2 q r : Nat} {ev : Bool} (h : Sim a b x y u0 u1 u2 v0 v1 v2 ev) (c1 : v2 ≤ y) (c2 : v1 + v2 ≤ x - y) (hx : x = q * y + r) (hr : r < y) :
    Sim a b y r u1 u2 (u1 + q * u2) v1 v2 (v1 + q * v2) (!ev) := by
  have hq : 0 < q := by
    rcases Nat.eq_zero_or_pos q with h0 | h0
    · rw [h0, Nat.zero_mul] at hx; have := h.yx; omega
    · exact h0
  have hq2 : v2 ≤ q * v2 := Nat.le_mul_of_pos_left _ hq
  have hq3 : u2 ≤ q * u2 := Nat.le_mul_of_pos_left _ hq
  have e1 := h.ha
  have e2 := h.hb
  have h2 := h.sgn
  have hv2 := h.v2
  have hone := h.one
  have huv : q * u2 ≤ q * v2 := Nat.mul_le_mul_left _ h.u2v2
  refine ⟨?_, ?_, ?_, Nat.le_of_lt hr, ?_, by omega, by omega, .inr ⟨h.u2v2, by omega⟩, fun h0 => by omega, ?_⟩
  · rw [e1, hx]; grind
  · rw [e2, hx]; grind
  · cases ev with
    | true =>
      obtain ⟨s1, s2, s3⟩ := h2
      refine ⟨s2, ?_, ?_⟩
      · have : (r : Int) + (u1 + q * u2 : Nat) * a = (v1 + q * v2 : Nat) * b := by
          have t1 : (x : Int) + u1 * a = v1 * b := by exact_mod_cast s1
          have t2 : (y : Int) + v2 * b = u2 * a := by exact_mod_cast s2
          have t3 : (x : Int) = q * y + r := by exact_mod_cast hx
          push_cast
          grind
        exact_mod_cast this
      · have : ((u2 : Int)) * (v1 + q * v2 : Nat) = 1 + (u1 + q * u2 : Nat) * v2 := by
          have t3 : (u2 : Int) * v1 = 1 + u1 * v2 := by exact_mod_cast s3
          push_cast
          grind
        exact_mod_cast this
    | false =>
      obtain ⟨s1, s2, s3⟩ := h2
      refine ⟨s2, ?_, ?_⟩
      · have : (r : Int) + (v1 + q * v2 : Nat) * b = (u1 + q * u2 : Nat) * a := by
          have t1 : (x : Int) + v1 * b = u1 * a := by exact_mod_cast s1
          have t2 : (y : Int) + u2 * a = v2 * b := by exact_mod_cast s2
          have t3 : (x : Int) = q * y + r := by exact_mod_cast hx
          push_cast
          grind
        exact_mod_cast this
      · have : ((u1 + q * u2 : Nat) : Int) * v2 = 1 + u2 * (v1 + q * v2 : Nat) := by
          have t3 : (u1 : Int) * v2 = 1 + u2 * v1 := by exact_mod_cast s3
          push_cast
          grind
        exact_mod_cast this
  · rcases h.u1v1 with h0 | h0
    · have hu2 := h.zero h0
      have hs : u1 ≤ q * v2 := by
        have : u1 ≤ 1 := by
          cases ev with
          | true => obtain ⟨-, -, s3⟩ := h2; rw [hu2] at s3; omega
          | false =>
            obtain ⟨-, -, s3⟩ := h2
            rw [hu2, Nat.zero_mul] at s3
            have := Nat.le_mul_of_pos_right u1 hv2
            omega
        omega
      rw [hu2, Nat.mul_zero]; omega
    · omega
  · rcases Nat.eq_zero_or_pos v1 with h0 | h0
    · exact .inl h0
    · right
      have h3 := h.u1v1.resolve_left (by omega)
      refine ⟨h3.1, h3.2, hv2, h.u2v2, x, c1, by omega, ?_⟩
      cases ev with
      | true => obtain ⟨s1, s2, s3⟩ := h2; exact ⟨s1, s3⟩
      | false => obtain ⟨s1, s2, s3⟩ := h2; exact ⟨s1, s3⟩
theorem Sim.bd {a b x y u0 u1 u2 v0 v1 v2 : Nat} {ev : Bool} (h : Sim a b x y u0 u1 u2 v0 v1 v2 ev) (hx : 0 < x) (hba : b ≤ a) : v2 ≤ a ∧ u2 ≤ a ∧ (0 < y → v1 + v2 ≤ a ∧ u1 + u2 ≤ a ∧ u1 ≤ a) := by
  have h1 := h.ha
  have h2 := h.hb
  have p1 : v2 ≤ v2 * x := Nat.le_mul_of_pos_right _ hx
  have p2 : u2 ≤ u2 * x := Nat.le_mul_of_pos_right _ hx
  refine ⟨by omega, by omega, fun hy => ?_⟩
  have p3 : v1 ≤ v1 * y := Nat.le_mul_of_pos_right _ hy
  have p4 : u1 ≤ u1 * y := Nat.le_mul_of_pos_right _ hy
  omega
theorem Sim.lead {A B a b K al be x y u0 u1 u2 v0 v1 v2 : Nat} {ev : Bool} (h : Sim a b x y u0 u1 u2 v0 v1 v2 ev) (hA : A = a * K + al) (hB : B = b * K + be) (h1 : al < K) (h2 : be < K) :
    Lead A B u0 u1 v0 v1 ev := by
  rcases h.cert with h0 | ⟨g1, g2, g3, g4, xp, c1, c2, g5⟩
  · exact .inl h0
  rcases Nat.eq_zero_or_pos v0 with h0 | h0
  · exact .inl h0
  refine .inr ⟨h0, g2, ?_⟩
  have hs := h.sgn
  cases ev with
  | true =>
    obtain ⟨s1, -, -⟩ := hs
    obtain ⟨e1, hd⟩ := g5
    obtain ⟨k1, k2, k3⟩ := collins_t hA hB h1 h2 e1 s1 c1 c2 g4 g3
    have m1 : u0 * A - v0 * B + v0 * B = u0 * A := Nat.sub_add_cancel k1
    have m2 : v1 * B - u1 * A + u1 * A = v1 * B := Nat.sub_add_cancel k2
    obtain ⟨n1, n2⟩ := cross m1 m2 hd
    exact ⟨_, _, .of n1 n2 k3 g2 (fun d d1 d2 => ⟨dvd_of_sum m1 (Nat.dvd_mul_left_of_dvd d2 _) (Nat.dvd_mul_left_of_dvd d1 _), dvd_of_sum m2 (Nat.dvd_mul_left_of_dvd d1 _) (Nat.dvd_mul_left_of_dvd d2 _)⟩), m1, m2⟩
  | false =>
    obtain ⟨s1, -, -⟩ := hs
    obtain ⟨e1, hd⟩ := g5
    obtain ⟨k1, k2, k3⟩ := collins_f hA hB h1 h2 e1 s1 c1 c2 g1 g4 g3
    have m1 : v0 * B - u0 * A + u0 * A = v0 * B := Nat.sub_add_cancel k1
    have m2 : u1 * A - v1 * B + v1 * B = u1 * A := Nat.sub_add_cancel k2
    obtain ⟨n1, n2⟩ := cross (A := B) (B := A) (u0 := v0) (u1 := v1) (v0 := u0) (v1 := u1) m1 m2 (by rw [Nat.mul_comm v0, hd, Nat.mul_comm u0])
    exact ⟨_, _, .of n2 n1 k3 g2 (fun d d1 d2 => ⟨dvd_of_sum m1 (Nat.dvd_mul_left_of_dvd d1 _) (Nat.dvd_mul_left_of_dvd d2 _), dvd_of_sum m2 (Nat.dvd_mul_left_of_dvd d2 _) (Nat.dvd_mul_left_of_dvd d1 _)⟩), m1, m2⟩
structure Bx (w : World) (B b : Nat) (neg : Bool) (v : Value) (zs : List Value) : Prop where
  le : B ≤ b
  row : w.heap[b]? = some (.cells #[.bool neg, v] 110 (0, 0))
  own : Own w B 116 v zs
def Sep (v u : Value) : Prop := 0 < sCap v → 0 < sCap u → sBlk v ≠ sBlk u
theorem Sep.symm {v u : Value} (h : Sep v u) : Sep u v := fun a b he => h b a he.symm
theorem IntRo.box {b : Nat} {zneg : Bool} {v vz : Value} {neg : Bool} {N B : Nat} {w w' : World} (h : IntRo b 0 #[.bool zneg, v] 110 vz neg N B w w') : IntR b vz neg N B w w' := by
  obtain ⟨r, h1, h2, h3⟩ := h.row
  exact ⟨⟨r, h1, h2, h3⟩, h.below, h.fr⟩
theorem Bx.keep {w w' : World} {B b c : Nat} {n neg zneg : Bool} {v vz : Value} {ys zs : List Value} {N : Nat} (hc : Bx w B c n v ys) (hb : Bx w B b zneg vz zs) (h : IntR b vz neg N B w w') (hne : c ≠ b) (hs : Sep v vz) : Bx w' B c n v ys := by
  refine ⟨hc.le, (h.fr c (get_lt hc.row) hne (fun hz => hb.own.neRow hc.row (by decide) hz)).trans hc.row, hc.own.same fun hv => h.fr _ (hc.own.lt hv).2 (fun he => hc.own.neRow hb.row (by decide) hv he.symm) (fun hz => hs hv hz)⟩
theorem Bx.made {w w' : World} {B b : Nat} {neg zneg : Bool} {vz : Value} {zs : List Value} {N : Nat} (hb : Bx w B b zneg vz zs) (h : IntR b vz neg N B w w') : ∃ r, Bx w' B b neg r (cellsW (wds N)) ∧ ∀ {c : Nat} {n : Bool} {v : Value} {ys : List Value}, Bx w B c n v ys → Sep v vz → Sep v r := by
  obtain ⟨r, h1, h2, h3⟩ := h.row
  refine ⟨r, ⟨hb.le, h1, h2⟩, fun hc hs hv hr he => ?_⟩
  rcases h3 hr with ⟨a, e⟩ | a
  · exact hs hv a (he.trans e)
  · have := (hc.own.lt hv).2; omega
theorem Bx.ro {w : World} {B b N : Nat} {neg : Bool} {v : Value} (h : Bx w B b neg v (cellsW (wds N))) : RO w v (wds N) := h.own.ro fun _ hd => wds_lt hd
structure Quad (w : World) (B a b q r : Nat) (ma mb mq mr : Bool) (va vb vq vr : Value) (za zb zq zr : List Value) : Prop where
  ba : Bx w B a ma va za
  bb : Bx w B b mb vb zb
  bq : Bx w B q mq vq zq
  br : Bx w B r mr vr zr
  sab : Sep va vb
  saq : Sep va vq
  sar : Sep va vr
  sbq : Sep vb vq
  sbr : Sep vb vr
  sqr : Sep vq vr
  nab : a ≠ b
  naq : a ≠ q
  nar : a ≠ r
  nbq : b ≠ q
  nbr : b ≠ r
  nqr : q ≠ r
theorem Sep.al {v u : Value} (h : Sep v u) (hu : IsS u) (hl : 0 < sLen u) : Al v u := fun hv he => absurd he.symm (h hv (by have := hu.le; omega))
theorem Al.self (v : Value) : Al v v := fun _ _ => rfl
theorem Quad.turn {w : World} {B a b q r : Nat} {ma mb mq mr : Bool} {va vb vq vr : Value} {za zb zq zr : List Value} (h : Quad w B a b q r ma mb mq mr va vb vq vr za zb zq zr) : Quad w B b q r a mb mq mr ma vb vq vr va zb zq zr za :=
  ⟨h.bb, h.bq, h.br, h.ba, h.sbq, h.sbr, h.sab.symm, h.sqr, h.saq.symm, h.sar.symm, h.nbq, h.nbr, h.nab.symm, h.nqr, h.naq.symm, h.nar.symm⟩
theorem Quad.put {w w' : World} {B a b q r : Nat} {ma mb mq mr : Bool} {va vb vq vr : Value} {za zb zq zr : List Value} {neg : Bool} {N : Nat} (h : Quad w B a b q r ma mb mq mr va vb vq vr za zb zq zr) (hw : IntR a va neg N B w w') :
    ∃ v, Quad w' B a b q r neg mb mq mr v vb vq vr (cellsW (wds N)) zb zq zr := by
  obtain ⟨v, h1, h2⟩ := h.ba.made hw
  exact ⟨v, h1, h.bb.keep h.ba hw h.nab.symm h.sab.symm, h.bq.keep h.ba hw h.naq.symm h.saq.symm, h.br.keep h.ba hw h.nar.symm h.sar.symm,
    (h2 h.bb h.sab.symm).symm, (h2 h.bq h.saq.symm).symm, (h2 h.br h.sar.symm).symm, h.sbq, h.sbr, h.sqr, h.nab, h.naq, h.nar, h.nbq, h.nbr, h.nqr⟩
theorem mul_lead {A' B' A B u0 u1 v0 v1 : Nat} {ev : Bool} (hlt : B' < A') (h : if ev then A' + v0 * B = u0 * A ∧ B' + u1 * A = v1 * B else A' + u0 * A = v0 * B ∧ B' + v1 * B = u1 * A) :
    addM (!ev) (A * u0) ev (B * v0) = A' ∧ (decide (0 < addM (!ev) (A * u0) ev (B * v0)) && addN (!ev) (A * u0) ev (B * v0)) = false ∧ addM (!ev) (B * v1) ev (A * u1) = B' ∧ (decide (0 < addM (!ev) (B * v1) ev (A * u1)) && addN (!ev) (B * v1) ev (A * u1)) = false := by
  cases ev with
  | true =>
    obtain ⟨h1, h2⟩ := h
    rw [Nat.mul_comm v0, Nat.mul_comm u0] at h1
    rw [Nat.mul_comm u1, Nat.mul_comm v1] at h2
    have l1 : B * v0 ≤ A * u0 := by omega
    have l2 : A * u1 ≤ B * v1 := by omega
    simp only [addM, addN, Bool.not_true, if_neg (show ¬ false = true by decide), if_pos l1, if_pos l2, Bool.and_false]
    exact ⟨by omega, trivial, by omega, trivial⟩
  | false =>
    obtain ⟨h1, h2⟩ := h
    rw [Nat.mul_comm v0, Nat.mul_comm u0] at h1
    rw [Nat.mul_comm u1, Nat.mul_comm v1] at h2
    have l1 : ¬ B * v0 ≤ A * u0 := by omega
    simp only [addM, addN, Bool.not_false, if_neg (show ¬ true = false by decide), if_neg l1, Bool.not_true, Bool.and_false]
    refine ⟨by omega, trivial, ?_⟩
    by_cases l2 : A * u1 ≤ B * v1
    · rw [if_pos l2, if_pos l2]
      have h3 : B * v1 - A * u1 = 0 := by omega
      rw [h3]
      exact ⟨by omega, by simp⟩
    · rw [if_neg l2, if_neg l2]
      exact ⟨by omega, by simp⟩
theorem Quad.mul1 {w : World} {B a b q r X y : Nat} {ma mb mq mr neg : Bool} {va vb vq vr : Value} {za zb zq zr : List Value} (h : Quad w B a b q r ma mb mq mr va vb vq vr za zb zq zr) (hz : za = cellsW (wds X)) (_hX0 : 0 < X) (hX : nw X ≤ 100000000) (hy : y < 18446744073709551616) :
    Calls Tryz.prog 194 #[.pointer (some ⟨a, 0, none⟩), .pointer (some ⟨a, 0, none⟩), .bool neg, .int .u64 y] w fun e w' => e = .returned (.tuple #[]) ∧ (∃ v, Quad w' B a b q r (ma != neg) mb mq mr v vb vq vr (cellsW (wds (X * y))) zb zq zr) ∧ Below B w w' := by
  subst hz
  refine (mulW_any a a ma ma neg va va _ X y B w h.ba.row h.ba.row h.ba.own h.ba.ro (Al.self _) hy hX h.ba.le).mono ?_
  rintro e w' ⟨h1, h2⟩
  exact ⟨h1, h.put h2, h2.below⟩
theorem Quad.mul4 {w : World} {B a b q r X y : Nat} {ma mb mq mr neg : Bool} {va vb vq vr : Value} {za zb zq zr : List Value} (h : Quad w B a b q r ma mb mq mr va vb vq vr za zb zq zr) (hz : zr = cellsW (wds X)) (hX0 : 0 < X) (hX : nw X ≤ 100000000) (hy : y < 18446744073709551616) :
    Calls Tryz.prog 194 #[.pointer (some ⟨a, 0, none⟩), .pointer (some ⟨r, 0, none⟩), .bool neg, .int .u64 y] w fun e w' => e = .returned (.tuple #[]) ∧ (∃ v, Quad w' B a b q r (mr != neg) mb mq mr v vb vq vr (cellsW (wds (X * y))) zb zq zr) ∧ Below B w w' := by
  subst hz
  refine (mulW_any a r ma mr neg va vr za X y B w h.ba.row h.br.row h.ba.own h.br.ro  (h.sar.al h.br.own.isS (by rw [h.br.own.len, cellsW_length, wds_length]; exact nw_pos hX0)) hy hX h.ba.le).mono ?_
  rintro e w' ⟨h1, h2⟩
  exact ⟨h1, h.put h2, h2.below⟩
theorem Quad.mul2 {w : World} {B a b q r X y : Nat} {ma mb mq mr neg : Bool} {va vb vq vr : Value} {za zb zq zr : List Value} (h : Quad w B a b q r ma mb mq mr va vb vq vr za zb zq zr) (hz : zb = cellsW (wds X)) (hX0 : 0 < X) (hX : nw X ≤ 100000000) (hy : y < 18446744073709551616) :
    Calls Tryz.prog 194 #[.pointer (some ⟨a, 0, none⟩), .pointer (some ⟨b, 0, none⟩), .bool neg, .int .u64 y] w fun e w' => e = .returned (.tuple #[]) ∧ (∃ v, Quad w' B a b q r (mb != neg) mb mq mr v vb vq vr (cellsW (wds (X * y))) zb zq zr) ∧ Below B w w' := by
  subst hz
  refine (mulW_any a b ma mb neg va vb za X y B w h.ba.row h.bb.row h.ba.own h.bb.ro  (h.sab.al h.bb.own.isS (by rw [h.bb.own.len, cellsW_length, wds_length]; exact nw_pos hX0)) hy hX h.ba.le).mono ?_
  rintro e w' ⟨h1, h2⟩
  exact ⟨h1, h.put h2, h2.below⟩
theorem Quad.add3 {w : World} {B a b q r X Y : Nat} {ma mb mq mr : Bool} {va vb vq vr : Value} {za zb zq zr : List Value} (h : Quad w B a b q r ma mb mq mr va vb vq vr za zb zq zr) (hz : za = cellsW (wds X)) (hz2 : zq = cellsW (wds Y)) (hY0 : 0 < Y) (hX : nw X ≤ 1000000) (hY : nw Y ≤ 1000000) :
    Calls Tryz.prog 123 #[.pointer (some ⟨a, 0, none⟩), .pointer (some ⟨a, 0, none⟩), .pointer (some ⟨q, 0, none⟩)] w fun e w' => e = .returned (.pointer (some ⟨a, 0, none⟩)) ∧ (∃ v, Quad w' B a b q r (decide (0 < addM ma X mq Y) && addN ma X mq Y) mb mq mr v vb vq vr (cellsW (wds (addM ma X mq Y))) zb zq zr) ∧ Below B w w' := by
  subst hz hz2
  have hal : Al va vq := h.saq.al h.bq.own.isS (by rw [h.bq.own.len, cellsW_length, wds_length]; exact nw_pos hY0)
  refine (intAdd_any a 0 a 0 q 0 ma mq va va vq (.bool ma) _ X Y B _ _ _ _ _ _ w h.ba.row h.ba.row h.bq.row (by decide) rfl rfl rfl rfl rfl rfl h.ba.own h.ba.ro h.bq.ro (Al.self _) hal hX hY h.ba.le).mono ?_
  rintro e w' ⟨h1, h2⟩
  exact ⟨h1, h.put h2.box, h2.below⟩
theorem nw_mul_word {X y : Nat} (hy : y < 18446744073709551616) : nw (X * y) ≤ nw X + 1 := nw_le (by rw [Nat.pow_succ]; exact Nat.mul_lt_mul'' (lt_nw X) hy)
set_option maxRecDepth 100000 in
set_option maxHeartbeats 1600000 in
theorem lehmerUpdate_any (a b q r B X Y X' Y' u0 u1 v0 v1 : Nat) (ev mq mr : Bool) (va vb vq vr : Value) (zq zr : List Value) (w : World) (h : Quad w B a b q r false false mq mr va vb vq vr (cellsW (wds X)) (cellsW (wds Y)) zq zr)
    (hX0 : 0 < X) (hY0 : 0 < Y) (hX : nw X ≤ 1000) (hY : nw Y ≤ 1000) (h0 : u0 < 18446744073709551616) (h1 : u1 < 18446744073709551616) (h2 : v0 < 18446744073709551616) (h3 : v1 < 18446744073709551616) (hv0 : 0 < v0) (hu1 : 0 < u1) (hlt : Y' < X')
    (hl : if ev then X' + v0 * Y = u0 * X ∧ Y' + u1 * X = v1 * Y else X' + u0 * X = v0 * Y ∧ Y' + v1 * Y = u1 * X) :
    Calls Tryz.prog 192 #[.pointer (some ⟨a, 0, none⟩), .pointer (some ⟨b, 0, none⟩), .pointer (some ⟨q, 0, none⟩), .pointer (some ⟨r, 0, none⟩), .int .u64 u0, .int .u64 u1, .int .u64 v0, .int .u64 v1, .bool ev] w
      fun e w' => e = .returned (.tuple #[]) ∧ (∃ (mq' mr' : Bool) (va' vb' vq' vr' : Value) (zq' zr' : List Value), Quad w' B a b q r false false mq' mr' va' vb' vq' vr' (cellsW (wds X')) (cellsW (wds Y')) zq' zr') ∧ Below B w w' := by
  obtain ⟨e1, e2, e3, e4⟩ := mul_lead hlt hl
  have n1 : nw (Y * v0) ≤ 1001 := Nat.le_trans (nw_mul_word h2) (by omega)
  have n2 : nw (X * u1) ≤ 1001 := Nat.le_trans (nw_mul_word h1) (by omega)
  have n3 : nw (X * u0) ≤ 1001 := Nat.le_trans (nw_mul_word h0) (by omega)
  have n4 : nw (Y * v1) ≤ 1001 := Nat.le_trans (nw_mul_word h3) (by omega)
  have p1 : 0 < Y * v0 := Nat.mul_pos hY0 hv0
  have p2 : 0 < X * u1 := Nat.mul_pos hX0 hu1
  have H1 : Hid (Calls Tryz.prog 194 #[.pointer (some ⟨q, 0, none⟩), .pointer (some ⟨b, 0, none⟩), .bool ev, .int .u64 v0] w fun e w1 => e = .returned (.tuple #[]) ∧ (∃ v, Quad w1 B a b q r false false ev mr va vb v vr (cellsW (wds X)) (cellsW (wds Y)) (cellsW (wds (Y * v0))) zr) ∧ Below B w w1) := Lib.hid (by
    refine (h.turn.turn.mul4 rfl hY0 (by omega) h2).mono ?_
    rintro e w1 ⟨g1, ⟨v, g2⟩, g3⟩
    rw [Bool.false_bne] at g2
    exact ⟨g1, ⟨v, g2.turn.turn⟩, g3⟩)
  have H2 : Hid (∀ w1 v, Quad w1 B a b q r false false ev mr va vb v vr (cellsW (wds X)) (cellsW (wds Y)) (cellsW (wds (Y * v0))) zr → Calls Tryz.prog 194 #[.pointer (some ⟨r, 0, none⟩), .pointer (some ⟨a, 0, none⟩), .bool ev, .int .u64 u1] w1 fun e w2 => e = .returned (.tuple #[]) ∧ (∃ x, Quad w2 B a b q r false false ev ev va vb v x (cellsW (wds X)) (cellsW (wds Y)) (cellsW (wds (Y * v0))) (cellsW (wds (X * u1)))) ∧ Below B w1 w2) := Lib.hid (fun w1 v g => by
    refine (g.turn.turn.turn.mul2 rfl hX0 (by omega) h1).mono ?_
    rintro e w2 ⟨g1, ⟨x, g2⟩, g3⟩
    rw [Bool.false_bne] at g2
    exact ⟨g1, ⟨x, g2.turn⟩, g3⟩)
  have H3 : Hid (∀ w2 v x, Quad w2 B a b q r false false ev ev va vb v x (cellsW (wds X)) (cellsW (wds Y)) (cellsW (wds (Y * v0))) (cellsW (wds (X * u1))) → Calls Tryz.prog 194 #[.pointer (some ⟨a, 0, none⟩), .pointer (some ⟨a, 0, none⟩), .bool (!ev), .int .u64 u0] w2 fun e w3 => e = .returned (.tuple #[]) ∧ (∃ y, Quad w3 B a b q r (!ev) false ev ev y vb v x (cellsW (wds (X * u0))) (cellsW (wds Y)) (cellsW (wds (Y * v0))) (cellsW (wds (X * u1)))) ∧ Below B w2 w3) := Lib.hid (fun w2 v x g => by
    refine (g.mul1 rfl hX0 (by omega) h0).mono ?_
    rintro e w3 ⟨g1, ⟨y, g2⟩, g3⟩
    rw [Bool.false_bne] at g2
    exact ⟨g1, ⟨y, g2⟩, g3⟩)
  have H4 : Hid (∀ w3 v x y, Quad w3 B a b q r (!ev) false ev ev y vb v x (cellsW (wds (X * u0))) (cellsW (wds Y)) (cellsW (wds (Y * v0))) (cellsW (wds (X * u1))) → Calls Tryz.prog 194 #[.pointer (some ⟨b, 0, none⟩), .pointer (some ⟨b, 0, none⟩), .bool (!ev), .int .u64 v1] w3 fun e w4 => e = .returned (.tuple #[]) ∧ (∃ z, Quad w4 B a b q r (!ev) (!ev) ev ev y z v x (cellsW (wds (X * u0))) (cellsW (wds (Y * v1))) (cellsW (wds (Y * v0))) (cellsW (wds (X * u1)))) ∧ Below B w3 w4) := Lib.hid (fun w3 v x y g => by
    refine (g.turn.mul1 rfl hY0 (by omega) h3).mono ?_
    rintro e w4 ⟨g1, ⟨z, g2⟩, g3⟩
    rw [Bool.false_bne] at g2
    exact ⟨g1, ⟨z, g2.turn.turn.turn⟩, g3⟩)
  have H5 : Hid (∀ w4 v x y z, Quad w4 B a b q r (!ev) (!ev) ev ev y z v x (cellsW (wds (X * u0))) (cellsW (wds (Y * v1))) (cellsW (wds (Y * v0))) (cellsW (wds (X * u1))) → Calls Tryz.prog 123 #[.pointer (some ⟨a, 0, none⟩), .pointer (some ⟨a, 0, none⟩), .pointer (some ⟨q, 0, none⟩)] w4 fun e w5 => e = .returned (.pointer (some ⟨a, 0, none⟩)) ∧ (∃ s, Quad w5 B a b q r false (!ev) ev ev s z v x (cellsW (wds X')) (cellsW (wds (Y * v1))) (cellsW (wds (Y * v0))) (cellsW (wds (X * u1)))) ∧ Below B w4 w5) := Lib.hid (fun w4 v x y z g => by
    refine (g.add3 rfl rfl p1 (by omega) (by omega)).mono ?_
    rintro e w5 ⟨g1, ⟨s, g2⟩, g3⟩
    rw [e2, e1] at g2
    exact ⟨g1, ⟨s, g2⟩, g3⟩)
  have H6 : Hid (∀ w5 v x z s, Quad w5 B a b q r false (!ev) ev ev s z v x (cellsW (wds X')) (cellsW (wds (Y * v1))) (cellsW (wds (Y * v0))) (cellsW (wds (X * u1))) → Calls Tryz.prog 123 #[.pointer (some ⟨b, 0, none⟩), .pointer (some ⟨b, 0, none⟩), .pointer (some ⟨r, 0, none⟩)] w5 fun e w6 => e = .returned (.pointer (some ⟨b, 0, none⟩)) ∧ (∃ t, Quad w6 B a b q r false false ev ev s t v x (cellsW (wds X')) (cellsW (wds Y')) (cellsW (wds (Y * v0))) (cellsW (wds (X * u1)))) ∧ Below B w5 w6) := Lib.hid (fun w5 v x z s g => by
    refine (g.turn.add3 rfl rfl p2 (by omega) (by omega)).mono ?_
    rintro e w6 ⟨g1, ⟨t, g2⟩, g3⟩
    rw [e4, e3] at g2
    exact ⟨g1, ⟨t, g2.turn.turn.turn⟩, g3⟩)
  clear h hX0 hY0 hX hY h0 h1 h2 h3 hv0 hu1 hlt hl e1 e2 e3 e4 n1 n2 n3 n4 p1 p2
  go_enter Tryz.func192, Tryz.ntmps192
  go_wp2_with fail
  refine H1.out.mono ?_
  rintro _ w1 ⟨rfl, ⟨v, g1⟩, k1⟩
  go_wp2_with fail
  refine (H2.out w1 v g1).mono ?_
  rintro _ w2 ⟨rfl, ⟨x, g2⟩, k2⟩
  go_wp2_with fail
  refine (H3.out w2 v x g2).mono ?_
  rintro _ w3 ⟨rfl, ⟨y, g3⟩, k3⟩
  go_wp2_with fail
  refine (H4.out w3 v x y g3).mono ?_
  rintro _ w4 ⟨rfl, ⟨z, g4⟩, k4⟩
  go_wp2_with fail
  refine (H5.out w4 v x y z g4).mono ?_
  rintro _ w5 ⟨rfl, ⟨s, g5⟩, k5⟩
  go_wp2_with fail
  refine (H6.out w5 v x z s g5).mono ?_
  rintro _ w6 ⟨rfl, ⟨t, g6⟩, k6⟩
  go_wp2
  go_end0
  exact ⟨rfl, ⟨_, _, _, _, _, _, _, _, g6⟩, ((((k1.trans k2).trans k3).trans k4).trans k5).trans k6⟩
theorem StO.keep {w w' : World} {B s L : Nat} {o : Option (Nat × Value)} (h : StO w B s L o) (hk : ∀ k, SBk s o k → w'.heap[k]? = w.heap[k]?) : StO w' B s L o := by
  match o, h with
  | none, ⟨h0, h1, h2⟩ => exact ⟨h0, (hk s (.inl rfl)).trans h1, h2⟩
  | some qv, ⟨h0, h1, h2, h3, xs, h4, h5⟩ => exact ⟨h0, h1, (hk s (.inl rfl)).trans h2, (hk qv.1 (.inr ⟨qv, rfl, .inl rfl⟩)).trans h3, xs, h4.same fun hc => hk _ (.inr ⟨qv, rfl, .inr ⟨hc, rfl⟩⟩), h5⟩
structure DvS (va q : Value) (N B s : Nat) (o o' : Option (Nat × Value)) (w w' : World) : Prop where
  own : Own w' B 116 q (cellsW (wds N))
  at' : 0 < sCap q → (0 < sCap va ∧ sBlk q = sBlk va) ∨ w.heap.size ≤ sBlk q
  st : StO w' B s 0 o'
  sb : ∀ k, SBk s o' k → SBk s o k ∨ w.heap.size ≤ k
  nsq : 0 < sCap q → ¬ SBk s o' (sBlk q)
  below : Below B w w'
  fr : ∀ k, k < w.heap.size → ¬ SBk s o k → (0 < sCap va → k ≠ sBlk va) → w'.heap[k]? = w.heap[k]?
theorem nil_cap : ¬ 0 < sCap (.slice none 0 0) := by decide
set_option maxHeartbeats 800000 in
theorem div_to (va x rv : Value) (zs : List Value) (N D B s : Nat) (o : Option (Nat × Value)) (w : World) (hst : StO w B s 0 o) (oa : Own w B 116 va zs) (ha : 0 < sCap va → ¬ SBk s o (sBlk va)) (hx : RO w x (wds N)) (ax : Al va x) (hxS : ¬ SBk s o (sBlk x)) (hr : RO w rv (wds D)) (hrS : ¬ SBk s o (sBlk rv))
    (hD : 0 < D) (hn40 : nw D < 40) (hlu : nw N ≤ 90000) (hB : B ≤ w.heap.size) (hT : DivW w) (hg : 4 < B) :
    Calls Tryz.prog 165 #[va, .pointer (some ⟨s, 0, none⟩), .slice none 0 0, x, rv] w fun e w' => ∃ q r, e = .returned (.tuple #[q, r]) ∧ ∃ o', DvS va q (N / D) B s o o' w w' ∧ Own w' B 116 r (cellsW (wds (N % D))) ∧ (0 < sCap r → w.heap.size ≤ sBlk r) ∧ (0 < sCap q → 0 < sCap r → sBlk q ≠ sBlk r) ∧ (0 < sCap r → ¬ SBk s o' (sBlk r)) := by
  refine (div_stk va (.slice none 0 0) x rv zs [] N D B s 0 o w hst (by decide) ha (fun h => absurd h nil_cap) hxS hrS oa (Own.nil _ _ _) hx hr ax hD hn40 hlu (fun _ h => absurd h nil_cap) (fun h => absurd h nil_cap) (fun h => absurd h nil_cap) hB hT hg).mono ?_
  rintro e w' ⟨q, r, rfl, h | ⟨k, o', h⟩⟩
  · have hat : 0 < sCap r → w.heap.size ≤ sBlk r := fun hc => by
      rcases h.atr hc with ⟨a, _⟩ | a
      · exact absurd a nil_cap
      · exact a
    refine ⟨q, r, rfl, o, ⟨h.oq, h.atq, hst.keep fun k hk => h.fr k (hst.base hk).2 (fun hc he => ha hc (he ▸ hk)) (fun hc => absurd hc nil_cap), fun k hk => .inl hk, fun hc hk => ?_, h.below, fun k hk _ hv => h.fr k hk hv (fun hc => absurd hc nil_cap)⟩, h.or_, hat, h.ne, fun hc hk => ?_⟩
    · rcases h.atq hc with ⟨a, b⟩ | a
      · exact ha a (b ▸ hk)
      · have := (hst.base hk).2; omega
    · have h1 := hat hc
      have := (hst.base hk).2; omega
  · refine ⟨q, r, rfl, o', ⟨h.oq, h.atq, h.st, h.sb, h.nsq, undrewN h.below, fun k hk hn hv => h.fr k hk hn hv (fun hc => absurd hc nil_cap)⟩, h.or_, fun hc => ?_, h.ne, h.nsr⟩
    rcases h.atr hc with ⟨a, _⟩ | a
    · exact absurd a nil_cap
    · exact a
structure SqQ (z r : Value) (N B s : Nat) (o o' : Option (Nat × Value)) (w w' : World) : Prop where
  own : Own w' B 116 r (cellsW (wds N))
  at' : 0 < sCap r → (0 < sCap z ∧ sBlk r = sBlk z) ∨ w.heap.size ≤ sBlk r
  st : StO w' B s 0 o'
  sb : ∀ k, SBk s o' k → SBk s o k ∨ w.heap.size ≤ k
  ns : 0 < sCap r → ¬ SBk s o' (sBlk r)
  below : Below B w w'
  fr : ∀ k, k < w.heap.size → ¬ SBk s o k → (0 < sCap z → k ≠ sBlk z) → w'.heap[k]? = w.heap[k]?
theorem SqQ.ofNatR {z r : Value} {N B s : Nat} {o : Option (Nat × Value)} {w w' : World} (hst : StO w B s 0 o) (hzS : 0 < sCap z → ¬ SBk s o (sBlk z)) (h : NatR z r N B w w') : SqQ z r N B s o o w w' := by
  refine ⟨h.own, h.at', hst.keep fun k hk => h.fr k (hst.base hk).2 (fun hc he => hzS hc (he ▸ hk)), fun k hk => .inl hk, fun hc hk => ?_, h.below, fun k hk _ h1 => h.fr k hk h1⟩
  rcases h.at' hc with ⟨a, b⟩ | a
  · exact hzS a (b ▸ hk)
  · have := (hst.base hk).2; omega
theorem SqQ.ofDrew {z r : Value} {N B s m : Nat} {o o' : Option (Nat × Value)} {w w' : World} (h : SqQ z r N B s o o' (w.drewN m) w') : SqQ z r N B s o o' w w' :=
  ⟨h.own, h.at', h.st, h.sb, h.ns, undrewN h.below, fun k hk a b => h.fr k hk a b⟩
theorem SqQ.ofNil {z r : Value} {N B s : Nat} {o o' : Option (Nat × Value)} {w w' : World} (h : SqQ (.slice none 0 0) r N B s o o' w w') : SqQ z r N B s o o' w w' := by
  refine ⟨h.own, fun hc => ?_, h.st, h.sb, h.ns, h.below, fun k hk a _ => h.fr k hk a (fun hc => absurd hc nil_cap0)⟩
  rcases h.at' hc with ⟨k1, -⟩ | k1
  · exact absurd k1 nil_cap0
  · exact .inr k1
theorem SqS.sqr {z x q : Value} {X N B s : Nat} {o : Option (Nat × Value)} {w w1 : World} (h : SqS z x x q X X N B w w1) (hz : IsS z) (hN : N = nw X + nw X) (hst : StO w B s 0 o) (hzS : 0 < sCap z → ¬ SBk s o (sBlk z)) (hxS : ¬ SBk s o (sBlk x)) (h12 : 12 ≤ nw X) (h80 : nw X < 80) (hB : B ≤ w.heap.size) (hK : SqrW w1) :
    Calls Tryz.prog 169 #[.pointer (some ⟨s, 0, none⟩), q, x] w1 fun e w2 => e = .returned (.tuple #[]) ∧ Calls Tryz.prog 117 #[q] w2 fun e' w' => ∃ r, e' = .returned r ∧ IsS r ∧ ∃ o', SqQ z r (X * X) B s o o' w w' := by
  obtain ⟨os, ho, hq⟩ := h.own
  have hSq := hq.isS
  have hcq : 0 < sCap q := by have := hSq.le; rw [hq.len] at this; omega
  have hb1 := h.how.below
  have hqS : ¬ SBk s o (sBlk q) := fun hk => by
    rcases h.how.at_ hz hcq with ⟨a, b⟩ | a
    · exact hzS a (b ▸ hk)
    · have := (hst.base hk).2; omega
  refine (basicSqr_any q x os (wds X) (nw X) B s o w1 (hst.below hb1) hq h.ox (wds_length X) (by omega) h.nx hqS hxS h12 h80 (Nat.le_trans hB hb1.size) hK).mono ?_
  rintro e w2 ⟨he, o', h1, h2, h3, h4, h5⟩
  rw [wv_wds] at h3
  refine ⟨he, ?_⟩
  have hX : X * X < 18446744073709551616 ^ (2 * nw X) := by rw [show 2 * nw X = nw X + nw X by omega]; exact lt_pow_mul X X
  have hNm := norm_any q _ w2 (h3.rw' wdsN_lt) (by rw [wdsN_length]; omega)
  have hT := h3.takeW wdsN_lt
  rw [wv_wdsN_lt hX] at hNm hT
  refine hNm.mono ?_
  rintro e' _ ⟨h6, rfl⟩
  have hat : 0 < sCap (subS q 0 (nw (X * X))) → (0 < sCap z ∧ sBlk (subS q 0 (nw (X * X))) = sBlk z) ∨ w.heap.size ≤ sBlk (subS q 0 (nw (X * X))) := fun hc => h.how.atS hz hSq hc
  refine ⟨_, h6, hT.isS, o', hT, hat, h1, fun k hk => ?_, fun hc hk => ?_, (hb1.mono hB).trans h4, fun k hk a b => ?_⟩
  · rcases h2 k hk with c | c
    · exact .inl c
    · exact .inr (Nat.le_trans hb1.size c)
  · rw [subS_blk hSq] at hk
    rcases h2 _ hk with c | c
    · exact hqS c
    · have := (hq.lt hcq).2; omega
  · have hkq : k ≠ sBlk q := fun he => by
      rcases h.how.at_ hz hcq with ⟨c, d⟩ | c
      · exact b c (he.trans d)
      · omega
    exact (h5 k (Nat.lt_of_lt_of_le hk hb1.size) a hkq).trans (hb1.block k hk)
set_option maxRecDepth 100000 in
set_option maxHeartbeats 3200000 in
theorem nsqr_big (z x : Value) (zs : List Value) (X B s : Nat) (o : Option (Nat × Value)) (w : World) (hst : StO w B s 0 o) (hz : Own w B 116 z zs) (hx : Opn w x X) (ax : Av z x) (hzS : 0 < sCap z → ¬ SBk s o (sBlk z)) (hxS : ¬ SBk s o (sBlk x)) (h12 : 12 ≤ nw X) (h80 : nw X < 80) (hB : B ≤ w.heap.size) (hK : SqrW w) :
    Calls Tryz.prog 127 #[z, .pointer (some ⟨s, 0, none⟩), x] w fun e w' => ∃ r, e = .returned r ∧ IsS r ∧ ∃ o', SqQ z r (X * X) B s o o' w w' := by
  have hSz := hz.isS
  have hSx := hx.ro.rw.isS
  have hSn := IsS.nil
  obtain ⟨n, hn⟩ : ∃ n, n = nw X := ⟨_, rfl⟩
  have hLx : sLen x = n := by rw [hx.len, hn]
  have t2 : ((n : Int) == 0) = false := by rw [beq_eq_false_iff_ne]; omega
  have t3 : ((n : Int) == 1) = false := by rw [beq_eq_false_iff_ne]; omega
  have hcx : 0 < nw X := by omega
  obtain ⟨N, hN⟩ : ∃ N, N = n + n := ⟨_, rfl⟩
  have e1 : 2 * (n : Int) = (N : Int) := by omega
  have t5 : decide ((n : Int) < 12) = false := decide_eq_false (by omega)
  have t5' : decide (n < 12) = false := decide_eq_false (by omega)
  have t6 : decide ((n : Int) < 80) = true := decide_eq_true (by omega)
  have t6' : decide (n < 80) = true := decide_eq_true (by omega)
  have HAX := Lib.hid (alias_av z x zs X B w hz hx hcx ax)
  have hNb : N ≤ 1000000000 := by omega
  have hNp : 0 < N := by omega
  have HMN : Hid (∀ k, Calls Tryz.prog 152 #[.slice none 0 0, .int .i64 N] (w.drewN k) fun e w1 => ∃ q, e = .returned q ∧ IsS q ∧ sLen q = N ∧ SqrW w1 ∧ Calls Tryz.prog 169 #[.pointer (some ⟨s, 0, none⟩), q, x] w1 fun e w2 => e = .returned (.tuple #[]) ∧ Calls Tryz.prog 117 #[q] w2 fun e' w' => ∃ r, e' = .returned r ∧ IsS r ∧ ∃ o', SqQ z r (X * X) B s o o' w w') := Lib.hid (fun k => by
    refine (mk_sq (.slice none 0 0) x x [] X X N B (w.drewN k) (.nil _ _ _) (hx.drewN k) (hx.drewN k) (fun h => absurd h nil_cap0) (fun h => absurd h nil_cap0) hcx hcx hNb hNp hB).mono ?_
    rintro e w1 ⟨q, h1, h2, h3, h4, h5⟩
    have hK1 := (hK.drewN k).below h4
    refine ⟨q, h1, h2, h3, hK1, (h5.sqr hSn (by rw [hN, hn]) (hst.below (undrewN' (Below.refl _ _))) (fun h => absurd h nil_cap0) hxS h12 h80 hB hK1).mono ?_⟩
    rintro e w2 ⟨h6, h7⟩
    refine ⟨h6, h7.mono ?_⟩
    rintro e w3 ⟨r, h8, h9, o', h10⟩
    exact ⟨r, h8, h9, o', h10.ofNil.ofDrew⟩)
  have HMZ : Hid (∀ k, (0 < sCap z → sBlk z ≠ sBlk x) → Calls Tryz.prog 152 #[z, .int .i64 N] (w.drewN k) fun e w1 => ∃ q, e = .returned q ∧ IsS q ∧ sLen q = N ∧ SqrW w1 ∧ Calls Tryz.prog 169 #[.pointer (some ⟨s, 0, none⟩), q, x] w1 fun e w2 => e = .returned (.tuple #[]) ∧ Calls Tryz.prog 117 #[q] w2 fun e' w' => ∃ r, e' = .returned r ∧ IsS r ∧ ∃ o', SqQ z r (X * X) B s o o' w w') := Lib.hid (fun k nx => by
    refine (mk_sq z x x zs X X N B (w.drewN k) (hz.drewN k) (hx.drewN k) (hx.drewN k) nx nx hcx hcx hNb hNp hB).mono ?_
    rintro e w1 ⟨q, h1, h2, h3, h4, h5⟩
    have hK1 := (hK.drewN k).below h4
    refine ⟨q, h1, h2, h3, hK1, (h5.sqr hSz (by rw [hN, hn]) (hst.below (undrewN' (Below.refl _ _))) hzS hxS h12 h80 hB hK1).mono ?_⟩
    rintro e w2 ⟨h6, h7⟩
    refine ⟨h6, h7.mono ?_⟩
    rintro e w3 ⟨r, h8, h9, o', h10⟩
    exact ⟨r, h8, h9, o', h10.ofDrew⟩)
  clear hst hz hx hn hK hN ax hB hcx hzS hxS h12 h80
  go_enter Tryz.func127, Tryz.ntmps127
  go_wp2_with fail
  refine HAX.out.mono ?_
  rintro _ _ ⟨b1, rfl, hb1, k1, rfl⟩
  cases b1 with
  | true =>
    clear hb1
    go_wp2_with fail
    refine (HMN.out k1).mono ?_
    rintro _ w1 ⟨q, rfl, hSq, hLq, kk1, hs⟩
    obtain ⟨kc1, kc2⟩ := kk1
    have HS := Lib.hid hs
    clear hs
    go_wp2_with fail
    refine HS.out.mono ?_
    rintro _ w2 ⟨rfl, ht⟩
    have HT := Lib.hid ht
    clear ht kc1 kc2
    go_wp2_with fail
    refine HT.out.mono ?_
    rintro _ w3 ⟨r, rfl, hSr, hr⟩
    have Q := Lib.hid hr
    clear hr
    go_wp2
    go_ret
    exact ⟨_, rfl, hSr, Q.out⟩
  | false =>
    have HNE := Lib.hid (hb1 rfl)
    clear hb1
    go_wp2_with fail
    refine (HMZ.out k1 HNE.out).mono ?_
    rintro _ w1 ⟨q, rfl, hSq, hLq, kk1, hs⟩
    obtain ⟨kc1, kc2⟩ := kk1
    have HS := Lib.hid hs
    clear hs
    go_wp2_with fail
    refine HS.out.mono ?_
    rintro _ w2 ⟨rfl, ht⟩
    have HT := Lib.hid ht
    clear ht kc1 kc2
    go_wp2_with fail
    refine HT.out.mono ?_
    rintro _ w3 ⟨r, rfl, hSr, hr⟩
    have Q := Lib.hid hr
    clear hr
    go_wp2
    go_ret
    exact ⟨_, rfl, hSr, Q.out⟩
theorem nsqr_st (z x : Value) (zs : List Value) (X B s : Nat) (o : Option (Nat × Value)) (w : World) (hst : StO w B s 0 o) (hz : Own w B 116 z zs) (hx : Opn w x X) (ax : Av z x) (hzS : 0 < sCap z → ¬ SBk s o (sBlk z)) (hxS : 0 < sCap x → ¬ SBk s o (sBlk x)) (h80 : nw X < 80) (hB : B ≤ w.heap.size) (hK : SqrW w) :
    Calls Tryz.prog 127 #[z, .pointer (some ⟨s, 0, none⟩), x] w fun e w' => ∃ r, e = .returned r ∧ IsS r ∧ ∃ o', SqQ z r (X * X) B s o o' w w' := by
  by_cases h12 : nw X < 12
  · refine (nsqr_gen z x zs X B w hz hx ax h12 hB hK).mono ?_
    rintro e w' ⟨r, h1, h2, h3⟩
    exact ⟨r, h1, h2, o, SqQ.ofNatR hst hzS h3⟩
  · have hc : 0 < sCap x := by
      have := hx.ro.rw.isS.le
      rw [hx.len] at this
      omega
    exact nsqr_big z x zs X B s o w hst hz hx ax hzS (hxS hc) (by omega) h80 hB hK
def RatQ (w : World) (B b : Nat) (neg : Bool) (n d : Nat) : Prop :=
  ∃ v1 v2, B ≤ b ∧ w.heap[b]? = some (.cells #[.bool neg, v1, .bool false, v2] 112 (0, 0)) ∧ Own w B 116 v1 (cellsW (wds n)) ∧ Own w B 116 v2 (cellsW (wds d)) ∧ (0 < sCap v1 → 0 < sCap v2 → sBlk v1 ≠ sBlk v2)
theorem RatQ.below {w w' : World} {B b : Nat} {neg : Bool} {n d : Nat} (h : RatQ w B b neg n d) (hb : Below w.heap.size w w') : RatQ w' B b neg n d := by
  obtain ⟨v1, v2, h1, h2, h3, h4, h5⟩ := h
  exact ⟨v1, v2, h1, keep_row hb h2, h3.below hb, h4.below hb, h5⟩
set_option maxRecDepth 100000 in
set_option maxHeartbeats 800000 in
theorem rat_sep (b : Bool) (v1 v2 : Value) (ns ds : List Nat) (w : World) (h1 : RW w v1 ns) (h2 : RW w v2 ds) (hl1 : ns.length ≤ 100000) (hl2 : ds.length ≤ 100000) :
    Calls Tryz.prog 43 #[.agg #[.bool b, v1, v2]] w fun e w' => ∃ g, e = .returned (.pointer (some ⟨g, 0, none⟩)) ∧ RatQ w' w.heap.size g (b && decide (0 < wv ns)) (wv ns) (wv ds) ∧ Below w.heap.size w w' := by
  have hS1 := h1.isS
  have hS2 := h2.isS
  have hL2 := h2.len
  obtain ⟨la, hla⟩ : ∃ la, la = ds.length := ⟨_, rfl⟩
  rw [← hla] at hL2 hl2
  have Hla := Lib.hid hla
  have H1 := Lib.hid h1
  have H2 := Lib.hid h2
  clear h1 h2 hla
  have hab := (Below.refl w.heap.size w).alloc (Nat.le_refl _) (.cells #[.bool b, v1, v2] 26)
  obtain ⟨W, hW⟩ : ∃ W, W = w.alloc (.cells #[.bool b, v1, v2] 26) := ⟨_, rfl⟩
  have hrow : W.heap[w.heap.size]? = some (.cells #[.bool b, v1, v2] 26 (0, 0)) := by rw [hW]; exact box_row (Below.refl _ _)
  rw [← hW] at hab
  have hWs : w.heap.size ≤ W.heap.size := hab.size
  have hx : W.cell? ⟨w.heap.size, 0, none⟩ = some (.bool b) := (row_at (i := 0) hrow rfl).1
  have hy : W.cell? ⟨w.heap.size, 1, none⟩ = some v1 := (row_at (i := 1) hrow rfl).1
  have hWlt : w.heap.size < W.heap.size := (heap_alloc_lt (o := .cells #[] 0) hrow).2
  have ha1 := (Below.refl W.heap.size W).alloc (Nat.le_refl _) (.cells #[.bool false, .slice none 0 0, .bool false, .slice none 0 0] 112)
  have hrow1 := box_row (Below.refl _ (W.alloc (.cells #[.bool false, .slice none 0 0, .bool false, .slice none 0 0] 112)))
  have HR := Lib.hid hrow
  have R1 := Lib.hid (H1.out.below hab)
  have R2 := Lib.hid (H2.out.below hab)
  clear hrow
  go_enter Tryz.func43, Tryz.ntmps43
  go_upto_region 1 with fail
  rw [← hW]
  clear hW
  have HR1 := Lib.hid hrow1
  clear hrow1
  go_wp2_with fail
  refine (of_any b v1 ns _ (R1.out.below ha1) (by omega)).mono ?_
  rintro _ w1 ⟨c, rfl, hI, hb1⟩
  have hIW := hI.mono (show W.heap.size ≤ (W.alloc (.cells #[.bool false, .slice none 0 0, .bool false, .slice none 0 0] 112)).heap.size from ha1.size)
  have hr1 := keep_row hb1 HR1.out
  have hcb : W.heap.size ≠ c := by
    obtain ⟨_, hc, _, _⟩ := hI
    have : W.heap.size < (W.alloc (.cells #[.bool false, .slice none 0 0, .bool false, .slice none 0 0] 112)).heap.size := by simp
    omega
  have hnn : nw (wv ns) ≤ 100000000 := Nat.le_trans (nw_le (wv_lt R1.out.lt)) (by omega)
  have HI := Lib.hid hIW
  have HB1 := Lib.hid (bthen ha1 hb1)
  have Hr1 := Lib.hid hr1
  clear hI hIW hb1 hr1
  go_wp2_with fail
  refine (ratSetInt W.heap.size c W.heap.size _ _ w1 Hr1.out HI.out hcb hnn (Nat.le_refl _)).mono ?_
  rintro _ w2 ⟨rfl, hR2, hb2⟩
  have HR2 := Lib.hid hR2
  have HB2 := Lib.hid (HB1.out.trans hb2)
  clear hR2 hb2
  have hy2 : w2.cell? ⟨w.heap.size, 2, none⟩ = some v2 := (row_at (i := 2) (keep_row HB2.out HR.out) rfl).1
  go_wp2
  have hR2d := Lib.hid (R2.out.belowB HB2.out (fun h => by have := R2.out.ri.lt (by rw [ints_length]; exact h); omega))
  go_loopw [4, 15] (fun v i wr => ∃ k : Nat, k ≤ la ∧ i = .int .i64 k ∧ OfW ds w2.heap.size k w2 v wr) (fun _ i _ => la - (intOf i).toNat)
  case atStart => exact ⟨0, Nat.zero_le _, rfl, Own.nil _ _ _, Below.refl _ _⟩
  case round =>
    obtain ⟨i, hi, rfl, hO, hbl⟩ := hrel
    have hbz := hbl.size
    have hSo : IsS u4 := hO.isS
    have HO := Lib.hid hO
    clear hO hy2 hx hy
    by_cases hia : i < la
    · have ca := (hR2d.out.below hbl).cell i (by rw [← Hla.out]; exact hia)
      obtain ⟨d, hd⟩ : ∃ d, d = ds.getD i 0 := ⟨_, rfl⟩
      rw [← hd] at ca
      have Hd := Lib.hid hd
      clear hd
      have hlk : (cellsW (ds.take i)).length = i := by rw [cellsW_length]; have := Hla.out; simp; omega
      have Hlk := Lib.hid hlk
      clear hlk
      go_wp2_with (at_builtin; refine wpList_append_O rfl _ _ _ _ rfl elemW w2.heap.size _ _ rfl (HO.out.alloc _) _ rfl 1 [.int .u64 (d : Int)] (srcOne Tryz.underlying107 wr _ _) ?c3 ?c4 ?c5 ?_)
      case c3 => rw [Hlk.out]; unfold maxLen; omega
      case c4 => rw [Hlk.out]; omega
      case c5 => simp; omega
      rintro v1 w1 ho1 hb1 - - -
      have hs := OfW.step (by rw [← Hla.out]; exact hia) (by rw [← Hd.out]; exact ho1) ((hbl.alloc hbz _).trans hb1)
      have Hs := Lib.hid hs
      clear hs ho1
      go_wp2
      go_roundw
      case rel => exact ⟨i + 1, by omega, by go_num, Hs.out⟩
      case measure => simp [intOf]; omega
    · have hil : i = la := by omega
      subst hil
      have hfull : ds.take i = ds := List.take_of_length_le (by rw [Hla.out]; exact Nat.le_refl _)
      have ho := HO.out
      rw [hfull] at ho
      have Ho := Lib.hid ho
      have Hrw := Lib.hid (ho.rw' R2.out.lt)
      have hsep0 : ∀ v1 v2, w2.heap[W.heap.size]? = some (.cells #[.bool (b && decide (0 < wv ns)), v1, .bool false, v2] 112 (0, 0)) → Own w2 W.heap.size 116 v1 (cellsW (wds (wv ns))) → 0 < sCap v1 → sBlk v1 < w2.heap.size := fun v1 v2 _ ho hc => (ho.lt hc).2
      obtain ⟨a1, a2, hA, hrow0, hoA0, hoB0⟩ := HR2.out
      have hsep := hsep0 a1 a2 hrow0 hoA0
      have hrow := keep_row hbl hrow0
      have hoA := hoA0.below hbl
      have hoB := hoB0.below hbl
      have hcu := Ho.out.isS
      have hub : 0 < sCap u4 → w2.heap.size ≤ sBlk u4 := fun h => (Ho.out.lt h).1
      clear hsep0 hrow0 hoA0 hoB0
      have hSa := hoB.isS
      have hLa : 0 < sLen a2 := by rw [hoB.len, cellsW_length, wds_one]; decide
      have k3 := row_at (i := 3) hrow rfl
      have k2 := row_at (i := 2) hrow rfl
      have HRow := Lib.hid hrow
      have HA := Lib.hid hoA
      clear hfull ho hrow hoA hoB
      go_wp2_with fail
      refine (ratDenom W.heap.size a2 wr k3.1 hSa hLa).mono ?_
      rintro _ _ ⟨rfl, rfl⟩
      go_wp2_with fail
      refine (intSetBits W.heap.size 2 (.bool false) a2 u4 ds wr k2 k3 Hrw.out (by rw [← Hla.out]; omega)).mono ?_
      rintro _ w3 ⟨rfl, hw3⟩
      have q1 := rowset (i := 2 + 1) (subS u4 0 (nw (wv ds))) HRow.out
      have q2 := rowset (i := 2) (.bool false) q1
      have hgs : W.heap.size ≤ w2.heap.size := HB2.out.size
      have o1 := (HA.out.away HRow.out (by decide) (2 + 1) (subS u4 0 (nw (wv ds)))).away q1 (by decide) 2 (.bool false)
      have o2 := (((Ho.out.takeW R2.out.lt).away HRow.out (by decide) (2 + 1) (subS u4 0 (nw (wv ds)))).away q1 (by decide) 2 (.bool false)).mono hgs
      have bb := bset (i := 2) (u := .bool false) (bset (i := 2 + 1) (u := subS u4 0 (nw (wv ds))) (HB2.out.trans (hbl.mono hgs)) (Nat.le_refl _)) (Nat.le_refl _)
      have bW := hab.trans (bb.mono hWs)
      have fin : RatQ w3 w.heap.size W.heap.size (b && decide (0 < wv ns)) (wv ns) (wv ds) := by
        rw [hw3]
        refine ⟨a1, _, hWs, q2, o1.mono hWs, o2.mono hWs, fun h1 h2 => ?_⟩
        rw [subS_cap hcu] at h2
        rw [subS_blk hcu]
        have k1 := hsep h1
        have k2 := hub (by omega)
        omega
      rw [← hw3] at bW
      have F := Lib.hid fin
      have BW := Lib.hid bW
      clear hw3 q1 q2 o1 o2 bb fin bW k2 k3
      go_wp2
      go_ret
      exact ⟨W.heap.size, rfl, F.out, BW.out⟩
set_option maxRecDepth 100000 in
theorem newInt0 (w : World) :
    Calls Tryz.prog 161 #[.int .i64 0] w fun e w' => e = .returned (.pointer (some ⟨w.heap.size, 0, none⟩)) ∧ w' = w.alloc (.cells #[.bool false, .slice none 0 0] 110) := by
  go_enter Tryz.func161, Tryz.ntmps161
  go_wp2
  go_ret
  exact ⟨rfl, rfl⟩
set_option maxRecDepth 100000 in
theorem intOne_any (w : World) :
    Calls Tryz.prog 164 #[] w fun e w' => e = .returned (.pointer (some ⟨w.heap.size + 1, 0, none⟩)) ∧ w' = (w.alloc (.cells #[.int .u64 1] 116)).alloc (.cells #[.bool false, .slice (some ⟨w.heap.size, 0, none⟩) 1 1] 110) := by
  go_enter Tryz.func164, Tryz.ntmps164
  go_wp2
  go_ret
  exact ⟨by simp, by simp⟩
set_option maxRecDepth 100000 in
set_option maxHeartbeats 1600000 in
theorem norm_zero (g B : Nat) (n m : Bool) (va vb : Value) (zb : List Value) (w : World) (row : w.heap[g]? = some (.cells #[.bool n, va, .bool m, vb] 112 (0, 0))) (hSa : IsS va) (la : sLen va = 0) (hb : Own w B 116 vb zb) (hB : B ≤ w.heap.size) :
    Calls Tryz.prog 125 #[.pointer (some ⟨g, 0, none⟩)] w fun e w' => e = .returned (.pointer (some ⟨g, 0, none⟩)) ∧ ∃ r w1, NatR vb r 1 B (w.setCell ⟨g, 0, none⟩ (.bool false)) w1 ∧ w' = w1.setCell ⟨g, 3, none⟩ r := by
  have c0 := row_at (i := 0) row rfl
  have c1 := row_at (i := 1) row rfl
  have c3 := row_at (i := 3) row rfl
  obtain ⟨c0, f0⟩ := c0
  obtain ⟨c1, f1⟩ := c1
  obtain ⟨c3, f3⟩ := c3
  have row2 := rowset (i := 0) (.bool false) row
  have ho : Own (w.setCell ⟨g, 0, none⟩ (.bool false)) B 116 vb zb := hb.away row (by decide) 0 _
  have hSb := hb.isS
  have HS := Lib.hid (setWord_gen vb zb 1 B _ ho (by decide) (by simpa using hB))
  have HK : Hid (∀ r w1, NatR vb r 1 B (w.setCell ⟨g, 0, none⟩ (.bool false)) w1 → w1.cell? ⟨g, 3, none⟩ = some vb ∧ w1.frozen? ⟨g, 3, none⟩ = false) := Lib.hid (fun r w1 hr => by
    have h1 := (hr.fr g (get_lt row2) (fun hc => ho.neRow row2 (by decide) hc)).trans row2
    exact row_at (i := 3) h1 rfl)
  clear row row2 ho hb hB
  go_enter_defers Tryz.func125, Tryz.ntmps125
  go_wp2_with fail
  refine HS.out.mono ?_
  rintro _ w1 ⟨r, rfl, hr⟩
  obtain ⟨k3, e3⟩ := HK.out r w1 hr
  have hSr := hr.own.isS
  have HR := Lib.hid hr
  clear hr
  go_wp2
  simp [bodyPostD, Leaves, results, Tryz.results125, go_sem]
  exact ⟨r, w1, HR.out, rfl⟩
end Go.Proofs.YtllhnjpnkmjopaaGreatDoor
