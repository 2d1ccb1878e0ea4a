/-
Texts of this proof, joined: GcA GcF MuX DdG DdH. No condition.
-/
import Derived.Test.YtdepidpgbgfjlaaGreatDoorK03
import Derived.Test.YtdepidpgbgfjlaaGreatDoorK10
import Derived.Test.YtdepidpgbgfjlaaGreatDoorK14
import Derived.Test.YtdepidpgbgfjlaaGreatDoorK15
import Derived.Test.YtdepidpgbgfjlaaGreatDoorK17
namespace Go.Proofs.YtdepidpgbgfjlaaGreatDoor
open Go.RowKit

theorem collins_t {A B a b K al be u0 u1 v0 v1 xp x : Nat} (hA : A = a * K + al) (hB : B = b * K + be) (h1 : al < K) (h2 : be < K)
    (e1 : xp + v0 * b = u0 * a) (e2 : x + u1 * a = v1 * b) (c1 : v1 ≤ x) (c2 : v0 + v1 + x ≤ xp) (hu1 : u1 ≤ v1) (hv : 0 < v1) :
    v0 * B ≤ u0 * A ∧ u1 * A ≤ v1 * B ∧ v1 * B - u1 * A < u0 * A - v0 * B := by
  have p1 : u0 * A = xp * K + v0 * b * K + u0 * al := by rw [hA, Nat.mul_add, ← Nat.mul_assoc, ← e1, Nat.add_mul]
  have p2 : v0 * B = v0 * b * K + v0 * be := by rw [hB, Nat.mul_add, ← Nat.mul_assoc]
  have p3 : v1 * B = x * K + u1 * a * K + v1 * be := by rw [hB, Nat.mul_add, ← Nat.mul_assoc, ← e2, Nat.add_mul]
  have p4 : u1 * A = u1 * a * K + u1 * al := by rw [hA, Nat.mul_add, ← Nat.mul_assoc]
  have q1 : v0 * be ≤ v0 * K := Nat.mul_le_mul_left _ (Nat.le_of_lt h2)
  have q2 : v1 * be < v1 * K := (Nat.mul_lt_mul_left hv).2 h2
  have q3 : u1 * al ≤ u1 * K := Nat.mul_le_mul_left _ (Nat.le_of_lt h1)
  have q4 : u1 * K ≤ v1 * K := Nat.mul_le_mul_right _ hu1
  have q5 : v1 * K ≤ x * K := Nat.mul_le_mul_right _ c1
  have q6 : (v0 + v1 + x) * K ≤ xp * K := Nat.mul_le_mul_right _ c2
  rw [Nat.add_mul, Nat.add_mul] at q6
  omega
theorem collins_f {A B a b K al be u0 u1 v0 v1 xp x : Nat} (hA : A = a * K + al) (hB : B = b * K + be) (h1 : al < K) (h2 : be < K)
    (e1 : xp + u0 * a = v0 * b) (e2 : x + v1 * b = u1 * a) (c1 : v1 ≤ x) (c2 : v0 + v1 + x ≤ xp) (hu0 : u0 ≤ v0) (hu1 : u1 ≤ v1) (hv : 0 < v1) :
    u0 * A ≤ v0 * B ∧ v1 * B ≤ u1 * A ∧ u1 * A - v1 * B < v0 * B - u0 * A := by
  have p1 : v0 * B = xp * K + u0 * a * K + v0 * be := by rw [hB, Nat.mul_add, ← Nat.mul_assoc, ← e1, Nat.add_mul]
  have p2 : u0 * A = u0 * a * K + u0 * al := by rw [hA, Nat.mul_add, ← Nat.mul_assoc]
  have p3 : u1 * A = x * K + v1 * b * K + u1 * al := by rw [hA, Nat.mul_add, ← Nat.mul_assoc, ← e2, Nat.add_mul]
  have p4 : v1 * B = v1 * b * K + v1 * be := by rw [hB, Nat.mul_add, ← Nat.mul_assoc]
  have q1 : u0 * al ≤ v0 * al := Nat.mul_le_mul_right _ hu0
  have q1' : v0 * al ≤ v0 * K := Nat.mul_le_mul_left _ (Nat.le_of_lt h1)
  have q2 : u1 * al ≤ v1 * al := Nat.mul_le_mul_right _ hu1
  have q2' : v1 * al < v1 * K := (Nat.mul_lt_mul_left hv).2 h1
  have q3 : v1 * be ≤ v1 * K := Nat.mul_le_mul_left _ (Nat.le_of_lt h2)
  have q5 : v1 * K ≤ x * K := Nat.mul_le_mul_right _ c1
  have q6 : (v0 + v1 + x) * K ≤ xp * K := Nat.mul_le_mul_right _ c2
  rw [Nat.add_mul, Nat.add_mul] at q6
  omega
structure Smaller (A B A' B' : Nat) : Prop where
  lt : B' < A'
  less : B' < B
  top : A' ≤ B
  dvd : ∀ d, (d ∣ A ∧ d ∣ B) ↔ (d ∣ A' ∧ d ∣ B')
theorem Smaller.of {A B A' B' u0 u1 v0 v1 : Nat} (hA : A = v1 * A' + v0 * B') (hB : B = u1 * A' + u0 * B') (hlt : B' < A') (hu : 0 < u1)
    (hd : ∀ d, d ∣ A → d ∣ B → d ∣ A' ∧ d ∣ B') : Smaller A B A' B' := by
  have h1 : A' ≤ B := by
    rw [hB]; exact Nat.le_trans (Nat.le_mul_of_pos_left _ hu) (Nat.le_add_right _ _)
  refine ⟨hlt, by omega, h1, fun d => ⟨fun h => hd d h.1 h.2, fun h => ⟨?_, ?_⟩⟩⟩
  · rw [hA]; exact Nat.dvd_add (Nat.dvd_mul_left_of_dvd h.1 _) (Nat.dvd_mul_left_of_dvd h.2 _)
  · rw [hB]; exact Nat.dvd_add (Nat.dvd_mul_left_of_dvd h.1 _) (Nat.dvd_mul_left_of_dvd h.2 _)
theorem cross {A B A' B' u0 u1 v0 v1 : Nat} (h1 : A' + v0 * B = u0 * A) (h2 : B' + u1 * A = v1 * B) (hd : u0 * v1 = 1 + u1 * v0) :
    A = v1 * A' + v0 * B' ∧ B = u1 * A' + u0 * B' := by
  have i1 : (A' : Int) = u0 * A - v0 * B := by have := congrArg (Int.ofNat) h1; simp at this; omega
  have i2 : (B' : Int) = v1 * B - u1 * A := by have := congrArg (Int.ofNat) h2; simp at this; omega
  have i3 : (u0 : Int) * v1 = 1 + u1 * v0 := by have := congrArg (Int.ofNat) hd; simpa using this
  constructor
  · have : (A : Int) = v1 * A' + v0 * B' := by rw [i1, i2]; grind
    exact_mod_cast this
  · have : (B : Int) = u1 * A' + u0 * B' := by rw [i1, i2]; grind
    exact_mod_cast this
theorem dvd_of_sum {d a b c : Nat} (h : a + b = c) (hb : d ∣ b) (hc : d ∣ c) : d ∣ a := (Nat.dvd_add_left hb).1 (h ▸ hc)
def Lead (A B u0 u1 v0 v1 : Nat) (ev : Bool) : Prop :=
  v0 = 0 ∨ (0 < v0 ∧ 0 < u1 ∧ ∃ A' B', Smaller A B A' B' ∧ (if ev then A' + v0 * B = u0 * A ∧ B' + u1 * A = v1 * B else A' + u0 * A = v0 * B ∧ B' + v1 * B = u1 * A))
structure Sim (a b x y u0 u1 u2 v0 v1 v2 : Nat) (ev : Bool) : Prop where
  ha : a = v2 * x + v1 * y
  hb : b = u2 * x + u1 * y
  sgn : if ev then x + u1 * a = v1 * b ∧ y + v2 * b = u2 * a ∧ u2 * v1 = 1 + u1 * v2 else x + v1 * b = u1 * a ∧ y + u2 * a = v2 * b ∧ u1 * v2 = 1 + u2 * v1
  yx : y ≤ x
  u2v2 : u2 ≤ v2
  v2 : 0 < v2
  one : 0 < u1 + u2
  u1v1 : v1 = 0 ∨ (u1 ≤ v1 ∧ 0 < u2)
  zero : v1 = 0 → u2 = 0
  cert : v0 = 0 ∨ (u0 ≤ v0 ∧ 0 < u1 ∧ 0 < v1 ∧ u1 ≤ v1 ∧ ∃ xp, v1 ≤ x ∧ v0 + v1 + x ≤ xp ∧
    (if ev then xp + v0 * b = u0 * a ∧ u0 * v1 = 1 + u1 * v0 else xp + u0 * a = v0 * b ∧ u1 * v0 = 1 + u0 * v1))
theorem Sim.start {a b : Nat} (h : b ≤ a) : Sim a b a b 0 1 0 0 0 1 false :=
  ⟨by simp, by simp, by simp, h, by decide, by decide, by decide, .inl rfl, fun _ => rfl, .inl rfl⟩
theorem Sim.step {a b x y u0 u1 u2 v0 v1 v2 q r : Nat} {ev : Bool} (h : Sim a b x y u0 u1 u2 v0 v1 v2 ev) (c1 : v2 ≤ y) (c2 : v1 + v2 ≤ x - y) (hx : x = q * y + r) (hr : r < y) :
    Sim a b y r u1 u2 (u1 + q * u2) v1 v2 (v1 + q * v2) (!ev) := by
  have hq : 0 < q := by
    rcases Nat.eq_zero_or_pos q with h0 | h0
    · rw [h0, Nat.zero_mul] at hx; have := h.yx; omega
    · exact h0
  have hq2 : v2 ≤ q * v2 := Nat.le_mul_of_pos_left _ hq
  have hq3 : u2 ≤ q * u2 := Nat.le_mul_of_pos_left _ hq
  have e1 := h.ha
  have e2 := h.hb
  have h2 := h.sgn
  have hv2 := h.v2
  have hone := h.one
  have huv : q * u2 ≤ q * v2 := Nat.mul_le_mul_left _ h.u2v2
  refine ⟨?_, ?_, ?_, Nat.le_of_lt hr, ?_, by omega, by omega, .inr ⟨h.u2v2, by omega⟩, fun h0 => by omega, ?_⟩
  · rw [e1, hx]; grind
  · rw [e2, hx]; grind
  · cases ev with
    | true =>
      obtain ⟨s1, s2, s3⟩ := h2
      refine ⟨s2, ?_, ?_⟩
      · have : (r : Int) + (u1 + q * u2 : Nat) * a = (v1 + q * v2 : Nat) * b := by
          have t1 : (x : Int) + u1 * a = v1 * b := by exact_mod_cast s1
          have t2 : (y : Int) + v2 * b = u2 * a := by exact_mod_cast s2
          have t3 : (x : Int) = q * y + r := by exact_mod_cast hx
          push_cast
          grind
        exact_mod_cast this
      · have : ((u2 : Int)) * (v1 + q * v2 : Nat) = 1 + (u1 + q * u2 : Nat) * v2 := by
          have t3 : (u2 : Int) * v1 = 1 + u1 * v2 := by exact_mod_cast s3
          push_cast
          grind
        exact_mod_cast this
    | false =>
      obtain ⟨s1, s2, s3⟩ := h2
      refine ⟨s2, ?_, ?_⟩
      · have : (r : Int) + (v1 + q * v2 : Nat) * b = (u1 + q * u2 : Nat) * a := by
          have t1 : (x : Int) + v1 * b = u1 * a := by exact_mod_cast s1
          have t2 : (y : Int) + u2 * a = v2 * b := by exact_mod_cast s2
          have t3 : (x : Int) = q * y + r := by exact_mod_cast hx
          push_cast
          grind
        exact_mod_cast this
      · have : ((u1 + q * u2 : Nat) : Int) * v2 = 1 + u2 * (v1 + q * v2 : Nat) := by
          have t3 : (u1 : Int) * v2 = 1 + u2 * v1 := by exact_mod_cast s3
          push_cast
          grind
        exact_mod_cast this
  · rcases h.u1v1 with h0 | h0
    · have hu2 := h.zero h0
      have hs : u1 ≤ q * v2 := by
        have : u1 ≤ 1 := by
          cases ev with
          | true => obtain ⟨-, -, s3⟩ := h2; rw [hu2] at s3; omega
          | false =>
            obtain ⟨-, -, s3⟩ := h2
            rw [hu2, Nat.zero_mul] at s3
            have := Nat.le_mul_of_pos_right u1 hv2
            omega
        omega
      rw [hu2, Nat.mul_zero]; omega
    · omega
  · rcases Nat.eq_zero_or_pos v1 with h0 | h0
    · exact .inl h0
    · right
      have h3 := h.u1v1.resolve_left (by omega)
      refine ⟨h3.1, h3.2, hv2, h.u2v2, x, c1, by omega, ?_⟩
      cases ev with
      | true => obtain ⟨s1, s2, s3⟩ := h2; exact ⟨s1, s3⟩
      | false => obtain ⟨s1, s2, s3⟩ := h2; exact ⟨s1, s3⟩
theorem Sim.bd {a b x y u0 u1 u2 v0 v1 v2 : Nat} {ev : Bool} (h : Sim a b x y u0 u1 u2 v0 v1 v2 ev) (hx : 0 < x) (hba : b ≤ a) : v2 ≤ a ∧ u2 ≤ a ∧ (0 < y → v1 + v2 ≤ a ∧ u1 + u2 ≤ a ∧ u1 ≤ a) := by
  have h1 := h.ha
  have h2 := h.hb
  have p1 : v2 ≤ v2 * x := Nat.le_mul_of_pos_right _ hx
  have p2 : u2 ≤ u2 * x := Nat.le_mul_of_pos_right _ hx
  refine ⟨by omega, by omega, fun hy => ?_⟩
  have p3 : v1 ≤ v1 * y := Nat.le_mul_of_pos_right _ hy
  have p4 : u1 ≤ u1 * y := Nat.le_mul_of_pos_right _ hy
  omega
theorem Sim.lead {A B a b K al be x y u0 u1 u2 v0 v1 v2 : Nat} {ev : Bool} (h : Sim a b x y u0 u1 u2 v0 v1 v2 ev) (hA : A = a * K + al) (hB : B = b * K + be) (h1 : al < K) (h2 : be < K) :
    Lead A B u0 u1 v0 v1 ev := by
  rcases h.cert with h0 | ⟨g1, g2, g3, g4, xp, c1, c2, g5⟩
  · exact .inl h0
  rcases Nat.eq_zero_or_pos v0 with h0 | h0
  · exact .inl h0
  refine .inr ⟨h0, g2, ?_⟩
  have hs := h.sgn
  cases ev with
  | true =>
    obtain ⟨s1, -, -⟩ := hs
    obtain ⟨e1, hd⟩ := g5
    obtain ⟨k1, k2, k3⟩ := collins_t hA hB h1 h2 e1 s1 c1 c2 g4 g3
    have m1 : u0 * A - v0 * B + v0 * B = u0 * A := Nat.sub_add_cancel k1
    have m2 : v1 * B - u1 * A + u1 * A = v1 * B := Nat.sub_add_cancel k2
    obtain ⟨n1, n2⟩ := cross m1 m2 hd
    exact ⟨_, _, .of n1 n2 k3 g2 (fun d d1 d2 => ⟨dvd_of_sum m1 (Nat.dvd_mul_left_of_dvd d2 _) (Nat.dvd_mul_left_of_dvd d1 _), dvd_of_sum m2 (Nat.dvd_mul_left_of_dvd d1 _) (Nat.dvd_mul_left_of_dvd d2 _)⟩), m1, m2⟩
  | false =>
    obtain ⟨s1, -, -⟩ := hs
    obtain ⟨e1, hd⟩ := g5
    obtain ⟨k1, k2, k3⟩ := collins_f hA hB h1 h2 e1 s1 c1 c2 g1 g4 g3
    have m1 : v0 * B - u0 * A + u0 * A = v0 * B := Nat.sub_add_cancel k1
    have m2 : u1 * A - v1 * B + v1 * B = u1 * A := Nat.sub_add_cancel k2
    obtain ⟨n1, n2⟩ := cross (A := B) (B := A) (u0 := v0) (u1 := v1) (v0 := u0) (v1 := u1) m1 m2 (by rw [Nat.mul_comm v0, hd, Nat.mul_comm u0])
    exact ⟨_, _, .of n2 n1 k3 g2 (fun d d1 d2 => ⟨dvd_of_sum m1 (Nat.dvd_mul_left_of_dvd d1 _) (Nat.dvd_mul_left_of_dvd d2 _), dvd_of_sum m2 (Nat.dvd_mul_left_of_dvd d2 _) (Nat.dvd_mul_left_of_dvd d1 _)⟩), m1, m2⟩
structure Bx (w : World) (B b : Nat) (neg : Bool) (v : Value) (zs : List Value) : Prop where
  le : B ≤ b
  row : w.heap[b]? = some (.cells #[.bool neg, v] 123 (0, 0))
  own : Own w B 164 v zs
def Sep (v u : Value) : Prop := 0 < sCap v → 0 < sCap u → sBlk v ≠ sBlk u
theorem Sep.symm {v u : Value} (h : Sep v u) : Sep u v := fun a b he => h b a he.symm
theorem IntRo.box {b : Nat} {zneg : Bool} {v vz : Value} {neg : Bool} {N B : Nat} {w w' : World} (h : IntRo b 0 #[.bool zneg, v] 123 vz neg N B w w') : IntR b vz neg N B w w' := by
  obtain ⟨r, h1, h2, h3⟩ := h.row
  exact ⟨⟨r, h1, h2, h3⟩, h.below, h.fr⟩
theorem Bx.keep {w w' : World} {B b c : Nat} {n neg zneg : Bool} {v vz : Value} {ys zs : List Value} {N : Nat} (hc : Bx w B c n v ys) (hb : Bx w B b zneg vz zs) (h : IntR b vz neg N B w w') (hne : c ≠ b) (hs : Sep v vz) : Bx w' B c n v ys := by
  refine ⟨hc.le, (h.fr c (get_lt hc.row) hne (fun hz => hb.own.neRow hc.row (by decide) hz)).trans hc.row, hc.own.same fun hv => h.fr _ (hc.own.lt hv).2 (fun he => hc.own.neRow hb.row (by decide) hv he.symm) (fun hz => hs hv hz)⟩
theorem Bx.made {w w' : World} {B b : Nat} {neg zneg : Bool} {vz : Value} {zs : List Value} {N : Nat} (hb : Bx w B b zneg vz zs) (h : IntR b vz neg N B w w') : ∃ r, Bx w' B b neg r (cellsW (wds N)) ∧ ∀ {c : Nat} {n : Bool} {v : Value} {ys : List Value}, Bx w B c n v ys → Sep v vz → Sep v r := by
  obtain ⟨r, h1, h2, h3⟩ := h.row
  refine ⟨r, ⟨hb.le, h1, h2⟩, fun hc hs hv hr he => ?_⟩
  rcases h3 hr with ⟨a, e⟩ | a
  · exact hs hv a (he.trans e)
  · have := (hc.own.lt hv).2; omega
theorem Bx.ro {w : World} {B b N : Nat} {neg : Bool} {v : Value} (h : Bx w B b neg v (cellsW (wds N))) : RO w v (wds N) := h.own.ro fun _ hd => wds_lt hd
structure Quad (w : World) (B a b q r : Nat) (ma mb mq mr : Bool) (va vb vq vr : Value) (za zb zq zr : List Value) : Prop where
  ba : Bx w B a ma va za
  bb : Bx w B b mb vb zb
  bq : Bx w B q mq vq zq
  br : Bx w B r mr vr zr
  sab : Sep va vb
  saq : Sep va vq
  sar : Sep va vr
  sbq : Sep vb vq
  sbr : Sep vb vr
  sqr : Sep vq vr
  nab : a ≠ b
  naq : a ≠ q
  nar : a ≠ r
  nbq : b ≠ q
  nbr : b ≠ r
  nqr : q ≠ r
theorem Sep.al {v u : Value} (h : Sep v u) (hu : IsS u) (hl : 0 < sLen u) : Al v u := fun hv he => absurd he.symm (h hv (by have := hu.le; omega))
theorem Al.self (v : Value) : Al v v := fun _ _ => rfl
theorem Quad.turn {w : World} {B a b q r : Nat} {ma mb mq mr : Bool} {va vb vq vr : Value} {za zb zq zr : List Value} (h : Quad w B a b q r ma mb mq mr va vb vq vr za zb zq zr) : Quad w B b q r a mb mq mr ma vb vq vr va zb zq zr za :=
  ⟨h.bb, h.bq, h.br, h.ba, h.sbq, h.sbr, h.sab.symm, h.sqr, h.saq.symm, h.sar.symm, h.nbq, h.nbr, h.nab.symm, h.nqr, h.naq.symm, h.nar.symm⟩
theorem Quad.put {w w' : World} {B a b q r : Nat} {ma mb mq mr : Bool} {va vb vq vr : Value} {za zb zq zr : List Value} {neg : Bool} {N : Nat} (h : Quad w B a b q r ma mb mq mr va vb vq vr za zb zq zr) (hw : IntR a va neg N B w w') :
    ∃ v, Quad w' B a b q r neg mb mq mr v vb vq vr (cellsW (wds N)) zb zq zr := by
  obtain ⟨v, h1, h2⟩ := h.ba.made hw
  exact ⟨v, h1, h.bb.keep h.ba hw h.nab.symm h.sab.symm, h.bq.keep h.ba hw h.naq.symm h.saq.symm, h.br.keep h.ba hw h.nar.symm h.sar.symm,
    (h2 h.bb h.sab.symm).symm, (h2 h.bq h.saq.symm).symm, (h2 h.br h.sar.symm).symm, h.sbq, h.sbr, h.sqr, h.nab, h.naq, h.nar, h.nbq, h.nbr, h.nqr⟩
theorem mul_lead {A' B' A B u0 u1 v0 v1 : Nat} {ev : Bool} (hlt : B' < A') (h : if ev then A' + v0 * B = u0 * A ∧ B' + u1 * A = v1 * B else A' + u0 * A = v0 * B ∧ B' + v1 * B = u1 * A) :
    addM (!ev) (A * u0) ev (B * v0) = A' ∧ (decide (0 < addM (!ev) (A * u0) ev (B * v0)) && addN (!ev) (A * u0) ev (B * v0)) = false ∧ addM (!ev) (B * v1) ev (A * u1) = B' ∧ (decide (0 < addM (!ev) (B * v1) ev (A * u1)) && addN (!ev) (B * v1) ev (A * u1)) = false := by
  cases ev with
  | true =>
    obtain ⟨h1, h2⟩ := h
    rw [Nat.mul_comm v0, Nat.mul_comm u0] at h1
    rw [Nat.mul_comm u1, Nat.mul_comm v1] at h2
    have l1 : B * v0 ≤ A * u0 := by omega
    have l2 : A * u1 ≤ B * v1 := by omega
    simp only [addM, addN, Bool.not_true, if_neg (show ¬ false = true by decide), if_pos l1, if_pos l2, Bool.and_false]
    exact ⟨by omega, trivial, by omega, trivial⟩
  | false =>
    obtain ⟨h1, h2⟩ := h
    rw [Nat.mul_comm v0, Nat.mul_comm u0] at h1
    rw [Nat.mul_comm u1, Nat.mul_comm v1] at h2
    have l1 : ¬ B * v0 ≤ A * u0 := by omega
    simp only [addM, addN, Bool.not_false, if_neg (show ¬ true = false by decide), if_neg l1, Bool.not_true, Bool.and_false]
    refine ⟨by omega, trivial, ?_⟩
    by_cases l2 : A * u1 ≤ B * v1
    · rw [if_pos l2, if_pos l2]
      have h3 : B * v1 - A * u1 = 0 := by omega
      rw [h3]
      exact ⟨by omega, by simp⟩
    · rw [if_neg l2, if_neg l2]
      exact ⟨by omega, by simp⟩
theorem Quad.mul1 {w : World} {B a b q r X y : Nat} {ma mb mq mr neg : Bool} {va vb vq vr : Value} {za zb zq zr : List Value} (h : Quad w B a b q r ma mb mq mr va vb vq vr za zb zq zr) (hz : za = cellsW (wds X)) (_hX0 : 0 < X) (hX : nw X ≤ 100000000) (hy : y < 18446744073709551616) :
    Calls Tryz.prog 229 #[.pointer (some ⟨a, 0, none⟩), .pointer (some ⟨a, 0, none⟩), .bool neg, .int .u64 y] w fun e w' => e = .returned (.tuple #[]) ∧ (∃ v, Quad w' B a b q r (ma != neg) mb mq mr v vb vq vr (cellsW (wds (X * y))) zb zq zr) ∧ Below B w w' := by
  subst hz
  refine (mulW_any a a ma ma neg va va _ X y B w h.ba.row h.ba.row h.ba.own h.ba.ro (Al.self _) hy hX h.ba.le).mono ?_
  rintro e w' ⟨h1, h2⟩
  exact ⟨h1, h.put h2, h2.below⟩
theorem Quad.mul4 {w : World} {B a b q r X y : Nat} {ma mb mq mr neg : Bool} {va vb vq vr : Value} {za zb zq zr : List Value} (h : Quad w B a b q r ma mb mq mr va vb vq vr za zb zq zr) (hz : zr = cellsW (wds X)) (hX0 : 0 < X) (hX : nw X ≤ 100000000) (hy : y < 18446744073709551616) :
    Calls Tryz.prog 229 #[.pointer (some ⟨a, 0, none⟩), .pointer (some ⟨r, 0, none⟩), .bool neg, .int .u64 y] w fun e w' => e = .returned (.tuple #[]) ∧ (∃ v, Quad w' B a b q r (mr != neg) mb mq mr v vb vq vr (cellsW (wds (X * y))) zb zq zr) ∧ Below B w w' := by
  subst hz
  refine (mulW_any a r ma mr neg va vr za X y B w h.ba.row h.br.row h.ba.own h.br.ro  (h.sar.al h.br.own.isS (by rw [h.br.own.len, cellsW_length, wds_length]; exact nw_pos hX0)) hy hX h.ba.le).mono ?_
  rintro e w' ⟨h1, h2⟩
  exact ⟨h1, h.put h2, h2.below⟩
theorem Quad.mul2 {w : World} {B a b q r X y : Nat} {ma mb mq mr neg : Bool} {va vb vq vr : Value} {za zb zq zr : List Value} (h : Quad w B a b q r ma mb mq mr va vb vq vr za zb zq zr) (hz : zb = cellsW (wds X)) (hX0 : 0 < X) (hX : nw X ≤ 100000000) (hy : y < 18446744073709551616) :
    Calls Tryz.prog 229 #[.pointer (some ⟨a, 0, none⟩), .pointer (some ⟨b, 0, none⟩), .bool neg, .int .u64 y] w fun e w' => e = .returned (.tuple #[]) ∧ (∃ v, Quad w' B a b q r (mb != neg) mb mq mr v vb vq vr (cellsW (wds (X * y))) zb zq zr) ∧ Below B w w' := by
  subst hz
  refine (mulW_any a b ma mb neg va vb za X y B w h.ba.row h.bb.row h.ba.own h.bb.ro  (h.sab.al h.bb.own.isS (by rw [h.bb.own.len, cellsW_length, wds_length]; exact nw_pos hX0)) hy hX h.ba.le).mono ?_
  rintro e w' ⟨h1, h2⟩
  exact ⟨h1, h.put h2, h2.below⟩
theorem Quad.add3 {w : World} {B a b q r X Y : Nat} {ma mb mq mr : Bool} {va vb vq vr : Value} {za zb zq zr : List Value} (h : Quad w B a b q r ma mb mq mr va vb vq vr za zb zq zr) (hz : za = cellsW (wds X)) (hz2 : zq = cellsW (wds Y)) (hY0 : 0 < Y) (hX : nw X ≤ 1000000) (hY : nw Y ≤ 1000000) :
    Calls Tryz.prog 197 #[.pointer (some ⟨a, 0, none⟩), .pointer (some ⟨a, 0, none⟩), .pointer (some ⟨q, 0, none⟩)] w fun e w' => e = .returned (.pointer (some ⟨a, 0, none⟩)) ∧ (∃ v, Quad w' B a b q r (decide (0 < addM ma X mq Y) && addN ma X mq Y) mb mq mr v vb vq vr (cellsW (wds (addM ma X mq Y))) zb zq zr) ∧ Below B w w' := by
  subst hz hz2
  have hal : Al va vq := h.saq.al h.bq.own.isS (by rw [h.bq.own.len, cellsW_length, wds_length]; exact nw_pos hY0)
  refine (intAdd_any a 0 a 0 q 0 ma mq va va vq (.bool ma) _ X Y B _ _ _ _ _ _ w h.ba.row h.ba.row h.bq.row (by decide) rfl rfl rfl rfl rfl rfl h.ba.own h.ba.ro h.bq.ro (Al.self _) hal hX hY h.ba.le).mono ?_
  rintro e w' ⟨h1, h2⟩
  exact ⟨h1, h.put h2.box, h2.below⟩
theorem nw_mul_word {X y : Nat} (hy : y < 18446744073709551616) : nw (X * y) ≤ nw X + 1 := nw_le (by rw [Nat.pow_succ]; exact Nat.mul_lt_mul'' (lt_nw X) hy)
set_option maxRecDepth 100000 in
set_option maxHeartbeats 1600000 in
theorem lehmerUpdate_any (a b q r B X Y X' Y' u0 u1 v0 v1 : Nat) (ev mq mr : Bool) (va vb vq vr : Value) (zq zr : List Value) (w : World) (h : Quad w B a b q r false false mq mr va vb vq vr (cellsW (wds X)) (cellsW (wds Y)) zq zr)
    (hX0 : 0 < X) (hY0 : 0 < Y) (hX : nw X ≤ 1000) (hY : nw Y ≤ 1000) (h0 : u0 < 18446744073709551616) (h1 : u1 < 18446744073709551616) (h2 : v0 < 18446744073709551616) (h3 : v1 < 18446744073709551616) (hv0 : 0 < v0) (hu1 : 0 < u1) (hlt : Y' < X')
    (hl : if ev then X' + v0 * Y = u0 * X ∧ Y' + u1 * X = v1 * Y else X' + u0 * X = v0 * Y ∧ Y' + v1 * Y = u1 * X) :
    Calls Tryz.prog 227 #[.pointer (some ⟨a, 0, none⟩), .pointer (some ⟨b, 0, none⟩), .pointer (some ⟨q, 0, none⟩), .pointer (some ⟨r, 0, none⟩), .int .u64 u0, .int .u64 u1, .int .u64 v0, .int .u64 v1, .bool ev] w
      fun e w' => e = .returned (.tuple #[]) ∧ (∃ (mq' mr' : Bool) (va' vb' vq' vr' : Value) (zq' zr' : List Value), Quad w' B a b q r false false mq' mr' va' vb' vq' vr' (cellsW (wds X')) (cellsW (wds Y')) zq' zr') ∧ Below B w w' := by
  obtain ⟨e1, e2, e3, e4⟩ := mul_lead hlt hl
  have n1 : nw (Y * v0) ≤ 1001 := Nat.le_trans (nw_mul_word h2) (by omega)
  have n2 : nw (X * u1) ≤ 1001 := Nat.le_trans (nw_mul_word h1) (by omega)
  have n3 : nw (X * u0) ≤ 1001 := Nat.le_trans (nw_mul_word h0) (by omega)
  have n4 : nw (Y * v1) ≤ 1001 := Nat.le_trans (nw_mul_word h3) (by omega)
  have p1 : 0 < Y * v0 := Nat.mul_pos hY0 hv0
  have p2 : 0 < X * u1 := Nat.mul_pos hX0 hu1
  have H1 : Hid (Calls Tryz.prog 229 #[.pointer (some ⟨q, 0, none⟩), .pointer (some ⟨b, 0, none⟩), .bool ev, .int .u64 v0] w fun e w1 => e = .returned (.tuple #[]) ∧ (∃ v, Quad w1 B a b q r false false ev mr va vb v vr (cellsW (wds X)) (cellsW (wds Y)) (cellsW (wds (Y * v0))) zr) ∧ Below B w w1) := Lib.hid (by
    refine (h.turn.turn.mul4 rfl hY0 (by omega) h2).mono ?_
    rintro e w1 ⟨g1, ⟨v, g2⟩, g3⟩
    rw [Bool.false_bne] at g2
    exact ⟨g1, ⟨v, g2.turn.turn⟩, g3⟩)
  have H2 : Hid (∀ w1 v, Quad w1 B a b q r false false ev mr va vb v vr (cellsW (wds X)) (cellsW (wds Y)) (cellsW (wds (Y * v0))) zr → Calls Tryz.prog 229 #[.pointer (some ⟨r, 0, none⟩), .pointer (some ⟨a, 0, none⟩), .bool ev, .int .u64 u1] w1 fun e w2 => e = .returned (.tuple #[]) ∧ (∃ x, Quad w2 B a b q r false false ev ev va vb v x (cellsW (wds X)) (cellsW (wds Y)) (cellsW (wds (Y * v0))) (cellsW (wds (X * u1)))) ∧ Below B w1 w2) := Lib.hid (fun w1 v g => by
    refine (g.turn.turn.turn.mul2 rfl hX0 (by omega) h1).mono ?_
    rintro e w2 ⟨g1, ⟨x, g2⟩, g3⟩
    rw [Bool.false_bne] at g2
    exact ⟨g1, ⟨x, g2.turn⟩, g3⟩)
  have H3 : Hid (∀ w2 v x, Quad w2 B a b q r false false ev ev va vb v x (cellsW (wds X)) (cellsW (wds Y)) (cellsW (wds (Y * v0))) (cellsW (wds (X * u1))) → Calls Tryz.prog 229 #[.pointer (some ⟨a, 0, none⟩), .pointer (some ⟨a, 0, none⟩), .bool (!ev), .int .u64 u0] w2 fun e w3 => e = .returned (.tuple #[]) ∧ (∃ y, Quad w3 B a b q r (!ev) false ev ev y vb v x (cellsW (wds (X * u0))) (cellsW (wds Y)) (cellsW (wds (Y * v0))) (cellsW (wds (X * u1)))) ∧ Below B w2 w3) := Lib.hid (fun w2 v x g => by
    refine (g.mul1 rfl hX0 (by omega) h0).mono ?_
    rintro e w3 ⟨g1, ⟨y, g2⟩, g3⟩
    rw [Bool.false_bne] at g2
    exact ⟨g1, ⟨y, g2⟩, g3⟩)
  have H4 : Hid (∀ w3 v x y, Quad w3 B a b q r (!ev) false ev ev y vb v x (cellsW (wds (X * u0))) (cellsW (wds Y)) (cellsW (wds (Y * v0))) (cellsW (wds (X * u1))) → Calls Tryz.prog 229 #[.pointer (some ⟨b, 0, none⟩), .pointer (some ⟨b, 0, none⟩), .bool (!ev), .int .u64 v1] w3 fun e w4 => e = .returned (.tuple #[]) ∧ (∃ z, Quad w4 B a b q r (!ev) (!ev) ev ev y z v x (cellsW (wds (X * u0))) (cellsW (wds (Y * v1))) (cellsW (wds (Y * v0))) (cellsW (wds (X * u1)))) ∧ Below B w3 w4) := Lib.hid (fun w3 v x y g => by
    refine (g.turn.mul1 rfl hY0 (by omega) h3).mono ?_
    rintro e w4 ⟨g1, ⟨z, g2⟩, g3⟩
    rw [Bool.false_bne] at g2
    exact ⟨g1, ⟨z, g2.turn.turn.turn⟩, g3⟩)
  have H5 : Hid (∀ w4 v x y z, Quad w4 B a b q r (!ev) (!ev) ev ev y z v x (cellsW (wds (X * u0))) (cellsW (wds (Y * v1))) (cellsW (wds (Y * v0))) (cellsW (wds (X * u1))) → Calls Tryz.prog 197 #[.pointer (some ⟨a, 0, none⟩), .pointer (some ⟨a, 0, none⟩), .pointer (some ⟨q, 0, none⟩)] w4 fun e w5 => e = .returned (.pointer (some ⟨a, 0, none⟩)) ∧ (∃ s, Quad w5 B a b q r false (!ev) ev ev s z v x (cellsW (wds X')) (cellsW (wds (Y * v1))) (cellsW (wds (Y * v0))) (cellsW (wds (X * u1)))) ∧ Below B w4 w5) := Lib.hid (fun w4 v x y z g => by
    refine (g.add3 rfl rfl p1 (by omega) (by omega)).mono ?_
    rintro e w5 ⟨g1, ⟨s, g2⟩, g3⟩
    rw [e2, e1] at g2
    exact ⟨g1, ⟨s, g2⟩, g3⟩)
  have H6 : Hid (∀ w5 v x z s, Quad w5 B a b q r false (!ev) ev ev s z v x (cellsW (wds X')) (cellsW (wds (Y * v1))) (cellsW (wds (Y * v0))) (cellsW (wds (X * u1))) → Calls Tryz.prog 197 #[.pointer (some ⟨b, 0, none⟩), .pointer (some ⟨b, 0, none⟩), .pointer (some ⟨r, 0, none⟩)] w5 fun e w6 => e = .returned (.pointer (some ⟨b, 0, none⟩)) ∧ (∃ t, Quad w6 B a b q r false false ev ev s t v x (cellsW (wds X')) (cellsW (wds Y')) (cellsW (wds (Y * v0))) (cellsW (wds (X * u1)))) ∧ Below B w5 w6) := Lib.hid (fun w5 v x z s g => by
    refine (g.turn.add3 rfl rfl p2 (by omega) (by omega)).mono ?_
    rintro e w6 ⟨g1, ⟨t, g2⟩, g3⟩
    rw [e4, e3] at g2
    exact ⟨g1, ⟨t, g2.turn.turn.turn⟩, g3⟩)
  clear h hX0 hY0 hX hY h0 h1 h2 h3 hv0 hu1 hlt hl e1 e2 e3 e4 n1 n2 n3 n4 p1 p2
  go_enter Tryz.func227, Tryz.ntmps227
  go_wp2_with fail
  refine H1.out.mono ?_
  rintro _ w1 ⟨rfl, ⟨v, g1⟩, k1⟩
  go_wp2_with fail
  refine (H2.out w1 v g1).mono ?_
  rintro _ w2 ⟨rfl, ⟨x, g2⟩, k2⟩
  go_wp2_with fail
  refine (H3.out w2 v x g2).mono ?_
  rintro _ w3 ⟨rfl, ⟨y, g3⟩, k3⟩
  go_wp2_with fail
  refine (H4.out w3 v x y g3).mono ?_
  rintro _ w4 ⟨rfl, ⟨z, g4⟩, k4⟩
  go_wp2_with fail
  refine (H5.out w4 v x y z g4).mono ?_
  rintro _ w5 ⟨rfl, ⟨s, g5⟩, k5⟩
  go_wp2_with fail
  refine (H6.out w5 v x z s g5).mono ?_
  rintro _ w6 ⟨rfl, ⟨t, g6⟩, k6⟩
  go_wp2
  go_end0
  exact ⟨rfl, ⟨_, _, _, _, _, _, _, _, g6⟩, ((((k1.trans k2).trans k3).trans k4).trans k5).trans k6⟩
theorem Vv.srcd {v x : Value} {n B i Z : Nat} {xs : List Nat} {w wr : World} (h : Vv v n B i Z w wr) (hx : RW w x xs) (hal : sBlk x = sBlk v → sOff x + xs.length ≤ sOff v) {j : Nat} (hj : j < xs.length) : wr.cell? ⟨sBlk x, sOff x + j, none⟩ = some (.int .u64 ((xs.getD j 0 : Nat) : Int)) := by
  obtain ⟨os, ds, h1, h2, h3, h4, h5, h6, h7, h8⟩ := h
  exact h8.cell (hx.cell j hj) (fun hb => by have := hal hb; omega)
set_option maxRecDepth 100000 in
set_option maxHeartbeats 1600000 in
theorem mulAddVWW_g_dis (v x : Value) (os : List Value) (xs : List Nat) (y r B : Nat) (w : World) (ho : Own w B 164 v os) (hx : RW w x xs) (hlx : xs.length = os.length)
    (hax : sBlk x = sBlk v → sOff x + xs.length ≤ sOff v) (hy : y < 18446744073709551616) (hr : r < 18446744073709551616) (hl : os.length ≤ 1000000000) :
    Calls Tryz.prog 279 #[v, x, .int .u64 y, .int .u64 r] w fun e w' => ∃ c : Nat, e = .returned (.int .u64 c) ∧ (c < 18446744073709551616 ∧ wv xs * y + r = wv (wdsN (wv xs * y + r) os.length) + 18446744073709551616 ^ os.length * c) ∧ VvP v os.length B (wv xs * y + r) w w' := by
  have hS := ho.isS
  have hSx := hx.isS
  obtain ⟨L, hLw⟩ : ∃ L, L = os.length := ⟨_, rfl⟩
  have hL : sLen v = L := by rw [hLw]; exact ho.len
  have hLx : sLen x = L := by rw [hx.len, hlx, hLw]
  have R0 := Lib.hid (Vv.start ho hLw.symm)
  have HB0 : Hid (0 < L → 0 < sCap v ∧ B ≤ sBlk v) := Lib.hid (fun h => by
    have := hS.le
    have hc : 0 < sCap v := by omega
    exact ⟨hc, (ho.lt hc).1⟩)
  have HXL : Hid (xs.length = L) := Lib.hid (by omega)
  rw [← hLw] at hl ⊢
  have HX := Lib.hid hx
  have HAX := Lib.hid hax
  clear ho hLw hx hlx hax
  go_enter Tryz.func279, Tryz.ntmps279
  go_wp2
  go_loopw [8, 19] (fun c i wr => ∃ k d Z : Nat, k ≤ L ∧ i = .int .i64 k ∧ c = .int .u64 d ∧ (d < 18446744073709551616 ∧ wv (xs.take k) * y + r = Z + 18446744073709551616 ^ k * d) ∧ Vv v L B k Z w wr) (fun c i _ => L - (intOf i).toNat)
  case atStart => exact ⟨0, r, 0, Nat.zero_le _, rfl, rfl, ⟨hr, by simp [wv]⟩, R0.out⟩
  case round =>
    obtain ⟨k, d, Z, hk, rfl, rfl, ⟨hd, hZ⟩, hrel⟩ := hrel
    have HREL := Lib.hid hrel
    by_cases hkL : k < L
    · obtain ⟨hcap, hB⟩ := HB0.out (by omega)
      have cx := hrel.srcd HX.out HAX.out (by rw [HXL.out]; exact hkL)
      obtain ⟨u, cv⟩ := hrel.own hkL
      have fz := hrel.frozen hcap (sOff v + k)
      have hxl := getD_ltW HX.out.lt k
      have e1 := wv_take_succ (ws := xs) (i := k) (by rw [HXL.out]; exact hkL)
      obtain ⟨a, ha⟩ : ∃ a, a = xs.getD k 0 := ⟨_, rfl⟩
      rw [← ha] at cx hxl e1
      obtain ⟨s, c, hsc, hs⟩ : ∃ s c, a * y + d = s + 18446744073709551616 * c ∧ s < 18446744073709551616 := ⟨(a * y + d) % 18446744073709551616, (a * y + d) / 18446744073709551616, by omega, by omega⟩
      have hc1 := mul_word_lt hxl hy hd hsc
      have HA : Hid (Calls Tryz.prog 280 #[.int .u64 a, .int .u64 y, .int .u64 d] wr fun e w' => e = .returned (.tuple #[.int .u64 c, .int .u64 s]) ∧ w' = wr) := Lib.hid (mulWWW_any a y d c s _ hxl hy hd hsc hs hc1)
      have HZ : Hid (wv (xs.take (k + 1)) * y + r = Z + 18446744073709551616 ^ k * s + 18446744073709551616 ^ (k + 1) * c) := Lib.hid (by
        rw [e1, Nat.pow_succ, Nat.mul_assoc]
        have h1 : 18446744073709551616 ^ k * (a * y + d) = 18446744073709551616 ^ k * s + 18446744073709551616 ^ k * (18446744073709551616 * c) := by rw [hsc, Nat.mul_add]
        rw [Nat.mul_add, ← Nat.mul_assoc] at h1
        rw [Nat.add_mul]
        omega)
      have PUT := Lib.hid (HREL.out.put hkL hB hs)
      clear hrel e1 ha hZ hsc
      go_wp2_with fail
      refine HA.out.mono ?_
      rintro _ _ ⟨rfl, rfl⟩
      go_wp2
      exact ⟨⟨k + 1, c, _, by omega, by go_num, rfl, ⟨hc1, HZ.out⟩, PUT.out⟩, by simp [intOf]; omega⟩
    · have hkk : k = L := by omega
      have HD : Hid ((d < 18446744073709551616 ∧ wv xs * y + r = wv (wdsN (wv xs * y + r) L) + 18446744073709551616 ^ L * d) ∧ VvP v L B (wv xs * y + r) w wr) := Lib.hid (by
        subst hkk
        rw [List.take_of_length_le (by rw [HXL.out]; exact Nat.le_refl _)] at hZ
        have hZl : Z < 18446744073709551616 ^ k := by
          obtain ⟨os', ds, g1, g2, g3, g4, g5, g6, g7, g8⟩ := hrel
          have := wv_lt g5
          rw [g4] at this; omega
        refine ⟨⟨hd, ?_⟩, hrel.done d hZ⟩
        rw [wdsN_wv, hZ, Nat.add_mul_mod_self_left, Nat.mod_eq_of_lt hZl])
      clear hrel hZ HREL
      go_wp2
      go_ret
      exact ⟨d, rfl, HD.out⟩
set_option maxRecDepth 100000 in
theorem mulAddVWW_dis (v x : Value) (os : List Value) (xs : List Nat) (y r B : Nat) (w : World) (ho : Own w B 164 v os) (hx : RW w x xs) (hlx : xs.length = os.length)
    (hax : sBlk x = sBlk v → sOff x + xs.length ≤ sOff v) (hy : y < 18446744073709551616) (hr : r < 18446744073709551616) (hl : os.length ≤ 1000000000) :
    Calls Tryz.prog 267 #[v, x, .int .u64 y, .int .u64 r] w fun e w' => ∃ c : Nat, e = .returned (.int .u64 c) ∧ (c < 18446744073709551616 ∧ wv xs * y + r = wv (wdsN (wv xs * y + r) os.length) + 18446744073709551616 ^ os.length * c) ∧ VvP v os.length B (wv xs * y + r) w w' := by
  have hS := ho.isS
  have hSx := hx.isS
  have H := Lib.hid (mulAddVWW_g_dis v x os xs y r B w ho hx hlx hax hy hr hl)
  clear ho hx hlx hax hl
  go_enter Tryz.func267, Tryz.ntmps267
  go_wp2_with fail
  refine H.out.mono ?_
  rintro _ w1 ⟨c, rfl, h1, h2⟩
  have H1 := Lib.hid (And.intro h1 h2)
  clear h1 h2
  go_wp2
  go_ret
  exact ⟨c, rfl, H1.out⟩
theorem prod_lt {V n qh : Nat} (hV : V < 18446744073709551616 ^ n) (hq : qh < 18446744073709551616) : V * qh < 18446744073709551616 ^ (n + 1) := by
  rw [Nat.pow_succ]; exact Nat.mul_lt_mul'' hV hq
structure HaP (u q h v : Value) (Q V m n B s L : Nat) (o : Option (Nat × Value)) (us : List Nat) (J qh c : Nat) (w w1 : World) : Prop where
  db : Db u q h v Q V m n B s L o us J w (w1.setCell ⟨sBlk h, sOff h + n, none⟩ (.int .u64 (c : Int)))
  own : Own (w1.setCell ⟨sBlk h, sOff h + n, none⟩ (.int .u64 (c : Int))) B 164 h (cellsW (wdsN (V * qh) (n + 1)))
  lt : c < 18446744073709551616
  zero : qh = 0 → c = 0
  cell : ∃ x, w1.cell? ⟨sBlk h, sOff h + n, none⟩ = some x
  fz : w1.frozen? ⟨sBlk h, sOff h + n, none⟩ = false
theorem ha_call {u q h v : Value} {Q V m n B s L J qh : Nat} {o : Option (Nat × Value)} {us : List Nat} {w wr : World} (C : DbC u q h v n) (d : Db u q h v Q V m n B s L o us J w wr) (hV : V < 18446744073709551616 ^ n) (hq : qh < 18446744073709551616) (hn : n ≤ 1000000) :
    Calls Tryz.prog 267 #[subS h 0 n, v, .int .u64 qh, .int .u64 0] wr fun e w1 => ∃ c : Nat, e = .returned (.int .u64 c) ∧ HaP u q h v Q V m n B s L o us J qh c w w1 := by
  obtain ⟨hs, h1, h2⟩ := d.oh
  have hS := h1.isS
  have hLh := h1.len
  have hC := hS.le
  have hc : 0 < sCap h := by omega
  have hsub := h1.sub (l := 0) (n := n) (Nat.zero_le _) (by omega)
  have hsl : ((hs.take n).drop 0).length = n := by simp; omega
  have hvl : (wdsN V n).length = n := wdsN_length _ _
  have hwv : wv (wdsN V n) = V := wv_wdsN_lt hV
  have hcall := mulAddVWW_dis (subS h 0 n) v _ (wdsN V n) qh 0 B wr hsub d.rv (by rw [hvl, hsl]) (by rw [(sub0 hS).1, (sub0 hS).2, hvl]; exact C.vh) hq (by decide) (by rw [hsl]; omega)
  rw [hsl, hwv, Nat.add_zero] at hcall
  refine hcall.mono ?_
  rintro _ w1 ⟨c, rfl, ⟨hcl, hcs⟩, hvp⟩
  have hpt := VvP.patch (l := 0) (n := n) h1 (Nat.zero_le _) (by omega) (by rw [Nat.sub_zero]; exact hvp)
  rw [List.take_zero, List.nil_append, Nat.sub_zero, Nat.add_zero] at hpt
  obtain ⟨g1, g2, g3⟩ := hpt
  have hll : (cellsW (wdsN (V * qh) n) ++ hs.drop n).length = n + 1 := by rw [List.length_append, cellsW_length, wdsN_length, List.length_drop]; omega
  have gs := g1.set (i := n) (by omega) (.int .u64 (c : Int))
  have hcw : c = wdg (V * qh) n := by
    rw [wdsN_wv] at hcs
    have h5 := wmod_succ (V * qh) n
    rw [Nat.mod_eq_of_lt (prod_lt hV hq)] at h5
    exact Nat.eq_of_mul_eq_mul_left (wpow_pos n) (by omega)
  have es : (cellsW (wdsN (V * qh) n) ++ hs.drop n).set n (.int .u64 (c : Int)) = cellsW (wdsN (V * qh) (n + 1)) := by
    obtain ⟨x, hx⟩ : ∃ x, hs.drop n = [x] := List.length_eq_one_iff.1 (by rw [List.length_drop]; omega)
    rw [hx, List.set_append_right _ _ (by rw [cellsW_length, wdsN_length]; exact Nat.le_refl _), cellsW_length, wdsN_length, Nat.sub_self, wdsN_succ, ← cellsW_append, hcw]
    rfl
  rw [es] at gs
  have hB := (g1.lt hc).1
  have hfr : FrB (sBlk h) (sOff h) (sOff h + n + 1) wr (w1.setCell ⟨sBlk h, sOff h + n, none⟩ (.int .u64 (c : Int))) := ((g3.mono (Nat.le_refl _) (Nat.le_succ _)).set (by omega) (by omega) _)
  refine ⟨c, rfl, ?_, gs, hcl, fun h0 => ?_, ⟨_, g1.cell (List.getElem?_eq_getElem (by rw [hll]; omega))⟩, g1.frozen hc _⟩
  · exact d.inH C gs (by rw [cellsW_length, wdsN_length]) (bset g2 hB) hfr (Nat.le_refl _)
  · rw [hcw, h0, Nat.mul_zero]; simp [wdg]
structure SbP (u q h v : Value) (Q V m n B s L : Nat) (o : Option (Nat × Value)) (us : List Nat) (hs : List Value) (J j r P c Z : Nat) (w w1 : World) : Prop where
  db : Db u q h v Q V m n B s L o (us.take j ++ (wdsN Z r ++ us.drop (j + r))) J w w1
  own : Own w1 B 164 h hs
  le : c ≤ 1
  lt : Z < 18446744073709551616 ^ r
  eq : wv ((us.take (j + r)).drop j) + 18446744073709551616 ^ r * c = Z + P % 18446744073709551616 ^ r
theorem Own.win {w : World} {B : Nat} {v : Value} {us : List Nat} (h : Own w B 164 v (cellsW us)) (hd : ∀ d ∈ us, d < 18446744073709551616) {l r : Nat} (h1 : l ≤ r) (h2 : r ≤ us.length) : RW w (subS v l r) ((us.take r).drop l) := by
  have := h.sub h1 (by rw [cellsW_length]; exact h2)
  rw [show (cellsW us).take r = cellsW (us.take r) by simp [cellsW, List.map_take], show (cellsW (us.take r)).drop l = cellsW ((us.take r).drop l) by simp [cellsW, List.map_drop]] at this
  exact this.rw' fun d hd' => hd d (List.mem_of_mem_take (List.mem_of_mem_drop hd'))
theorem sb_call {u q h v : Value} {Q V m n B s L J j r P : Nat} {o : Option (Nat × Value)} {us : List Nat} {w wr : World} (C : DbC u q h v n) (d : Db u q h v Q V m n B s L o us J w wr) (ho : Own wr B 164 h (cellsW (wdsN P (n + 1)))) (hr0 : 0 < r) (hr : r ≤ n + 1) (hjr : j + r ≤ m + n) (hn : n ≤ 1000000) :
    Calls Tryz.prog 253 #[subS u j (j + r), subS u j (j + r), subS h 0 r] wr fun e w1 => ∃ c : Nat, e = .returned (.int .u64 c) ∧ ∃ Z, SbP u q h v Q V m n B s L o us (cellsW (wdsN P (n + 1))) J j r P c Z w w1 := by
  have hSu := d.ou.isS
  have hSh := ho.isS
  have hl := d.lu
  have hwin := d.ou.win d.bu (l := j) (r := j + r) (by omega) (by omega)
  have hwl : ((us.take (j + r)).drop j).length = r := by rw [List.length_drop, List.length_take]; omega
  have hsub := d.ou.sub (l := j) (n := j + r) (by omega) (by rw [cellsW_length]; omega)
  have hsl : (((cellsW us).take (j + r)).drop j).length = r := by rw [List.length_drop, List.length_take, cellsW_length]; omega
  have hhw := ho.win wdsN_lt (l := 0) (r := r) (Nat.zero_le _) (by rw [wdsN_length]; omega)
  have hhe : ((wdsN P (n + 1)).take r).drop 0 = wdsN P r := by
    have := wdsN_window P (n + 1) (j := 0) (n := r) (by omega)
    rw [Nat.zero_add, Nat.pow_zero, Nat.div_one] at this
    exact this
  rw [hhe] at hhw
  have hcall := subVV_any (subS u j (j + r)) (subS u j (j + r)) (subS h 0 r) _ _ _ B wr hsub hwin hhw (by rw [hwl, hsl]) (by rw [wdsN_length, hsl]) (fun _ => Nat.le_refl _) (by rw [subS_blk hSu, (sub0 hSh).1]; intro he; exact absurd he.symm C.uh) (by rw [hsl]; omega)
  rw [hsl, wdsN_wv] at hcall
  refine hcall.mono ?_
  rintro _ w1 ⟨c, rfl, Z, g1, g2, g3, g4⟩
  obtain ⟨k1, k2⟩ := d.inU C (l := j) (r := j + r) (by omega) hjr (by omega) (by rw [show j + r - j = r by omega]; exact g4)
  rw [show j + r - j = r by omega] at k1
  exact ⟨c, rfl, Z, k1, k2 _ ho, g1, g2, g3⟩
structure AdP (u q h v : Value) (Q V m n B s L : Nat) (o : Option (Nat × Value)) (us : List Nat) (J j c A : Nat) (w w1 : World) : Prop where
  db : Db u q h v Q V m n B s L o (us.take j ++ (wdsN A n ++ us.drop (j + n))) J w w1
  le : c ≤ 1
  sum : A = wv ((us.take (j + n)).drop j) + V
  eq : A = A % 18446744073709551616 ^ n + 18446744073709551616 ^ n * c
theorem ad_call {u q h v : Value} {Q V m n B s L J j : Nat} {o : Option (Nat × Value)} {us : List Nat} {w wr : World} (C : DbC u q h v n) (d : Db u q h v Q V m n B s L o us J w wr) (hV : V < 18446744073709551616 ^ n) (hn0 : 0 < n) (hjr : j + n ≤ m + n) (hn : n ≤ 1000000) :
    Calls Tryz.prog 244 #[subS u j (j + n), subS u j (j + n), v] wr fun e w1 => ∃ c : Nat, e = .returned (.int .u64 c) ∧ ∃ A, AdP u q h v Q V m n B s L o us J j c A w w1 := by
  have hSu := d.ou.isS
  have hl := d.lu
  have hwin := d.ou.win d.bu (l := j) (r := j + n) (by omega) (by omega)
  have hwl : ((us.take (j + n)).drop j).length = n := by rw [List.length_drop, List.length_take]; omega
  have hsub := d.ou.sub (l := j) (n := j + n) (by omega) (by rw [cellsW_length]; omega)
  have hsl : (((cellsW us).take (j + n)).drop j).length = n := by rw [List.length_drop, List.length_take, cellsW_length]; omega
  have hwv : wv (wdsN V n) = V := wv_wdsN_lt hV
  have hcall := addVV_any (subS u j (j + n)) (subS u j (j + n)) v _ _ _ B wr hsub hwin d.rv (by rw [hwl, hsl]) (by rw [wdsN_length, hsl]) (fun _ => Nat.le_refl _) (by rw [subS_blk hSu]; intro he; exact absurd he C.vu) (by rw [hsl]; omega)
  rw [hsl, hwv, wdsN_wv] at hcall
  refine hcall.mono ?_
  rintro _ w1 ⟨c, rfl, ⟨g1, g2⟩, g4⟩
  obtain ⟨k1, k2⟩ := d.inU C (l := j) (r := j + n) (by omega) hjr (by omega) (by rw [show j + n - j = n by omega]; exact g4)
  rw [show j + n - j = n by omega] at k1
  exact ⟨c, rfl, _, k1, g1, rfl, g2⟩
theorem win_val {X R m n j r : Nat} (hR : R = X / 18446744073709551616 ^ j) (hjr : j + r ≤ m + n) : wv (((wdsN X (m + n)).take (j + r)).drop j) = R % 18446744073709551616 ^ r := by
  rw [wdsN_window X (m + n) hjr, wdsN_wv, ← hR]
theorem wdsN_low (A n : Nat) : wdsN (A % 18446744073709551616 ^ n) n = wdsN A n :=
  wdsN_of (wdsN_length _ _) fun i hi => by rw [wdsN_getD hi, wdg_lowmod _ _ _ hi]
theorem fin0 {u q h v : Value} {Q U V m n B s L j X R qh Z : Nat} {o : Option (Nat × Value)} {hs : List Value} {w w1 : World} (hX : X = U % (V * 18446744073709551616 ^ (j + 1))) (hR : R = X / 18446744073709551616 ^ j) (hVp : 0 < V) (hVn : V < 18446744073709551616 ^ n) (hj : j < m)
    (g1 : R < 18446744073709551616 ^ (n + 1)) (p1 : R / V ≤ qh) (p2 : qh ≤ R / V + 1) (hq : qh < 18446744073709551616) (sp : SbP u q h v Q V m n B s L o (wdsN X (m + n)) hs (j + 1) j (n + 1) (V * qh) 0 Z w w1) :
    qh = R / V ∧ Db u q h v Q V m n B s L o (wdsN (U % (V * 18446744073709551616 ^ j)) (m + n)) (j + 1) w w1 := by
  have he := sp.eq
  rw [win_val hR (by omega), Nat.mod_eq_of_lt g1, Nat.mul_zero, Nat.add_zero, Nat.mod_eq_of_lt (prod_lt hVn hq), Nat.add_comm, Nat.mul_comm] at he
  obtain ⟨k1, k2⟩ := kd_sub0 hVp p1 he p2
  refine ⟨k1, ?_⟩
  have hd := sp.db
  rw [k2, hR, hX, show j + (n + 1) = j + n + 1 by omega, round_words hVp (Nat.le_of_lt hVn) hj] at hd
  exact hd
theorem fin1 {u q h v : Value} {Q U V m n B s L j X R qh Z A c : Nat} {o : Option (Nat × Value)} {hs : List Value} {w w1 w2 : World} (hX : X = U % (V * 18446744073709551616 ^ (j + 1))) (hR : R = X / 18446744073709551616 ^ j) (hVp : 0 < V) (hVn : V < 18446744073709551616 ^ n) (hj : j < m)
    (g1 : R < 18446744073709551616 ^ (n + 1)) (p1 : R / V ≤ qh) (p2 : qh ≤ R / V + 1) (hq : qh < 18446744073709551616) (sp : SbP u q h v Q V m n B s L o (wdsN X (m + n)) hs (j + 1) j (n + 1) (V * qh) 1 Z w w1)
    (ap : AdP u q h v Q V m n B s L o ((wdsN X (m + n)).take j ++ (wdsN Z (n + 1) ++ (wdsN X (m + n)).drop (j + (n + 1)))) (j + 1) j c A w w2) :
    0 < qh ∧ qh - 1 = R / V ∧ wdg Z n + c = 18446744073709551616 ∧
    (((wdsN X (m + n)).take j ++ (wdsN Z (n + 1) ++ (wdsN X (m + n)).drop (j + (n + 1)))).take j ++ (wdsN A n ++ ((wdsN X (m + n)).take j ++ (wdsN Z (n + 1) ++ (wdsN X (m + n)).drop (j + (n + 1)))).drop (j + n))).getD (j + n) 0 = wdg Z n ∧
    (((wdsN X (m + n)).take j ++ (wdsN Z (n + 1) ++ (wdsN X (m + n)).drop (j + (n + 1)))).take j ++ (wdsN A n ++ ((wdsN X (m + n)).take j ++ (wdsN Z (n + 1) ++ (wdsN X (m + n)).drop (j + (n + 1)))).drop (j + n))).set (j + n) 0 = wdsN (U % (V * 18446744073709551616 ^ j)) (m + n) := by
  have he := sp.eq
  rw [win_val hR (by omega), Nat.mod_eq_of_lt g1, Nat.mul_one, Nat.mod_eq_of_lt (prod_lt hVn hq), Nat.add_comm Z, Nat.mul_comm V, Nat.pow_succ] at he
  have l1 : ((wdsN X (m + n)).take j).length = j := by rw [List.length_take, wdsN_length]; omega
  have ea : ((wdsN X (m + n)).take j ++ (wdsN Z (n + 1) ++ (wdsN X (m + n)).drop (j + (n + 1)))).take j = (wdsN X (m + n)).take j := List.take_left' l1
  have ew : (((wdsN X (m + n)).take j ++ (wdsN Z (n + 1) ++ (wdsN X (m + n)).drop (j + (n + 1)))).take (j + n)).drop j = wdsN Z n := by
    rw [List.take_append, l1, List.take_of_length_le (by omega), show j + n - j = n by omega, List.drop_left' l1, wdsN_succ, List.append_assoc, List.take_left' (wdsN_length _ _)]
  have eb : ((wdsN X (m + n)).take j ++ (wdsN Z (n + 1) ++ (wdsN X (m + n)).drop (j + (n + 1)))).drop (j + n) = wdg Z n :: (wdsN X (m + n)).drop (j + (n + 1)) := by
    rw [← List.drop_drop, List.drop_left' l1, wdsN_succ, List.append_assoc, List.drop_left' (wdsN_length _ _)]; rfl
  have hs := ap.sum
  rw [ew, wdsN_wv] at hs
  have hz := wmod_succ Z n
  rw [Nat.mod_eq_of_lt sp.lt] at hz
  have haeq := ap.eq
  obtain ⟨k1, k2, k3, k4⟩ := kd_sub1 (bn := 18446744073709551616 ^ n) (b := 18446744073709551616) hVp p1 p2 he hz (Nat.mod_lt _ (wpow_pos n)) (wdg_lt _ _) (hs.symm.trans haeq) (Nat.mod_lt _ (wpow_pos n)) (Nat.le_of_lt hVn)
  refine ⟨k1, k2, k4, ?_, ?_⟩
  · rw [eb, ea, List.getD_eq_getElem?_getD, List.getElem?_append_right (by omega), l1, List.getElem?_append_right (by rw [wdsN_length]; omega), wdsN_length, show j + n - j - n = 0 by omega]; rfl
  · have hL : R % V < 18446744073709551616 ^ n := Nat.lt_trans (Nat.mod_lt _ hVp) hVn
    have hA : wdsN A n = wdsN (R % V) n := by rw [← k3, wdsN_low]
    have := list_fix (us := wdsN X (m + n)) (j := j) (n := n) (Z := Z) (A := A) (L := R % V) (by rw [wdsN_length]; omega) hA hL
    rw [show j + (n + 1) = j + n + 1 by omega, this, hR, hX, round_words hVp (Nat.le_of_lt hVn) hj]
theorem finm {u q h v : Value} {Q U V m n B s L X R c Z : Nat} {o : Option (Nat × Value)} {hs : List Value} {w w1 : World} (hX : X = U % (V * 18446744073709551616 ^ (m + 1))) (hR : R = X / 18446744073709551616 ^ m) (hU : U < V * 18446744073709551616 ^ m) (hVn : V < 18446744073709551616 ^ n) (hRV : R < V)
    (sp : SbP u q h v Q V m n B s L o (wdsN X (m + n)) hs (m + 1) m n (V * 0) c Z w w1) :
    c = 0 ∧ Db u q h v Q V m n B s L o (wdsN (U % (V * 18446744073709551616 ^ m)) (m + n)) m w w1 := by
  obtain ⟨d1, d2, d3, d4⟩ := dd_start hU
  have hXU : X = U := hX.trans d2
  have he := sp.eq
  have hRn : R < 18446744073709551616 ^ n := Nat.lt_trans hRV hVn
  rw [win_val hR (Nat.le_refl _), Nat.mod_eq_of_lt hRn, Nat.mul_zero, Nat.zero_mod, Nat.add_zero] at he
  have hc : c = 0 := by
    rcases Nat.eq_zero_or_pos c with h0 | h0
    · exact h0
    · have := Nat.le_mul_of_pos_right (18446744073709551616 ^ n) h0
      have := sp.lt
      omega
  subst hc
  rw [Nat.mul_zero, Nat.add_zero] at he
  have hd := sp.db
  have hw : (wdsN X (m + n)).take m ++ (wdsN Z n ++ (wdsN X (m + n)).drop (m + n)) = wdsN (U % (V * 18446744073709551616 ^ m)) (m + n) := by
    have h1 := wdsN_patch (X := X) (L := m + n) (j := m) (n := n) (R := Z) (Nat.le_refl _) (by
      rw [hXU]
      refine Nat.lt_of_lt_of_le hU ?_
      rw [Nat.pow_add, Nat.mul_comm]
      exact Nat.mul_le_mul_left _ (Nat.le_of_lt hVn)) sp.lt
    rw [h1, ← he, hR, hXU, d1, Nat.add_comm, Nat.div_add_mod]
  rw [hw] at hd
  obtain ⟨qs, q1, q2, q3⟩ := hd.oq
  exact ⟨rfl, ⟨hd.ou, hd.lu, hd.bu, ⟨qs, q1, q2, fun k a b => by omega⟩, hd.oh, hd.rv, hd.st, hd.below, hd.fr⟩⟩
theorem fm_call {u q h v : Value} {Q U V m n N B s L X R qh jn : Nat} {o : Option (Nat × Value)} {w wr : World} (C : DbC u q h v n) (d : Db u q h v Q V m n B s L o (wdsN X N) (m + 1) w wr) (ho : Own wr B 164 h (cellsW (wdsN (V * qh) (n + 1))))
    (hX : X = U % (V * 18446744073709551616 ^ (m + 1))) (hR : R = X / 18446744073709551616 ^ m) (hU : U < V * 18446744073709551616 ^ m) (hVn : V < 18446744073709551616 ^ n) (hRV : R < V) (hN : N = m + n) (hjn : jn = m + n) (hq : qh = 0) (hn0 : 0 < n) (hn : n ≤ 1000000) :
    Calls Tryz.prog 253 #[subS u m jn, subS u m jn, subS h 0 n] wr fun e w' => ∃ c2 : Nat, e = .returned (.int .u64 c2) ∧ c2 = 0 ∧ Db u q h v Q V m n B s L o (wdsN (U % (V * 18446744073709551616 ^ m)) N) m w w' := by
  subst hN
  subst hjn
  refine (sb_call (J := m + 1) (j := m) (r := n) C d ho hn0 (Nat.le_succ n) (Nat.le_refl _) hn).mono ?_
  rintro _ w' ⟨c2, rfl, Z, hsp⟩
  subst hq
  obtain ⟨f1, f2⟩ := finm hX hR hU hVn hRV hsp
  exact ⟨c2, rfl, f1, f2⟩
end Go.Proofs.YtdepidpgbgfjlaaGreatDoor
