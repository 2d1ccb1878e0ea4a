/-
Texts of this proof, joined: GcA GcF NmD QuA QuB. No condition.
-/
import Derived.Test.YtllhnjpnkmjopaaGreatDoorK02
import Derived.Test.YtllhnjpnkmjopaaGreatDoorK31
import Derived.Test.YtllhnjpnkmjopaaGreatDoorK32
namespace Go.Proofs.YtllhnjpnkmjopaaGreatDoor
open Go.RowKit

structure Smaller (A B A' B' : Nat) : Prop where
  lt : B' < A'
  less : B' < B
  top : A' ≤ B
  dvd : ∀ d, (d ∣ A ∧ d ∣ B) ↔ (d ∣ A' ∧ d ∣ B')
theorem Smaller.of {A B A' B' u0 u1 v0 v1 : Nat} (hA : A = v1 * A' + v0 * B') (hB : B = u1 * A' + u0 * B') (hlt : B' < A') (hu : 0 < u1)
    (hd : ∀ d, d ∣ A → d ∣ B → d ∣ A' ∧ d ∣ B') : Smaller A B A' B' := by
  have h1 : A' ≤ B := by
    rw [hB]; exact Nat.le_trans (Nat.le_mul_of_pos_left _ hu) (Nat.le_add_right _ _)
  refine ⟨hlt, by omega, h1, fun d => ⟨fun h => hd d h.1 h.2, fun h => ⟨?_, ?_⟩⟩⟩
  · rw [hA]; exact Nat.dvd_add (Nat.dvd_mul_left_of_dvd h.1 _) (Nat.dvd_mul_left_of_dvd h.2 _)
  · rw [hB]; exact Nat.dvd_add (Nat.dvd_mul_left_of_dvd h.1 _) (Nat.dvd_mul_left_of_dvd h.2 _)
structure Sim (a b x y u0 u1 u2 v0 v1 v2 : Nat) (ev : Bool) : Prop where
  ha : a = v2 * x + v1 * y
  hb : b = u2 * x + u1 * y
  sgn : if ev then x + u1 * a = v1 * b ∧ y + v2 * b = u2 * a ∧ u2 * v1 = 1 + u1 * v2 else x + v1 * b = u1 * a ∧ y + u2 * a = v2 * b ∧ u1 * v2 = 1 + u2 * v1
  yx : y ≤ x
  u2v2 : u2 ≤ v2
  v2 : 0 < v2
  one : 0 < u1 + u2
  u1v1 : v1 = 0 ∨ (u1 ≤ v1 ∧ 0 < u2)
  zero : v1 = 0 → u2 = 0
  cert : v0 = 0 ∨ (u0 ≤ v0 ∧ 0 < u1 ∧ 0 < v1 ∧ u1 ≤ v1 ∧ ∃ xp, v1 ≤ x ∧ v0 + v1 + x ≤ xp ∧
    (if ev then xp + v0 * b = u0 * a ∧ u0 * v1 = 1 + u1 * v0 else xp + u0 * a = v0 * b ∧ u1 * v0 = 1 + u0 * v1))
theorem Sim.start {a b : Nat} (h : b ≤ a) : Sim a b a b 0 1 0 0 0 1 false :=
  ⟨by simp, by simp, by simp, h, by decide, by decide, by decide, .inl rfl, fun _ => rfl, .inl rfl⟩
theorem Sim.step {a b x y u0 u1 u2 v0 v1 v2 q r : Nat} {ev : Bool} (h : Sim a b x y u0 u1 u2 v0 v1 v2 ev) (c1 : v2 ≤ y) (c2 : v1 + v2 ≤ x - y) (hx : x = q * y + r) (hr : r < y) :
    Sim a b y r u1 u2 (u1 + q * u2) v1 v2 (v1 + q * v2) (!ev) := by
  have hq : 0 < q := by
    rcases Nat.eq_zero_or_pos q with h0 | h0
    · rw [h0, Nat.zero_mul] at hx; have := h.yx; omega
    · exact h0
  have hq2 : v2 ≤ q * v2 := Nat.le_mul_of_pos_left _ hq
  have hq3 : u2 ≤ q * u2 := Nat.le_mul_of_pos_left _ hq
  have e1 := h.ha
  have e2 := h.hb
  have h2 := h.sgn
  have hv2 := h.v2
  have hone := h.one
  have huv : q * u2 ≤ q * v2 := Nat.mul_le_mul_left _ h.u2v2
  refine ⟨?_, ?_, ?_, Nat.le_of_lt hr, ?_, by omega, by omega, .inr ⟨h.u2v2, by omega⟩, fun h0 => by omega, ?_⟩
  · rw [e1, hx]; grind
  · rw [e2, hx]; grind
  · cases ev with
    | true =>
      obtain ⟨s1, s2, s3⟩ := h2
      refine ⟨s2, ?_, ?_⟩
      · have : (r : Int) + (u1 + q * u2 : Nat) * a = (v1 + q * v2 : Nat) * b := by
          have t1 : (x : Int) + u1 * a = v1 * b := by exact_mod_cast s1
          have t2 : (y : Int) + v2 * b = u2 * a := by exact_mod_cast s2
          have t3 : (x : Int) = q * y + r := by exact_mod_cast hx
          push_cast
          grind
        exact_mod_cast this
      · have : ((u2 : Int)) * (v1 + q * v2 : Nat) = 1 + (u1 + q * u2 : Nat) * v2 := by
          have t3 : (u2 : Int) * v1 = 1 + u1 * v2 := by exact_mod_cast s3
          push_cast
          grind
        exact_mod_cast this
    | false =>
      obtain ⟨s1, s2, s3⟩ := h2
      refine ⟨s2, ?_, ?_⟩
      · have : (r : Int) + (v1 + q * v2 : Nat) * b = (u1 + q * u2 : Nat) * a := by
          have t1 : (x : Int) + v1 * b = u1 * a := by exact_mod_cast s1
          have t2 : (y : Int) + u2 * a = v2 * b := by exact_mod_cast s2
          have t3 : (x : Int) = q * y + r := by exact_mod_cast hx
          push_cast
          grind
        exact_mod_cast this
      · have : ((u1 + q * u2 : Nat) : Int) * v2 = 1 + u2 * (v1 + q * v2 : Nat) := by
          have t3 : (u1 : Int) * v2 = 1 + u2 * v1 := by exact_mod_cast s3
          push_cast
          grind
        exact_mod_cast this
  · rcases h.u1v1 with h0 | h0
    · have hu2 := h.zero h0
      have hs : u1 ≤ q * v2 := by
        have : u1 ≤ 1 := by
          cases ev with
          | true => obtain ⟨-, -, s3⟩ := h2; rw [hu2] at s3; omega
          | false =>
            obtain ⟨-, -, s3⟩ := h2
            rw [hu2, Nat.zero_mul] at s3
            have := Nat.le_mul_of_pos_right u1 hv2
            omega
        omega
      rw [hu2, Nat.mul_zero]; omega
    · omega
  · rcases Nat.eq_zero_or_pos v1 with h0 | h0
    · exact .inl h0
    · right
      have h3 := h.u1v1.resolve_left (by omega)
      refine ⟨h3.1, h3.2, hv2, h.u2v2, x, c1, by omega, ?_⟩
      cases ev with
      | true => obtain ⟨s1, s2, s3⟩ := h2; exact ⟨s1, s3⟩
      | false => obtain ⟨s1, s2, s3⟩ := h2; exact ⟨s1, s3⟩
structure Bx (w : World) (B b : Nat) (neg : Bool) (v : Value) (zs : List Value) : Prop where
  le : B ≤ b
  row : w.heap[b]? = some (.cells #[.bool neg, v] 110 (0, 0))
  own : Own w B 116 v zs
def Sep (v u : Value) : Prop := 0 < sCap v → 0 < sCap u → sBlk v ≠ sBlk u
theorem Sep.symm {v u : Value} (h : Sep v u) : Sep u v := fun a b he => h b a he.symm
theorem IntRo.box {b : Nat} {zneg : Bool} {v vz : Value} {neg : Bool} {N B : Nat} {w w' : World} (h : IntRo b 0 #[.bool zneg, v] 110 vz neg N B w w') : IntR b vz neg N B w w' := by
  obtain ⟨r, h1, h2, h3⟩ := h.row
  exact ⟨⟨r, h1, h2, h3⟩, h.below, h.fr⟩
theorem Bx.keep {w w' : World} {B b c : Nat} {n neg zneg : Bool} {v vz : Value} {ys zs : List Value} {N : Nat} (hc : Bx w B c n v ys) (hb : Bx w B b zneg vz zs) (h : IntR b vz neg N B w w') (hne : c ≠ b) (hs : Sep v vz) : Bx w' B c n v ys := by
  refine ⟨hc.le, (h.fr c (get_lt hc.row) hne (fun hz => hb.own.neRow hc.row (by decide) hz)).trans hc.row, hc.own.same fun hv => h.fr _ (hc.own.lt hv).2 (fun he => hc.own.neRow hb.row (by decide) hv he.symm) (fun hz => hs hv hz)⟩
theorem Bx.made {w w' : World} {B b : Nat} {neg zneg : Bool} {vz : Value} {zs : List Value} {N : Nat} (hb : Bx w B b zneg vz zs) (h : IntR b vz neg N B w w') : ∃ r, Bx w' B b neg r (cellsW (wds N)) ∧ ∀ {c : Nat} {n : Bool} {v : Value} {ys : List Value}, Bx w B c n v ys → Sep v vz → Sep v r := by
  obtain ⟨r, h1, h2, h3⟩ := h.row
  refine ⟨r, ⟨hb.le, h1, h2⟩, fun hc hs hv hr he => ?_⟩
  rcases h3 hr with ⟨a, e⟩ | a
  · exact hs hv a (he.trans e)
  · have := (hc.own.lt hv).2; omega
theorem Bx.ro {w : World} {B b N : Nat} {neg : Bool} {v : Value} (h : Bx w B b neg v (cellsW (wds N))) : RO w v (wds N) := h.own.ro fun _ hd => wds_lt hd
structure Quad (w : World) (B a b q r : Nat) (ma mb mq mr : Bool) (va vb vq vr : Value) (za zb zq zr : List Value) : Prop where
  ba : Bx w B a ma va za
  bb : Bx w B b mb vb zb
  bq : Bx w B q mq vq zq
  br : Bx w B r mr vr zr
  sab : Sep va vb
  saq : Sep va vq
  sar : Sep va vr
  sbq : Sep vb vq
  sbr : Sep vb vr
  sqr : Sep vq vr
  nab : a ≠ b
  naq : a ≠ q
  nar : a ≠ r
  nbq : b ≠ q
  nbr : b ≠ r
  nqr : q ≠ r
theorem Sep.al {v u : Value} (h : Sep v u) (hu : IsS u) (hl : 0 < sLen u) : Al v u := fun hv he => absurd he.symm (h hv (by have := hu.le; omega))
theorem Quad.turn {w : World} {B a b q r : Nat} {ma mb mq mr : Bool} {va vb vq vr : Value} {za zb zq zr : List Value} (h : Quad w B a b q r ma mb mq mr va vb vq vr za zb zq zr) : Quad w B b q r a mb mq mr ma vb vq vr va zb zq zr za :=
  ⟨h.bb, h.bq, h.br, h.ba, h.sbq, h.sbr, h.sab.symm, h.sqr, h.saq.symm, h.sar.symm, h.nbq, h.nbr, h.nab.symm, h.nqr, h.naq.symm, h.nar.symm⟩
theorem Quad.put {w w' : World} {B a b q r : Nat} {ma mb mq mr : Bool} {va vb vq vr : Value} {za zb zq zr : List Value} {neg : Bool} {N : Nat} (h : Quad w B a b q r ma mb mq mr va vb vq vr za zb zq zr) (hw : IntR a va neg N B w w') :
    ∃ v, Quad w' B a b q r neg mb mq mr v vb vq vr (cellsW (wds N)) zb zq zr := by
  obtain ⟨v, h1, h2⟩ := h.ba.made hw
  exact ⟨v, h1, h.bb.keep h.ba hw h.nab.symm h.sab.symm, h.bq.keep h.ba hw h.naq.symm h.saq.symm, h.br.keep h.ba hw h.nar.symm h.sar.symm,
    (h2 h.bb h.sab.symm).symm, (h2 h.bq h.saq.symm).symm, (h2 h.br h.sar.symm).symm, h.sbq, h.sbr, h.sqr, h.nab, h.naq, h.nar, h.nbq, h.nbr, h.nqr⟩
theorem StO.keep {w w' : World} {B s L : Nat} {o : Option (Nat × Value)} (h : StO w B s L o) (hk : ∀ k, SBk s o k → w'.heap[k]? = w.heap[k]?) : StO w' B s L o := by
  match o, h with
  | none, ⟨h0, h1, h2⟩ => exact ⟨h0, (hk s (.inl rfl)).trans h1, h2⟩
  | some qv, ⟨h0, h1, h2, h3, xs, h4, h5⟩ => exact ⟨h0, h1, (hk s (.inl rfl)).trans h2, (hk qv.1 (.inr ⟨qv, rfl, .inl rfl⟩)).trans h3, xs, h4.same fun hc => hk _ (.inr ⟨qv, rfl, .inr ⟨hc, rfl⟩⟩), h5⟩
structure DvS (va q : Value) (N B s : Nat) (o o' : Option (Nat × Value)) (w w' : World) : Prop where
  own : Own w' B 116 q (cellsW (wds N))
  at' : 0 < sCap q → (0 < sCap va ∧ sBlk q = sBlk va) ∨ w.heap.size ≤ sBlk q
  st : StO w' B s 0 o'
  sb : ∀ k, SBk s o' k → SBk s o k ∨ w.heap.size ≤ k
  nsq : 0 < sCap q → ¬ SBk s o' (sBlk q)
  below : Below B w w'
  fr : ∀ k, k < w.heap.size → ¬ SBk s o k → (0 < sCap va → k ≠ sBlk va) → w'.heap[k]? = w.heap[k]?
theorem nil_cap : ¬ 0 < sCap (.slice none 0 0) := by decide
set_option maxHeartbeats 800000 in
theorem div_to (va x rv : Value) (zs : List Value) (N D B s : Nat) (o : Option (Nat × Value)) (w : World) (hst : StO w B s 0 o) (oa : Own w B 116 va zs) (ha : 0 < sCap va → ¬ SBk s o (sBlk va)) (hx : RO w x (wds N)) (ax : Al va x) (hxS : ¬ SBk s o (sBlk x)) (hr : RO w rv (wds D)) (hrS : ¬ SBk s o (sBlk rv))
    (hD : 0 < D) (hn40 : nw D < 40) (hlu : nw N ≤ 90000) (hB : B ≤ w.heap.size) (hT : DivW w) (hg : 4 < B) :
    Calls Tryz.prog 165 #[va, .pointer (some ⟨s, 0, none⟩), .slice none 0 0, x, rv] w fun e w' => ∃ q r, e = .returned (.tuple #[q, r]) ∧ ∃ o', DvS va q (N / D) B s o o' w w' ∧ Own w' B 116 r (cellsW (wds (N % D))) ∧ (0 < sCap r → w.heap.size ≤ sBlk r) ∧ (0 < sCap q → 0 < sCap r → sBlk q ≠ sBlk r) ∧ (0 < sCap r → ¬ SBk s o' (sBlk r)) := by
  refine (div_stk va (.slice none 0 0) x rv zs [] N D B s 0 o w hst (by decide) ha (fun h => absurd h nil_cap) hxS hrS oa (Own.nil _ _ _) hx hr ax hD hn40 hlu (fun _ h => absurd h nil_cap) (fun h => absurd h nil_cap) (fun h => absurd h nil_cap) hB hT hg).mono ?_
  rintro e w' ⟨q, r, rfl, h | ⟨k, o', h⟩⟩
  · have hat : 0 < sCap r → w.heap.size ≤ sBlk r := fun hc => by
      rcases h.atr hc with ⟨a, _⟩ | a
      · exact absurd a nil_cap
      · exact a
    refine ⟨q, r, rfl, o, ⟨h.oq, h.atq, hst.keep fun k hk => h.fr k (hst.base hk).2 (fun hc he => ha hc (he ▸ hk)) (fun hc => absurd hc nil_cap), fun k hk => .inl hk, fun hc hk => ?_, h.below, fun k hk _ hv => h.fr k hk hv (fun hc => absurd hc nil_cap)⟩, h.or_, hat, h.ne, fun hc hk => ?_⟩
    · rcases h.atq hc with ⟨a, b⟩ | a
      · exact ha a (b ▸ hk)
      · have := (hst.base hk).2; omega
    · have h1 := hat hc
      have := (hst.base hk).2; omega
  · refine ⟨q, r, rfl, o', ⟨h.oq, h.atq, h.st, h.sb, h.nsq, undrewN h.below, fun k hk hn hv => h.fr k hk hn hv (fun hc => absurd hc nil_cap)⟩, h.or_, fun hc => ?_, h.ne, h.nsr⟩
    rcases h.atr hc with ⟨a, _⟩ | a
    · exact absurd a nil_cap
    · exact a
end Go.Proofs.YtllhnjpnkmjopaaGreatDoor
namespace Go.Proofs.YtllhnjpnkmjopaaGreatDoor

theorem lef_more {R D s s' T low : Nat} (hD : D % 2 = 0) (hs : s ≤ 1) (hlow : low < T) (h0 : s = 0 → low = 0 ∧ s' = 0) (h1 : s = 1 → ¬ (low = 0 ∧ s' = 0)) : lef (R * T + low) (D * T) s' = lef R D s := by
  have hT : 0 < T := by omega
  rcases Nat.eq_zero_or_pos s with e | e
  · obtain ⟨a, b⟩ := h0 e
    subst a; subst b; subst e
    exact lef_scale R D 0 hT
  · have e1 : s = 1 := by omega
    have h2 := h1 e1
    subst e1
    obtain ⟨E, rfl⟩ : ∃ E, D = 2 * E := ⟨D / 2, by omega⟩
    unfold lef
    rw [if_neg (fun h => h2 ?_), if_neg (show ¬ (R = 0 ∧ 1 = 0) by omega)]
    · by_cases hr : R < E
      · have h3 : R * T + T ≤ E * T := by rw [← Nat.succ_mul]; exact Nat.mul_le_mul_right _ hr
        have h4 : 2 * E * T = 2 * (E * T) := Nat.mul_assoc _ _ _
        rw [if_pos (show 2 * (R * T + low) < 2 * E * T by omega), if_pos (show 2 * R < 2 * E by omega)]
      · have h3 : E * T ≤ R * T := Nat.mul_le_mul_right _ (by omega)
        have h4 : 2 * E * T = 2 * (E * T) := Nat.mul_assoc _ _ _
        rw [if_neg (show ¬ 2 * (R * T + low) < 2 * E * T by omega), if_neg (show ¬ 2 * R < 2 * E by omega)]
        by_cases h5 : 2 * (R * T + low) = 2 * E * T ∧ s' = 0
        · exact absurd ⟨by omega, h5.2⟩ h2
        · rw [if_neg h5, if_neg (show ¬ (2 * R = 2 * E ∧ 1 = 0) by omega)]
    · obtain ⟨a, b⟩ := h
      exact ⟨by omega, b⟩
theorem bl_low {Q t low : Nat} (hQ : 0 < Q) (hlow : low < 2 ^ t) : bl (Q * 2 ^ t + low) = bl Q + t := by
  have h1 := bl_ge hQ
  have h2 := lt_bl Q
  have h3 := bl_pos hQ
  have e : bl Q + t = (bl Q - 1 + t) + 1 := by omega
  rw [e]
  refine bl_of ?_ ?_
  · rw [Nat.pow_add]
    exact Nat.le_trans (Nat.mul_le_mul_right _ h1) (Nat.le_add_right _ _)
  · have h4 : Q * 2 ^ t + 2 ^ t ≤ 2 ^ bl Q * 2 ^ t := by rw [← Nat.succ_mul]; exact Nat.mul_le_mul_right _ h2
    rw [show bl Q - 1 + t + 1 = bl Q + t by omega, Nat.pow_add]
    omega
theorem round_more {p m Q s s' t low : Nat} (neg : Bool) (hlow : low < 2 ^ t) (hp : p < bl Q) (hs : s ≤ 1) (h0 : s = 0 → low = 0 ∧ s' = 0) (h1 : s = 1 → ¬ (low = 0 ∧ s' = 0)) :
    rk p (Q * 2 ^ t + low) = rk p Q + t ∧ rQ p m neg s' (Q * 2 ^ t + low) = rQ p m neg s Q ∧ rA p m neg s' (Q * 2 ^ t + low) = rA p m neg s Q := by
  have hQ : 0 < Q := by
    rcases Nat.eq_zero_or_pos Q with h | h
    · subst h; rw [bl_zero] at hp; omega
    · exact h
  have hb := bl_low hQ hlow
  have hk : rk p (Q * 2 ^ t + low) = rk p Q + t := by unfold rk; rw [hb]; omega
  obtain ⟨r, hr⟩ : ∃ r, rk p Q = r + 1 := ⟨rk p Q - 1, by unfold rk; omega⟩
  have hT : 0 < 2 ^ t := Nat.two_pow_pos t
  have hdiv : (Q * 2 ^ t + low) / 2 ^ (rk p Q + t) = Q / 2 ^ rk p Q := by
    rw [Nat.add_comm (rk p Q), Nat.pow_add, ← Nat.div_div_eq_div_mul]
    congr 1
    rw [Nat.add_comm, Nat.add_mul_div_right _ _ hT, Nat.div_eq_of_lt hlow, Nat.zero_add]
  have hmod : (Q * 2 ^ t + low) % 2 ^ (rk p Q + t) = Q % 2 ^ rk p Q * 2 ^ t + low := by
    have e1 := Nat.div_add_mod (Q * 2 ^ t + low) (2 ^ (rk p Q + t))
    rw [hdiv] at e1
    have e2 := Nat.div_add_mod Q (2 ^ rk p Q)
    have e3 : Q * 2 ^ t = 2 ^ (rk p Q + t) * (Q / 2 ^ rk p Q) + Q % 2 ^ rk p Q * 2 ^ t := by
      conv => lhs; rw [← e2]
      rw [Nat.add_mul, Nat.pow_add]
      congr 1
      rw [Nat.mul_assoc, Nat.mul_comm (Q / 2 ^ rk p Q), Nat.mul_assoc]
    omega
  have hL : rL p s' (Q * 2 ^ t + low) = rL p s Q := by
    unfold rL
    rw [hk, hmod, Nat.pow_add]
    refine lef_more ?_ hs hlow h0 h1
    rw [hr, Nat.pow_succ, Nat.mul_mod_left]
  have hU : rU p m neg s' (Q * 2 ^ t + low) = rU p m neg s Q := by
    unfold rU
    rw [hL, hk, hdiv]
  refine ⟨hk, ?_, ?_⟩
  · unfold rQ
    rw [hU, hk, hdiv]
  · unfold rA
    rw [hL, hU]
def qN (X Y i : Nat) : Nat := X * 2 ^ i / Y
def qS (X Y i : Nat) : Nat := if X * 2 ^ i % Y = 0 then 0 else 1
theorem qS_le (X Y i : Nat) : qS X Y i ≤ 1 := by unfold qS; split <;> decide
theorem qN_more {X Y i j : Nat} (hY : 0 < Y) (hij : i ≤ j) : ∃ low, low < 2 ^ (j - i) ∧ qN X Y j = qN X Y i * 2 ^ (j - i) + low ∧ (qS X Y i = 0 → low = 0 ∧ qS X Y j = 0) ∧ (qS X Y i = 1 → ¬ (low = 0 ∧ qS X Y j = 0)) := by
  obtain ⟨T, hT⟩ : ∃ T, T = 2 ^ (j - i) := ⟨_, rfl⟩
  have hT0 : 0 < T := by rw [hT]; exact Nat.two_pow_pos _
  have e0 : X * 2 ^ j = X * 2 ^ i * T := by rw [hT, Nat.mul_assoc, ← Nat.pow_add]; congr 2; omega
  obtain ⟨A, hA⟩ : ∃ A, A = X * 2 ^ i := ⟨_, rfl⟩
  rw [← hA] at e0
  have eA := Nat.div_add_mod A Y
  have hr := Nat.mod_lt A hY
  obtain ⟨q, hq⟩ : ∃ q, q = A / Y := ⟨_, rfl⟩
  obtain ⟨r, hr'⟩ : ∃ r, r = A % Y := ⟨_, rfl⟩
  rw [← hq, ← hr'] at eA
  rw [← hr'] at hr
  have e1 : A * T = Y * (q * T) + r * T := by rw [← eA, Nat.add_mul, Nat.mul_assoc]
  have hd : A * T / Y = q * T + r * T / Y := by rw [e1, Nat.mul_add_div hY]
  have hm : A * T % Y = r * T % Y := by rw [e1, Nat.mul_add_mod]
  refine ⟨r * T / Y, ?_, ?_, ?_, ?_⟩
  · rw [← hT]; rw [Nat.div_lt_iff_lt_mul hY, Nat.mul_comm T]; exact Nat.mul_lt_mul_of_pos_right hr hT0
  · unfold qN; rw [e0, ← hA, hd, ← hq, ← hT]
  · intro h
    unfold qS at h ⊢
    rw [← hA, ← hr'] at h
    rw [e0, hm]
    have h0 : r = 0 := by
      by_cases h2 : r = 0
      · exact h2
      · rw [if_neg h2] at h; cases h
    subst h0
    simp
  · intro h hc
    unfold qS at h hc
    rw [← hA, ← hr'] at h
    rw [e0, hm] at hc
    have h0 : r ≠ 0 := fun h2 => by rw [if_pos h2] at h; cases h
    have h3 : r * T % Y = 0 := by
      by_cases h2 : r * T % Y = 0
      · exact h2
      · rw [if_neg h2] at hc; exact absurd hc.2 (by decide)
    have h4 := Nat.div_add_mod (r * T) Y
    rw [hc.1, h3] at h4
    have h5 : 0 < r * T := Nat.mul_pos (Nat.pos_of_ne_zero h0) hT0
    omega
theorem quo_round {p m X Y i j : Nat} (neg : Bool) (hY : 0 < Y) (hi : p < bl (qN X Y i)) (hj : p < bl (qN X Y j)) :
    ((rk p (qN X Y i) : Nat) : Int) - i = ((rk p (qN X Y j) : Nat) : Int) - j ∧ rQ p m neg (qS X Y i) (qN X Y i) = rQ p m neg (qS X Y j) (qN X Y j) ∧ rA p m neg (qS X Y i) (qN X Y i) = rA p m neg (qS X Y j) (qN X Y j) := by
  have main : ∀ {i j : Nat}, i ≤ j → p < bl (qN X Y i) → ((rk p (qN X Y i) : Nat) : Int) - i = ((rk p (qN X Y j) : Nat) : Int) - j ∧ rQ p m neg (qS X Y i) (qN X Y i) = rQ p m neg (qS X Y j) (qN X Y j) ∧ rA p m neg (qS X Y i) (qN X Y i) = rA p m neg (qS X Y j) (qN X Y j) := fun {i j} hij h => by
    obtain ⟨low, h1, h2, h3, h4⟩ := qN_more (X := X) hY hij
    have := round_more (m := m) neg h1 h (qS_le X Y i) h3 h4
    rw [← h2] at this
    obtain ⟨k1, k2, k3⟩ := this
    exact ⟨by omega, k2.symm, k3.symm⟩
  by_cases hij : i ≤ j
  · exact main hij hi
  · obtain ⟨a, b, c⟩ := main (i := j) (j := i) (by omega) hj
    exact ⟨a.symm, b.symm, c.symm⟩
theorem round_mark {p m Q s : Nat} (neg : Bool) (hp : p < bl Q) (hs : s ≤ 1) : rk p (2 * Q + s) = rk p Q + 1 ∧ rQ p m neg 0 (2 * Q + s) = rQ p m neg s Q ∧ rA p m neg 0 (2 * Q + s) = rA p m neg s Q := by
  have := round_more (p := p) (m := m) (Q := Q) (s := s) (s' := 0) (t := 1) (low := s) neg (by omega) hp hs (fun h => ⟨h, rfl⟩) (fun h => by omega)
  rw [Nat.pow_one, Nat.mul_comm Q 2] at this
  exact this
end Go.Proofs.YtllhnjpnkmjopaaGreatDoor
namespace Go.Proofs.YtllhnjpnkmjopaaGreatDoor

theorem qN_scale {X Y i c : Nat} (hc : 0 < c) : qN (X * c) (Y * c) i = qN X Y i ∧ qS (X * c) (Y * c) i = qS X Y i := by
  have e : X * c * 2 ^ i = X * 2 ^ i * c := by rw [Nat.mul_assoc, Nat.mul_comm c, ← Nat.mul_assoc]
  unfold qN qS
  rw [e, Nat.mul_div_mul_right _ _ hc, Nat.mul_mod_mul_right]
  refine ⟨rfl, ?_⟩
  have h : (X * 2 ^ i % Y * c = 0) ↔ (X * 2 ^ i % Y = 0) := by
    rw [Nat.mul_eq_zero]
    exact ⟨fun h => h.resolve_right (by omega), .inl⟩
  by_cases h0 : X * 2 ^ i % Y = 0
  · rw [if_pos h0, if_pos (h.2 h0)]
  · rw [if_neg h0, if_neg (fun hh => h0 (h.1 hh))]
theorem qN_shift (X Y i c : Nat) : qN (X * 2 ^ c) Y i = qN X Y (c + i) ∧ qS (X * 2 ^ c) Y i = qS X Y (c + i) := by
  have e : X * 2 ^ c * 2 ^ i = X * 2 ^ (c + i) := by rw [Nat.mul_assoc, ← Nat.pow_add]
  unfold qN qS
  rw [e]
  exact ⟨rfl, rfl⟩
theorem quo_both {p m M1 M2 u v t s k : Nat} (neg : Bool) (h2 : 0 < M2) (hp : p < bl (qN (M1 * 2 ^ u) (M2 * 2 ^ v) t)) (hk : p < bl (qN M1 M2 k)) :
    rQ p m neg (qS (M1 * 2 ^ u) (M2 * 2 ^ v) t) (qN (M1 * 2 ^ u) (M2 * 2 ^ v) t * 2 ^ s) = rQ p m neg 0 (2 * qN M1 M2 k + qS M1 M2 k) ∧
    rA p m neg (qS (M1 * 2 ^ u) (M2 * 2 ^ v) t) (qN (M1 * 2 ^ u) (M2 * 2 ^ v) t * 2 ^ s) = rA p m neg 0 (2 * qN M1 M2 k + qS M1 M2 k) ∧
    ((rk p (qN (M1 * 2 ^ u) (M2 * 2 ^ v) t * 2 ^ s) : Nat) : Int) - s - t - u + v = ((rk p (2 * qN M1 M2 k + qS M1 M2 k) : Nat) : Int) - 1 - k := by
  have a1 : qN (M1 * 2 ^ u) (M2 * 2 ^ v) t = qN M1 (M2 * 2 ^ v) (u + t) ∧ qS (M1 * 2 ^ u) (M2 * 2 ^ v) t = qS M1 (M2 * 2 ^ v) (u + t) := qN_shift M1 (M2 * 2 ^ v) t u
  have a2 : qN M1 M2 k = qN M1 (M2 * 2 ^ v) (v + k) ∧ qS M1 M2 k = qS M1 (M2 * 2 ^ v) (v + k) := by
    have h := qN_scale (X := M1) (Y := M2) (i := k) (Nat.two_pow_pos v)
    have h' := qN_shift M1 (M2 * 2 ^ v) k v
    exact ⟨h.1.symm.trans h'.1, h.2.symm.trans h'.2⟩
  rw [a1.1] at hp
  rw [a2.1] at hk
  rw [a1.1, a1.2, a2.1, a2.2]
  have hY : 0 < M2 * 2 ^ v := Nat.mul_pos h2 (Nat.two_pow_pos v)
  obtain ⟨b1, b2, b3⟩ := quo_round (m := m) neg hY hp hk
  obtain ⟨c1, c2, c3⟩ := round_mark (m := m) neg hk (qS_le M1 (M2 * 2 ^ v) (v + k))
  have hl := qS_le M1 (M2 * 2 ^ v) (u + t)
  obtain ⟨d1, d2, d3⟩ := round_more (m := m) (s := qS M1 (M2 * 2 ^ v) (u + t)) (s' := qS M1 (M2 * 2 ^ v) (u + t)) (t := s) (low := 0) neg (Nat.two_pow_pos s) hp hl (fun h => ⟨rfl, h⟩) (fun h hc => by have := hc.2; omega)
  rw [Nat.add_zero] at d1 d2 d3
  refine ⟨by rw [d2, c2, b2], by rw [d3, c3, b3], ?_⟩
  rw [d1, c1]
  omega
theorem bl_quo {X Y a b p : Nat} (hY : 0 < Y) (hX : 2 ^ a ≤ X) (hb : Y < 2 ^ b) (h : b + p ≤ a) : p < bl (X / Y) := by
  refine bl_gt ?_
  rw [Nat.le_div_iff_mul_le hY]
  have h1 : 2 ^ p * Y ≤ 2 ^ p * 2 ^ b := Nat.mul_le_mul_left _ (Nat.le_of_lt hb)
  have h2 : 2 ^ p * 2 ^ b ≤ 2 ^ a := by rw [← Nat.pow_add]; exact Nat.pow_le_pow_right (by decide) (by omega)
  omega
end Go.Proofs.YtllhnjpnkmjopaaGreatDoor
