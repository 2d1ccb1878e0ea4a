/-
Texts of this proof, joined: GcA GcF NmD RgD LhA. No condition.
-/
import Derived.Test.YtoddjkpckpekcaaGreatDoorK03
import Derived.Test.YtoddjkpckpekcaaGreatDoorK13
import Derived.Test.YtoddjkpckpekcaaGreatDoorK20
import Derived.Test.YtoddjkpckpekcaaGreatDoorK21
namespace Go.Proofs.YtoddjkpckpekcaaGreatDoor
open Go.RowKit

structure Smaller (A B A' B' : Nat) : Prop where
  lt : B' < A'
  less : B' < B
  top : A' ≤ B
  dvd : ∀ d, (d ∣ A ∧ d ∣ B) ↔ (d ∣ A' ∧ d ∣ B')
theorem Smaller.of {A B A' B' u0 u1 v0 v1 : Nat} (hA : A = v1 * A' + v0 * B') (hB : B = u1 * A' + u0 * B') (hlt : B' < A') (hu : 0 < u1)
    (hd : ∀ d, d ∣ A → d ∣ B → d ∣ A' ∧ d ∣ B') : Smaller A B A' B' := by
  have h1 : A' ≤ B := by
    rw [hB]; exact Nat.le_trans (Nat.le_mul_of_pos_left _ hu) (Nat.le_add_right _ _)
  refine ⟨hlt, by omega, h1, fun d => ⟨fun h => hd d h.1 h.2, fun h => ⟨?_, ?_⟩⟩⟩
  · rw [hA]; exact Nat.dvd_add (Nat.dvd_mul_left_of_dvd h.1 _) (Nat.dvd_mul_left_of_dvd h.2 _)
  · rw [hB]; exact Nat.dvd_add (Nat.dvd_mul_left_of_dvd h.1 _) (Nat.dvd_mul_left_of_dvd h.2 _)
structure Sim (a b x y u0 u1 u2 v0 v1 v2 : Nat) (ev : Bool) : Prop where
  ha : a = v2 * x + v1 * y
  hb : b = u2 * x + u1 * y
  sgn : if ev then x + u1 * a = v1 * b ∧ y + v2 * b = u2 * a ∧ u2 * v1 = 1 + u1 * v2 else x + v1 * b = u1 * a ∧ y + u2 * a = v2 * b ∧ u1 * v2 = 1 + u2 * v1
  yx : y ≤ x
  u2v2 : u2 ≤ v2
  v2 : 0 < v2
  one : 0 < u1 + u2
  u1v1 : v1 = 0 ∨ (u1 ≤ v1 ∧ 0 < u2)
  zero : v1 = 0 → u2 = 0
  cert : v0 = 0 ∨ (u0 ≤ v0 ∧ 0 < u1 ∧ 0 < v1 ∧ u1 ≤ v1 ∧ ∃ xp, v1 ≤ x ∧ v0 + v1 + x ≤ xp ∧
    (if ev then xp + v0 * b = u0 * a ∧ u0 * v1 = 1 + u1 * v0 else xp + u0 * a = v0 * b ∧ u1 * v0 = 1 + u0 * v1))
theorem Sim.start {a b : Nat} (h : b ≤ a) : Sim a b a b 0 1 0 0 0 1 false :=
  ⟨by simp, by simp, by simp, h, by decide, by decide, by decide, .inl rfl, fun _ => rfl, .inl rfl⟩
theorem Sim.step {a b x y u0 u1 u2 v0 v1 v2 q r : Nat} {ev : Bool} (h : Sim a b x y u0 u1 u2 v0 v1 v2 ev) (c1 : v2 ≤ y) (c2 : v1 + v2 ≤ x - y) (hx : x = q * y + r) (hr : r < y) :
    Sim a b y r u1 u2 (u1 + q * u2) v1 v2 (v1 + q * v2) (!ev) := by
  have hq : 0 < q := by
    rcases Nat.eq_zero_or_pos q with h0 | h0
    · rw [h0, Nat.zero_mul] at hx; have := h.yx; omega
    · exact h0
  have hq2 : v2 ≤ q * v2 := Nat.le_mul_of_pos_left _ hq
  have hq3 : u2 ≤ q * u2 := Nat.le_mul_of_pos_left _ hq
  have e1 := h.ha
  have e2 := h.hb
  have h2 := h.sgn
  have hv2 := h.v2
  have hone := h.one
  have huv : q * u2 ≤ q * v2 := Nat.mul_le_mul_left _ h.u2v2
  refine ⟨?_, ?_, ?_, Nat.le_of_lt hr, ?_, by omega, by omega, .inr ⟨h.u2v2, by omega⟩, fun h0 => by omega, ?_⟩
  · rw [e1, hx]; grind
  · rw [e2, hx]; grind
  · cases ev with
    | true =>
      obtain ⟨s1, s2, s3⟩ := h2
      refine ⟨s2, ?_, ?_⟩
      · have : (r : Int) + (u1 + q * u2 : Nat) * a = (v1 + q * v2 : Nat) * b := by
          have t1 : (x : Int) + u1 * a = v1 * b := by exact_mod_cast s1
          have t2 : (y : Int) + v2 * b = u2 * a := by exact_mod_cast s2
          have t3 : (x : Int) = q * y + r := by exact_mod_cast hx
          push_cast
          grind
        exact_mod_cast this
      · have : ((u2 : Int)) * (v1 + q * v2 : Nat) = 1 + (u1 + q * u2 : Nat) * v2 := by
          have t3 : (u2 : Int) * v1 = 1 + u1 * v2 := by exact_mod_cast s3
          push_cast
          grind
        exact_mod_cast this
    | false =>
      obtain ⟨s1, s2, s3⟩ := h2
      refine ⟨s2, ?_, ?_⟩
      · have : (r : Int) + (v1 + q * v2 : Nat) * b = (u1 + q * u2 : Nat) * a := by
          have t1 : (x : Int) + v1 * b = u1 * a := by exact_mod_cast s1
          have t2 : (y : Int) + u2 * a = v2 * b := by exact_mod_cast s2
          have t3 : (x : Int) = q * y + r := by exact_mod_cast hx
          push_cast
          grind
        exact_mod_cast this
      · have : ((u1 + q * u2 : Nat) : Int) * v2 = 1 + u2 * (v1 + q * v2 : Nat) := by
          have t3 : (u1 : Int) * v2 = 1 + u2 * v1 := by exact_mod_cast s3
          push_cast
          grind
        exact_mod_cast this
  · rcases h.u1v1 with h0 | h0
    · have hu2 := h.zero h0
      have hs : u1 ≤ q * v2 := by
        have : u1 ≤ 1 := by
          cases ev with
          | true => obtain ⟨-, -, s3⟩ := h2; rw [hu2] at s3; omega
          | false =>
            obtain ⟨-, -, s3⟩ := h2
            rw [hu2, Nat.zero_mul] at s3
            have := Nat.le_mul_of_pos_right u1 hv2
            omega
        omega
      rw [hu2, Nat.mul_zero]; omega
    · omega
  · rcases Nat.eq_zero_or_pos v1 with h0 | h0
    · exact .inl h0
    · right
      have h3 := h.u1v1.resolve_left (by omega)
      refine ⟨h3.1, h3.2, hv2, h.u2v2, x, c1, by omega, ?_⟩
      cases ev with
      | true => obtain ⟨s1, s2, s3⟩ := h2; exact ⟨s1, s3⟩
      | false => obtain ⟨s1, s2, s3⟩ := h2; exact ⟨s1, s3⟩
theorem Sim.bd {a b x y u0 u1 u2 v0 v1 v2 : Nat} {ev : Bool} (h : Sim a b x y u0 u1 u2 v0 v1 v2 ev) (hx : 0 < x) (hba : b ≤ a) : v2 ≤ a ∧ u2 ≤ a ∧ (0 < y → v1 + v2 ≤ a ∧ u1 + u2 ≤ a ∧ u1 ≤ a) := by
  have h1 := h.ha
  have h2 := h.hb
  have p1 : v2 ≤ v2 * x := Nat.le_mul_of_pos_right _ hx
  have p2 : u2 ≤ u2 * x := Nat.le_mul_of_pos_right _ hx
  refine ⟨by omega, by omega, fun hy => ?_⟩
  have p3 : v1 ≤ v1 * y := Nat.le_mul_of_pos_right _ hy
  have p4 : u1 ≤ u1 * y := Nat.le_mul_of_pos_right _ hy
  omega
structure Bx (w : World) (B b : Nat) (neg : Bool) (v : Value) (zs : List Value) : Prop where
  le : B ≤ b
  row : w.heap[b]? = some (.cells #[.bool neg, v] 87 (0, 0))
  own : Own w B 98 v zs
def Sep (v u : Value) : Prop := 0 < sCap v → 0 < sCap u → sBlk v ≠ sBlk u
theorem Sep.symm {v u : Value} (h : Sep v u) : Sep u v := fun a b he => h b a he.symm
theorem IntRo.box {b : Nat} {zneg : Bool} {v vz : Value} {neg : Bool} {N B : Nat} {w w' : World} (h : IntRo b 0 #[.bool zneg, v] 87 vz neg N B w w') : IntR b vz neg N B w w' := by
  obtain ⟨r, h1, h2, h3⟩ := h.row
  exact ⟨⟨r, h1, h2, h3⟩, h.below, h.fr⟩
theorem Bx.keep {w w' : World} {B b c : Nat} {n neg zneg : Bool} {v vz : Value} {ys zs : List Value} {N : Nat} (hc : Bx w B c n v ys) (hb : Bx w B b zneg vz zs) (h : IntR b vz neg N B w w') (hne : c ≠ b) (hs : Sep v vz) : Bx w' B c n v ys := by
  refine ⟨hc.le, (h.fr c (get_lt hc.row) hne (fun hz => hb.own.neRow hc.row (by decide) hz)).trans hc.row, hc.own.same fun hv => h.fr _ (hc.own.lt hv).2 (fun he => hc.own.neRow hb.row (by decide) hv he.symm) (fun hz => hs hv hz)⟩
theorem Bx.made {w w' : World} {B b : Nat} {neg zneg : Bool} {vz : Value} {zs : List Value} {N : Nat} (hb : Bx w B b zneg vz zs) (h : IntR b vz neg N B w w') : ∃ r, Bx w' B b neg r (cellsW (wds N)) ∧ ∀ {c : Nat} {n : Bool} {v : Value} {ys : List Value}, Bx w B c n v ys → Sep v vz → Sep v r := by
  obtain ⟨r, h1, h2, h3⟩ := h.row
  refine ⟨r, ⟨hb.le, h1, h2⟩, fun hc hs hv hr he => ?_⟩
  rcases h3 hr with ⟨a, e⟩ | a
  · exact hs hv a (he.trans e)
  · have := (hc.own.lt hv).2; omega
theorem Bx.ro {w : World} {B b N : Nat} {neg : Bool} {v : Value} (h : Bx w B b neg v (cellsW (wds N))) : RO w v (wds N) := h.own.ro fun _ hd => wds_lt hd
structure Quad (w : World) (B a b q r : Nat) (ma mb mq mr : Bool) (va vb vq vr : Value) (za zb zq zr : List Value) : Prop where
  ba : Bx w B a ma va za
  bb : Bx w B b mb vb zb
  bq : Bx w B q mq vq zq
  br : Bx w B r mr vr zr
  sab : Sep va vb
  saq : Sep va vq
  sar : Sep va vr
  sbq : Sep vb vq
  sbr : Sep vb vr
  sqr : Sep vq vr
  nab : a ≠ b
  naq : a ≠ q
  nar : a ≠ r
  nbq : b ≠ q
  nbr : b ≠ r
  nqr : q ≠ r
theorem Sep.al {v u : Value} (h : Sep v u) (hu : IsS u) (hl : 0 < sLen u) : Al v u := fun hv he => absurd he.symm (h hv (by have := hu.le; omega))
theorem Quad.put {w w' : World} {B a b q r : Nat} {ma mb mq mr : Bool} {va vb vq vr : Value} {za zb zq zr : List Value} {neg : Bool} {N : Nat} (h : Quad w B a b q r ma mb mq mr va vb vq vr za zb zq zr) (hw : IntR a va neg N B w w') :
    ∃ v, Quad w' B a b q r neg mb mq mr v vb vq vr (cellsW (wds N)) zb zq zr := by
  obtain ⟨v, h1, h2⟩ := h.ba.made hw
  exact ⟨v, h1, h.bb.keep h.ba hw h.nab.symm h.sab.symm, h.bq.keep h.ba hw h.naq.symm h.saq.symm, h.br.keep h.ba hw h.nar.symm h.sar.symm,
    (h2 h.bb h.sab.symm).symm, (h2 h.bq h.saq.symm).symm, (h2 h.br h.sar.symm).symm, h.sbq, h.sbr, h.sqr, h.nab, h.naq, h.nar, h.nbq, h.nbr, h.nqr⟩
theorem StO.keep {w w' : World} {B s L : Nat} {o : Option (Nat × Value)} (h : StO w B s L o) (hk : ∀ k, SBk s o k → w'.heap[k]? = w.heap[k]?) : StO w' B s L o := by
  match o, h with
  | none, ⟨h0, h1, h2⟩ => exact ⟨h0, (hk s (.inl rfl)).trans h1, h2⟩
  | some qv, ⟨h0, h1, h2, h3, xs, h4, h5⟩ => exact ⟨h0, h1, (hk s (.inl rfl)).trans h2, (hk qv.1 (.inr ⟨qv, rfl, .inl rfl⟩)).trans h3, xs, h4.same fun hc => hk _ (.inr ⟨qv, rfl, .inr ⟨hc, rfl⟩⟩), h5⟩
theorem nil_cap : ¬ 0 < sCap (.slice none 0 0) := by decide
set_option maxRecDepth 100000 in
theorem low64_any (v : Value) (N : Nat) (w : World) (h : RW w v (wds N)) (h0 : 0 < N) :
    Calls Tryz.prog 111 #[v] w fun e w' => e = .returned (.int .u64 ((N % 18446744073709551616 : Nat) : Int)) ∧ w = w' := by
  have hS := h.isS
  obtain ⟨l, hl⟩ : ∃ l, l = nw N := ⟨_, rfl⟩
  have hL : sLen v = l := by rw [h.len, wds_length, hl]
  have hl0 : 0 < l := by rw [hl]; exact nw_pos h0
  have hle := hS.le
  have c0 : w.cell? ⟨sBlk v, sOff v, none⟩ = some (.int .u64 ((N % 18446744073709551616 : Nat) : Int)) := by
    have := h.cell 0 (by rw [wds_length, ← hl]; exact hl0)
    rw [wds_getD, wdg_zero_eq, Nat.add_zero] at this
    exact this
  have t : ((l : Int) == 0) = false := by rw [beq_eq_false_iff_ne]; omega
  obtain ⟨x, hx⟩ : ∃ x, x = N % 18446744073709551616 := ⟨_, rfl⟩
  rw [← hx] at c0 ⊢
  clear hx hl h h0
  go_enter Tryz.func111, Tryz.ntmps111
  go_wp2
  go_ret
  exact ⟨rfl, rfl⟩
set_option maxHeartbeats 800000 in
theorem div_over (x y : Value) (N D B s : Nat) (xs : List Value) (o : Option (Nat × Value)) (w : World) (hst : StO w B s 0 o) (hox : Own w B 98 x xs) (hx : RO w x (wds N)) (hxS : ¬ SBk s o (sBlk x)) (hy : RO w y (wds D)) (hyS : ¬ SBk s o (sBlk y)) (hxy : sBlk y ≠ sBlk x)
    (hD : 0 < D) (hn40 : nw D < 40) (hlu : nw N ≤ 90000) (hB : B ≤ w.heap.size) (hT : DivW w) (hg : 3 < B) :
    Calls Tryz.prog 61 #[.slice none 0 0, .pointer (some ⟨s, 0, none⟩), x, x, y] w fun e w' => ∃ q r, e = .returned (.tuple #[q, r]) ∧ ∃ o', Own w' B 98 q (cellsW (wds (N / D))) ∧ Own w' B 98 r (cellsW (wds (N % D))) ∧ StO w' B s 0 o' ∧ (∀ k, SBk s o' k → SBk s o k ∨ w.heap.size ≤ k) ∧ Below B w w' ∧ (∀ k, k < w.heap.size → ¬ SBk s o k → (0 < sCap x → k ≠ sBlk x) → w'.heap[k]? = w.heap[k]?) := by
  refine (div_stk (.slice none 0 0) x x y [] xs N D B s 0 o w hst (by decide) (fun h => absurd h nil_cap) (fun _ => hxS) hxS hyS (Own.nil _ _ _) hox hx hy (Al.nil x) hD hn40 hlu (fun h => absurd h nil_cap) (fun _ _ => rfl) (fun _ => hxy) hB hT hg).mono ?_
  rintro e w' ⟨q, r, rfl, h | ⟨k, o', h⟩⟩
  · refine ⟨q, r, rfl, o, h.oq, h.or_, hst.keep fun k hk => h.fr k (hst.base hk).2 (fun hc => absurd hc nil_cap) (fun _ he => hxS (he ▸ hk)), fun k hk => .inl hk, h.below, fun k hk _ hx => h.fr k hk (fun hc => absurd hc nil_cap) hx⟩
  · exact ⟨q, r, rfl, o', h.oq, h.or_, h.st, h.sb, undrewN h.below, fun k hk hn hx => h.fr k hk hn (fun hc => absurd hc nil_cap) hx⟩
set_option maxRecDepth 100000 in
set_option maxHeartbeats 3200000 in
theorem lsh_gen (z0 x : Value) (zs : List Value) (X s B : Nat) (w : World) (hz : Own w B 98 z0 zs) (hx : RW w x (wds X)) (ax : Al z0 x) (h0 : 0 < X) (hl : nw X ≤ 10000000) (hs0 : 0 < s) (hs : s ≤ 1000000000) (hB : B ≤ w.heap.size) :
    Calls Tryz.prog 107 #[z0, x, .int .u64 s] w fun e w' => ∃ r, e = .returned r ∧ NatR z0 r (X * 2 ^ s) B w w' := by
  have hS := hx.isS
  have hSn := hz.isS
  have hL : sLen x = nw X := by rw [hx.len, wds_length]
  have hp := nw_pos h0
  obtain ⟨m, hm⟩ : ∃ m, m = nw X := ⟨_, rfl⟩
  obtain ⟨k, hk⟩ : ∃ k, k = s / 64 := ⟨_, rfl⟩
  obtain ⟨t, ht⟩ : ∃ t, t = s % 64 := ⟨_, rfl⟩
  obtain ⟨n, hn⟩ : ∃ n, n = m + k := ⟨_, rfl⟩
  obtain ⟨n1, hn1⟩ : ∃ n1, n1 = n + 1 := ⟨_, rfl⟩
  rw [← hm] at hL hl hp
  have hcx : m ≤ sCap x := by have := hS.le; omega
  have t0 : ((s : Int) == 0) = false := by rw [beq_eq_false_iff_ne]; omega
  have t1 : ((m : Int) == 0) = false := by rw [beq_eq_false_iff_ne]; omega
  have e1 : (s : Int) / 64 = (k : Int) := by omega
  have e2 : (m : Int) + (k : Int) = (n : Int) := by omega
  have e3 : (n : Int) + 1 = (n1 : Int) := by omega
  have e4 : (s : Int) % 64 = (t : Int) := by omega
  have e5 : (n : Int) - (m : Int) = (k : Int) := by omega
  have hkb : k ≤ 100000000 := by omega
  have hnb : n ≤ 200000000 := by omega
  have hkn : k ≤ n := by omega
  have hnn1 : n < n1 := by omega
  have ht64 : t < 64 := by omega
  have HS : Hid (X * 2 ^ s = 18446744073709551616 ^ k * (X * 2 ^ t)) := Lib.hid (by
    rw [w_two, Nat.mul_left_comm, ← Nat.pow_add]; congr 2; omega)
  have HX := Lib.hid hx
  have HZ0 := Lib.hid hz
  have HAX := Lib.hid ax
  have HBB := Lib.hid hB
  have HM := Lib.hid hm
  have HN := Lib.hid hn
  have HN1 := Lib.hid hn1
  have HMW : Hid (X < 18446744073709551616 ^ m) := Lib.hid (by rw [hm]; exact lt_nw X)
  clear hx hz ax hB hm hk ht hn hn1
  go_enter Tryz.func107, Tryz.ntmps107
  go_wp2_with fail
  refine (make_any z0 zs n1 B w HZ0.out (by omega) HBB.out).mono ?_
  rintro _ w1 ⟨z, rfl, hmk⟩
  obtain ⟨os0, hos0, ho⟩ := hmk.own
  have hb := hmk.below
  have hSz := ho.isS
  have hLz : sLen z = n1 := by rw [ho.len, hos0]
  have hcz1 : n1 ≤ sCap z := by have := hSz.le; omega
  have hcz0 : 0 < sCap z := by omega
  have hzB := (ho.lt hcz0).1
  have hX1 := HX.out.below hb
  have hSk : IsS (subS z k n) := subS_isS hSz hkn (by omega)
  have hS0k : IsS (subS z 0 k) := subS_isS hSz (Nat.zero_le _) (by omega)
  have hsub := ho.sub (l := k) (n := n) hkn (by omega)
  have hsl : ((os0.take n).drop k).length = m := by simp; have := HN.out; omega
  have hxb : 0 < (wds X).length := by rw [wds_length, ← HM.out]; exact hp
  have hal : sBlk x = sBlk (subS z k n) → sOff x ≤ sOff (subS z k n) := fun he => by
    have := hmk.al hSn (by omega) HAX.out HX.out hxb (by rw [he, subS_blk hSz])
    rw [subS_off hSz (by omega)]; omega
  have HMK := Lib.hid hmk
  -- what is common to both ways: the words from k on, the carry, then the words below k
  have hfin : ∀ (w2 : World) (c : Nat), c < 18446744073709551616 → X * 2 ^ t = wv (wdsN (X * 2 ^ t) m) + 18446744073709551616 ^ m * c → VvP (subS z k n) m B (X * 2 ^ t) w1 w2 →
      (w2.frozen? ⟨sBlk z, sOff z + n, none⟩ = false ∧ ∃ u, w2.cell? ⟨sBlk z, sOff z + n, none⟩ = some u) ∧
      ∃ os : List Value, os.length = k ∧ Own (w2.setCell ⟨sBlk z, sOff z + n, none⟩ (.int .u64 (c : Int))) B 98 (subS z 0 k) os ∧
        ∀ w3, Own w3 B 98 (subS z 0 k) (List.replicate os.length (.int .u64 0)) → Below B (w2.setCell ⟨sBlk z, sOff z + n, none⟩ (.int .u64 (c : Int))) w3 → FrB (sBlk (subS z 0 k)) (sOff (subS z 0 k)) (sOff (subS z 0 k) + os.length) (w2.setCell ⟨sBlk z, sOff z + n, none⟩ (.int .u64 (c : Int))) w3 →
          Calls Tryz.prog 89 #[z] w3 fun e w' => e = .returned (subS z 0 (nw (X * 2 ^ s))) ∧ w3 = w' ∧ NatR z0 (subS z 0 (nw (X * 2 ^ s))) (X * 2 ^ s) B w w3 := fun w2 c hc hcX hvp => by
    have hmn : n - k = m := by have := HN.out; omega
    have hpt := VvP.patch (l := k) (n := n) ho hkn (by omega) (by rw [hmn]; exact hvp)
    rw [hmn] at hpt
    obtain ⟨ho2, hb2, hf2⟩ := hpt
    obtain ⟨u0, hd⟩ : ∃ u0, os0.drop n = [u0] := List.length_eq_one_iff.1 (by rw [List.length_drop, hos0]; have := HN1.out; omega)
    rw [hd] at ho2
    have htk : (os0.take k).length = k := by rw [List.length_take]; omega
    have hlen : (os0.take k ++ (cellsW (wdsN (X * 2 ^ t) m) ++ [u0])).length = n1 := by
      rw [List.length_append, htk, List.length_append, cellsW_length, wdsN_length]; have := HN.out; have := HN1.out; simp; omega
    have hset := ho2.set (i := n) (by rw [hlen]; exact hnn1) (.int .u64 (c : Int))
    have e6 : (os0.take k ++ (cellsW (wdsN (X * 2 ^ t) m) ++ [u0])).set n (.int .u64 (c : Int)) = os0.take k ++ cellsW (wdsN (X * 2 ^ t) m ++ [c]) := by
      rw [List.set_append_right _ _ (by omega), htk, hmn, List.set_append_right _ _ (by rw [cellsW_length, wdsN_length]; exact Nat.le_refl _), cellsW_length, wdsN_length, Nat.sub_self, ← cellsW_append]
      rfl
    rw [e6] at hset
    have hB3 := bset (i := sOff z + n) (u := .int .u64 (c : Int)) ((hb.mono HBB.out).trans hb2) hzB
    have hF3 := (hf2.mono (lo' := sOff z) (hi' := sOff z + n1) (Nat.le_add_right _ _) (by omega)).set (i := sOff z + n) (Nat.le_add_right _ _) (by omega) (.int .u64 (c : Int))
    have hs0k := hset.sub (l := 0) (n := k) (Nat.zero_le _) (by rw [List.length_append, htk]; omega)
    refine ⟨⟨ho2.frozen hcz0 _, _, ho2.cell (List.getElem?_eq_getElem (by rw [hlen]; exact hnn1))⟩, _, ?_, hs0k, fun w3 h1 h2 h3 => ?_⟩
    · rw [List.take_left' htk]; simp; omega
    · have hol : (((os0.take k ++ cellsW (wdsN (X * 2 ^ t) m ++ [c])).take k).drop 0).length = k := by rw [List.take_left' htk]; simp; omega
      rw [hol] at h1 h3
      rw [(sub0 hSz).1, (sub0 hSz).2] at h3
      have hp3 := hset.patch (l := 0) (n := k) (Nat.zero_le _) (by rw [List.length_append, htk]; omega) (by simp) h1 (by rw [Nat.add_zero]; exact h3)
      rw [List.take_zero, List.nil_append, List.drop_left' htk, cellsW_zeros, cellsW_append] at hp3
      have hlt : ∀ e ∈ List.replicate k 0 ++ (wdsN (X * 2 ^ t) m ++ [c]), e < 18446744073709551616 := by
        intro e he
        rcases List.mem_append.1 he with h | h
        · rw [List.eq_of_mem_replicate h]; decide
        · rcases List.mem_append.1 h with h | h
          · exact wdsN_lt e h
          · rw [List.mem_singleton] at h; omega
      have hz0 : ∀ j, wv (List.replicate j 0) = 0 := fun j => by
        induction j with
        | zero => rfl
        | succ j ih => rw [List.replicate_succ]; simp [wv, ih]
      have hnum : wv (List.replicate k 0 ++ (wdsN (X * 2 ^ t) m ++ [c])) = X * 2 ^ s := by
        rw [wv_append, hz0, List.length_replicate, wv_append, wdsN_length, show wv [c] = c by simp [wv], ← hcX, HS.out, Nat.zero_add]
      have hN := norm_any z _ w3 (hp3.rw' hlt) (by simp [wdsN_length]; omega)
      have hT := hp3.takeW hlt
      rw [hnum] at hN hT
      have hz2 : w1.heap.size ≤ w2.heap.size := hb2.size
      have hz3 : w2.heap.size ≤ w3.heap.size := by have := h2.size; simpa [World.setCell] using this
      have hF := hF3.trans (by simpa [World.setCell] using hz2) (h3.mono (lo' := sOff z) (hi' := sOff z + n1) (by omega) (by omega))
      exact hN.mono (fun e w' h => ⟨h.1, h.2, ⟨hT, hB3.trans h2, HMK.out.fr hSn (by omega) (Nat.le_trans hz2 hz3) hF.only, fun hcc => HMK.out.atS hSn hSz hcc⟩⟩)
  have HFIN := Lib.hid hfin
  have HO := Lib.hid ho
  have HOS0 := Lib.hid hos0
  have HB := Lib.hid hb
  have HSUB := Lib.hid hsub
  have HX1 := Lib.hid hX1
  clear hfin ho hb hsub hX1 hxb hmk hos0
  rcases Nat.eq_zero_or_pos t with ht0 | ht0
  · have t2 : ((t : Int) == 0) = true := by rw [ht0]; rfl
    have HT0 := Lib.hid ht0
    obtain ⟨T, hT⟩ : ∃ T, T = cellsW (wds X) := ⟨_, rfl⟩
    have HT := Lib.hid hT
    have HSL := Lib.hid hsl
    clear ht0 hT hsl
    go_wp2_with (refine wpList_copy_W (o := ⟨some 48, _, _, _, _, _⟩) rfl (.tmp 46) (.tmp 47) 85 85 rfl 98 Tryz.underlying85 sizeW (subS z k n) x rfl rfl B _ HSUB.out T ?d1 hS ?d2 ?d3 (by rw [HT.out]; exact cellsW_one _) ?_)
    case d1 => rw [HSL.out, HT.out, cellsW_length, wds_length, ← HM.out]
    case d2 => rw [HT.out, cellsW_length, wds_length, hL, ← HM.out]
    case d3 => rw [HT.out]; exact HX1.out.at
    intro w2 ho2 hb2 hf2 _
    obtain ⟨⟨fz, u, cu⟩, os, hos, ho3, hk3⟩ := HFIN.out w2 0 (by decide) (by
      rw [HT0.out, Nat.pow_zero, Nat.mul_one, wv_wdsN_lt HMW.out, Nat.mul_zero, Nat.add_zero]) ⟨by
        rw [HT0.out, Nat.pow_zero, Nat.mul_one]
        have h1 : wdsN X m = wds X := by rw [HM.out]; exact wdsN_nw X
        rw [h1, ← HT.out]; exact ho2, hb2, by rw [show min n os0.length - k = m by rw [HOS0.out]; have := HN.out; omega] at hf2; exact hf2⟩
    have HO3 := Lib.hid ho3
    have HK3 := Lib.hid hk3
    have HOS := Lib.hid hos
    clear ho2 hb2 hf2 ho3 hk3 hos
    go_wp2_with (refine wpList_clear_O (o := ⟨none, _, _, _, _, _⟩) rfl (.tmp 68) 85 rfl elemT rfl (subS z 0 k) rfl B os HO3.out ?_)
    intro w3 ho4 hb4 hf4
    have HQ := Lib.hid (HK3.out w3 ho4 hb4 hf4)
    clear ho4 hb4 hf4
    go_wp2_with fail
    refine HQ.out.mono ?_
    rintro _ _ ⟨rfl, rfl, h5⟩
    have Q := Lib.hid h5
    have hSq := h5.own.isS
    clear h5
    go_wp2
    go_ret
    exact ⟨_, rfl, Q.out⟩
  · have t2 : ((t : Int) == 0) = false := by rw [beq_eq_false_iff_ne]; omega
    have HC : Hid (X * 2 ^ t = wv (wdsN (X * 2 ^ t) m) + 18446744073709551616 ^ m * (wdg X (m - 1) / 2 ^ (64 - t)) ∧ wdg X (m - 1) / 2 ^ (64 - t) < 18446744073709551616) := Lib.hid (by
      obtain ⟨L, rfl⟩ : ∃ L, m = L + 1 := ⟨m - 1, by omega⟩
      rw [Nat.add_sub_cancel]
      refine ⟨?_, Nat.lt_of_le_of_lt (Nat.div_le_self _ _) (wdg_lt _ _)⟩
      rw [top_carry HMW.out ht0 ht64, wdsN_wv]
      have := Nat.mod_add_div (X * 2 ^ t) (18446744073709551616 ^ (L + 1))
      omega)
    have HLS : Hid (∀ j, Calls Tryz.prog 131 #[subS z k n, x, .int .u64 t] (w1.drewN j) fun e w' => e = .returned (.int .u64 (wdg X (m - 1) / 2 ^ (64 - t) : Nat)) ∧ VvP (subS z k n) m B (X * 2 ^ t) w1 w') := Lib.hid (fun j => by
      have := lshVU_gen (subS z k n) x _ (wds X) X t B (w1.drewN j) (HSUB.out.drewN j) (HX1.out.below (undrewN' (Below.refl _ _))) (wv_wds X) (by rw [hsl, wds_length, HM.out]) hal (by rw [wds_length, ← HM.out]; exact hp) (by rw [wds_length, ← HM.out]; omega) ht0 ht64
      rw [wds_length, ← HM.out] at this
      refine this.mono ?_
      rintro _ w' ⟨rfl, h1, h2, h3⟩
      exact ⟨rfl, h1, undrewN h2, h3.undrewN⟩)
    obtain ⟨c, hc⟩ : ∃ c, c = wdg X (m - 1) / 2 ^ (64 - t) := ⟨_, rfl⟩
    rw [← hc] at HC HLS
    have HLS0 := Lib.hid (HLS.out 0)
    clear hsl hc ht0
    go_wp2_with fail
    refine (HLS0.out).mono ?_
    rintro _ w2 ⟨rfl, hvp⟩
    obtain ⟨⟨fz, u, cu⟩, os, hos, ho3, hk3⟩ := HFIN.out w2 c HC.out.2 HC.out.1 hvp
    have HO3 := Lib.hid ho3
    have HK3 := Lib.hid hk3
    have HOS := Lib.hid hos
    clear hvp ho3 hk3 hos
    go_wp2_with (refine wpList_clear_O (o := ⟨none, _, _, _, _, _⟩) rfl (.tmp 68) 85 rfl elemT rfl (subS z 0 k) rfl B os HO3.out ?_)
    intro w3 ho4 hb4 hf4
    have HQ := Lib.hid (HK3.out w3 ho4 hb4 hf4)
    clear ho4 hb4 hf4
    go_wp2_with fail
    refine HQ.out.mono ?_
    rintro _ _ ⟨rfl, rfl, h5⟩
    have Q := Lib.hid h5
    have hSq := h5.own.isS
    clear h5
    go_wp2
    go_ret
    exact ⟨_, rfl, Q.out⟩
end Go.Proofs.YtoddjkpckpekcaaGreatDoor
