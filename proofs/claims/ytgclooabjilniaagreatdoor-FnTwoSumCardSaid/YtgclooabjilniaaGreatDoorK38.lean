/-
Texts of this proof, joined: MoC LwH MoD TsB TsA TsC. No condition.
-/
import Derived.Test.YtgclooabjilniaaGreatDoorK23
import Derived.Test.YtgclooabjilniaaGreatDoorK25
import Derived.Test.YtgclooabjilniaaGreatDoorK37
/-
Rounding of a value told at a lower exponent. Plain law. No condition.
-/
namespace Go.Proofs.YtgclooabjilniaaGreatDoor
open Go.RowKit

theorem rV_zero (p m : Nat) : rV p m 0 = 0 := by
  unfold rV
  rw [Int.natAbs_zero, (rQ_zero p m (vN 0)).2.1, Nat.zero_mul, sI_zero]
theorem sI_mul (n : Bool) (x y : Nat) : sI n (x * y) = sI n x * (y : Int) := by cases n <;> simp [sI, Int.neg_mul]
theorem sI_vN (V : Int) : sI (vN V) V.natAbs = V := by
  unfold vN
  by_cases h : V < 0
  · rw [decide_eq_true h]; simp only [sI, if_true]; omega
  · rw [decide_eq_false h]; simp only [sI, Bool.false_eq_true, if_false]; omega
theorem rV_sI {p m M : Nat} {n : Bool} (h : 0 < M) : rV p m (sI n M) = sI n (rQ p m n 0 M * 2 ^ rk p M) := by
  unfold rV; rw [natAbs_sI, vN_sI h]
/-- Rounding of a value that is told at a lower exponent. -/
theorem rV_shl (p m : Nat) (V : Int) (t : Nat) : rV p m (V * ((2 ^ t : Nat) : Int)) = rV p m V * ((2 ^ t : Nat) : Int) := by
  rcases Nat.eq_zero_or_pos V.natAbs with h0 | h0
  · have hV : V = 0 := by omega
    rw [hV, Int.zero_mul, rV_zero, Int.zero_mul]
  · obtain ⟨n, M, hn, hM⟩ : ∃ n M, sI n M = V ∧ 0 < M := ⟨vN V, V.natAbs, sI_vN V, h0⟩
    rw [← hn, ← sI_mul, rV_sI hM, rV_sI (Nat.mul_pos hM (Nat.two_pow_pos t)), ← sI_mul]
    have h1 := (rnd_shl (p := p) (m := m) n hM t 0).1
    have h2 := deq_lift h1 (e := 0) (by omega) (by omega)
    rw [show (0 + ((rk p (M * 2 ^ t) : Nat) : Int) - 0).toNat = rk p (M * 2 ^ t) by omega, show (0 + (t : Int) + ((rk p M : Nat) : Int) - 0).toNat = rk p M + t by omega, Nat.pow_add, ← Nat.mul_assoc] at h2
    rw [h2]
end Go.Proofs.YtgclooabjilniaaGreatDoor

/-
The statement on rounding twice. No condition.
-/
namespace Go.Proofs.YtgclooabjilniaaGreatDoor
open Go.RowKit

set_option maxRecDepth 100000 in
set_option maxHeartbeats 800000 in
theorem same_eq (v u : Value) (ws : List Nat) (w : World) (hv : RW w v ws) (hu : RW w u ws) (hl : ws.length ≤ 1000000000) :
    Calls Tryz.prog 60 #[v, u] w fun e w' => e = .returned (.bool true) ∧ Below w.heap.size w w' := by
  have hSv := hv.isS
  have hLv := hv.len
  have hSu := hu.isS
  have hLu := hu.len
  obtain ⟨l, hlv⟩ : ∃ l, l = ws.length := ⟨_, rfl⟩
  rw [← hlv] at hLv hLu hl
  have Hl := Lib.hid hlv
  have Hv := Lib.hid hv
  have Hu := Lib.hid hu
  clear hv hu hlv
  go_enter Tryz.func60, Tryz.ntmps60
  go_wp2
  go_loopw [13] (fun i wr => ∃ k : Nat, k ≤ l ∧ i = .int .i64 k ∧ Below w.heap.size w wr) (fun i _ => l - (intOf i).toNat)
  case atStart => exact ⟨0, Nat.zero_le _, rfl, Below.refl _ _⟩
  case round =>
    obtain ⟨k, hk, rfl, hbl⟩ := hrel
    by_cases hkr : k < l
    · have cv := (Hv.out.below hbl).cell k (by rw [← Hl.out]; exact hkr)
      have cr := (Hu.out.below hbl).cell k (by rw [← Hl.out]; exact hkr)
      obtain ⟨p, hp⟩ : ∃ p, p = ws.getD k 0 := ⟨_, rfl⟩
      rw [← hp] at cv cr
      clear hp
      go_wp2
      go_quiet (fail)
      go_wp2
      exact ⟨⟨k + 1, by omega, by go_num, undrewN' hbl⟩, by simp [intOf]; omega⟩
    · have hkl : k = l := by omega
      clear hkl
      go_wp2
      go_ret
      exact ⟨rfl, hbl⟩
theorem od_rQ {p m M : Nat} (n : Bool) (s : Nat) (hp0 : 0 < p) (hM : 0 < M) : bl (od (rQ p m n s M)) ≤ p ∨ s ≠ 0 := by
  by_cases hs : s = 0
  · subst hs
    left
    by_cases h : bl M ≤ p
    · rw [(rQ_fits (m := m) n h).2.1]
      have := bl_od hM; omega
    · have h3 := (rQ_bound (m := m) n 0 hp0 (show p < bl M by omega)).2.2
      have h0 := rQ_pos (m := m) n 0 hp0 hM
      by_cases he : rQ p m n 0 M = 2 ^ p
      · have := (od_of (n := rQ p m n 0 M) (o := 1) (t := p) (by rw [Nat.one_mul]; exact he) (by decide)).1
        rw [this]; have : bl 1 ≤ 1 := bl_le (by decide)
        omega
      · have h4 : bl (rQ p m n 0 M) ≤ p := bl_le (by omega)
        have := bl_od h0; omega
  · exact .inr hs
theorem twice_eq {w : World} {y : Value} {p j f : Nat} {n : Bool} {zs : List Nat} {Ez : Int} (h : RealV w y p j f n (rQ p j n 0 (wv zs)) (Ez + (rk p (wv zs) : Nat))) (h1 : f = 1 → bl (wv zs) ≤ p ∧ wv zs % 2 = 1 ∧ zs = wds (wv zs)) (h0 : f ≠ 1 → zs = [] ∧ Ez = 0) :
    stA f p j n (wv zs) = 0 ∧ ∃ vy, y = .agg #[.int .u64 p, .int .i64 j, .int .i64 f, .bool n, vy, .int .i64 Ez] ∧ RW w vy zs := by
  obtain ⟨v, E, ys, B, e1, e2, e3, e4, e5⟩ := h
  by_cases hf : f = 1
  · obtain ⟨k1, k2, k3⟩ := h1 hf
    obtain ⟨l1, l2, l3⟩ := rQ_fits (p := p) (m := j) n k1
    obtain ⟨g1, g2⟩ := e5 hf
    rw [l2] at g1 g2
    obtain ⟨o1, o2⟩ := od_of (n := wv zs) (o := wv zs) (t := 0) (by simp) k2
    rw [o1, ← k3] at g1
    rw [o2, l1] at g2
    refine ⟨by unfold stA; rw [if_pos hf]; exact l3, v, ?_, ?_⟩
    · rw [e1, show E = Ez by simpa using g2]
    · rw [← g1]; exact e2.rw' e3
  · obtain ⟨g1, g2⟩ := e4 hf
    obtain ⟨k1, k2⟩ := h0 hf
    refine ⟨by unfold stA; rw [if_neg hf], v, ?_, ?_⟩
    · rw [e1, g2, k2]
    · rw [k1, ← g1]; exact e2.rw' e3
end Go.Proofs.YtgclooabjilniaaGreatDoor

/-
A rounded sum as the next operand. No condition.
-/
namespace Go.Proofs.YtgclooabjilniaaGreatDoor
open Go.RowKit

/-- A rounded sum as the next call's argument. -/
theorem AddZ.ok {w : World} {z : Value} {A : Int} {q m P : Nat} {zn : Bool} {V X : Int} (h : AddZ w z A q m zn V X) (hq0 : 0 < q) (hqP : q ≤ P) (hm : m ≤ 5) (hb : bl V.natAbs ≤ 100000) (hX : -100000 ≤ X ∧ X ≤ 100000) :
    ∃ (f : Nat) (n : Bool) (v : Value) (Ez : Int) (zs : List Nat), z = .agg #[.int .u64 q, .int .i64 m, .int .i64 f, .bool n, v, .int .i64 Ez] ∧ RW w v zs ∧ RealOk P 1000000 q m f zs Ez ∧ f ≤ 1 ∧ (f = 1 → 0 < wv zs ∧ X ≤ Ez) ∧
      ∀ e, e ≤ X → (if f = 1 then sI n (wv zs * 2 ^ (Ez - e).toNat) else 0) = rV q m (V * ((2 ^ (X - e).toNat : Nat) : Int)) := by
  obtain ⟨-, h⟩ := h
  have hf1 : fO V.natAbs ≤ 1 := by unfold fO; split <;> omega
  have h1 := rk_le q V.natAbs
  have h2 := bl_rQ q m (vN V) 0 V.natAbs
  obtain ⟨v, Ez, zs, e1, e2, e3, e4, e5⟩ := h.ok (P := P) (E := 1000000) hq0 hqP hm (by omega) (fun hf => by
    have hM : 0 < V.natAbs := by unfold fO at hf; split at hf <;> omega
    have h4 := od_rQ (m := m) (vN V) 0 hq0 hM
    exact ⟨rQ_pos (vN V) 0 hq0 hM, by simpa using h4, by omega, by omega, by omega⟩)
  refine ⟨_, _, v, Ez, zs, e1, e2, e3, hf1, fun hf => ?_, fun e he => ?_⟩
  · obtain ⟨k1, k2, k3, k4⟩ := e4 hf
    exact ⟨(e3.one hf).1, by omega⟩
  · rw [rV_shl]
    by_cases hf : fO V.natAbs = 1
    · obtain ⟨k1, k2, k3, k4⟩ := e4 hf
      have hM : 0 < V.natAbs := by unfold fO at hf; split at hf <;> omega
      have hV0 : V ≠ 0 := by omega
      rw [if_pos hf, if_neg hV0]
      have h5 := deq_lift k4 (e := e) (by omega) (by omega)
      rw [h5]
      unfold rV
      rw [← sI_mul]
      congr 1
      rw [show (X + ((rk q V.natAbs : Nat) : Int) - e).toNat = rk q V.natAbs + (X - e).toNat by omega, Nat.pow_add, ← Nat.mul_assoc]
    · have hV0 : V = 0 := by
        have : V.natAbs = 0 := by unfold fO at hf; split at hf <;> omega
        omega
      rw [if_neg hf, hV0, rV_zero, Int.zero_mul]
theorem cmpI_le {i j : Int} : cmpI i j ≤ 0 ↔ i ≤ j := by
  rcases Int.lt_trichotomy i j with h | h | h
  · rw [cmpI_lt h]; omega
  · subst h; unfold cmpI; rw [if_neg (by omega), if_neg (by omega)]; omega
  · rw [cmpI_gt h]; omega
theorem cmpI_ge {i j : Int} : 0 ≤ cmpI i j ↔ j ≤ i := by
  rcases Int.lt_trichotomy i j with h | h | h
  · rw [cmpI_lt h]; omega
  · subst h; unfold cmpI; rw [if_neg (by omega), if_neg (by omega)]; omega
  · rw [cmpI_gt h]; omega
theorem lo_dy {f M : Nat} {n : Bool} {E e : Int} : sI (dyN f n) (lo (dyM f M) (dyE f E) e) = if f = 1 then sI n (M * 2 ^ (E - e).toNat) else 0 := by
  unfold dyN dyM dyE
  split
  · rfl
  · rw [lo_zero, sI_zero]
/-- A sum at a lower exponent. -/
theorem smV_low {n1 n2 : Bool} {M N : Nat} {E F e : Int} (h : e ≤ min E F) : smV n1 M E n2 N F * ((2 ^ (min E F - e).toNat : Nat) : Int) = sI n1 (lo M E e) + sI n2 (lo N F e) := by
  unfold smV
  rw [Int.add_mul, ← sI_mul, ← sI_mul, lo_lo (by omega) h, lo_lo (by omega) h]
theorem dyE_le {f : Nat} {E e : Int} (h : f = 1 → e ≤ E) (h0 : e ≤ 0) : e ≤ dyE f E := by unfold dyE; split <;> omega
end Go.Proofs.YtgclooabjilniaaGreatDoor

/-
A rounded sum as the next operand, at a given range; the difference of two near values. No condition.
-/
namespace Go.Proofs.YtgclooabjilniaaGreatDoor
open Go.RowKit

theorem RealOk.mono {P E F p m f : Nat} {ws : List Nat} {e : Int} (h : RealOk P E p m f ws e) (hE : E ≤ F) : RealOk P F p m f ws e := by
  obtain ⟨h1, h2, h3, h | h | ⟨a, b, c, d, g1, g2⟩⟩ := h
  · exact ⟨h1, h2, h3, .inl h⟩
  · exact ⟨h1, h2, h3, .inr (.inl h)⟩
  · exact ⟨h1, h2, h3, .inr (.inr ⟨a, b, c, d, by omega, by omega⟩)⟩
theorem rk_rQ {p m M : Nat} (n : Bool) (hp : 0 < p) : rk p M + bl (rQ p m n 0 M) ≤ bl M + 1 := by
  rcases Nat.lt_or_ge p (bl M) with h | h
  · have h1 := (rQ_bound (m := m) n 0 hp h).2.2
    have h2 : bl (rQ p m n 0 M) ≤ p + 1 := bl_le (by rw [Nat.pow_succ]; have := Nat.two_pow_pos p; omega)
    unfold rk; omega
  · obtain ⟨k0, q0, -⟩ := rQ_fits (m := m) n h
    rw [k0, q0]; omega
/-- The value of a Real, at a lower exponent. -/
def vA (f : Nat) (n : Bool) (M : Nat) (E e : Int) : Int := sI (dyN f n) (lo (dyM f M) (dyE f E) e)
/-- A rounded sum as the next call's argument; T bounds its exponents. -/
theorem AddZ.okE {w : World} {z : Value} {A : Int} {q m P T : Nat} {zn : Bool} {V X : Int} (h : AddZ w z A q m zn V X) (hq0 : 0 < q) (hqP : q ≤ P) (hm : m ≤ 5) (hb : bl V.natAbs ≤ 100000) (_hT : T ≤ 1000000) (hX : -(T : Int) ≤ X) (hX2 : X + bl V.natAbs + 1 ≤ T) :
    ∃ (f : Nat) (n : Bool) (v : Value) (Ez : Int) (zs : List Nat), z = .agg #[.int .u64 q, .int .i64 m, .int .i64 f, .bool n, v, .int .i64 Ez] ∧ RW w v zs ∧ RealOk P T q m f zs Ez ∧ f ≤ 1 ∧ (f = 1 → 0 < wv zs ∧ X ≤ Ez) ∧
      ∀ e, e ≤ X → vA f n (wv zs) Ez e = rV q m (V * ((2 ^ (X - e).toNat : Nat) : Int)) := by
  obtain ⟨-, h⟩ := h
  have hf1 : fO V.natAbs ≤ 1 := by unfold fO; split <;> omega
  have h1 := rk_le q V.natAbs
  have h2 := bl_rQ q m (vN V) 0 V.natAbs
  have h3 := rk_rQ (m := m) (vN V) (M := V.natAbs) hq0
  obtain ⟨v, Ez, zs, e1, e2, e3, e4, e5⟩ := h.ok (P := P) (E := T) hq0 hqP hm (by omega) (fun hf => by
    have hM : 0 < V.natAbs := by unfold fO at hf; split at hf <;> omega
    have h4 := od_rQ (m := m) (vN V) 0 hq0 hM
    exact ⟨rQ_pos (vN V) 0 hq0 hM, by simpa using h4, by omega, by omega, by omega⟩)
  refine ⟨_, _, v, Ez, zs, e1, e2, e3, hf1, fun hf => ?_, fun e he => ?_⟩
  · obtain ⟨k1, k2, k3, k4⟩ := e4 hf
    exact ⟨(e3.one hf).1, by omega⟩
  · unfold vA
    rw [lo_dy, rV_shl]
    by_cases hf : fO V.natAbs = 1
    · obtain ⟨k1, k2, k3, k4⟩ := e4 hf
      have hM : 0 < V.natAbs := by unfold fO at hf; split at hf <;> omega
      have hV0 : V ≠ 0 := by omega
      rw [if_pos hf, if_neg hV0]
      have h5 := deq_lift k4 (e := e) (by omega) (by omega)
      rw [h5]
      unfold rV
      rw [← sI_mul]
      congr 1
      rw [show (X + ((rk q V.natAbs : Nat) : Int) - e).toNat = rk q V.natAbs + (X - e).toNat by omega, Nat.pow_add, ← Nat.mul_assoc]
    · have hV0 : V = 0 := by
        have : V.natAbs = 0 := by unfold fO at hf; split at hf <;> omega
        omega
      rw [if_neg hf, hV0, rV_zero, Int.zero_mul]
/-- Two near values: the difference has no more bits than one of them. -/
theorem smV_near {a b : Bool} {M N p q : Nat} {E F : Int} (hs : 0 < M → 0 < N → b = !a) (h1 : lo M E (min E F) ≤ 2 * lo N F (min E F)) (h2 : lo N F (min E F) ≤ 2 * lo M E (min E F)) (hM : bl M ≤ p) (hN : bl N ≤ q) : bl (smV a M E b N F).natAbs ≤ max p q := by
  rcases Nat.eq_zero_or_pos M with m0 | m0
  · have hl : lo M E (min E F) = 0 := by rw [m0, lo_zero]
    have hl2 : lo N F (min E F) = 0 := by omega
    unfold smV; rw [hl, hl2, sI_zero, sI_zero]
    show bl 0 ≤ _
    rw [bl_zero]; omega
  rcases Nat.eq_zero_or_pos N with n0 | n0
  · have hl : lo N F (min E F) = 0 := by rw [n0, lo_zero]
    have hl2 : lo M E (min E F) = 0 := by omega
    unfold smV; rw [hl, hl2, sI_zero, sI_zero]
    show bl 0 ≤ _
    rw [bl_zero]; omega
  have hb := hs m0 n0
  subst hb
  have hd : (smV a M E (!a) N F).natAbs ≤ lo M E (min E F) ∧ (smV a M E (!a) N F).natAbs ≤ lo N F (min E F) := by
    unfold smV; cases a <;> simp only [sI, Bool.not_true, Bool.not_false, if_true, Bool.false_eq_true, if_false] <;> omega
  rcases Int.le_total E F with h | h
  · have e : lo M E (min E F) = M := by rw [Int.min_eq_left h]; unfold lo; rw [Int.sub_self]; simp
    have := bl_mono (Nat.le_trans hd.1 (Nat.le_of_eq e)); omega
  · have e : lo N F (min E F) = N := by rw [Int.min_eq_right h]; unfold lo; rw [Int.sub_self]; simp
    have := bl_mono (Nat.le_trans hd.2 (Nat.le_of_eq e)); omega
end Go.Proofs.YtgclooabjilniaaGreatDoor

/-
Sums to the nearest: what is representable, and the error of a sum. Plain law. No condition.
-/
namespace Go.Proofs.YtgclooabjilniaaGreatDoor
open Go.RowKit

/-- A multiple of 2 to k. -/
def Mu (k : Nat) (v : Int) : Prop := ∃ m : Int, v = m * ((2 ^ k : Nat) : Int)
/-- A number of at most p bits, at an exponent from 0 on. -/
def Rep (p : Nat) (v : Int) : Prop := ∃ k : Nat, Mu k v ∧ v.natAbs ≤ 2 ^ p * 2 ^ k
theorem Mu.add {k : Nat} {u v : Int} (h : Mu k u) (g : Mu k v) : Mu k (u + v) := by
  obtain ⟨a, rfl⟩ := h
  obtain ⟨b, rfl⟩ := g
  exact ⟨a + b, by rw [Int.add_mul]⟩
theorem Mu.neg {k : Nat} {u : Int} (h : Mu k u) : Mu k (-u) := by
  obtain ⟨a, rfl⟩ := h
  exact ⟨-a, by rw [Int.neg_mul]⟩
theorem Mu.sub {k : Nat} {u v : Int} (h : Mu k u) (g : Mu k v) : Mu k (u - v) := by rw [Int.sub_eq_add_neg]; exact h.add g.neg
theorem Mu.low {j k : Nat} {u : Int} (h : Mu k u) (hj : j ≤ k) : Mu j u := by
  obtain ⟨a, rfl⟩ := h
  obtain ⟨d, rfl⟩ : ∃ d, k = d + j := ⟨k - j, by omega⟩
  exact ⟨a * ((2 ^ d : Nat) : Int), by rw [Nat.pow_add, Int.natCast_mul, Int.mul_assoc]⟩
theorem Mu.nat {k : Nat} {u : Int} (h : Mu k u) : ∃ a, u.natAbs = a * 2 ^ k := by
  obtain ⟨a, rfl⟩ := h
  exact ⟨a.natAbs, by rw [Int.natAbs_mul, Int.natAbs_natCast]⟩
theorem Mu.of {k : Nat} {u : Int} {a : Nat} (h : u.natAbs = a * 2 ^ k) : Mu k u := by
  rcases Int.natAbs_eq u with h1 | h1
  · exact ⟨a, by rw [h1, h, Int.natCast_mul]⟩
  · exact ⟨-a, by rw [h1, h, Int.natCast_mul, Int.neg_mul]⟩
theorem Mu.all (v : Int) : Mu 0 v := ⟨v, by simp⟩
theorem Rep.zero (p : Nat) : Rep p 0 := ⟨0, Mu.all 0, Nat.zero_le _⟩
theorem Rep.neg {p : Nat} {v : Int} (h : Rep p v) : Rep p (-v) := by
  obtain ⟨k, h1, h2⟩ := h
  exact ⟨k, h1.neg, by rw [Int.natAbs_neg]; exact h2⟩
theorem Rep.cast {p : Nat} {u v : Int} (h : Rep p u) (e : u = v) : Rep p v := e ▸ h
/-- The exponent at which a number is told. -/
theorem Rep.canon {p : Nat} {v : Int} (h : Rep p v) (hp : 0 < p) : Mu (rk p v.natAbs) v ∧ v.natAbs < 2 ^ p * 2 ^ rk p v.natAbs := by
  have hlt := lt_bl v.natAbs
  have h0 : v.natAbs < 2 ^ p * 2 ^ rk p v.natAbs := by
    rw [← Nat.pow_add]
    exact Nat.lt_of_lt_of_le hlt (Nat.pow_le_pow_right (by decide) (by unfold rk; omega))
  refine ⟨?_, h0⟩
  obtain ⟨k, h1, h2⟩ := h
  rcases Nat.lt_or_ge k (rk p v.natAbs) with hk | hk
  · obtain ⟨a, ha⟩ := h1.nat
    have hv0 : 0 < v.natAbs := by
      rcases Nat.eq_zero_or_pos v.natAbs with h3 | h3
      · rw [h3] at hk; unfold rk at hk; rw [bl_zero] at hk; omega
      · exact h3
    have hge := bl_ge hv0
    have hb : bl v.natAbs - 1 = p + (rk p v.natAbs - 1) := by unfold rk at hk ⊢; omega
    rw [hb, Nat.pow_add] at hge
    have hle : 2 ^ p * 2 ^ k ≤ 2 ^ p * 2 ^ (rk p v.natAbs - 1) := Nat.mul_le_mul_left _ (Nat.pow_le_pow_right (by decide) (by omega))
    have he : v.natAbs = 2 ^ p * 2 ^ (rk p v.natAbs - 1) := Nat.le_antisymm (Nat.le_trans h2 hle) hge
    refine Mu.of (a := 2 ^ (p - 1)) ?_
    rw [← Nat.pow_add] at he ⊢
    rw [show p - 1 + rk p v.natAbs = p + (rk p v.natAbs - 1) by omega]
    exact he
  · exact h1.low hk
theorem bl_cut {p N : Nat} (h : bl N ≤ p) (m : Nat) (n : Bool) : rQ p m n 0 N * 2 ^ rk p N = N := by
  obtain ⟨k0, q0, -⟩ := rQ_fits (m := m) n h
  rw [k0, q0, Nat.pow_zero, Nat.mul_one]
theorem rV_fit {p m : Nat} {v : Int} (h : bl v.natAbs ≤ p) : rV p m v = v := by
  unfold rV; rw [bl_cut h, sI_vN]
/-- What is representable is not changed. -/
theorem Rep.fix {p m : Nat} {v : Int} (h : Rep p v) (hp : 0 < p) : rV p m v = v := by
  obtain ⟨h1, h2⟩ := h.canon hp
  obtain ⟨a, ha⟩ := h1
  obtain ⟨r, hr⟩ : ∃ r, r = rk p v.natAbs := ⟨_, rfl⟩
  rw [← hr] at ha h2
  clear hr h
  subst ha
  rw [Int.natAbs_mul, Int.natAbs_natCast] at h2
  have h3 := Nat.lt_of_mul_lt_mul_right h2
  rw [rV_shl, rV_fit (bl_le h3)]
theorem rV_neg (p : Nat) (v : Int) : rV p 0 (-v) = -rV p 0 v := by
  have e : ∀ n : Bool, ∀ N, rQ p 0 n 0 N = rQ p 0 false 0 N := fun n N => by
    unfold rQ rU awy; rfl
  unfold rV
  rw [e, e (vN v), Int.natAbs_neg]
  unfold vN sI
  rcases Int.lt_trichotomy v 0 with h | h | h
  · rw [decide_eq_true h, decide_eq_false (by omega)]; simp
  · subst h; rw [Int.natAbs_zero]
    have := (rQ_zero p 0 false).2.1
    rw [this]; simp
  · rw [decide_eq_false (show ¬ v < 0 by omega), decide_eq_true (show -v < 0 by omega)]; simp
/-- To the nearest: the error is at most half a unit, and no representable number is nearer. -/
theorem near_nat {p M : Nat} (hp : 0 < p) (hb : p < bl M) : 2 ^ (p - 1) * 2 ^ rk p M ≤ M / 2 ^ rk p M * 2 ^ rk p M ∧
    ((rQ p 0 false 0 M * 2 ^ rk p M = M / 2 ^ rk p M * 2 ^ rk p M ∧ 2 * (M % 2 ^ rk p M) ≤ 2 ^ rk p M) ∨ (rQ p 0 false 0 M * 2 ^ rk p M = M / 2 ^ rk p M * 2 ^ rk p M + 2 ^ rk p M ∧ 2 ^ rk p M ≤ 2 * (M % 2 ^ rk p M))) := by
  refine ⟨Nat.mul_le_mul_right _ (rQ_bound (m := 0) false 0 hp hb).1, ?_⟩
  unfold rQ
  cases hu : rU p 0 false 0 M with
  | true =>
    right
    refine ⟨by rw [if_pos rfl, Nat.add_mul, Nat.one_mul], ?_⟩
    unfold rU awy rL lef at hu
    rw [if_pos rfl] at hu
    split at hu
    · simp at hu
    · split at hu
      · simp at hu
      · omega
  | false =>
    left
    refine ⟨by simp, ?_⟩
    unfold rU awy rL lef at hu
    rw [if_pos rfl] at hu
    split at hu
    · omega
    · split at hu
      · omega
      · split at hu
        · omega
        · simp at hu
theorem near {p : Nat} (hp : 0 < p) (V : Int) : 2 * (rV p 0 V - V).natAbs ≤ 2 ^ rk p V.natAbs ∧ Mu (rk p V.natAbs) (rV p 0 V) ∧ (rk p V.natAbs = 0 → rV p 0 V = V) ∧ ∀ z, Rep p z → (rV p 0 V - V).natAbs ≤ (z - V).natAbs := by
  rcases Nat.lt_or_ge p (bl V.natAbs) with hb | hb
  · have key : ∀ M : Nat, p < bl M → 2 * (rV p 0 (M : Int) - M).natAbs ≤ 2 ^ rk p M ∧ Mu (rk p M) (rV p 0 (M : Int)) ∧ ∀ z, Rep p z → (rV p 0 (M : Int) - M).natAbs ≤ (z - M).natAbs := fun M hM => by
      have hv : rV p 0 (M : Int) = ((rQ p 0 false 0 M * 2 ^ rk p M : Nat) : Int) := by
        unfold rV vN sI
        rw [decide_eq_false (show ¬ (M : Int) < 0 by omega), Int.natAbs_natCast]; simp
      have hmu : Mu (rk p M) (rV p 0 (M : Int)) := ⟨(rQ p 0 false 0 M : Nat), by rw [hv, Int.natCast_mul]⟩
      obtain ⟨n1, n2⟩ := near_nat hp hM
      have hdm := Nat.div_add_mod M (2 ^ rk p M)
      rw [Nat.mul_comm] at hdm
      have hlt := Nat.mod_lt M (Nat.two_pow_pos (rk p M))
      have hr0 : 0 < rk p M := by unfold rk; omega
      have hz : ∀ z, Rep p z → z ≤ ((M / 2 ^ rk p M * 2 ^ rk p M : Nat) : Int) ∨ ((M / 2 ^ rk p M * 2 ^ rk p M + 2 ^ rk p M : Nat) : Int) ≤ z := fun z hz => by
        obtain ⟨k, g1, g2⟩ := hz
        rcases Nat.lt_or_ge k (rk p M) with hk | hk
        · left
          have h1 : 2 ^ p * 2 ^ k ≤ 2 ^ (p - 1) * 2 ^ rk p M := by
            rw [← Nat.pow_add, ← Nat.pow_add]; exact Nat.pow_le_pow_right (by decide) (by omega)
          omega
        · obtain ⟨t, ht⟩ := g1.low hk
          rcases Int.lt_or_le ((M / 2 ^ rk p M : Nat) : Int) t with c | c
          · right
            rw [ht, show M / 2 ^ rk p M * 2 ^ rk p M + 2 ^ rk p M = (M / 2 ^ rk p M + 1) * 2 ^ rk p M by rw [Nat.add_mul, Nat.one_mul], Int.natCast_mul]
            exact Int.mul_le_mul_of_nonneg_right (by omega) (by omega)
          · left
            rw [ht, Int.natCast_mul]
            exact Int.mul_le_mul_of_nonneg_right c (by omega)
      rw [hv]
      obtain ⟨D, hD⟩ : ∃ D, D = 2 ^ rk p M := ⟨_, rfl⟩
      obtain ⟨Q, hQ⟩ : ∃ Q, Q = M / 2 ^ rk p M * 2 ^ rk p M := ⟨_, rfl⟩
      obtain ⟨R, hR⟩ : ∃ R, R = M % 2 ^ rk p M := ⟨_, rfl⟩
      obtain ⟨A, hA⟩ : ∃ A, A = rQ p 0 false 0 M * 2 ^ rk p M := ⟨_, rfl⟩
      refine ⟨?_, hv ▸ hmu, fun z gz => ?_⟩
      · rw [← hA, ← hD]
        rw [← hA, ← hQ, ← hR, ← hD] at n2
        rw [← hQ, ← hR] at hdm
        rw [← hR, ← hD] at hlt
        omega
      · have := hz z gz
        rw [← hA]
        rw [← hA, ← hQ, ← hR, ← hD] at n2
        rw [← hQ, ← hR] at hdm
        rw [← hR, ← hD] at hlt
        rw [← hQ, ← hD] at this
        omega
    have k := key V.natAbs hb
    refine ⟨?_, ?_, fun h => by unfold rk at h; omega, ?_⟩
    · rcases Int.natAbs_eq V with e | e
      · conv => lhs; rw [e]
        exact k.1
      · conv => lhs; rw [e, rV_neg]
        have := k.1
        rwa [show -rV p 0 (V.natAbs : Int) - -(V.natAbs : Int) = -(rV p 0 (V.natAbs : Int) - (V.natAbs : Int)) by omega, Int.natAbs_neg]
    · rcases Int.natAbs_eq V with e | e
      · have := k.2.1
        rwa [← e] at this
      · have := k.2.1.neg
        rwa [← rV_neg, ← e] at this
    · intro z hz
      rcases Int.natAbs_eq V with e | e
      · have := k.2.2 z hz
        rwa [← e] at this
      · have := k.2.2 (-z) hz.neg
        obtain ⟨N, hN⟩ : ∃ N : Int, N = (V.natAbs : Int) := ⟨_, rfl⟩
        rw [← hN] at this e
        have e2 : N = -V := by omega
        rw [e2, rV_neg] at this
        omega
  · have h := rV_fit (m := 0) hb
    have h0 : rk p V.natAbs = 0 := by unfold rk; omega
    rw [h, h0]
    exact ⟨by simp, Mu.all V, fun _ => rfl, fun z _ => by simp⟩
theorem rV_rep {p : Nat} (hp : 0 < p) (V : Int) : Rep p (rV p 0 V) := by
  refine ⟨rk p V.natAbs, (near hp V).2.1, ?_⟩
  unfold rV
  rw [natAbs_sI]
  refine Nat.mul_le_mul_right _ ?_
  rcases Nat.lt_or_ge p (bl V.natAbs) with hb | hb
  · exact (rQ_bound (m := 0) _ 0 hp hb).2.2
  · rw [(rQ_fits (m := 0) (vN V) hb).2.1]
    exact Nat.le_of_lt (Nat.lt_of_lt_of_le (lt_bl _) (Nat.pow_le_pow_right (by decide) hb))
theorem rep_of_bl {p k : Nat} {V : Int} (h : Mu k V) (hk : rk p V.natAbs ≤ k) : Rep p V := by
  refine ⟨k, h, ?_⟩
  have := lt_bl V.natAbs
  rw [← Nat.pow_add]
  exact Nat.le_of_lt (Nat.lt_of_lt_of_le this (Nat.pow_le_pow_right (by decide) (by unfold rk at hk; omega)))
/-- The error of a sum is representable. -/
theorem err_rep {p : Nat} (hp : 0 < p) {x y : Int} (hx : Rep p x) (hy : Rep p y) : Rep p (x + y - rV p 0 (x + y)) := by
  have hx' := hx
  have hy' := hy
  obtain ⟨i, x1, x2⟩ := hx
  obtain ⟨j, y1, y2⟩ := hy
  obtain ⟨k, hk⟩ : ∃ k, k = min i j := ⟨_, rfl⟩
  have hV : Mu k (x + y) := (x1.low (by omega)).add (y1.low (by omega))
  obtain ⟨-, n1, -, n2⟩ := near hp (x + y)
  rcases Nat.lt_or_ge k (rk p (x + y).natAbs) with hr | hr
  · have e1 := n2 x hx'
    have e2 := n2 y hy'
    refine ⟨k, hV.sub (n1.low (by omega)), ?_⟩
    rcases Nat.le_total i j with h | h
    · rw [show k = i by omega]; omega
    · rw [show k = j by omega]; omega
  · rw [(rep_of_bl hV hr).fix hp, Int.sub_self]
    exact Rep.zero p
/-- Where the first operand is not less, what is off it in the sum is representable. -/
theorem fast_rep {p : Nat} (hp : 0 < p) {x y : Int} (hx : Rep p x) (hy : Rep p y) (h : y.natAbs ≤ x.natAbs) : Rep p (rV p 0 (x + y) - x) := by
  obtain ⟨x1, x2⟩ := hx.canon hp
  obtain ⟨y1, y2⟩ := hy.canon hp
  obtain ⟨n0, n1, -, -⟩ := near hp (x + y)
  have hbl := bl_mono h
  have hbs : bl (x + y).natAbs ≤ bl x.natAbs + 1 := bl_le (by
    have := lt_bl x.natAbs
    rw [Nat.pow_succ]; omega)
  have hji : rk p y.natAbs ≤ rk p x.natAbs := by unfold rk; omega
  have hri : rk p (x + y).natAbs ≤ rk p x.natAbs + 1 := by unfold rk; omega
  obtain ⟨i, hi⟩ : ∃ i, i = rk p x.natAbs := ⟨_, rfl⟩
  obtain ⟨j, hj⟩ : ∃ j, j = rk p y.natAbs := ⟨_, rfl⟩
  obtain ⟨r, hr⟩ : ∃ r, r = rk p (x + y).natAbs := ⟨_, rfl⟩
  rw [← hi] at x1 x2 hji hri
  rw [← hj] at y1 y2 hji
  rcases Nat.lt_or_ge j r with c | c
  · rw [← hr] at n0 n1 hri
    have hpp : 1 ≤ 2 ^ p := Nat.two_pow_pos p
    rcases Nat.lt_or_ge i r with d | d
    · have hri' : r = i + 1 := by omega
      rw [hri', Nat.pow_succ] at n0
      rw [hri'] at n1
      have hm : Mu i (rV p 0 (x + y) - x) := (n1.low (by omega)).sub x1
      refine ⟨i, hm, ?_⟩
      obtain ⟨t, ht⟩ := hm.nat
      have hlt : (rV p 0 (x + y) - x).natAbs < (2 ^ p + 1) * 2 ^ i := by
        rw [Nat.add_mul, Nat.one_mul]; omega
      rw [ht] at hlt ⊢
      have := Nat.lt_of_mul_lt_mul_right hlt
      exact Nat.mul_le_mul_right _ (by omega)
    · refine ⟨r, n1.sub (x1.low d), ?_⟩
      have h1 : 2 ^ p * 2 ^ j * 2 ≤ 2 ^ p * 2 ^ r := by
        rw [← Nat.pow_add, ← Nat.pow_succ, ← Nat.pow_add]; exact Nat.pow_le_pow_right (by decide) (by omega)
      have h2 : 1 * 2 ^ r ≤ 2 ^ p * 2 ^ r := Nat.mul_le_mul_right _ hpp
      omega
  · have hV : Mu j (x + y) := (x1.low hji).add y1
    rw [(rep_of_bl hV (by omega)).fix hp, show x + y - x = y by omega]
    exact hy
/-- A difference that is not greater than its operands is representable. -/
theorem sub_rep {p : Nat} {x y : Int} (hx : Rep p x) (hy : Rep p y) (h1 : (x - y).natAbs ≤ x.natAbs) (h2 : (x - y).natAbs ≤ y.natAbs) : Rep p (x - y) := by
  obtain ⟨i, x1, x2⟩ := hx
  obtain ⟨j, y1, y2⟩ := hy
  rcases Nat.le_total i j with h | h
  · exact ⟨i, x1.sub (y1.low h), by omega⟩
  · exact ⟨j, (x1.low h).sub y1, by omega⟩
/-- The error of a sum, found by five operations more. -/
theorem two_sum {p : Nat} (hp : 4 ≤ p) {x y s b a db da e : Int} (hx : Rep p x) (hy : Rep p y) (es : s = rV p 0 (x + y)) (eb : b = rV p 0 (s - x)) (ea : a = rV p 0 (s - b)) (edb : db = rV p 0 (y - b)) (eda : da = rV p 0 (x - a)) (ee : e = rV p 0 (da + db)) : s + e = x + y := by
  have hp0 : 0 < p := by omega
  have R0 : rV p 0 0 = 0 := (Rep.zero p).fix hp0
  have hE := err_rep hp0 hx hy
  have hs : Rep p s := es ▸ rV_rep hp0 _
  rcases Nat.lt_or_ge x.natAbs y.natAbs with c | c
  · rcases Nat.lt_or_ge s.natAbs x.natAbs with d | d
    · have hVx : (x + y).natAbs < x.natAbs := by
        refine Nat.lt_of_not_le fun hc => ?_
        have ha : Rep p (x.natAbs : Int) := by
          rcases Int.natAbs_eq x with h | h
          · exact hx.cast h
          · exact hx.neg.cast (by omega)
        rcases Int.le_total 0 (x + y) with g | g
        · have := rV_mono (p := p) (m := 0) hp0 (show (x.natAbs : Int) ≤ x + y by omega)
          rw [ha.fix hp0, ← es] at this
          omega
        · have := rV_mono (p := p) (m := 0) hp0 (show x + y ≤ -(x.natAbs : Int) by omega)
          rw [ha.neg.fix hp0, ← es] at this
          omega
      have hV : Rep p (x + y) := (sub_rep (p := p) (x := x) (y := -y) hx hy.neg (by omega) (by omega)).cast (by omega)
      have s1 : s = x + y := by rw [es]; exact hV.fix hp0
      have b1 : b = y := by rw [eb, s1, show x + y - x = y by omega]; exact hy.fix hp0
      have a1 : a = x := by rw [ea, s1, b1, show x + y - y = x by omega]; exact hx.fix hp0
      have d1 : db = 0 := by rw [edb, b1, Int.sub_self]; exact R0
      have d2 : da = 0 := by rw [eda, a1, Int.sub_self]; exact R0
      have e1 : e = 0 := by rw [ee, d1, d2]; exact R0
      omega
    · have hb : Rep p b := eb ▸ rV_rep hp0 _
      have eb' : b = rV p 0 (s + -x) := by rw [eb, Int.sub_eq_add_neg]
      have h1 := fast_rep hp0 hs hx.neg (by rw [Int.natAbs_neg]; exact d)
      rw [← eb'] at h1
      have a1 : a = s - b := by rw [ea]; exact (h1.neg.cast (by omega)).fix hp0
      have h2 := err_rep hp0 hs hx.neg
      rw [← eb'] at h2
      have d2 : da = x - a := by rw [eda]; exact (h2.neg.cast (by omega)).fix hp0
      have h3 : 8 * (s - (x + y)).natAbs ≤ y.natAbs := by
        obtain ⟨n0, -, n3, -⟩ := near hp0 (x + y)
        rw [← es] at n0 n3
        by_cases hr : rk p (x + y).natAbs = 0
        · rw [n3 hr, Int.sub_self]; omega
        · have hv0 : 0 < (x + y).natAbs := by
            rcases Nat.eq_zero_or_pos (x + y).natAbs with h | h
            · rw [h] at hr; exact absurd (by unfold rk; rw [bl_zero]; omega) hr
            · exact h
          have h4 := bl_ge hv0
          have h5 : 2 ^ 3 * 2 ^ rk p (x + y).natAbs ≤ 2 ^ (bl (x + y).natAbs - 1) := by
            rw [← Nat.pow_add]; exact Nat.pow_le_pow_right (by decide) (by unfold rk at hr ⊢; omega)
          omega
      have h6 := (near hp0 (s - x)).2.2.2 y hy
      rw [← eb] at h6
      have d1 : db = y - b := by rw [edb]; exact (sub_rep hy hb (by omega) (by omega)).fix hp0
      have h7 : e = x + y - s := by
        rw [ee, d1, d2, a1]
        rw [← es] at hE
        exact (by rw [show x - (s - b) + (y - b) = x + y - s by omega]; exact hE.fix hp0)
      omega
  · have h1 := fast_rep hp0 hx hy c
    rw [← es] at h1 hE
    have b1 : b = s - x := by rw [eb]; exact h1.fix hp0
    have a1 : a = x := by rw [ea, b1, show s - (s - x) = x by omega]; exact hx.fix hp0
    have d2 : da = 0 := by rw [eda, a1, Int.sub_self]; exact R0
    have d1 : db = x + y - s := by rw [edb, b1, show y - (s - x) = x + y - s by omega]; exact hE.fix hp0
    have e1 : e = x + y - s := by rw [ee, d1, d2, Int.zero_add]; exact hE.fix hp0
    omega
end Go.Proofs.YtgclooabjilniaaGreatDoor

/-
Sums and differences to the nearest, by values at one exponent. No condition.
-/
namespace Go.Proofs.YtgclooabjilniaaGreatDoor
open Go.RowKit

/-! ### Plain numbers -/
theorem rQ0_sign (p s M : Nat) (a b : Bool) : rQ p 0 a s M = rQ p 0 b s M := by
  unfold rQ rU awy; rfl
theorem rV_bd {p : Nat} (m : Nat) (V : Int) (hp : 0 < p) : (rV p m V).natAbs ≤ 2 ^ bl V.natAbs := by
  unfold rV
  rw [natAbs_sI]
  rcases Nat.lt_or_ge p (bl V.natAbs) with h | h
  · have h1 := (rQ_bound (m := m) (vN V) 0 hp h).2.2
    have h2 := Nat.mul_le_mul_right (2 ^ rk p V.natAbs) h1
    rw [← Nat.pow_add, show p + rk p V.natAbs = bl V.natAbs by unfold rk; omega] at h2
    exact h2
  · obtain ⟨k0, q0, -⟩ := rQ_fits (m := m) (vN V) h
    rw [k0, q0, Nat.pow_zero, Nat.mul_one]
    exact Nat.le_of_lt (lt_bl _)
theorem rV_bd2 {p k : Nat} (m : Nat) {V : Int} (hp : 0 < p) (h : V.natAbs ≤ 2 ^ k) : (rV p m V).natAbs ≤ 2 ^ (k + 1) := by
  refine Nat.le_trans (rV_bd m V hp) (Nat.pow_le_pow_right (by decide) (bl_le ?_))
  rw [Nat.pow_succ]; have := Nat.two_pow_pos k; omega
/-- What is told of a value V times 2 to X, rounded to the nearest; the side is left open. -/
def AddV (w : World) (z : Value) (q : Nat) (zn : Bool) (V X : Int) : Prop :=
  RealV w z q 0 (fO V.natAbs) (if V = 0 then zn else vN V) (rQ q 0 (vN V) 0 V.natAbs) (X + rk q V.natAbs)
theorem AddV.okE {w : World} {z : Value} {q P T : Nat} {zn : Bool} {V X : Int} (h : AddV w z q zn V X) (hq0 : 0 < q) (hqP : q ≤ P) (hb : bl V.natAbs ≤ 100000) (hT : T ≤ 1000000) (hX : -(T : Int) ≤ X) (hX2 : X + bl V.natAbs + 1 ≤ T) :
    ∃ (f : Nat) (n : Bool) (v : Value) (Ez : Int) (zs : List Nat), z = .agg #[.int .u64 q, .int .i64 ((0 : Nat) : Int), .int .i64 f, .bool n, v, .int .i64 Ez] ∧ RW w v zs ∧ RealOk P T q 0 f zs Ez ∧ f ≤ 1 ∧ (f = 1 → 0 < wv zs ∧ X ≤ Ez) ∧
      ∀ e, e ≤ X → vA f n (wv zs) Ez e = rV q 0 (V * ((2 ^ (X - e).toNat : Nat) : Int)) :=
  AddZ.okE (A := rA q 0 (vN V) 0 V.natAbs) (m := 0) (zn := zn) ⟨rfl, h⟩ hq0 hqP (by decide) hb hT hX hX2
/-- An operand with its value U at the exponent e0. -/
def Opd (w : World) (e0 : Int) (k q m f : Nat) (n : Bool) (v : Value) (E : Int) (zs : List Nat) (U : Int) : Prop :=
  RW w v zs ∧ RealOk 300 4000 q m f zs E ∧ f ≤ 1 ∧ (f = 1 → e0 ≤ E) ∧ vA f n (wv zs) E e0 = U ∧ U.natAbs ≤ 2 ^ k
theorem Opd.below {w w' : World} {e0 : Int} {k q m f : Nat} {n : Bool} {v : Value} {E : Int} {zs : List Nat} {U : Int} (h : Opd w e0 k q m f n v E zs U) (hb : Below w.heap.size w w') : Opd w' e0 k q m f n v E zs U := ⟨h.1.below hb, h.2⟩
/-- An answer with its value. -/
def Ans (w : World) (e0 : Int) (k q : Nat) (U : Int) (z : Value) : Prop :=
  ∃ (f : Nat) (n : Bool) (v : Value) (E : Int) (zs : List Nat), z = .agg #[.int .u64 q, .int .i64 0, .int .i64 f, .bool n, v, .int .i64 E] ∧ Opd w e0 k q 0 f n v E zs U
theorem ans_of {w : World} {z : Value} {q k : Nat} {zn : Bool} {V X U e0 : Int} (h : AddV w z q zn V X) (hq0 : 0 < q) (hq : q ≤ 300) (he : -1000 ≤ e0) (he0 : e0 ≤ 0) (hX : e0 ≤ X) (hX2 : X ≤ 0 ∨ V ≠ 0) (hU : V * ((2 ^ (X - e0).toNat : Nat) : Int) = U) (hk : U.natAbs ≤ 2 ^ k) (hkb : k ≤ 2500) : Ans w e0 (k + 1) q (rV q 0 U) z := by
  have hbU : bl U.natAbs ≤ k + 1 := bl_le (by rw [Nat.pow_succ]; have := Nat.two_pow_pos k; omega)
  have hbV : bl V.natAbs ≤ bl U.natAbs ∧ (V ≠ 0 → bl U.natAbs = bl V.natAbs + (X - e0).toNat) := by
    rcases Nat.eq_zero_or_pos V.natAbs with h0 | h0
    · exact ⟨by rw [h0, bl_zero]; omega, fun hc => absurd hc (by omega)⟩
    · have h1 := bl_mul h0 (X - e0).toNat
      rw [show V.natAbs * 2 ^ (X - e0).toNat = U.natAbs by rw [← hU, Int.natAbs_mul, Int.natAbs_natCast]] at h1
      exact ⟨by omega, fun _ => h1⟩
  have hXT : X + bl V.natAbs + 1 ≤ 4000 := by
    rcases hX2 with h1 | h1
    · omega
    · have := hbV.2 h1; omega
  obtain ⟨f, n, v, Ez, zs, rfl, h2, h3, h4, h5, h6⟩ := h.okE (P := 300) (T := 4000) hq0 hq (by omega) (by decide) (by omega) (by omega)
  refine ⟨f, n, v, Ez, zs, rfl, h2, h3, h4, fun hf => by have := (h5 hf).2; omega, ?_, rV_bd2 0 hq0 hk⟩
  rw [h6 e0 hX, hU]
theorem two_bd {a b : Int} {k : Nat} (h1 : a.natAbs ≤ 2 ^ k) (h2 : b.natAbs ≤ 2 ^ k) : (a + b).natAbs ≤ 2 ^ (k + 1) ∧ (a - b).natAbs ≤ 2 ^ (k + 1) := by
  rw [Nat.pow_succ]; omega
theorem smV_at {f1 f2 : Nat} {n1 n2 : Bool} {M N : Nat} {E F e0 U1 U2 : Int} (h1 : vA f1 n1 M E e0 = U1) (h2 : vA f2 n2 N F e0 = U2) (he : e0 ≤ min (dyE f1 E) (dyE f2 F)) :
    smV (dyN f1 n1) (dyM f1 M) (dyE f1 E) (dyN f2 n2) (dyM f2 N) (dyE f2 F) * ((2 ^ (min (dyE f1 E) (dyE f2 F) - e0).toNat : Nat) : Int) = U1 + U2 ∧
    smV (dyN f1 n1) (dyM f1 M) (dyE f1 E) (!dyN f2 n2) (dyM f2 N) (dyE f2 F) * ((2 ^ (min (dyE f1 E) (dyE f2 F) - e0).toNat : Nat) : Int) = U1 - U2 := by
  rw [smV_low he, smV_low he, sI_not]
  unfold vA at h1 h2
  rw [h1, h2]
  exact ⟨rfl, by omega⟩
theorem min_low {f1 f2 : Nat} {E F e0 : Int} (h1 : f1 = 1 → e0 ≤ E) (h2 : f2 = 1 → e0 ≤ F) (he : e0 ≤ 0) : e0 ≤ min (dyE f1 E) (dyE f2 F) := by
  have k1 := dyE_le h1 he
  have k2 := dyE_le h2 he
  omega
/-! ### Walks -/
set_option maxRecDepth 100000 in
set_option maxHeartbeats 6400000 in
theorem impSubZ (P E q k p1 m1 f1 p2 m2 f2 f : Nat) (n1 n2 : Bool) (v1 v2 : Value) (e1 e2 : Int) (xs ys : List Nat) (w : World) (hv1 : RW w v1 xs) (hv2 : RW w v2 ys) (ho1 : RealOk P E p1 m1 f1 xs e1) (ho2 : RealOk P E p2 m2 f2 ys e2) (hP : P ≤ 9000) (hE : E ≤ 400000) (hq0 : 0 < q) (hq : q ≤ 1000000) (hk : k ≤ 5) (hf1 : f1 = 0) (hf2 : f2 = 1) (hf : f = 1) (hT : TabW w) :
    Calls Tryz.prog 27 #[.int .u64 q, .int .i64 k, .agg #[.int .u64 p1, .int .i64 m1, .int .i64 f1, .bool n1, v1, .int .i64 e1], .agg #[.int .u64 p2, .int .i64 m2, .int .i64 f2, .bool n2, v2, .int .i64 e2]] w fun e' w' => ∃ z A, e' = .returned (.tuple #[z, .int .i64 A]) ∧ RealV w' z q k f (!n2) (rQ q k n2 0 (wv ys)) (e2 + rk q (wv ys)) ∧ Below w.heap.size w w' := by
  have hS1 := hv1.isS
  have hS2 := hv2.isS
  have hab := (Below.refl w.heap.size w).alloc (Nat.le_refl _) (.cells #[.int .u64 p1, .int .i64 m1, .int .i64 f1, .bool n1, v1, .int .i64 e1] 39)
  have hac := hab.alloc hab.size (.cells #[.int .u64 p2, .int .i64 m2, .int .i64 f2, .bool n2, v2, .int .i64 e2] 39)
  have had := hac.alloc hac.size (.cells #[.int .u64 0, .int .i64 0, .int .i64 0, .bool false, .slice none 0 0, .int .i64 0] 39)
  obtain ⟨X, hX⟩ : ∃ X, X = ((w.alloc (.cells #[.int .u64 p1, .int .i64 m1, .int .i64 f1, .bool n1, v1, .int .i64 e1] 39)).alloc (.cells #[.int .u64 p2, .int .i64 m2, .int .i64 f2, .bool n2, v2, .int .i64 e2] 39)).alloc (.cells #[.int .u64 0, .int .i64 0, .int .i64 0, .bool false, .slice none 0 0, .int .i64 0] 39) := ⟨_, rfl⟩
  have hr1 : X.heap[w.heap.size]? = some (.cells #[.int .u64 p1, .int .i64 m1, .int .i64 f1, .bool n1, v1, .int .i64 e1] 39 (0, 0)) := by
    rw [hX]; exact row_chain31
  have hr2 : X.heap[w.heap.size + 1]? = some (.cells #[.int .u64 p2, .int .i64 m2, .int .i64 f2, .bool n2, v2, .int .i64 e2] 39 (0, 0)) := by
    rw [hX]; exact row_chain32
  have hr3 : X.heap[w.heap.size + 2]? = some (.cells #[.int .u64 0, .int .i64 0, .int .i64 0, .bool false, .slice none 0 0, .int .i64 0] 39 (0, 0)) := by
    rw [hX]; exact row_chain33
  rw [← hX] at had
  have V1 := Lib.hid (hv1.below had)
  have V2 := Lib.hid (hv2.below had)
  have HO1 := Lib.hid ho1
  have HO2 := Lib.hid ho2
  have HT := Lib.hid (hT.below had)
  have HR1 := Lib.hid hr1
  have HR2 := Lib.hid hr2
  have HR3 := Lib.hid hr3
  have hwX := Lib.hid had
  have hcc := Below.refl X.heap.size X
  have hXs := had.size
  have hN1 := Lib.hid (show w.heap.size + 2 ≠ w.heap.size by omega)
  have hN2 := Lib.hid (show w.heap.size + 2 ≠ w.heap.size + 1 by omega)
  have hX2 : w.heap.size + 3 ≤ X.heap.size := by rw [hX]; simp
  have hp1 : 0 < p1 := ho1.1
  have hp2 : 0 < p2 := ho2.1
  have hpP1 : p1 ≤ 9000 := Nat.le_trans ho1.2.1 hP
  have hpP2 : p2 ≤ 9000 := Nat.le_trans ho2.2.1 hP
  have hN := ho2.one hf2
  have hff : f ≤ 2 := by omega
  have hrk := rk_le q (wv ys)
  have hbr := bl_rQ q k n2 0 (wv ys)
  obtain ⟨A, hA⟩ : ∃ A, A = rA q k n2 0 (wv ys) := ⟨_, rfl⟩
  have hAb : -1 ≤ A ∧ A ≤ 1 := by rw [hA]; exact rA_bd _ _ _ _ _
  obtain ⟨R, hR⟩ : ∃ R, R = rQ q k n2 0 (wv ys) := ⟨_, rfl⟩
  obtain ⟨RX, hRX⟩ : ∃ RX : Int, RX = e2 + rk q (wv ys) := ⟨_, rfl⟩
  have HRB : Hid (-900000000 ≤ RX ∧ RX + bl R ≤ 900000000) := Lib.hid (by rw [hRX, hR]; omega)
  have HADD := Lib.hid (fun (W : World) (b g1 g2 B1 B2 : Nat) (h : FltR W b q k 0 0 false (.slice none 0 0) 0) (hB : X.heap.size ≤ b) (h1 : FloatAt W B1 g1 p1 m1 f1 n1 (wv xs) e1) (h2 : FloatAt W B2 g2 p2 m2 f2 n2 (wv ys) e2) (hb1 : b ≠ g1) (hb2 : b ≠ g2) =>
    subF_zf b X.heap.size B1 B2 g1 g2 q k p1 m1 p2 m2 0 (wv xs) (wv ys) 0 0 e1 e2 false n1 n2 W h hB (hf1 ▸ h1) (hf2 ▸ h2) hN.1 hN.2.1 (by omega) (by omega) hb1 hb2 (by omega) hp1 (by omega) hp2 (by omega) hk)
  rw [show pOf q (max p1 p2) = q by unfold pOf; rw [if_neg (by omega)], ← hA, ← hR, ← hRX] at HADD
  rw [← hR, ← hRX]
  obtain ⟨sg, hsg⟩ : ∃ sg, sg = !n2 := ⟨_, rfl⟩
  rw [← hsg] at HADD ⊢
  have HFF := Lib.hid hf
  clear hv1 hv2 ho1 ho2 hab hac had hr1 hr2 hr3 hT hN hrk hbr hA hR hRX hsg hf1 hf2 hf
  go_enter Tryz.func27, Tryz.ntmps27
  go_upto_region 1 with fail
  rw [← hX]
  clear hX
  first
    | (go_region_held3 (fun w' => (w'.cell? ⟨w.heap.size, 0, none⟩ = some (.int .u64 (p1 : Int)) ∧ w'.cell? ⟨w.heap.size, 1, none⟩ = some (.int .i64 (m1 : Int)) ∧ w'.cell? ⟨w.heap.size, 2, none⟩ = some (.int .i64 (f1 : Int)) ∧ w'.cell? ⟨w.heap.size, 3, none⟩ = some (.bool n1) ∧ w'.cell? ⟨w.heap.size, 4, none⟩ = some v1 ∧ w'.cell? ⟨w.heap.size, 5, none⟩ = some (.int .i64 e1)) ∧ (w'.cell? ⟨w.heap.size + 1, 0, none⟩ = some (.int .u64 (p2 : Int)) ∧ w'.cell? ⟨w.heap.size + 1, 1, none⟩ = some (.int .i64 (m2 : Int)) ∧ w'.cell? ⟨w.heap.size + 1, 2, none⟩ = some (.int .i64 (f2 : Int)) ∧ w'.cell? ⟨w.heap.size + 1, 3, none⟩ = some (.bool n2) ∧ w'.cell? ⟨w.heap.size + 1, 4, none⟩ = some v2 ∧ w'.cell? ⟨w.heap.size + 1, 5, none⟩ = some (.int .i64 e2)))
        ((first | (refine ksT2 HR1.out HR2.out ?_; with_reducible first | assumption | exact Below.drew hcc) | with_reducible exact ⟨ks6R hN1.out (ks6R hN1.out (ks6R hN1.out (ks6R hN1.out (ks6R hN1.out (ks6R hN1.out (ks12 HR1.out hb7).2))))), ks6R hN2.out (ks6R hN2.out (ks6R hN2.out (ks6R hN2.out (ks6R hN2.out (ks6R hN2.out (ks12 HR2.out hb7).2)))))⟩))
        (first
          | (go_at_call 48; (with_reducible refine (float_any P E p2 m2 f2 n2 v2 e2 ys _ (V2.out.below hb4) HO2.out (by omega) (by omega)).mono ?_); rintro _ w5 ⟨g2, rfl, hF2, hb5⟩; have G0' := Lib.hid (G0.out.below hb5); have G1' := Lib.hid (G1.out.below hb5); have G2 := Lib.hid hF2; have hne2 := Lib.hid (show g0 ≠ g2 by have := G0.out.lt; have := hF2.1; omega); clear hF2; have hb5 := bthen hb4 hb5)
          | (go_at_call 48; (with_reducible refine (float_any P E p1 m1 f1 n1 v1 e1 xs _ (V1.out.below hb3) HO1.out (by omega) (by omega)).mono ?_); rintro _ w4 ⟨g1, rfl, hF1, hb4⟩; have G0 := Lib.hid (GF.out.below hb4); have G1 := Lib.hid hF1; have hne1 := Lib.hid (show g0 ≠ g1 by have := GF.out.lt; have := hF1.1; omega); clear hF1; have hb4 := bthen hb3 hb4)
          | (go_at_call 37; refine (fresh_all q k _ (by omega) (by omega)).mono ?_; rintro _ w3 ⟨g0, rfl, ⟨hg0, hF0⟩, hb3⟩; have hg0X : X.heap.size ≤ g0 := (by rw [hg0]; exact Nat.le_refl _); clear hg0; have GF := Lib.hid hF0; clear hF0; have hb3 : Below X.heap.size X w3 := bthen (Below.drew hcc) hb3)
          | (go_at_call 54; (with_reducible refine (HADD.out _ g0 g1 g2 _ _ G0'.out hg0X G1'.out G2.out hne1.out hne2.out).mono ?_); rintro _ w6 ⟨rfl, hA6, hb6⟩; have F6 := Lib.hid (by rw [HFF.out]; exact hA6 : FVal w6 X.heap.size g0 q k A f sg R RX); clear hA6; have hb6 := bthenX hb5 hb6)
          | (go_at_call 47; (with_reducible refine (implBoth _ g0 q k f A _ _ _ _ F6.out hff (by omega) (by omega) (fun _ => hq0) (fun _ => HRB.out) (HT.out.below hb6) hAb).mono ?_); rintro _ w7 ⟨z, rfl, hz, hb7⟩; have hb7 := bthen hb6 hb7; have hq2 := keep_row hb7 HR3.out; obtain ⟨vz, Ez, zs, Bz, rfl, hz2, hzd, hz3, hz4⟩ := hz; have hSz := hz2.isS; obtain ⟨⟨y0, y1, y2, y3, y4, y5⟩, s0, s1, s2, s3, s4, s5⟩ := row6 hq2; have H2 := Lib.hid hz2; have H34 := Lib.hid (And.intro hzd (And.intro hz3 hz4)); have HQ2 := Lib.hid hq2; clear hz2 hzd hz3 hz4 hq2)))
    | fail
  all_goals go_wp2_with fail
  all_goals
    have HS := row6_set (x := .int .u64 (q : Int)) (y := .int .i64 (k : Int)) (z := .int .i64 (f : Int)) (x' := .bool sg) (y' := vz) (z' := .int .i64 Ez) HQ2.out
    have HB := bset6 (x := .int .u64 (q : Int)) (y := .int .i64 (k : Int)) (z := .int .i64 (f : Int)) (x' := .bool sg) (y' := vz) (z' := .int .i64 Ez) (hwX.out.trans (hb7.mono hXs)) (Nat.le_trans (Nat.le_succ _) (Nat.le_succ _))
    obtain ⟨⟨a0, a1, a2, a3, a4, a5⟩, -⟩ := row6 HS
    refine bodyPost_ret (v := .tuple #[.agg #[.int .u64 q, .int .i64 k, .int .i64 f, .bool sg, vz, .int .i64 Ez], .int .i64 A]) ?_ rfl ⟨_, _, rfl, ⟨_, _, _, Bz, rfl, ?_, H34.out.1, H34.out.2⟩, HB⟩
    · simp [results, Tryz.results27, go_sem, a0, a1, a2, a3, a4, a5]
    · exact H2.out.same fun hc => by
        have hne : sBlk vz ≠ w.heap.size + 2 := H2.out.ne_row HQ2.out (by decide) hc
        exact heap6_other hne
/-- What a sum answers, by values. -/
theorem addStep (Z e : Nat) (k q1 m1 f1 q2 m2 f2 : Nat) (n1 n2 : Bool) (v1 v2 : Value) (E1 E2 e0 U1 U2 : Int) (xs ys : List Nat) (w : World) (he0 : e0 = -(e : Int)) (heb : e ≤ 1000) (h1 : Opd w e0 k q1 m1 f1 n1 v1 E1 xs U1) (h2 : Opd w e0 k q2 m2 f2 n2 v2 E2 ys U2) (hZ0 : 0 < Z) (hZ : Z ≤ 300) (hk : k ≤ 2400) (hT : TabW w) :
    Calls Tryz.prog 30 #[.int .u64 Z, .int .i64 0, .agg #[.int .u64 q1, .int .i64 m1, .int .i64 f1, .bool n1, v1, .int .i64 E1], .agg #[.int .u64 q2, .int .i64 m2, .int .i64 f2, .bool n2, v2, .int .i64 E2]] w fun e' w' => ∃ z A, e' = .returned (.tuple #[z, .int .i64 A]) ∧ Ans w' e0 (k + 2) Z (rV Z 0 (U1 + U2)) z ∧ Below w.heap.size w w' := by
  obtain ⟨a1, a2, a3, a4, a5, a6⟩ := h1
  obtain ⟨b1, b2, b3, b4, b5, b6⟩ := h2
  have hp : pOf Z (max q1 q2) = Z := by unfold pOf; rw [if_neg (by omega)]
  have hlo := min_low a4 b4 (show e0 ≤ 0 by omega)
  have hv := (smV_at a5 b5 hlo).1
  have H := impAdd 300 4000 Z 0 q1 m1 f1 q2 m2 f2 n1 n2 v1 v2 E1 E2 xs ys w a1 b1 a2 b2 a3 b3 (by decide) (by decide) (by omega) (by decide) hT
  rw [hp] at H
  refine H.mono ?_
  rintro _ w' ⟨z, A, rfl, ⟨-, hz⟩, hb⟩
  refine ⟨z, A, rfl, ?_, hb⟩
  rcases Int.le_total (min (dyE f1 E1) (dyE f2 E2)) 0 with hx | hx
  · exact ans_of (zn := _) hz hZ0 hZ (by omega) (by omega) hlo (.inl hx) hv (two_bd a6 b6).1 (by omega)
  · by_cases hV0 : smV (dyN f1 n1) (dyM f1 (wv xs)) (dyE f1 E1) (dyN f2 n2) (dyM f2 (wv ys)) (dyE f2 E2) = 0
    · rw [hV0] at hz hv
      rw [Int.zero_mul] at hv
      rw [← hv]
      have hz0 : AddV w' z Z (if f1 = 1 then decide ((0 : Nat) = 4) else n1 && n2) 0 0 := by
        obtain ⟨v, E, zs, B, g1, g2, g3, g4, g5⟩ := hz
        exact ⟨v, E, zs, B, g1, g2, g3, g4, fun hc => absurd hc (by decide)⟩
      exact ans_of hz0 hZ0 hZ (by omega) (by omega) (by omega) (.inl (by decide)) (Int.zero_mul _) (by simp) (by omega)
    · exact ans_of (zn := _) hz hZ0 hZ (by omega) (by omega) hlo (.inr hV0) hv (two_bd a6 b6).1 (by omega)
/-- What a difference answers, by values. -/
theorem subStep (Z e : Nat) (k q1 m1 f1 q2 m2 f2 : Nat) (n1 n2 : Bool) (v1 v2 : Value) (E1 E2 e0 U1 U2 : Int) (xs ys : List Nat) (w : World) (he0 : e0 = -(e : Int)) (heb : e ≤ 1000) (h1 : Opd w e0 k q1 m1 f1 n1 v1 E1 xs U1) (h2 : Opd w e0 k q2 m2 f2 n2 v2 E2 ys U2) (hZ0 : 0 < Z) (hZ : Z ≤ 300) (hk : k ≤ 2400) (hT : TabW w) :
    Calls Tryz.prog 27 #[.int .u64 Z, .int .i64 0, .agg #[.int .u64 q1, .int .i64 m1, .int .i64 f1, .bool n1, v1, .int .i64 E1], .agg #[.int .u64 q2, .int .i64 m2, .int .i64 f2, .bool n2, v2, .int .i64 E2]] w fun e' w' => ∃ z A, e' = .returned (.tuple #[z, .int .i64 A]) ∧ Ans w' e0 (k + 2) Z (rV Z 0 (U1 - U2)) z ∧ Below w.heap.size w w' := by
  obtain ⟨a1, a2, a3, a4, a5, a6⟩ := h1
  obtain ⟨b1, b2, b3, b4, b5, b6⟩ := h2
  have hp : pOf Z (max q1 q2) = Z := by unfold pOf; rw [if_neg (by omega)]
  have hlo := min_low a4 b4 (show e0 ≤ 0 by omega)
  have hv := (smV_at a5 b5 hlo).2
  by_cases hx : f1 = 1 ∨ f2 = 0
  · have H := impSub 300 4000 Z 0 q1 m1 f1 q2 m2 f2 n1 n2 v1 v2 E1 E2 xs ys w a1 b1 a2 b2 a3 b3 (by decide) (by decide) (by omega) (by decide) hx hT
    rw [hp] at H
    refine H.mono ?_
    rintro _ w' ⟨z, A, rfl, ⟨-, hz⟩, hb⟩
    refine ⟨z, A, rfl, ?_, hb⟩
    rcases Int.le_total (min (dyE f1 E1) (dyE f2 E2)) 0 with hx | hx
    · exact ans_of (zn := _) hz hZ0 hZ (by omega) (by omega) hlo (.inl hx) hv (two_bd a6 b6).2 (by omega)
    · by_cases hV0 : smV (dyN f1 n1) (dyM f1 (wv xs)) (dyE f1 E1) (!dyN f2 n2) (dyM f2 (wv ys)) (dyE f2 E2) = 0
      · rw [hV0] at hz hv
        rw [Int.zero_mul] at hv
        rw [← hv]
        have hz0 : AddV w' z Z (if f1 = 1 then decide ((0 : Nat) = 4) else n1 && !n2) 0 0 := by
          obtain ⟨v, E, zs, B, g1, g2, g3, g4, g5⟩ := hz
          exact ⟨v, E, zs, B, g1, g2, g3, g4, fun hc => absurd hc (by decide)⟩
        exact ans_of hz0 hZ0 hZ (by omega) (by omega) (by omega) (.inl (by decide)) (Int.zero_mul _) (by simp) (by omega)
      · exact ans_of (zn := _) hz hZ0 hZ (by omega) (by omega) hlo (.inr hV0) hv (two_bd a6 b6).2 (by omega)
  · obtain rfl : f1 = 0 := by omega
    obtain rfl : f2 = 1 := by omega
    refine (impSubZ 300 4000 Z 0 q1 m1 0 q2 m2 1 1 n1 n2 v1 v2 E1 E2 xs ys w a1 b1 a2 b2 (by decide) (by decide) hZ0 (by omega) (by decide) rfl rfl rfl hT).mono ?_
    rintro _ w' ⟨z, A, rfl, hz, hb⟩
    refine ⟨z, A, rfl, ?_, hb⟩
    have hN := b2.pos rfl
    have e1 : U1 = 0 := by rw [← a5]; unfold vA; rw [show dyM 0 (wv xs) = 0 from rfl, lo_zero, sI_zero]
    have e2 : U2 = sI n2 (lo (wv ys) E2 e0) := b5.symm
    have hV : AddV w' z Z false (sI (!n2) (wv ys)) E2 := by
      unfold AddV
      rw [natAbs_sI, vN_sI hN, if_neg (sI_ne hN), show fO (wv ys) = 1 from if_neg (by omega), rQ0_sign Z 0 (wv ys) (!n2) n2]
      exact hz
    refine ans_of hV hZ0 hZ (by omega) (by omega) (b4 rfl) (.inr (sI_ne hN)) ?_ (two_bd a6 b6).2 (by omega)
    rw [e1, e2, sI_not, Int.zero_sub, Int.neg_mul]
    unfold lo
    rw [sI_mul]
end Go.Proofs.YtgclooabjilniaaGreatDoor
