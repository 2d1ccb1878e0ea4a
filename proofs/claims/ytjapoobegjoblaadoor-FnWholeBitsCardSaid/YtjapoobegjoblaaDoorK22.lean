/-
Texts of this proof, joined: AsA DyA IfA IfB. No condition.
-/
import Derived.Test.YtjapoobegjoblaaDoorK14
import Derived.Test.YtjapoobegjoblaaDoorK16
import Derived.Test.YtjapoobegjoblaaDoorK17
import Derived.Test.YtjapoobegjoblaaDoorK18
import Derived.Test.YtjapoobegjoblaaDoorK21
/-
Sums and differences of dyadic values. No condition.
-/
namespace Go.Proofs.YtjapoobegjoblaaDoor
open Go.RowKit

theorem deq_lift {X M : Nat} {ex E : Int} (h : deq X ex M E) {e : Int} (h1 : e ≤ ex) (h2 : e ≤ E) : X * 2 ^ (ex - e).toNat = M * 2 ^ (E - e).toNat := by
  obtain ⟨i, j, h3, h4⟩ := h
  by_cases hi : i ≤ (ex - e).toNat
  · rw [show (ex - e).toNat = i + ((ex - e).toNat - i) by omega, Nat.pow_add, ← Nat.mul_assoc, h3, Nat.mul_assoc, ← Nat.pow_add]
    congr 2; omega
  · have hp : 0 < 2 ^ (i - (ex - e).toNat) := Nat.two_pow_pos _
    apply Nat.eq_of_mul_eq_mul_right hp
    rw [Nat.mul_assoc, ← Nat.pow_add, show (ex - e).toNat + (i - (ex - e).toNat) = i by omega, h3, Nat.mul_assoc, ← Nat.pow_add]
    congr 2; omega
/-- A magnitude brought to a lower exponent. -/
def lo (M : Nat) (E e : Int) : Nat := M * 2 ^ (E - e).toNat
theorem lo_lo {M : Nat} {E e t : Int} (h1 : e ≤ E) (h2 : t ≤ e) : lo M E e * 2 ^ (e - t).toNat = lo M E t := by
  unfold lo; rw [Nat.mul_assoc, ← Nat.pow_add]; congr 2; omega
theorem deq_lo {X M : Nat} {ex E : Int} (h : deq X ex M E) {e : Int} (h1 : e ≤ ex) (h2 : e ≤ E) : lo X ex e = lo M E e := deq_lift h h1 h2
theorem lo_self (M : Nat) (E : Int) : lo M E E = M := by unfold lo; simp
theorem lo_pos {M : Nat} {E e : Int} (h : 0 < M) : 0 < lo M E e := Nat.mul_pos h (Nat.two_pow_pos _)
theorem bl_lo (M : Nat) (E e : Int) : bl (lo M E e) ≤ bl M + (E - e).toNat := by
  refine bl_le ?_
  rw [Nat.pow_add]; exact Nat.mul_lt_mul_of_pos_right (lt_bl M) (Nat.two_pow_pos _)
/-- The sum at the lower exponent. -/
def suM (M : Nat) (E : Int) (N : Nat) (F : Int) : Nat := lo M E (min E F) + lo N F (min E F)
def diM (M : Nat) (E : Int) (N : Nat) (F : Int) : Nat := lo M E (min E F) - lo N F (min E F)
theorem deq_of_lo {S T : Nat} {e g t : Int} (h1 : t ≤ e) (h2 : t ≤ g) (h : S * 2 ^ (e - t).toNat = T * 2 ^ (g - t).toNat) : deq S e T g := ⟨(e - t).toNat, (g - t).toNat, h, by omega⟩
theorem deq_su {X Y M N : Nat} {ex ey E F : Int} (h1 : deq X ex M E) (h2 : deq Y ey N F) : deq (suM X ex Y ey) (min ex ey) (suM M E N F) (min E F) := by
  refine deq_of_lo (t := min (min ex ey) (min E F)) (by omega) (by omega) ?_
  unfold suM
  rw [Nat.add_mul, Nat.add_mul, lo_lo (by omega) (by omega), lo_lo (by omega) (by omega), lo_lo (by omega) (by omega), lo_lo (by omega) (by omega), deq_lo h1 (by omega) (by omega), deq_lo h2 (by omega) (by omega)]
theorem deq_di {X Y M N : Nat} {ex ey E F : Int} (h1 : deq X ex M E) (h2 : deq Y ey N F) : deq (diM X ex Y ey) (min ex ey) (diM M E N F) (min E F) := by
  refine deq_of_lo (t := min (min ex ey) (min E F)) (by omega) (by omega) ?_
  unfold diM
  rw [Nat.sub_mul, Nat.sub_mul, lo_lo (by omega) (by omega), lo_lo (by omega) (by omega), lo_lo (by omega) (by omega), lo_lo (by omega) (by omega), deq_lo h1 (by omega) (by omega), deq_lo h2 (by omega) (by omega)]
theorem deq_le {X Y M N : Nat} {ex ey E F : Int} (h1 : deq X ex M E) (h2 : deq Y ey N F) : lo Y ey (min ex ey) ≤ lo X ex (min ex ey) ↔ lo N F (min E F) ≤ lo M E (min E F) := by
  have hA : 0 < 2 ^ (min ex ey - min (min ex ey) (min E F)).toNat := Nat.two_pow_pos _
  have hB : 0 < 2 ^ (min E F - min (min ex ey) (min E F)).toNat := Nat.two_pow_pos _
  have e1 : lo Y ey (min ex ey) * 2 ^ (min ex ey - min (min ex ey) (min E F)).toNat = lo N F (min E F) * 2 ^ (min E F - min (min ex ey) (min E F)).toNat := by
    rw [lo_lo (by omega) (by omega), lo_lo (by omega) (by omega), deq_lo h2 (by omega) (by omega)]
  have e2 : lo X ex (min ex ey) * 2 ^ (min ex ey - min (min ex ey) (min E F)).toNat = lo M E (min E F) * 2 ^ (min E F - min (min ex ey) (min E F)).toNat := by
    rw [lo_lo (by omega) (by omega), lo_lo (by omega) (by omega), deq_lo h1 (by omega) (by omega)]
  rw [← Nat.mul_le_mul_right_iff hA, e1, e2, Nat.mul_le_mul_right_iff hB]
theorem suM_comm (M : Nat) (E : Int) (N : Nat) (F : Int) : suM M E N F = suM N F M E := by
  unfold suM; rw [Nat.add_comm, show min E F = min F E by omega]
/-- A Float's mantissa is a number without a word 0 at its top. -/
theorem Good.wds {ws : List Nat} {p : Nat} (h : Good ws p) : ws = wds (wv ws) := by
  have h1 := h.bl
  obtain ⟨h2, -, h3, h4, -⟩ := h
  have hp : 0 < wv ws := Nat.lt_of_lt_of_le (Nat.two_pow_pos _) h4
  exact wds_of h3 (by rw [nw_bl hp, h1]; omega)
theorem Good.posv {ws : List Nat} {p : Nat} (h : Good ws p) : 0 < wv ws := Nat.lt_of_lt_of_le (Nat.two_pow_pos _) h.2.2.2.1
end Go.Proofs.YtjapoobegjoblaaDoor

/-
The value of a Real in the reference. No condition.
-/
namespace Go.Proofs.YtjapoobegjoblaaDoor
open Go.RowKit

def dyN (f : Nat) (n : Bool) : Bool := if f = 1 then n else false
def dyM (f M : Nat) : Nat := if f = 1 then M else 0
def dyE (f : Nat) (e : Int) : Int := if f = 1 then e else 0
theorem ofReal_any (P E p m f : Nat) (e : Int) (neg : Bool) (v : Value) (ws : List Nat) (w : World) (hv : RW w v ws) (ho : RealOk P E p m f ws e) :
    Calls Tryd.prog 17 #[.agg #[.int .u64 p, .int .i64 m, .int .i64 f, .bool neg, v, .int .i64 e]] w fun e' w' => ∃ r, e' = .returned r ∧ DyV w' r (dyN f neg) (dyM f (wv ws)) (dyE f e) ∧ Below w.heap.size w w' := by
  by_cases hf : f = 1
  · subst hf
    obtain ⟨-, -, -, h | h | h⟩ := ho
    · exact absurd h (by decide)
    · exact absurd h (by decide)
    · exact ofReal_one p m e neg v ws w hv h.2.2.2.1
  · rw [dyN, dyM, dyE, if_neg hf, if_neg hf, if_neg hf]
    exact ofReal_other p m f e neg v w hv.isS hf
theorem dy_nl {P E p m f : Nat} {e : Int} {ws : List Nat} (ho : RealOk P E p m f ws e) (hP : P ≤ 64000) : bl (dyM f (wv ws)) ≤ P ∧ -(E : Int) ≤ dyE f e ∧ dyE f e ≤ E := by
  obtain ⟨h1, h2, -, h⟩ := ho
  by_cases hf : f = 1
  · subst hf
    rw [dyM, dyE, if_pos rfl, if_pos rfl]
    rcases h with h | h | h
    · exact absurd h (by decide)
    · exact absurd h (by decide)
    · exact ⟨Nat.le_trans h.2.2.1 h2, h.2.2.2.2.1, h.2.2.2.2.2⟩
  · rw [dyM, dyE, if_neg hf, if_neg hf, bl_zero]; omega
theorem bl_two (x n : Nat) : bl (x * 2 ^ n) ≤ bl x + n := bl_le (by
  rw [Nat.pow_add]; exact Nat.mul_lt_mul_of_pos_right (lt_bl x) (Nat.two_pow_pos n))
theorem nl_of_bl {n k : Nat} (h : bl n ≤ k) : nl n ≤ k := nl_bl (by omega)
theorem RealOk.pos {P E p m f : Nat} {ws : List Nat} {e : Int} (h : RealOk P E p m f ws e) (hf : f = 1) : 0 < wv ws := by
  subst hf
  obtain ⟨-, -, -, h | h | h⟩ := h
  · exact absurd h (by decide)
  · exact absurd h (by decide)
  · exact h.2.1
end Go.Proofs.YtjapoobegjoblaaDoor

/-
Floats: what Int64 answers, in plain numbers; the top word. No condition.
-/
namespace Go.Proofs.YtjapoobegjoblaaDoor
open Go.RowKit

/-- M times 2 to X, cut to a whole number; whether it is one. -/
def trn (M : Nat) (X : Int) : Nat := M * 2 ^ X.toNat / 2 ^ (-X).toNat
def exT (M : Nat) (X : Int) : Bool := decide (M % 2 ^ (-X).toNat = 0)
/-- The number of 64 bits that is nearest towards zero, and the side. -/
def i64V (n : Bool) (M : Nat) (X : Int) : Int := if trn M X < 9223372036854775808 then sI n (trn M X) else if n then -9223372036854775808 else 9223372036854775807
def i64A (n : Bool) (M : Nat) (X : Int) : Int := if exT M X = true ∧ (trn M X < 9223372036854775808 ∨ n = true ∧ trn M X = 9223372036854775808) then 0 else if n then 1 else -1
theorem trn_shl (M : Nat) (E : Int) (i : Nat) : trn (M * 2 ^ i) (E - i) = trn M E := by
  unfold trn
  rcases Int.le_total 0 (E - i) with h | h
  · rw [show (-(E - (i : Int))).toNat = 0 by omega, show (-E).toNat = 0 by omega, Nat.pow_zero, Nat.div_one, Nat.div_one, Nat.mul_assoc, ← Nat.pow_add, show i + (E - (i : Int)).toNat = E.toNat by omega]
  · rw [show (E - (i : Int)).toNat = 0 by omega, Nat.pow_zero, Nat.mul_one]
    rcases Int.le_total 0 E with h1 | h1
    · obtain ⟨d, hd⟩ : ∃ d, d = (-(E - (i : Int))).toNat := ⟨_, rfl⟩
      rw [← hd, show (-E).toNat = 0 by omega, Nat.pow_zero, Nat.div_one, show i = E.toNat + d by omega, Nat.pow_add, ← Nat.mul_assoc]
      exact Nat.mul_div_cancel _ (Nat.two_pow_pos d)
    · rw [show (-(E - (i : Int))).toNat = (-E).toNat + i by omega, show E.toNat = 0 by omega, Nat.pow_zero, Nat.mul_one, Nat.pow_add]
      exact Nat.mul_div_mul_right _ _ (Nat.two_pow_pos i)
theorem trn_deq {M N : Nat} {E F : Int} (h : deq M E N F) : trn M E = trn N F := by
  obtain ⟨i, j, h1, h2⟩ := h
  rw [← trn_shl M E i, ← trn_shl N F j, h1, h2]
theorem trn_lt {M k : Nat} {E : Int} (h : (bl M : Int) + E ≤ k) : trn M E < 2 ^ k := by
  unfold trn
  have h1 := lt_bl M
  rcases Int.le_total 0 E with h2 | h2
  · rw [show (-E).toNat = 0 by omega, Nat.pow_zero, Nat.div_one]
    have h3 : M * 2 ^ E.toNat < 2 ^ bl M * 2 ^ E.toNat := Nat.mul_lt_mul_of_pos_right h1 (Nat.two_pow_pos _)
    rw [← Nat.pow_add] at h3
    exact Nat.lt_of_lt_of_le h3 (Nat.pow_le_pow_right (by decide) (by omega))
  · rw [show E.toNat = 0 by omega, Nat.pow_zero, Nat.mul_one]
    refine Nat.div_lt_of_lt_mul ?_
    rw [← Nat.pow_add]
    exact Nat.lt_of_lt_of_le h1 (Nat.pow_le_pow_right (by decide) (by omega))
theorem trn_ge {M k : Nat} {E : Int} (hM : 0 < M) (h : (k : Int) + 1 ≤ (bl M : Int) + E) : 2 ^ k ≤ trn M E := by
  unfold trn
  have h1 := bl_ge hM
  have h0 := bl_pos hM
  rcases Int.le_total 0 E with h2 | h2
  · rw [show (-E).toNat = 0 by omega, Nat.pow_zero, Nat.div_one]
    refine Nat.le_trans (Nat.pow_le_pow_right (by decide) (show k ≤ bl M - 1 + E.toNat by omega)) ?_
    rw [Nat.pow_add]
    exact Nat.mul_le_mul_right _ h1
  · rw [show E.toNat = 0 by omega, Nat.pow_zero, Nat.mul_one, Nat.le_div_iff_mul_le (Nat.two_pow_pos _), ← Nat.pow_add]
    exact Nat.le_trans (Nat.pow_le_pow_right (by decide) (by omega)) h1
theorem exT_tz {M : Nat} {X : Int} (hM : 0 < M) : exT M X = decide (0 ≤ X + (tz M : Nat)) := by
  unfold exT
  by_cases h : 0 ≤ X + (tz M : Nat)
  · rw [decide_eq_true h, decide_eq_true (tz_low hM (by omega))]
  · rw [decide_eq_false h, decide_eq_false (fun hc => h (by have := tz_dvd hM hc; omega))]
theorem exT_deq {M N : Nat} {E F : Int} (hM : 0 < M) (h : deq M E N F) : exT M E = exT N F := by
  rw [exT_tz hM, exT_tz (h.pos hM), (h.od hM).2]
theorem i64_deq {n : Bool} {M N : Nat} {E F : Int} (hM : 0 < M) (h : deq M E N F) : i64V n M E = i64V n N F ∧ i64A n M E = i64A n N F := by
  unfold i64V i64A; rw [trn_deq h, exT_deq hM h]; exact ⟨rfl, rfl⟩
theorem i64_small {n : Bool} {M : Nat} {X : Int} (h : (bl M : Int) + X ≤ 63) : i64V n M X = sI n (trn M X) ∧ i64A n M X = accI n (exT M X) := by
  have h1 : trn M X < 2 ^ 63 := trn_lt (k := 63) (by omega)
  have h2 : trn M X < 9223372036854775808 := h1
  unfold i64V i64A accI
  rw [if_pos h2]
  refine ⟨rfl, ?_⟩
  by_cases h3 : exT M X = true
  · rw [if_pos ⟨h3, .inl h2⟩, if_pos h3]
  · rw [if_neg (fun hc => h3 hc.1), if_neg h3]
theorem i64_big {n : Bool} {M : Nat} {X : Int} (hM : 0 < M) (h : 64 ≤ (bl M : Int) + X) :
    i64V n M X = (if n then -9223372036854775808 else 9223372036854775807) ∧ i64A n M X = (if n = true ∧ (bl M : Int) + X = 64 ∧ bl (od M) = 1 then 0 else if n then 1 else -1) := by
  have h1 : 2 ^ 63 ≤ trn M X := trn_ge (k := 63) hM (by omega)
  have h2 : ¬ trn M X < 9223372036854775808 := by
    have : (9223372036854775808 : Nat) ≤ trn M X := h1
    omega
  have ho := od_tz hM
  have hbo := bl_od hM
  have key : (exT M X = true ∧ (trn M X < 9223372036854775808 ∨ n = true ∧ trn M X = 9223372036854775808)) ↔ (n = true ∧ (bl M : Int) + X = 64 ∧ bl (od M) = 1) := by
    constructor
    · rintro ⟨k1, k2⟩
      rcases k2 with k2 | ⟨k2, k3⟩
      · exact absurd k2 h2
      · rw [exT_tz hM] at k1
        have k1' := of_decide_eq_true k1
        obtain ⟨s, hs⟩ := Int.eq_ofNat_of_zero_le k1'
        have k4 : trn M X = od M * 2 ^ s := by
          rw [trn_deq (od_deq hM X), hs]
          unfold trn
          rw [show (-(s : Int)).toNat = 0 by omega, Nat.pow_zero, Nat.div_one]
          simp
        have k5 : od M * 2 ^ s = 1 * 2 ^ 63 := by rw [← k4, k3]
        obtain ⟨k6, k7⟩ := odd_two ho.2 (by decide) k5
        have k8 : bl (od M) = 1 := by rw [k7]; decide
        exact ⟨k2, by omega, k8⟩
    · rintro ⟨k1, k2, k3⟩
      have k4 : 0 ≤ X + (tz M : Nat) := by omega
      refine ⟨by rw [exT_tz hM]; exact decide_eq_true k4, .inr ⟨k1, ?_⟩⟩
      have k5 : X + (tz M : Nat) = ((63 : Nat) : Int) := by omega
      have k6 : od M = 1 := by
        have := lt_bl (od M); rw [k3] at this
        have := od_pos hM
        omega
      rw [trn_deq (od_deq hM X), k5, k6]
      decide
  unfold i64V i64A
  rw [if_neg h2]
  refine ⟨rfl, ?_⟩
  by_cases hc : n = true ∧ (bl M : Int) + X = 64 ∧ bl (od M) = 1
  · rw [if_pos (key.2 hc), if_pos hc]
  · rw [if_neg (fun h => hc (key.1 h)), if_neg hc]
theorem i64_zero (n : Bool) (X : Int) : i64V n 0 X = 0 ∧ i64A n 0 X = 0 := by
  have h1 : trn 0 X = 0 := by unfold trn; rw [Nat.zero_mul]; exact Nat.zero_div _
  have h2 : exT 0 X = true := by unfold exT; rw [Nat.zero_mod]; rfl
  unfold i64V i64A
  rw [h1, h2, if_pos (by decide), if_pos ⟨rfl, .inl (by decide)⟩]
  exact ⟨by cases n <;> rfl, rfl⟩
/-- The top word. -/
theorem wv_top {ws : List Nat} (h : ∀ d ∈ ws, d < 18446744073709551616) (h0 : 0 < ws.length) : ws.getD (ws.length - 1) 0 = wv ws / 2 ^ (64 * (ws.length - 1)) := by
  have h1 := wv_lt h
  rw [← wv_dig h]
  unfold wdg
  have e1 : (18446744073709551616 : Nat) ^ (ws.length - 1) = 2 ^ (64 * (ws.length - 1)) := by rw [Nat.pow_mul]
  rw [e1, Nat.mod_eq_of_lt]
  refine Nat.div_lt_of_lt_mul ?_
  have e2 : (18446744073709551616 : Nat) ^ ws.length = 2 ^ (64 * (ws.length - 1)) * 18446744073709551616 := by
    rw [← e1, ← Nat.pow_succ]; congr 1; omega
  rw [← e2]; exact h1
set_option maxRecDepth 100000 in
theorem msb64_any (v : Value) (ws : List Nat) (w : World) (hv : RW w v ws) (h0 : 0 < ws.length) (hl : ws.length ≤ 1000000) :
    Calls Tryd.prog 78 #[v] w fun e' w' => e' = .returned (.int .u64 (ws.getD (ws.length - 1) 0 : Nat)) ∧ w = w' := by
  have hS := hv.isS
  have hL := hv.len
  have hc := hv.cell (ws.length - 1) (by omega)
  obtain ⟨d, hd⟩ : ∃ d, d = ws.getD (ws.length - 1) 0 := ⟨_, rfl⟩
  rw [← hd] at hc ⊢
  obtain ⟨k, hk⟩ : ∃ k, ws.length = k + 1 := ⟨ws.length - 1, by omega⟩
  rw [hk] at hL hl
  rw [hk, Nat.add_sub_cancel] at hc
  have e1 : ((k + 1 : Nat) : Int) - 1 = (k : Int) := by omega
  clear hv hd h0 hk
  go_enter Tryd.func78, Tryd.ntmps78
  go_wp2
  go_ret
  exact ⟨rfl, rfl⟩
end Go.Proofs.YtjapoobegjoblaaDoor

/-
Floats: Int64. No condition.
-/
namespace Go.Proofs.YtjapoobegjoblaaDoor
open Go.RowKit

set_option maxRecDepth 100000 in
set_option maxHeartbeats 3200000 in
theorem int64_one (c p m : Nat) (a e : Int) (neg : Bool) (v : Value) (ws : List Nat) (w : World) (h : FltR w c p m a 1 neg v e) (hv : RW w v ws) (hg : Good ws p) (hT : TabW w) (he1 : -1000000000 ≤ e) (he2 : e ≤ 1000000000) :
    Calls Tryd.prog 48 #[.pointer (some ⟨c, 0, none⟩)] w fun e' w' => e' = .returned (.tuple #[.int .i64 (i64V neg (wv ws) (e - 64 * (ws.length : Int))), .int .i8 (i64A neg (wv ws) (e - 64 * (ws.length : Int)))]) ∧ ∃ n, w' = w.drewN n := by
  have hS := hv.isS
  have h0 := hg.posv
  have hb := hg.bl
  have hod := bl_od h0
  have htz := tz_le h0
  obtain ⟨X, hX⟩ : ∃ X : Int, X = e - 64 * (ws.length : Int) := ⟨_, rfl⟩
  rw [← hX]
  obtain ⟨q, hq⟩ : ∃ q, q = bl (od (wv ws)) := ⟨_, rfl⟩
  rw [← hq] at hod
  have hqb : q ≤ 64000000 := by have := hg.2.1; omega
  have HMP := Lib.hid (fun (k : Nat) => minPrec_one c p m a e neg v ws (w.drewN k) (h.drewN k) (hv.below (undrewN' (Below.refl _ _))) h0 hg.2.1 hg.bl (hT.drewN k))
  rw [← hq] at HMP
  have HMS : Hid (∀ k : Nat, Calls Tryd.prog 78 #[v] (w.drewN k) fun e' w' => e' = .returned (.int .u64 (ws.getD (ws.length - 1) 0 : Nat)) ∧ w' = w.drewN k) := Lib.hid (fun k => (msb64_any v ws (w.drewN k) (hv.below (undrewN' (Below.refl _ _))) hg.1 hg.2.1).mono (fun _ _ h => ⟨h.1, h.2.symm⟩))
  have htop := wv_top hg.2.2.1 hg.1
  have htl := hg.2.2.1
  obtain ⟨t, ht⟩ : ∃ t, t = ws.getD (ws.length - 1) 0 := ⟨_, rfl⟩
  have htb : t < 18446744073709551616 := by
    rw [ht, List.getD_eq_getElem?_getD]
    have hl : ws.length - 1 < ws.length := by have := hg.1; omega
    rw [List.getElem?_eq_getElem hl]
    exact htl _ (List.getElem_mem hl)
  rw [← ht] at HMS htop
  have hlen := hg.1
  obtain ⟨c0, c1, c2, c3', c4, c5, c6⟩ := h.cells
  have c3 : w.cell? ⟨c, 3, none⟩ = some (.int .u8 1) := c3'
  obtain ⟨V, hV⟩ : ∃ V, V = i64V neg (wv ws) X := ⟨_, rfl⟩
  obtain ⟨A, hA⟩ : ∃ A, A = i64A neg (wv ws) X := ⟨_, rfl⟩
  rw [← hV, ← hA]
  have hexT := exT_tz (X := X) h0
  obtain ⟨ac, hac⟩ : ∃ ac : Int, ac = (if neg then 1 else -1) := ⟨_, rfl⟩
  have hacb : -1 ≤ ac ∧ ac ≤ 1 := by rw [hac]; split <;> omega
  have HAC := Lib.hid hac
  by_cases h1 : e ≤ 0
  · have t1 : decide (e ≤ 0) = true := decide_eq_true h1
    obtain ⟨k1, k2⟩ := i64_small (n := neg) (M := wv ws) (X := X) (by omega)
    have HV0 : Hid (V = 0) := Lib.hid (by
      rw [hV, k1]
      have := trn_lt (M := wv ws) (E := X) (k := 0) (by omega)
      rw [show trn (wv ws) X = 0 by omega, show sI neg 0 = 0 by cases neg <;> rfl])
    have HA0 : Hid (A = ac) := Lib.hid (by
      rw [hA, k2, hexT, decide_eq_false (by omega), hac]; rfl)
    clear h hv hg hT h0 hb hod htz hX hq htop htl ht hlen c3' hV hA hexT hac k1 k2 h1
    go_enter Tryd.func48, Tryd.ntmps48
    go_wp2_with fail
    refine (makeAcc_any neg w).mono ?_
    rintro _ _ ⟨rfl, rfl⟩
    rw [← HAC.out]
    go_wp2
    go_ret2
    rw [HV0.out, HA0.out]
    exact ⟨rfl, 0, rfl⟩
  have t1 : decide (e ≤ 0) = false := decide_eq_false h1
  by_cases h2 : e ≤ 63
  · obtain ⟨E, rfl⟩ := Int.eq_ofNat_of_zero_le (show 0 ≤ e by omega)
    have hE0 : 0 < E := by omega
    have hE63 : E ≤ 63 := by omega
    have t0 : decide (E = 0) = false := decide_eq_false (by omega)
    have t2 : decide ((E : Int) ≤ 63) = true := decide_eq_true h2
    have t2' : decide (E ≤ 63) = true := decide_eq_true hE63
    obtain ⟨k1, k2⟩ := i64_small (n := neg) (M := wv ws) (X := X) (by omega)
    obtain ⟨s, hs⟩ : ∃ s, s = 64 - E := ⟨_, rfl⟩
    have hs64 : s ≤ 63 := by omega
    have hsE : (64 : Int) - (E : Int) = (s : Int) := by omega
    obtain ⟨D, hD⟩ : ∃ D, D = 2 ^ s := ⟨_, rfl⟩
    have hD0 : 0 < D := by rw [hD]; exact Nat.two_pow_pos _
    have hS2 : (2 : Int) ^ s = (D : Int) := by rw [hD]; simp
    obtain ⟨i, hi⟩ : ∃ i, i = t / D := ⟨_, rfl⟩
    have hit : i = trn (wv ws) X := by
      rw [hi, htop, hD, Nat.div_div_eq_div_mul, ← Nat.pow_add]
      unfold trn
      rw [show X.toNat = 0 by omega, Nat.pow_zero, Nat.mul_one, show 64 * (ws.length - 1) + s = (-X).toNat by omega]
    have hib : i < 9223372036854775808 := by
      rw [hit]; exact trn_lt (k := 63) (by omega)
    have hdv : (t : Int) / (D : Int) = (i : Int) := by rw [hi]; simp
    have HV0 : Hid (V = sI neg i) := Lib.hid (by rw [hV, k1, hit])
    by_cases h3 : q ≤ E
    · have t3 : decide (q ≤ E) = true := decide_eq_true h3
      have t3' : decide ((q : Int) ≤ (E : Int)) = true := decide_eq_true (by omega)
      have HA0 : Hid (A = 0) := Lib.hid (by rw [hA, k2, hexT, decide_eq_true (by omega)]; rfl)
      clear h hv hg hT h0 hb hod htz hX hq htop htl ht hlen c3' hV hA hexT hac k1 k2 h1 h2 hs hD hi hit h3 HAC
      cases neg
      · have HV1 : Hid (V = (i : Int)) := Lib.hid (by rw [HV0.out]; rfl)
        clear HV0
        go_enter Tryd.func48, Tryd.ntmps48
        go_wp2_with fail
        refine (makeAcc_any false w).mono ?_
        rintro _ _ ⟨rfl, rfl⟩
        go_wp2_with fail
        go_quiet ((go_at_call 78; exact Calls.quiet_of_same (HMS.out _)))
        go_wp2_with fail
        go_quiet ((go_at_call 73; with_reducible refine (HMP.out _).mono ?_; rintro _ _ ⟨rfl, n, rfl⟩; exact ⟨rfl, _, by rw [World.drewN_drewN, Nat.add_assoc]⟩))
        go_wp2
        go_ret2
        rw [HV1.out, HA0.out]
        exact ⟨rfl, _, by rw [World.drewN_drewN]⟩
      · have HV1 : Hid (V = -(i : Int)) := Lib.hid (by rw [HV0.out]; rfl)
        clear HV0
        go_enter Tryd.func48, Tryd.ntmps48
        go_wp2_with fail
        refine (makeAcc_any true w).mono ?_
        rintro _ _ ⟨rfl, rfl⟩
        go_wp2_with fail
        go_quiet ((go_at_call 78; exact Calls.quiet_of_same (HMS.out _)))
        go_wp2_with fail
        go_quiet ((go_at_call 73; with_reducible refine (HMP.out _).mono ?_; rintro _ _ ⟨rfl, n, rfl⟩; exact ⟨rfl, _, by rw [World.drewN_drewN, Nat.add_assoc]⟩))
        go_wp2
        go_ret2
        rw [HV1.out, HA0.out]
        exact ⟨rfl, _, by rw [World.drewN_drewN]⟩
    · have t3 : decide (q ≤ E) = false := decide_eq_false h3
      have t3' : decide ((q : Int) ≤ (E : Int)) = false := decide_eq_false (by omega)
      have HA0 : Hid (A = ac) := Lib.hid (by rw [hA, k2, hexT, decide_eq_false (by omega), hac]; rfl)
      clear h hv hg hT h0 hb hod htz hX hq htop htl ht hlen c3' hV hA hexT hac k1 k2 h1 h2 hs hD hi hit h3
      cases neg
      · have HV1 : Hid (V = (i : Int)) := Lib.hid (by rw [HV0.out]; rfl)
        clear HV0
        go_enter Tryd.func48, Tryd.ntmps48
        go_wp2_with fail
        refine (makeAcc_any false w).mono ?_
        rintro _ _ ⟨rfl, rfl⟩
        go_wp2_with fail
        go_quiet ((go_at_call 78; exact Calls.quiet_of_same (HMS.out _)))
        go_wp2_with fail
        go_quiet ((go_at_call 73; with_reducible refine (HMP.out _).mono ?_; rintro _ _ ⟨rfl, n, rfl⟩; exact ⟨rfl, _, by rw [World.drewN_drewN, Nat.add_assoc]⟩))
        go_wp2
        go_ret2
        rw [HV1.out, HA0.out, HAC.out]
        exact ⟨rfl, _, by rw [World.drewN_drewN]⟩
      · have HV1 : Hid (V = -(i : Int)) := Lib.hid (by rw [HV0.out]; rfl)
        clear HV0
        go_enter Tryd.func48, Tryd.ntmps48
        go_wp2_with fail
        refine (makeAcc_any true w).mono ?_
        rintro _ _ ⟨rfl, rfl⟩
        go_wp2_with fail
        go_quiet ((go_at_call 78; exact Calls.quiet_of_same (HMS.out _)))
        go_wp2_with fail
        go_quiet ((go_at_call 73; with_reducible refine (HMP.out _).mono ?_; rintro _ _ ⟨rfl, n, rfl⟩; exact ⟨rfl, _, by rw [World.drewN_drewN, Nat.add_assoc]⟩))
        go_wp2
        go_ret2
        rw [HV1.out, HA0.out, HAC.out]
        exact ⟨rfl, _, by rw [World.drewN_drewN]⟩
  have t2 : decide (e ≤ 63) = false := decide_eq_false h2
  obtain ⟨k1, k2⟩ := i64_big (n := neg) (M := wv ws) (X := X) h0 (by omega)
  cases neg
  · have HV0 : Hid (V = 9223372036854775807) := Lib.hid (by rw [hV, k1]; rfl)
    have HA0 : Hid (A = -1) := Lib.hid (by rw [hA, k2, if_neg (fun h => absurd h.1 (by decide))]; rfl)
    clear h hv hg hT h0 hb hod htz hX hq htop htl ht hlen c3' hV hA hexT hac k1 k2 h1 h2
    go_enter Tryd.func48, Tryd.ntmps48
    go_wp2_with fail
    refine (makeAcc_any false w).mono ?_
    rintro _ _ ⟨rfl, rfl⟩
    go_wp2
    go_ret2
    rw [HV0.out, HA0.out]
    exact ⟨rfl, 0, rfl⟩
  · have HV0 : Hid (V = -9223372036854775808) := Lib.hid (by rw [hV, k1]; rfl)
    by_cases h3 : e = 64
    · have t3 : (e == 64) = true := by rw [h3]; rfl
      by_cases h4 : q = 1
      · have t4 : ((q : Int) == 1) = true := by rw [h4]; rfl
        have HA0 : Hid (A = 0) := Lib.hid (by rw [hA, k2, if_pos ⟨rfl, by omega, by rw [← hq, h4]⟩])
        clear h hv hg hT h0 hb hod htz hX hq htop htl ht hlen c3' hV hA hexT hac k1 k2 h1 h2 h3 h4
        go_enter Tryd.func48, Tryd.ntmps48
        go_wp2_with fail
        refine (makeAcc_any true w).mono ?_
        rintro _ _ ⟨rfl, rfl⟩
        go_wp2_with fail
        refine (HMP.out 0).mono ?_
        rintro _ _ ⟨rfl, n1, rfl⟩
        go_wp2
        go_ret2
        rw [HV0.out, HA0.out]
        exact ⟨rfl, n1, rfl⟩
      · have t4 : ((q : Int) == 1) = false := by rw [beq_eq_false_iff_ne]; omega
        have HA0 : Hid (A = 1) := Lib.hid (by rw [hA, k2, if_neg (fun h => h4 (by rw [hq]; exact h.2.2))]; rfl)
        clear h hv hg hT h0 hb hod htz hX hq htop htl ht hlen c3' hV hA hexT hac k1 k2 h1 h2 h3 h4
        go_enter Tryd.func48, Tryd.ntmps48
        go_wp2_with fail
        refine (makeAcc_any true w).mono ?_
        rintro _ _ ⟨rfl, rfl⟩
        go_wp2_with fail
        refine (HMP.out 0).mono ?_
        rintro _ _ ⟨rfl, n1, rfl⟩
        go_wp2
        go_ret2
        rw [HV0.out, HA0.out]
        exact ⟨rfl, n1, rfl⟩
    · have t3 : (e == 64) = false := by rw [beq_eq_false_iff_ne]; omega
      have HA0 : Hid (A = 1) := Lib.hid (by rw [hA, k2, if_neg (fun h => h3 (by have := h.2.1; omega))]; rfl)
      clear h hv hg hT h0 hb hod htz hX hq htop htl ht hlen c3' hV hA hexT hac k1 k2 h1 h2 h3
      go_enter Tryd.func48, Tryd.ntmps48
      go_wp2_with fail
      refine (makeAcc_any true w).mono ?_
      rintro _ _ ⟨rfl, rfl⟩
      go_wp2
      go_ret2
      rw [HV0.out, HA0.out]
      exact ⟨rfl, 0, rfl⟩
set_option maxRecDepth 100000 in
theorem int64_zero (c p m : Nat) (a e : Int) (neg : Bool) (v : Value) (w : World) (h : FltR w c p m a 0 neg v e) :
    Calls Tryd.prog 48 #[.pointer (some ⟨c, 0, none⟩)] w fun e' w' => e' = .returned (.tuple #[.int .i64 0, .int .i8 0]) ∧ ∃ n, w' = w.drewN n := by
  obtain ⟨c0, c1, c2, c3', c4, c5, c6⟩ := h.cells
  have c3 : w.cell? ⟨c, 3, none⟩ = some (.int .u8 0) := c3'
  clear h c3'
  go_enter Tryd.func48, Tryd.ntmps48
  go_wp2
  go_ret2
  exact ⟨rfl, 0, rfl⟩
/-- Int64 of a Float's value. -/
theorem int64_val (c Bx p m f : Nat) (a : Int) (neg : Bool) (M : Nat) (X : Int) (w : World) (hx : FVal w Bx c p m a f neg M X) (hf : f ≤ 1) (hX : f = 1 → -900000000 ≤ X ∧ X + bl M ≤ 900000000) (hT : TabW w) :
    Calls Tryd.prog 48 #[.pointer (some ⟨c, 0, none⟩)] w fun e' w' => e' = .returned (.tuple #[.int .i64 (i64V neg (dyM f M) (dyE f X)), .int .i8 (i64A neg (dyM f M) (dyE f X))]) ∧ ∃ n, w' = w.drewN n := by
  obtain ⟨v, e, h1, h2⟩ := hx
  rcases (by omega : f = 0 ∨ f = 1) with rfl | rfl
  · rw [show dyM 0 M = 0 from rfl, (i64_zero neg _).1, (i64_zero neg _).2]
    exact int64_zero c p m a e neg v w h1
  · obtain ⟨hM, ws, ho, hg, hd⟩ := h2 rfl
    have h0 := hd.symm.pos hM
    have hb := hd.bl h0
    rw [hg.bl] at hb
    have := hX rfl
    obtain ⟨k1, k2⟩ := i64_deq (n := neg) h0 hd
    rw [show dyM 1 M = M from rfl, show dyE 1 X = X from rfl, ← k1, ← k2]
    exact int64_one c p m a e neg v ws w h1 (ho.rw' hg.2.2.1) hg hT (by omega) (by omega)
end Go.Proofs.YtjapoobegjoblaaDoor
