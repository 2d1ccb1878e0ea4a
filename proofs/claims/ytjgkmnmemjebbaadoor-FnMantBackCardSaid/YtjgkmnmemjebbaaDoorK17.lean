/-
Texts of this proof, joined: SrB FlR FlS FlT FlU FlV SrC SrD SrE SrF TzF TzG RoB. No condition.
-/
import Derived.Test.YtjgkmnmemjebbaaDoorK02
import Derived.Test.YtjgkmnmemjebbaaDoorK03
import Derived.Test.YtjgkmnmemjebbaaDoorK06
import Derived.Test.YtjgkmnmemjebbaaDoorK15
import Derived.Test.YtjgkmnmemjebbaaDoorK16
/-
The reference's split, Odd, away, Cut. No condition.
-/
namespace Go.Proofs.YtjgkmnmemjebbaaDoor
open Go.RowKit

theorem low_sub (x n : Nat) : x - x / 2 ^ n * 2 ^ n = x % 2 ^ n := by have := Nat.div_add_mod x (2 ^ n); rw [Nat.mul_comm] at this; omega
theorem lef_cmp {R D : Nat} (h : R ≠ 0) : 2 + cmpN (R + R) D = ((lef R D 0 : Nat) : Int) := by
  unfold lef
  rw [if_neg (by omega)]
  rcases Nat.lt_trichotomy (2 * R) D with c | c | c
  · rw [if_pos c, cmpN_lt (by omega)]; rfl
  · rw [if_neg (by omega), if_pos ⟨c, rfl⟩, show R + R = D by omega, cmpN_eq]; rfl
  · rw [if_neg (by omega), if_neg (by omega), cmpN_gt (by omega)]; rfl
theorem nl_sub_le {a b : Nat} (h : a ≤ b) (k : Nat) (hb : nl b ≤ k) : nl a ≤ k := Nat.le_trans (nl_mono h) hb
set_option maxRecDepth 100000 in
set_option maxHeartbeats 1600000 in
theorem spSplit (a : Value) (x n : Nat) (w : World) (ha : NatV w a x) (hx : nl x ≤ 100000000) (hn : n ≤ 1600000000) :
    Calls Tryd.prog 59 #[a, .int .i64 n] w fun e w' => ∃ r, e = .returned (.tuple #[r, .int .i64 ((lef (x % 2 ^ n) (2 ^ n) 0 : Nat) : Int)]) ∧ NPost (x / 2 ^ n) w r w' := by
  have hSa := ha.isS
  have Ha := Lib.hid ha
  have hq : nl (x / 2 ^ n) ≤ 1000000000 := Nat.le_trans (nl_mono (Nat.div_le_self x _)) (by omega)
  have hq2 : nl (x / 2 ^ n * 2 ^ n) ≤ 1000000000 := Nat.le_trans (nl_mono (Nat.div_mul_le_self x _)) (by omega)
  have hle : x / 2 ^ n * 2 ^ n ≤ x := Nat.div_mul_le_self x _
  have hlow := low_sub x n
  have hrl : x % 2 ^ n ≤ x := Nat.mod_le _ _
  have hnr : nl (x % 2 ^ n) ≤ 100000000 := Nat.le_trans (nl_mono hrl) hx
  have hnD : nl (2 ^ n) ≤ 1000000000 := by rw [nl_two]; omega
  obtain ⟨D, hD⟩ : ∃ D, D = 2 ^ n := ⟨_, rfl⟩
  have hB : ∀ W : World, Calls Tryd.prog 87 #[.int .i64 n] W fun e w' => ∃ r, e = .returned r ∧ NPost D W r w' := fun W => by rw [hD]; exact spBit n W (by omega)
  have hSh : ∀ (W : World) (v : Value), NatV W v (x / D) → Calls Tryd.prog 58 #[v, .int .i64 n] W fun e w' => ∃ r, e = .returned r ∧ NPost (x / D * D) W r w' := fun W v h => by rw [hD] at h ⊢; exact spShl v _ n W h hq (by omega)
  rw [← hD] at hq2 hle hlow hnr hnD hrl hq ⊢
  have HSr : Hid (Calls Tryd.prog 54 #[a, .int .i64 n] w fun e w' => ∃ r, e = .returned r ∧ NPost (x / D) w r w') := Lib.hid (by rw [hD]; exact spShr a x n w Ha.out (by omega) (by omega))
  have HBit := Lib.hid hB
  have HShl := Lib.hid hSh
  have HLow := Lib.hid hlow
  have hR2 : nl (x % D + x % D) ≤ 1000000000 := by
    have h1 : x % D + x % D < 65536 ^ (nl (x % D) + 1) := by have := lt_nl (x % D); rw [Nat.pow_succ]; omega
    have := nl_le h1; omega
  obtain ⟨R, hR⟩ : ∃ R, R = x % D := ⟨_, rfl⟩
  obtain ⟨q, hqq⟩ : ∃ q, q = x / D := ⟨_, rfl⟩
  rw [← hR] at HLow hnr hR2 ⊢
  rw [← hqq] at HSr HShl HLow hq hq2 hle ⊢
  have HLe := Lib.hid hle
  clear hD hB hSh hlow hR hqq ha hrl hle
  go_enter Tryd.func59, Tryd.ntmps59
  go_wp2_with fail
  refine HSr.out.mono ?_
  rintro _ w1 ⟨r1, rfl, hn1, hb1⟩
  have HN1 := Lib.hid hn1
  have hS1 := hn1.isS
  have HB1 := Lib.hid hb1
  clear hn1 hb1
  go_wp2_with fail
  refine (HShl.out w1 r1 HN1.out).mono ?_
  rintro _ w2 ⟨r2, rfl, hn2, hb2⟩
  have HN2 := Lib.hid hn2
  have hS2 := hn2.isS
  have HB2 := Lib.hid (bthen HB1.out hb2)
  have hx2 : nl x ≤ 1000000000 := by omega
  have HN12 := Lib.hid (HN1.out.below hb2)
  clear hn2 hb2
  go_wp2_with fail
  refine (spSub a r2 x (q * D) w2 (Ha.out.below HB2.out) HN2.out hx2 HLe.out).mono ?_
  rintro _ w3 ⟨r3, rfl, hn3, hb3⟩
  rw [HLow.out] at hn3
  have hS3 := hn3.isS
  have hL3 := hn3.len
  have HN3 := Lib.hid hn3
  have HB3 := Lib.hid (bthen HB2.out hb3)
  have HN13 := Lib.hid (HN12.out.below hb3)
  clear hn3 hb3
  by_cases hR0 : R = 0
  · have t0 : ((nl R : Int) == 0) = true := by rw [hR0]; rfl
    have HLZ : Hid (((lef R D 0 : Nat) : Int) = 0) := Lib.hid (by rw [hR0, lef_exact]; rfl)
    have h0 : nl R = 0 := by rw [hR0]; rfl
    rw [h0] at hL3
    clear hR0 t0 h0
    go_wp2
    go_ret2
    refine ⟨r1, ?_, HN13.out, HB3.out⟩
    rw [HLZ.out]; rfl
  · have hp := nl_pos (Nat.pos_of_ne_zero hR0)
    have t0 : ((nl R : Int) == 0) = false := by rw [beq_eq_false_iff_ne]; omega
    have HLC := Lib.hid (lef_cmp (D := D) hR0)
    clear hR0 hp
    go_wp2_with fail
    refine (spAdd r3 r3 R R w3 HN3.out HN3.out (by omega) (by omega)).mono ?_
    rintro _ w4 ⟨r4, rfl, hn4, hb4⟩
    have HN4 := Lib.hid hn4
    have hS4 := hn4.isS
    have HB4 := Lib.hid (bthen HB3.out hb4)
    have HN14 := Lib.hid (HN13.out.below hb4)
    clear hn4 hb4
    go_wp2_with fail
    refine (HBit.out w4).mono ?_
    rintro _ w5 ⟨r5, rfl, hn5, hb5⟩
    have HN5 := Lib.hid hn5
    have hS5 := hn5.isS
    have HB5 := Lib.hid (bthen HB4.out hb5)
    have HN15 := Lib.hid (HN14.out.below hb5)
    have HN45 := Lib.hid (HN4.out.below hb5)
    clear hn5 hb5
    go_wp2_with fail
    refine (spCmp r4 r5 (R + R) D w5 HN45.out HN5.out hR2 hnD).mono ?_
    rintro _ w6 ⟨rfl, hb6⟩
    have HB6 := Lib.hid (bthen HB5.out hb6)
    have HN16 := Lib.hid (HN15.out.below hb6)
    have hcb := cmpN_bd (R + R) D
    have hlc := HLC.out
    obtain ⟨c, hc⟩ : ∃ c, c = cmpN (R + R) D := ⟨_, rfl⟩
    rw [← hc] at hcb hlc ⊢
    have HC := Lib.hid hlc
    clear hb6 hc hlc
    go_wp2
    go_ret2
    refine ⟨r1, ?_, HN16.out, HB6.out⟩
    rw [← HC.out]; rfl
theorem odd_low {x k : Nat} (h : 0 < x) (hk : k < tz x) : x / 2 ^ k % 2 = 0 := by
  have h1 := tz_low h (show k + 1 ≤ tz x by omega)
  have h2 := Nat.mod_pow_succ (x := x) (b := 2) (k := k)
  rw [h1] at h2
  have h3 := Nat.two_pow_pos k
  have h4 : 2 ^ k * (x / 2 ^ k % 2) = 0 := by omega
  exact (Nat.mul_eq_zero.1 h4).resolve_left (by omega)
theorem odd_top {x : Nat} (h : 0 < x) : x / 2 ^ tz x % 2 = 1 := (od_tz h).2
set_option maxRecDepth 100000 in
set_option maxHeartbeats 800000 in
theorem spOdd (a : Value) (x : Nat) (w : World) (ha : NatV w a x) (hx : nl x ≤ 100000000) (h0 : 0 < x) :
    Calls Tryd.prog 35 #[a] w fun e w' => ∃ r, e = .returned (.tuple #[r, .int .i64 (tz x : Nat)]) ∧ NPost (od x) w r w' := by
  have hSa := ha.isS
  have Ha := Lib.hid ha
  have H0 := Lib.hid h0
  have htl : tz x ≤ 1600000000 := by have := tz_le h0; have := bl_nl x; omega
  obtain ⟨t, ht⟩ : ∃ t, t = tz x := ⟨_, rfl⟩
  rw [← ht] at htl ⊢
  have HT := Lib.hid ht
  have hx2 : nl x ≤ 1000000000 := by omega
  clear ha ht
  go_enter Tryd.func35, Tryd.ntmps35
  go_wp2
  go_loopw [4] (fun i wr => ∃ k : Nat, k ≤ t ∧ i = .int .i64 k ∧ w = wr) (fun i _ => t - (intOf i).toNat)
  case atStart => exact ⟨0, Nat.zero_le _, rfl, rfl⟩
  case round =>
    obtain ⟨k, hk, rfl, rfl⟩ := hrel
    go_wp2_with fail
    refine (spHas a x k w Ha.out hx2 (by omega)).mono ?_
    rintro _ _ ⟨rfl, rfl⟩
    by_cases hkt : k < t
    · rw [show decide (x / 2 ^ k % 2 = 1) = false by rw [odd_low H0.out (by rw [← HT.out]; exact hkt)]; rfl]
      go_wp2
      exact ⟨⟨k + 1, by omega, by simp, trivial⟩, by simp [intOf]; omega⟩
    · have hkk : k = t := by omega
      subst hkk
      rw [show decide (x / 2 ^ k % 2 = 1) = true by rw [HT.out, odd_top H0.out]; rfl]
      go_wp2_with fail
      refine (spShr a x k w Ha.out hx2 (by omega)).mono ?_
      rintro _ w1 ⟨r1, rfl, hn1, hb1⟩
      have hS1 := hn1.isS
      have HN := Lib.hid hn1
      have HB := Lib.hid hb1
      clear hn1 hb1
      go_wp2
      go_ret2
      refine ⟨_, rfl, ?_, HB.out⟩
      have := HN.out
      rw [HT.out] at this
      exact this
set_option maxRecDepth 100000 in
set_option maxHeartbeats 3200000 in
theorem spAway (neg odd : Bool) (left mode : Nat) (w : World) (hl : left ≤ 3) (hm : mode ≤ 5) :
    Calls Tryd.prog 60 #[.bool neg, .bool odd, .int .i64 left, .int .i64 mode] w fun e w' => e = .returned (.bool (awy neg odd left mode)) ∧ w = w' := by
  rcases (by omega : left = 0 ∨ left = 1 ∨ left = 2 ∨ left = 3) with rfl | rfl | rfl | rfl <;> rcases (by omega : mode = 0 ∨ mode = 1 ∨ mode = 2 ∨ mode = 3 ∨ mode = 4 ∨ mode = 5) with rfl | rfl | rfl | rfl | rfl | rfl <;> cases neg <;> cases odd <;>
    (go_enter Tryd.func60, Tryd.ntmps60) <;> go_wp2 <;> go_ret <;> first | exact ⟨rfl, rfl⟩ | exact ⟨rfl, trivial⟩ | exact ⟨trivial, trivial⟩ | trivial
end Go.Proofs.YtjgkmnmemjebbaaDoor

/-
The statement on a float's sign. No condition.
-/
namespace Go.Proofs.YtjgkmnmemjebbaaDoor
open Go.RowKit

theorem ks12 {W X : World} {k : Nat} {a b c d e f : Value} {T : TypeId} (hr : W.heap[k]? = some (.cells #[a, b, c, d, e, f] T (0, 0))) (h : Below W.heap.size W X) :
    Below W.heap.size W X ∧ X.cell? ⟨k, 0, none⟩ = some a ∧ X.cell? ⟨k, 1, none⟩ = some b ∧ X.cell? ⟨k, 2, none⟩ = some c ∧ X.cell? ⟨k, 3, none⟩ = some d ∧ X.cell? ⟨k, 4, none⟩ = some e ∧ X.cell? ⟨k, 5, none⟩ = some f :=
  ⟨h, (row_at (keep_row h hr) rfl).1, (row_at (keep_row h hr) rfl).1, (row_at (keep_row h hr) rfl).1, (row_at (keep_row h hr) rfl).1, (row_at (keep_row h hr) rfl).1, (row_at (keep_row h hr) rfl).1⟩
end Go.Proofs.YtjgkmnmemjebbaaDoor

/-
The thin package's Cmp, the statements' end. No condition.
-/
namespace Go.Proofs.YtjgkmnmemjebbaaDoor
open Go.RowKit

theorem FloatAt.below {w w' : World} {B g p m f M : Nat} {neg : Bool} {e : Int} (h : FloatAt w B g p m f neg M e) (hb : Below w.heap.size w w') : FloatAt w' B g p m f neg M e := by
  obtain ⟨h1, r, x, h2, h3⟩ := h
  exact ⟨h1, r, x, h2.below hb, fun hf => ⟨(h3 hf).1, (h3 hf).2.below hb⟩⟩
/-- The order of two Reals as Cmp reckons it. -/
def cmpRV (f1 : Nat) (n1 : Bool) (M1 : Nat) (e1 : Int) (f2 : Nat) (n2 : Bool) (M2 : Nat) (e2 : Int) : Int :=
  cmpFV f1 n1 ((bl M1 : Nat) + e1) (topN M1) f2 n2 ((bl M2 : Nat) + e2) (topN M2)
theorem cmpFV_eq {f1 f2 : Nat} {n1 n2 : Bool} {x1 x2 y1 y2 : Int} {xs ys xs' ys' : List Nat} (h1 : f1 = 1 → x1 = y1 ∧ xs = xs') (h2 : f2 = 1 → x2 = y2 ∧ ys = ys') (hf1 : f1 ≤ 2) (hf2 : f2 ≤ 2) :
    cmpFV f1 n1 x1 xs f2 n2 x2 ys = cmpFV f1 n1 y1 xs' f2 n2 y2 ys' := by
  by_cases c1 : f1 = 1
  · by_cases c2 : f2 = 1
    · rw [(h1 c1).1, (h2 c2).1, (h1 c1).2, (h2 c2).2]
    · rw [(h1 c1).1, (h1 c1).2]
      have : f2 = 0 ∨ f2 = 2 := by omega
      rcases this with rfl | rfl <;> subst c1 <;> cases n1 <;> cases n2 <;> simp [cmpFV, ordV]
  · have c : f1 = 0 ∨ f1 = 2 := by omega
    have d : f2 = 0 ∨ f2 = 1 ∨ f2 = 2 := by omega
    rcases c with rfl | rfl <;> rcases d with rfl | rfl | rfl <;> cases n1 <;> cases n2 <;> simp [cmpFV, ordV]
theorem topN_lt {M : Nat} : ∀ d ∈ topN M, d < 18446744073709551616 := wdsN_lt
theorem topN_if {f M : Nat} (h : f = 1 → nw M ≤ 1000000) : (if f = 1 then topN M else []).length ≤ 1000000000 := by
  split
  · rename_i hf; rw [topN_length]; have := h hf; omega
  · exact Nat.zero_le _
theorem RealOk.form {P E p m f : Nat} {ws : List Nat} {e : Int} (h : RealOk P E p m f ws e) : f ≤ 2 := by
  obtain ⟨_, _, _, h | h | ⟨h, _⟩⟩ := h <;> omega
theorem RealOk.len {P E p m f : Nat} {ws : List Nat} {e : Int} (h : RealOk P E p m f ws e) (hf : f = 1) : ws.length ≤ 1000000 := by
  obtain ⟨_, _, _, h | h | h⟩ := h
  · omega
  · omega
  · exact h.2.2.2.1
theorem ks24 {W X : World} {k l : Nat} {a b c d e f a' b' c' d' e' f' : Value} {T : TypeId} (hr : W.heap[k]? = some (.cells #[a, b, c, d, e, f] T (0, 0))) (hq : W.heap[l]? = some (.cells #[a', b', c', d', e', f'] T (0, 0))) (h : Below W.heap.size W X) :
    Below W.heap.size W X ∧ (X.cell? ⟨k, 0, none⟩ = some a ∧ X.cell? ⟨k, 1, none⟩ = some b ∧ X.cell? ⟨k, 2, none⟩ = some c ∧ X.cell? ⟨k, 3, none⟩ = some d ∧ X.cell? ⟨k, 4, none⟩ = some e ∧ X.cell? ⟨k, 5, none⟩ = some f) ∧
    X.cell? ⟨l, 0, none⟩ = some a' ∧ X.cell? ⟨l, 1, none⟩ = some b' ∧ X.cell? ⟨l, 2, none⟩ = some c' ∧ X.cell? ⟨l, 3, none⟩ = some d' ∧ X.cell? ⟨l, 4, none⟩ = some e' ∧ X.cell? ⟨l, 5, none⟩ = some f' :=
  ⟨h, (ks12 hr h).2, (ks12 hq h).2⟩
def endV (f : Nat) (neg : Bool) : Int := if f = 2 then (if neg then -1 else 1) else 0
end Go.Proofs.YtjgkmnmemjebbaaDoor

/-
The reference's dyadic values: Sign, Opposite. No condition.
-/
namespace Go.Proofs.YtjgkmnmemjebbaaDoor
open Go.RowKit

/-- The sign of a reference's value. -/
def sgD (neg : Bool) (n : Nat) : Int := if n = 0 then 0 else if neg then -1 else 1
def sI (neg : Bool) (n : Nat) : Int := if neg then -(n : Int) else n
theorem nl0 {n : Nat} : nl n = 0 ↔ n = 0 := ⟨fun h => by rcases Nat.eq_zero_or_pos n with h' | h'; exact h'; have := nl_pos h'; omega, fun h => by rw [h]; rfl⟩
set_option maxRecDepth 100000 in
set_option maxHeartbeats 800000 in
theorem dOpp (neg : Bool) (a : Value) (e : Int) (w : World) (hS : IsS a) :
    Calls Tryd.prog 31 #[.agg #[.bool neg, a, .int .i64 e]] w fun e' w' => e' = .returned (.agg #[.bool (!neg), a, .int .i64 e]) ∧ Below w.heap.size w w' := by
  have hab := (Below.refl w.heap.size w).alloc (Nat.le_refl _) (.cells #[.bool neg, a, .int .i64 e] 36)
  have hac := hab.alloc hab.size (.cells #[.bool false, .slice none 0 0, .int .i64 0] 36)
  obtain ⟨X, hX⟩ : ∃ X, X = (w.alloc (.cells #[.bool neg, a, .int .i64 e] 36)).alloc (.cells #[.bool false, .slice none 0 0, .int .i64 0] 36) := ⟨_, rfl⟩
  have hr1 : X.heap[w.heap.size]? = some (.cells #[.bool neg, a, .int .i64 e] 36 (0, 0)) := by
    rw [hX]; exact keep_row (fbone _) (box_row (Below.refl _ _))
  have hr2 : X.heap[w.heap.size + 1]? = some (.cells #[.bool false, .slice none 0 0, .int .i64 0] 36 (0, 0)) := by
    rw [hX]
    have := box_row (Below.refl _ ((w.alloc (.cells #[.bool neg, a, .int .i64 e] 36)).alloc (.cells #[.bool false, .slice none 0 0, .int .i64 0] 36)))
    simpa using this
  rw [← hX] at hac
  obtain ⟨x0, x1, x2, -, -, -⟩ := row3 hr1
  obtain ⟨y0, y1, y2, z0, z1, z2⟩ := row3 hr2
  have HR2 := Lib.hid hr2
  have HB := Lib.hid hac
  clear hr1 hr2 hab hac
  go_enter Tryd.func31, Tryd.ntmps31
  go_upto_region 1 with fail
  rw [← hX]
  clear hX
  go_wp2
  obtain ⟨hx0, hx1, hx2, -, -, -⟩ := row3 (row3_set (x := .bool (!neg)) (y := a) (z := .int .i64 e) HR2.out)
  have hbY := bset (i := 2) (u := .int .i64 e) (bset (i := 1) (u := a) (bset (i := 0) (u := .bool (!neg)) HB.out (Nat.le_succ _)) (Nat.le_succ _)) (Nat.le_succ _)
  refine bodyPost_ret (v := .agg #[.bool (!neg), a, .int .i64 e]) ?_ rfl ⟨rfl, hbY⟩
  simp [results, Tryd.results31, go_sem, hx0, hx1, hx2]
end Go.Proofs.YtjgkmnmemjebbaaDoor

/-
The order of two Reals: Cmp's answer is the order of the values. Plain law. No condition.
-/
namespace Go.Proofs.YtjgkmnmemjebbaaDoor
open Go.RowKit

theorem mul_two_lt {M1 M2 a b : Nat} (h2 : 0 < M2) (h : bl M1 + a < bl M2 + b) : M1 * 2 ^ a < M2 * 2 ^ b := by
  have hp := bl_pos h2
  have k1 : M1 * 2 ^ a < 2 ^ bl M1 * 2 ^ a := Nat.mul_lt_mul_of_pos_right (lt_bl M1) (Nat.two_pow_pos a)
  have k2 : 2 ^ (bl M2 - 1) * 2 ^ b ≤ M2 * 2 ^ b := Nat.mul_le_mul_right _ (bl_ge h2)
  rw [← Nat.pow_add] at k1 k2
  have k3 : 2 ^ (bl M1 + a) ≤ 2 ^ (bl M2 - 1 + b) := Nat.pow_le_pow_right (by decide) (by omega)
  omega
theorem topV_topN {M n : Nat} (h : 0 < M) : topV (topN M) n = M * 2 ^ (64 * nw M - bl M + 64 * n) := by
  unfold topV
  rw [topN_wv h, show (18446744073709551616 : Nat) = 2 ^ 64 from rfl, ← Nat.pow_mul, Nat.mul_assoc, ← Nat.pow_add]
theorem ucmp_real {M1 M2 a b : Nat} {e1 e2 e : Int} (h1 : 0 < M1) (h2 : 0 < M2) (ha : e1 = e + a) (hb : e2 = e + b) :
    ucmpV ((bl M1 : Nat) + e1) ((bl M2 : Nat) + e2) (topN M1) (topN M2) = cmpN (M1 * 2 ^ a) (M2 * 2 ^ b) := by
  subst ha hb
  rcases Nat.lt_trichotomy (bl M1 + a) (bl M2 + b) with h | h | h
  · rw [cmpN_lt (mul_two_lt h2 h)]; unfold ucmpV; rw [if_pos (by omega)]
  · rw [show ((bl M2 : Nat) : Int) + (e + b) = ((bl M1 : Nat) : Int) + (e + a) by omega, ucmpV_eq, topV_topN h1, topV_topN h2, topN_length, topN_length]
    have n1 := nw_bl h1
    have n2 := nw_bl h2
    rw [← cmpN_mul _ _ (Nat.two_pow_pos a), ← cmpN_mul (M1 * 2 ^ a) _ (Nat.two_pow_pos (64 * nw M1 - bl M1 + 64 * nw M2))]
    congr 1
    · rw [Nat.mul_assoc, Nat.mul_assoc, Nat.mul_comm (2 ^ a)]
    · rw [Nat.mul_assoc, Nat.mul_assoc, ← Nat.pow_add, ← Nat.pow_add]
      congr 2
      omega
  · rw [cmpN_gt (mul_two_lt h1 h)]; unfold ucmpV; rw [if_neg (by omega), if_pos (by omega)]
theorem cmpI_nat (x y : Nat) : cmpI (x : Int) (y : Int) = cmpN x y := by
  unfold cmpI cmpN
  simp only [Int.ofNat_lt]
theorem cmpI_neg (x y : Nat) : cmpI (-(x : Int)) (-(y : Int)) = cmpN y x := by
  unfold cmpI cmpN
  by_cases h : x < y
  · rw [if_neg (by omega), if_pos (by omega), if_neg (by omega), if_pos h]
  · by_cases h' : y < x
    · rw [if_pos (by omega), if_pos h']
    · rw [if_neg (by omega), if_neg (by omega), if_neg (by omega), if_neg (by omega)]
theorem cmpI_lt {x y : Int} (h : x < y) : cmpI x y = -1 := if_pos h
theorem cmpI_gt {x y : Int} (h : y < x) : cmpI x y = 1 := by unfold cmpI; rw [if_neg (by omega), if_pos h]
theorem cmpRV_law {f1 f2 M1 M2 a b : Nat} {n1 n2 : Bool} {e1 e2 e : Int} (hf1 : f1 ≤ 1) (hf2 : f2 ≤ 1) (h1 : f1 = 1 → 0 < M1 ∧ e1 = e + a) (h2 : f2 = 1 → 0 < M2 ∧ e2 = e + b) :
    cmpRV f1 n1 M1 e1 f2 n2 M2 e2 = cmpI (if f1 = 1 then sI n1 (M1 * 2 ^ a) else 0) (if f2 = 1 then sI n2 (M2 * 2 ^ b) else 0) := by
  have c1 : f1 = 0 ∨ f1 = 1 := by omega
  have c2 : f2 = 0 ∨ f2 = 1 := by omega
  have pos : ∀ M c : Nat, 0 < M → (0 : Int) < ((M * 2 ^ c : Nat) : Int) := fun M c h => by
    have := Nat.mul_pos h (Nat.two_pow_pos c)
    exact Int.ofNat_lt.2 this
  unfold cmpRV cmpFV
  rcases c1 with rfl | rfl <;> rcases c2 with rfl | rfl
  · cases n1 <;> cases n2 <;> rfl
  · have p := pos M2 b (h2 rfl).1
    cases n1 <;> cases n2 <;> simp only [ordV, sI, if_true, if_false, Bool.false_eq_true, Nat.zero_ne_one] <;>
      first
        | (rw [cmpI_lt (by omega)]; rfl)
        | (rw [cmpI_gt (by omega)]; rfl)
  · have p := pos M1 a (h1 rfl).1
    cases n1 <;> cases n2 <;> simp only [ordV, sI, if_true, if_false, Bool.false_eq_true, Nat.zero_ne_one] <;>
      first
        | (rw [cmpI_lt (by omega)]; rfl)
        | (rw [cmpI_gt (by omega)]; rfl)
  · have p := pos M1 a (h1 rfl).1
    have q := pos M2 b (h2 rfl).1
    have k := ucmp_real (h1 rfl).1 (h2 rfl).1 (h1 rfl).2 (h2 rfl).2
    have k' := ucmp_real (h2 rfl).1 (h1 rfl).1 (h2 rfl).2 (h1 rfl).2
    cases n1 <;> cases n2 <;> simp only [ordV, sI, if_true, if_false, Bool.false_eq_true]
    · rw [cmpI_nat, ← k]; rfl
    · rw [cmpI_gt (by omega)]; rfl
    · rw [cmpI_lt (by omega)]; rfl
    · rw [cmpI_neg, ← k']; rfl
end Go.Proofs.YtjgkmnmemjebbaaDoor

/-
The reference's OfReal. No condition.
-/
namespace Go.Proofs.YtjgkmnmemjebbaaDoor
open Go.RowKit

theorem natv_dyad {w : World} {k T n : Nat} {a : Bool} {b x y z v : Value} (hb : IsS b) (hv : NatV w v n) (h : w.heap[k]? = some (.cells #[.bool a, b, .int .i64 0] T (0, 0))) :
    NatV (((w.setCell ⟨k, 0, none⟩ x).setCell ⟨k, 1, none⟩ y).setCell ⟨k, 2, none⟩ z) v n := by
  refine ⟨hv.isS, hv.len, fun i hi => ?_⟩
  have hne : sBlk v ≠ k := by
    intro he
    have ht := hv.cell (nl n - 1) (by omega)
    rw [he, cell_of_row w k _ _ _ _ h] at ht
    obtain ⟨b1, b2, b3, rfl⟩ := hb.form
    have hd : dig n (nl n - 1) ≠ 0 := dig_last (Nat.pos_of_ne_zero fun h0 => by rw [h0] at hi; rw [nl_zero] at hi; omega)
    rcases Nat.lt_or_ge (sOff v + (nl n - 1)) 3 with h3 | h3
    · rcases (by omega : sOff v + (nl n - 1) = 0 ∨ sOff v + (nl n - 1) = 1 ∨ sOff v + (nl n - 1) = 2) with e | e | e <;> rw [e] at ht <;> simp at ht
      exact hd (by omega)
    · rw [Array.getElem?_eq_none (by simpa using h3)] at ht; cases ht
  have hh : (((w.setCell ⟨k, 0, none⟩ x).setCell ⟨k, 1, none⟩ y).setCell ⟨k, 2, none⟩ z).heap[sBlk v]? = w.heap[sBlk v]? := by
    rw [heap_setCell_other _ _ _ _ (by simpa using hne), heap_setCell_other _ _ _ _ (by simpa using hne), heap_setCell_other _ _ _ _ (by simpa using hne)]
  exact (World.cell?_of_block hh).trans (hv.cell i hi)
theorem ks6R {X : World} {k t i : Nat} {a b c d e f u : Value} (hk : t ≠ k)
    (h : X.cell? ⟨k, 0, none⟩ = some a ∧ X.cell? ⟨k, 1, none⟩ = some b ∧ X.cell? ⟨k, 2, none⟩ = some c ∧ X.cell? ⟨k, 3, none⟩ = some d ∧ X.cell? ⟨k, 4, none⟩ = some e ∧ X.cell? ⟨k, 5, none⟩ = some f) :
    (X.setCell ⟨t, i, none⟩ u).cell? ⟨k, 0, none⟩ = some a ∧ (X.setCell ⟨t, i, none⟩ u).cell? ⟨k, 1, none⟩ = some b ∧ (X.setCell ⟨t, i, none⟩ u).cell? ⟨k, 2, none⟩ = some c ∧ (X.setCell ⟨t, i, none⟩ u).cell? ⟨k, 3, none⟩ = some d ∧ (X.setCell ⟨t, i, none⟩ u).cell? ⟨k, 4, none⟩ = some e ∧ (X.setCell ⟨t, i, none⟩ u).cell? ⟨k, 5, none⟩ = some f := by
  have hk' : ∀ j, (X.setCell ⟨t, i, none⟩ u).cell? ⟨k, j, none⟩ = X.cell? ⟨k, j, none⟩ := fun j => cell_other (by simpa using hk)
  simp only [hk']; exact h
/-- A dyadic value of the reference. -/
def DyV (w : World) (v : Value) (n : Bool) (x : Nat) (e : Int) : Prop := ∃ a, v = .agg #[.bool n, a, .int .i64 e] ∧ NatV w a x
set_option maxRecDepth 100000 in
set_option maxHeartbeats 800000 in
theorem ofReal_other (p m f : Nat) (e : Int) (neg : Bool) (v : Value) (w : World) (_hS : IsS v) (hf : f ≠ 1) :
    Calls Tryd.prog 20 #[.agg #[.int .u64 p, .int .i64 m, .int .i64 f, .bool neg, v, .int .i64 e]] w fun e' w' => ∃ r, e' = .returned r ∧ DyV w' r false 0 0 ∧ Below w.heap.size w w' := by
  have t1 : ((f : Int) != 1) = true := by rw [bne_iff_ne]; omega
  have hab := (Below.refl w.heap.size w).alloc (Nat.le_refl _) (.cells #[.int .u64 p, .int .i64 m, .int .i64 f, .bool neg, v, .int .i64 e] 26)
  have hac := hab.alloc hab.size (.cells #[.bool false, .slice none 0 0, .int .i64 0] 36)
  obtain ⟨X, hX⟩ : ∃ X, X = (w.alloc (.cells #[.int .u64 p, .int .i64 m, .int .i64 f, .bool neg, v, .int .i64 e] 26)).alloc (.cells #[.bool false, .slice none 0 0, .int .i64 0] 36) := ⟨_, rfl⟩
  have hr1 : X.heap[w.heap.size]? = some (.cells #[.int .u64 p, .int .i64 m, .int .i64 f, .bool neg, v, .int .i64 e] 26 (0, 0)) := by
    rw [hX]; exact keep_row (fbone _) (box_row (Below.refl _ _))
  have hr2 : X.heap[w.heap.size + 1]? = some (.cells #[.bool false, .slice none 0 0, .int .i64 0] 36 (0, 0)) := by
    rw [hX]
    have := box_row (Below.refl _ ((w.alloc (.cells #[.int .u64 p, .int .i64 m, .int .i64 f, .bool neg, v, .int .i64 e] 26)).alloc (.cells #[.bool false, .slice none 0 0, .int .i64 0] 36)))
    simpa using this
  rw [← hX] at hac
  obtain ⟨-, x0, x1, x2, x3, x4, x5⟩ := ks12 hr1 (Below.refl _ _)
  obtain ⟨y0, y1, y2, z0, z1, z2⟩ := row3 hr2
  have HR2 := Lib.hid hr2
  have HB := Lib.hid hac
  clear hr1 hr2 hab hac hf
  go_enter Tryd.func20, Tryd.ntmps20
  go_upto_region 1 with fail
  rw [← hX]
  clear hX
  go_wp2
  obtain ⟨hx0, hx1, hx2, -, -, -⟩ := row3 (row3_set (x := .bool false) (y := .slice none 0 0) (z := .int .i64 0) HR2.out)
  have hbY := bset (i := 2) (u := .int .i64 0) (bset (i := 1) (u := .slice none 0 0) (bset (i := 0) (u := .bool false) HB.out (Nat.le_succ _)) (Nat.le_succ _)) (Nat.le_succ _)
  refine bodyPost_ret (v := .agg #[.bool false, .slice none 0 0, .int .i64 0]) ?_ rfl ⟨_, rfl, ⟨_, rfl, NatV.zero IsS.nil rfl⟩, hbY⟩
  simp [results, Tryd.results20, go_sem, hx0, hx1, hx2]
set_option maxRecDepth 100000 in
set_option maxHeartbeats 1600000 in
theorem ofReal_one (p m : Nat) (e : Int) (neg : Bool) (v : Value) (ws : List Nat) (w : World) (hv : RW w v ws) (hl : ws.length ≤ 1000000) :
    Calls Tryd.prog 20 #[.agg #[.int .u64 p, .int .i64 m, .int .i64 1, .bool neg, v, .int .i64 e]] w fun e' w' => ∃ r, e' = .returned r ∧ DyV w' r neg (wv ws) e ∧ Below w.heap.size w w' := by
  have hS := hv.isS
  have hab := (Below.refl w.heap.size w).alloc (Nat.le_refl _) (.cells #[.int .u64 p, .int .i64 m, .int .i64 1, .bool neg, v, .int .i64 e] 26)
  have hac := hab.alloc hab.size (.cells #[.bool false, .slice none 0 0, .int .i64 0] 36)
  obtain ⟨X, hX⟩ : ∃ X, X = (w.alloc (.cells #[.int .u64 p, .int .i64 m, .int .i64 1, .bool neg, v, .int .i64 e] 26)).alloc (.cells #[.bool false, .slice none 0 0, .int .i64 0] 36) := ⟨_, rfl⟩
  have hr1 : X.heap[w.heap.size]? = some (.cells #[.int .u64 p, .int .i64 m, .int .i64 1, .bool neg, v, .int .i64 e] 26 (0, 0)) := by
    rw [hX]; exact keep_row (fbone _) (box_row (Below.refl _ _))
  have hr2 : X.heap[w.heap.size + 1]? = some (.cells #[.bool false, .slice none 0 0, .int .i64 0] 36 (0, 0)) := by
    rw [hX]
    have := box_row (Below.refl _ ((w.alloc (.cells #[.int .u64 p, .int .i64 m, .int .i64 1, .bool neg, v, .int .i64 e] 26)).alloc (.cells #[.bool false, .slice none 0 0, .int .i64 0] 36)))
    simpa using this
  rw [← hX] at hac
  obtain ⟨-, x0, x1, x2, x3, x4, x5⟩ := ks12 hr1 (Below.refl _ _)
  have HR1 := Lib.hid hr1
  have HR2 := Lib.hid hr2
  have HB := Lib.hid hac
  have HV := Lib.hid (hv.below hac)
  have hcc := Below.refl X.heap.size X
  have hXs := hac.size
  clear hr1 hr2 hab hac hv
  go_enter Tryd.func20, Tryd.ntmps20
  go_upto_region 1 with fail
  rw [← hX]
  clear hX
  go_upto_region 3 with fail
  have hN := Lib.hid (show w.heap.size + 1 ≠ w.heap.size by omega)
  clear x0 x1 x2 x3 x4 x5
  first
    | (go_region_held3 (fun w' => w'.cell? ⟨w.heap.size, 0, none⟩ = some (.int .u64 (p : Int)) ∧ w'.cell? ⟨w.heap.size, 1, none⟩ = some (.int .i64 (m : Int)) ∧ w'.cell? ⟨w.heap.size, 2, none⟩ = some (.int .i64 1) ∧ w'.cell? ⟨w.heap.size, 3, none⟩ = some (.bool neg) ∧ w'.cell? ⟨w.heap.size, 4, none⟩ = some v ∧ w'.cell? ⟨w.heap.size, 5, none⟩ = some (.int .i64 e))
        ((first | (refine (ks12 HR1.out ?_).2; first | assumption | exact Below.drew hcc) | exact ks6R hN.out (ks6R hN.out (ks6R hN.out (ks12 HR1.out (by assumption)).2))))
        (first
          | (go_at_call 27; refine (spOf v ws _ (HV.out.below (Below.drew hcc)) (by omega)).mono ?_; rintro _ w3 ⟨d, rfl, hd, hb3⟩; have hSd := hd.isS; have hb3 : Below X.heap.size X w3 := bthen (Below.drew hcc) hb3; have hvr := keep_row hb3 HR2.out; obtain ⟨hv0, hv1, hv2, hf0, hf1, hf2⟩ := row3 hvr)))
    | fail
  all_goals go_wp2
  all_goals
    obtain ⟨hx0, hx1, hx2, -, -, -⟩ := row3 (row3_set (x := .bool neg) (y := d) (z := .int .i64 e) hvr)
    have hn := natv_dyad (x := .bool neg) (y := d) (z := .int .i64 e) IsS.nil hd hvr
    have hbY := bset (i := 2) (u := .int .i64 e) (bset (i := 1) (u := d) (bset (i := 0) (u := .bool neg) (HB.out.trans (hb3.mono hXs)) (Nat.le_succ _)) (Nat.le_succ _)) (Nat.le_succ _)
    refine bodyPost_ret (v := .agg #[.bool neg, d, .int .i64 e]) ?_ rfl ⟨_, rfl, ⟨_, rfl, hn⟩, hbY⟩
    simp [results, Tryd.results20, go_sem, hx0, hx1, hx2]
end Go.Proofs.YtjgkmnmemjebbaaDoor

/-
The reference's Cut and Round. No condition.
-/
namespace Go.Proofs.YtjgkmnmemjebbaaDoor
open Go.RowKit

/-- A magnitude by 2 to k, rounded. -/
def ctU (m : Nat) (neg : Bool) (x k : Nat) : Bool := awy neg (decide (x / 2 ^ k % 2 = 1)) (lef (x % 2 ^ k) (2 ^ k) 0) m
def ctQ (m : Nat) (neg : Bool) (x k : Nat) : Nat := x / 2 ^ k + if ctU m neg x k then 1 else 0
def ctA (m : Nat) (neg : Bool) (x k : Nat) : Int := if lef (x % 2 ^ k) (2 ^ k) 0 = 0 then 0 else if ctU m neg x k != neg then 1 else -1
theorem ct_rQ (p m : Nat) (neg : Bool) (M : Nat) : ctQ m neg M (rk p M) = rQ p m neg 0 M := rfl
theorem ct_rA (p m : Nat) (neg : Bool) (M : Nat) : ctA m neg M (rk p M) = rA p m neg 0 M := rfl
theorem lef_le (R D s : Nat) : lef R D s ≤ 3 := by unfold lef; repeat' split
                                                   all_goals omega
theorem nl_succ (x : Nat) : nl (x + 1) ≤ nl x + 1 := nl_le (by have := lt_nl x; rw [Nat.pow_succ]; omega)
set_option maxRecDepth 100000 in
set_option maxHeartbeats 1600000 in
theorem spCut_pos (neg : Bool) (a : Value) (x k m : Nat) (w : World) (ha : NatV w a x) (hx : nl x ≤ 10000000) (hk0 : 0 < k) (hk : k ≤ 160000000) (hm : m ≤ 5) :
    Calls Tryd.prog 38 #[.bool neg, a, .int .i64 k, .int .i64 m] w fun e w' => ∃ r, e = .returned (.tuple #[r, .int .i64 (ctA m neg x k)]) ∧ NPost (ctQ m neg x k) w r w' := by
  have hSa := ha.isS
  have Hs := Lib.hid (spSplit a x k w ha (by omega) (by omega))
  have hq : nl (x / 2 ^ k) ≤ 100000000 := Nat.le_trans (nl_mono (Nat.div_le_self x _)) (by omega)
  have t0 : decide ((k : Int) ≤ 0) = false := decide_eq_false (by omega)
  have hl3 := lef_le (x % 2 ^ k) (2 ^ k) 0
  obtain ⟨U, hU⟩ : ∃ U, U = ctU m neg x k := ⟨_, rfl⟩
  obtain ⟨l, hl⟩ : ∃ l, l = lef (x % 2 ^ k) (2 ^ k) 0 := ⟨_, rfl⟩
  obtain ⟨q, hqq⟩ : ∃ q, q = x / 2 ^ k := ⟨_, rfl⟩
  have hU2 : U = awy neg (decide (q / 2 ^ 0 % 2 = 1)) l m := by rw [hU, hl, hqq, Nat.pow_zero, Nat.div_one]; rfl
  have HA : Hid (ctA m neg x k = if l = 0 then 0 else if U != neg then 1 else -1) := Lib.hid (by rw [hU, hl]; rfl)
  have HQ : Hid (ctQ m neg x k = q + if U then 1 else 0) := Lib.hid (by rw [hU, hqq]; rfl)
  rw [← hl, ← hqq] at Hs
  rw [← hl] at hl3
  rw [← hqq] at hq
  have HU := Lib.hid hU2
  have HL := Lib.hid hl
  have HUU := Lib.hid hU
  clear hU hU2 hl hqq ha
  go_enter Tryd.func38, Tryd.ntmps38
  go_wp2_with fail
  refine Hs.out.mono ?_
  rintro _ w1 ⟨r1, rfl, hn1, hb1⟩
  have hS1 := hn1.isS
  have HN := Lib.hid hn1
  have HB := Lib.hid hb1
  clear hn1 hb1
  by_cases hl0 : l = 0
  · have t1 : ((l : Int) == 0) = true := by rw [hl0]; rfl
    have HL0 := Lib.hid hl0
    clear hl0
    go_wp2
    go_ret2
    have hu : U = false := by rw [HU.out, HL0.out]; exact awy_zero _ _ _
    refine ⟨r1, ?_, ?_, HB.out⟩
    · rw [HA.out, if_pos HL0.out]; rfl
    · rw [HQ.out, hu]; exact HN.out
  · have t1 : ((l : Int) == 0) = false := by rw [beq_eq_false_iff_ne]; omega
    have HL0 := Lib.hid hl0
    clear hl0
    have hq2 : nl q ≤ 1000000000 := by omega
    have hH := spHas r1 q 0 w1 HN.out hq2 (by omega)
    rw [show ((0 : Nat) : Int) = 0 from rfl] at hH
    have HH := Lib.hid hH
    clear hH
    go_wp2_with fail
    refine HH.out.mono ?_
    rintro _ _ ⟨rfl, rfl⟩
    obtain ⟨od, hod⟩ : ∃ o, o = decide (q / 2 ^ 0 % 2 = 1) := ⟨_, rfl⟩
    have hU3 := HU.out
    rw [← hod] at hU3 ⊢
    have HU3 := Lib.hid hU3
    clear hod hU3
    go_wp2_with fail
    refine (spAway neg od l m w1 hl3 hm).mono ?_
    rintro _ _ ⟨rfl, rfl⟩
    rw [← HU3.out]
    cases U with
    | false =>
      cases neg with
      | false =>
        go_wp2
        go_ret2
        refine ⟨r1, ?_, ?_, HB.out⟩
        · rw [HA.out, if_neg HL0.out]; rfl
        · rw [HQ.out]; exact HN.out
      | true =>
        go_wp2
        go_ret2
        refine ⟨r1, ?_, ?_, HB.out⟩
        · rw [HA.out, if_neg HL0.out]; rfl
        · rw [HQ.out]; exact HN.out
    | true =>
      have hSm := spSmall 1 w1 (by decide)
      rw [show ((1 : Nat) : Int) = 1 from rfl] at hSm
      have HSm := Lib.hid hSm
      clear hSm
      go_wp2_with fail
      refine HSm.out.mono ?_
      rintro _ w2 ⟨r2, rfl, hn2, hb2⟩
      have hS2 := hn2.isS
      have HN2 := Lib.hid hn2
      have HN12 := Lib.hid (HN.out.below hb2)
      have HB2 := Lib.hid (bthen HB.out hb2)
      clear hn2 hb2
      go_wp2_with fail
      refine (spAdd r1 r2 q 1 w2 HN12.out HN2.out hq2 (by decide)).mono ?_
      rintro _ w3 ⟨r3, rfl, hn3, hb3⟩
      have hS3 := hn3.isS
      have HN3 := Lib.hid hn3
      have HB3 := Lib.hid (bthen HB2.out hb3)
      clear hn3 hb3
      cases neg with
      | false =>
        go_wp2
        go_ret2
        refine ⟨r3, ?_, ?_, HB3.out⟩
        · rw [HA.out, if_neg HL0.out]; rfl
        · rw [HQ.out]; exact HN3.out
      | true =>
        go_wp2
        go_ret2
        refine ⟨r3, ?_, ?_, HB3.out⟩
        · rw [HA.out, if_neg HL0.out]; rfl
        · rw [HQ.out]; exact HN3.out
set_option maxRecDepth 100000 in
theorem spCut_neg (neg : Bool) (a : Value) (x k : Nat) (n m : Int) (w : World) (ha : NatV w a x) (hx : nl x ≤ 10000000) (hn : n = -(k : Int)) (hk : k ≤ 160000000) :
    Calls Tryd.prog 38 #[.bool neg, a, .int .i64 n, .int .i64 m] w fun e w' => ∃ r, e = .returned (.tuple #[r, .int .i64 0]) ∧ NPost (x * 2 ^ k) w r w' := by
  have hSa := ha.isS
  have t0 : decide (n ≤ 0) = true := decide_eq_true (by omega)
  have e1 : -n = (k : Int) := by omega
  have g1 : -160000000 ≤ n := by omega
  have g2 : n ≤ 0 := by omega
  have HS := Lib.hid (spShl a x k w ha (by omega) (by omega))
  clear hn ha
  go_enter Tryd.func38, Tryd.ntmps38
  go_wp2_with fail
  refine HS.out.mono ?_
  rintro _ w1 ⟨r1, rfl, hn1, hb1⟩
  have hS1 := hn1.isS
  have HN := Lib.hid hn1
  have HB := Lib.hid hb1
  clear hn1 hb1
  go_wp2
  go_ret2
  exact ⟨r1, rfl, HN.out, HB.out⟩
end Go.Proofs.YtjgkmnmemjebbaaDoor

/-
The reference's Round. No condition.
-/
namespace Go.Proofs.YtjgkmnmemjebbaaDoor
open Go.RowKit

theorem ctQ_zero (m : Nat) (neg : Bool) (x : Nat) : ctQ m neg x 0 = x ∧ ctA m neg x 0 = 0 := by
  have h : lef (x % 2 ^ 0) (2 ^ 0) 0 = 0 := by rw [Nat.pow_zero, Nat.mod_one]; exact lef_exact _
  refine ⟨?_, by unfold ctA; rw [if_pos h]⟩
  unfold ctQ ctU; rw [h, awy_zero]; simp
theorem spCut_any (neg : Bool) (a : Value) (x k m : Nat) (w : World) (ha : NatV w a x) (hx : nl x ≤ 10000000) (hk : k ≤ 160000000) (hm : m ≤ 5) :
    Calls Tryd.prog 38 #[.bool neg, a, .int .i64 k, .int .i64 m] w fun e w' => ∃ r, e = .returned (.tuple #[r, .int .i64 (ctA m neg x k)]) ∧ NPost (ctQ m neg x k) w r w' := by
  rcases Nat.eq_zero_or_pos k with rfl | h
  · rw [(ctQ_zero m neg x).1, (ctQ_zero m neg x).2]
    have := spCut_neg neg a x 0 ((0 : Nat) : Int) (m : Int) w ha hx rfl (by decide)
    rw [Nat.pow_zero, Nat.mul_one] at this
    exact this
  · exact spCut_pos neg a x k m w ha hx h hk hm
set_option maxRecDepth 100000 in
set_option maxHeartbeats 1600000 in
theorem spRound (neg : Bool) (a : Value) (e : Int) (x p m : Nat) (w : World) (ha : NatV w a x) (hx : bl x ≤ 10000000) (hp : p ≤ 100000000) (hm : m ≤ 5) (he1 : -4000000000 ≤ e) (he2 : e ≤ 4000000000) :
    Calls Tryd.prog 30 #[.agg #[.bool neg, a, .int .i64 e], .int .i64 p, .int .i64 m] w fun e' w' => ∃ r, e' = .returned (.tuple #[.agg #[.bool neg, r, .int .i64 (e + (rk p x : Nat))], .int .i64 (rA p m neg 0 x)]) ∧ NPost (rQ p m neg 0 x) w r w' := by
  have hSa := ha.isS
  have hnl : nl x ≤ 10000000 := nl_bl (by omega)
  have hab := (Below.refl w.heap.size w).alloc (Nat.le_refl _) (.cells #[.bool neg, a, .int .i64 e] 36)
  have hac := hab.alloc hab.size (.cells #[.bool false, .slice none 0 0, .int .i64 0] 36)
  obtain ⟨X, hX⟩ : ∃ X, X = (w.alloc (.cells #[.bool neg, a, .int .i64 e] 36)).alloc (.cells #[.bool false, .slice none 0 0, .int .i64 0] 36) := ⟨_, rfl⟩
  have hr1 : X.heap[w.heap.size]? = some (.cells #[.bool neg, a, .int .i64 e] 36 (0, 0)) := by
    rw [hX]; exact keep_row (fbone _) (box_row (Below.refl _ _))
  have hr2 : X.heap[w.heap.size + 1]? = some (.cells #[.bool false, .slice none 0 0, .int .i64 0] 36 (0, 0)) := by
    rw [hX]
    have := box_row (Below.refl _ ((w.alloc (.cells #[.bool neg, a, .int .i64 e] 36)).alloc (.cells #[.bool false, .slice none 0 0, .int .i64 0] 36)))
    simpa using this
  rw [← hX] at hac
  obtain ⟨x0, x1, x2, -, -, -⟩ := row3 hr1
  have HR1 := Lib.hid hr1
  have HR2 := Lib.hid hr2
  have HN := Lib.hid (ha.below hac)
  have HB := Lib.hid hac
  have hXs := hac.size
  obtain ⟨l, hl⟩ : ∃ l, l = bl x := ⟨_, rfl⟩
  obtain ⟨k, hk⟩ : ∃ k, k = rk p x := ⟨_, rfl⟩
  have emax : max (0 : Int) ((l : Int) - (p : Int)) = (k : Int) := by rw [hk, hl]; unfold rk; omega
  have hkl : k ≤ 10000000 := by rw [hk]; unfold rk; omega
  have hll : l ≤ 10000000 := by omega
  have HL := Lib.hid hl
  have HK := Lib.hid hk
  have hx9 : nl x ≤ 1000000000 := by omega
  rw [← hk]
  clear hr1 hr2 hab hac ha hl hk hx
  go_enter Tryd.func30, Tryd.ntmps30
  go_upto_region 1 with fail
  rw [← hX]
  clear hX
  go_wp2_with fail
  refine (spLen a x X HN.out hx9).mono ?_
  rintro _ _ ⟨rfl, rfl⟩
  rw [← HL.out]
  go_wp2_with fail
  refine (spCut_any neg a x k m X HN.out hnl (by omega) hm).mono ?_
  rintro _ w1 ⟨r1, rfl, hn1, hb1⟩
  have hS1 := hn1.isS
  have hr1 := keep_row hb1 HR1.out
  have hr2 := keep_row hb1 HR2.out
  have HN1 := Lib.hid hn1
  have HB1 := Lib.hid (HB.out.trans (hb1.mono hXs))
  have HQ2 := Lib.hid hr2
  obtain ⟨y0, y1, y2, -, -, -⟩ := row3 hr1
  obtain ⟨z0, z1, z2, g0, g1, g2⟩ := row3 hr2
  clear x0 x1 x2 hn1 hb1 hr1 hr2 HR1 HR2 HB
  obtain ⟨A, hA⟩ : ∃ A, A = ctA m neg x k := ⟨_, rfl⟩
  rw [← hA]
  have HA := Lib.hid hA
  clear hA
  obtain ⟨E, hE⟩ : ∃ E, E = e + (k : Int) := ⟨_, rfl⟩
  have HE := Lib.hid hE
  have hE2 : e + (k : Int) = E := hE.symm
  have hEb : -4000000000 ≤ E ∧ E ≤ 4010000000 := by omega
  clear hE
  go_wp2
  obtain ⟨hx0, hx1, hx2, -, -, -⟩ := row3 (row3_set (x := .bool neg) (y := r1) (z := .int .i64 E) HQ2.out)
  have hn := natv_dyad (x := .bool neg) (y := r1) (z := .int .i64 E) IsS.nil HN1.out HQ2.out
  have hbY := bset (i := 2) (u := .int .i64 E) (bset (i := 1) (u := r1) (bset (i := 0) (u := .bool neg) HB1.out (Nat.le_succ _)) (Nat.le_succ _)) (Nat.le_succ _)
  refine bodyPost_ret (v := .tuple #[.agg #[.bool neg, r1, .int .i64 E], .int .i64 A]) ?_ rfl ⟨r1, ?_, ?_⟩
  · simp [results, Tryd.results30, go_sem, hx0, hx1, hx2]
  · rw [HA.out, HE.out, HK.out]; rfl
  · rw [HK.out] at hn
    exact ⟨hn, hbY⟩
end Go.Proofs.YtjgkmnmemjebbaaDoor

/-
The reference's IsReal, where it is true; the statements' rounds. No condition.
-/
namespace Go.Proofs.YtjgkmnmemjebbaaDoor
open Go.RowKit

/-- What is told of a value with a precision and a mode. -/
def Told (w : World) (z : Value) (p m : Nat) (n : Bool) (x : Nat) (e : Int) : Prop :=
  ∃ (f : Nat) (ng : Bool) (v : Value) (E : Int) (zs : List Nat), z = .agg #[.int .u64 p, .int .i64 m, .int .i64 f, .bool ng, v, .int .i64 E] ∧ RW w v zs ∧
    (x = 0 → f = 0 ∧ zs = [] ∧ E = 0) ∧ (x ≠ 0 → f = 1 ∧ ng = n ∧ zs = wds (od x) ∧ E = e + (tz x : Nat))
theorem ks18 {W X : World} {k l : Nat} {a b c d e f a' b' c' : Value} {T T' : TypeId} (hr : W.heap[k]? = some (.cells #[a, b, c, d, e, f] T (0, 0))) (hq : W.heap[l]? = some (.cells #[a', b', c'] T' (0, 0))) (h : Below W.heap.size W X) :
    (X.cell? ⟨k, 0, none⟩ = some a ∧ X.cell? ⟨k, 1, none⟩ = some b ∧ X.cell? ⟨k, 2, none⟩ = some c ∧ X.cell? ⟨k, 3, none⟩ = some d ∧ X.cell? ⟨k, 4, none⟩ = some e ∧ X.cell? ⟨k, 5, none⟩ = some f) ∧
    X.cell? ⟨l, 0, none⟩ = some a' ∧ X.cell? ⟨l, 1, none⟩ = some b' ∧ X.cell? ⟨l, 2, none⟩ = some c' :=
  ⟨(ks12 hr h).2, (row_at (keep_row h hq) rfl).1, (row_at (keep_row h hq) rfl).1, (row_at (keep_row h hq) rfl).1⟩
set_option maxRecDepth 100000 in
set_option maxHeartbeats 1600000 in
theorem spIsReal (z : Value) (p m : Nat) (n : Bool) (a : Value) (x : Nat) (e : Int) (w : World) (hz : Told w z p m n x e) (ha : NatV w a x) (hx : bl x ≤ 10000000) (he1 : -4100000000 ≤ e) (he2 : e ≤ 4100000000) :
    Calls Tryd.prog 25 #[z, .int .u64 p, .int .i64 m, .agg #[.bool n, a, .int .i64 e]] w fun e' w' => e' = .returned (.bool true) ∧ Below w.heap.size w w' := by
  obtain ⟨f, ng, v, E, zs, rfl, hv, h0, h1⟩ := hz
  have hSv := hv.isS
  have hSa := ha.isS
  have hLv := hv.len
  have hLa := ha.len
  have hnl : nl x ≤ 10000000 := nl_bl (by omega)
  have hab := (Below.refl w.heap.size w).alloc (Nat.le_refl _) (.cells #[.int .u64 p, .int .i64 m, .int .i64 f, .bool ng, v, .int .i64 E] 26)
  have hac := hab.alloc hab.size (.cells #[.bool n, a, .int .i64 e] 36)
  obtain ⟨X, hX⟩ : ∃ X, X = (w.alloc (.cells #[.int .u64 p, .int .i64 m, .int .i64 f, .bool ng, v, .int .i64 E] 26)).alloc (.cells #[.bool n, a, .int .i64 e] 36) := ⟨_, rfl⟩
  have hr1 : X.heap[w.heap.size]? = some (.cells #[.int .u64 p, .int .i64 m, .int .i64 f, .bool ng, v, .int .i64 E] 26 (0, 0)) := by
    rw [hX]; exact keep_row (fbone _) (box_row (Below.refl _ _))
  have hr2 : X.heap[w.heap.size + 1]? = some (.cells #[.bool n, a, .int .i64 e] 36 (0, 0)) := by
    rw [hX]
    have := box_row (Below.refl _ ((w.alloc (.cells #[.int .u64 p, .int .i64 m, .int .i64 f, .bool ng, v, .int .i64 E] 26)).alloc (.cells #[.bool n, a, .int .i64 e] 36)))
    simpa using this
  rw [← hX] at hac
  obtain ⟨⟨x0, x1, x2, x3, x4, x5⟩, y0, y1, y2⟩ := ks18 hr1 hr2 (Below.refl _ _)
  have HR1 := Lib.hid hr1
  have HR2 := Lib.hid hr2
  have HV := Lib.hid (hv.below hac)
  have HA := Lib.hid (ha.below hac)
  have HB := Lib.hid hac
  have hXs := hac.size
  clear hr1 hr2 hab hac hv ha
  by_cases hx0 : x = 0
  · obtain ⟨hf, hzs, hE⟩ := h0 hx0
    have hl0 : nl x = 0 := by rw [hx0]; rfl
    rw [hl0] at hLa
    have q1 : ((f : Int) == 0) = true := by rw [hf]; rfl
    have q2 : (E == 0) = true := by rw [hE]; rfl
    rw [hzs] at hLv
    have hLv' : sLen v = 0 := hLv
    clear h0 h1 hx0 hl0 hx hnl hf hzs hE hLv
    go_enter Tryd.func25, Tryd.ntmps25
    go_upto_region 1 with fail
    rw [← hX]
    clear hX
    go_wp2
    go_ret
    exact ⟨rfl, HB.out⟩
  · obtain ⟨hf, rfl, hzs, hE⟩ := h1 hx0
    have q1 : ((f : Int) == 1) = true := by rw [hf]; rfl
    have hxp : 0 < x := by omega
    have hnp := nl_pos hxp
    have t0 : ((nl x : Int) == 0) = false := by rw [beq_eq_false_iff_ne]; omega
    have htl := tz_le hxp
    obtain ⟨t, ht⟩ : ∃ t, t = tz x := ⟨_, rfl⟩
    obtain ⟨L, hL⟩ : ∃ L, L = nl x := ⟨_, rfl⟩
    have HT := Lib.hid ht
    rw [← ht] at hE htl
    have htb : t ≤ 10000000 := by omega
    have hE2 : e + (t : Int) = E := hE.symm
    have HZ := Lib.hid hzs
    rw [← hL] at hLa hnl hnp t0
    have HLN := Lib.hid hL
    have hod : nl (od x) ≤ 100000000 := by
      have : od x ≤ x := by rw [od]; exact Nat.div_le_self _ _
      have := nl_mono this; omega
    have HOW : Hid (nw (od x) ≤ 100000000) := Lib.hid (by rw [nw_bl (od_pos hxp)]; have := bl_od hxp; omega)
    clear h0 h1 hx0 hE ht hL hzs hf
    go_enter Tryd.func25, Tryd.ntmps25
    go_upto_region 1 with fail
    rw [← hX]
    clear hX
    go_wp2_with fail
    refine (spOdd a x X HA.out (by rw [← HLN.out]; omega) hxp).mono ?_
    rintro _ w1 ⟨r1, rfl, hn1, hb1⟩
    rw [← HT.out]
    have hS1 := hn1.isS
    have HN1 := Lib.hid hn1
    have HB1 := Lib.hid (HB.out.trans (hb1.mono hXs))
    have HV1 := Lib.hid (HV.out.below hb1)
    clear x0 x1 x2 x3 x4 x5 y0 y1 y2
    obtain ⟨⟨x0, x1, x2, x3, x4, x5⟩, y0, y1, y2⟩ := ks18 HR1.out HR2.out hb1
    have hKeep := Lib.hid hb1
    clear hn1 hb1
    go_wp2_with fail
    refine (spHasWords v r1 zs (od x) w1 HV1.out HN1.out (by rw [HZ.out, wds_length]; have := HOW.out; omega) (by omega)).mono ?_
    rintro _ w2 ⟨rfl, hb2⟩
    rw [show decide (zs = wds (od x)) = true from decide_eq_true HZ.out]
    have HB2 := Lib.hid (HB1.out.trans (hb2.mono (Nat.le_trans hXs hKeep.out.size)))
    clear x0 x1 x2 x3 x4 x5 y0 y1 y2
    obtain ⟨⟨x0, x1, x2, x3, x4, x5⟩, y0, y1, y2⟩ := ks18 HR1.out HR2.out (bthen hKeep.out hb2)
    clear hb2
    go_wp2
    go_ret
    exact ⟨rfl, HB2.out⟩
end Go.Proofs.YtjgkmnmemjebbaaDoor

/-
The statements' rounds, where it is true. No condition.
-/
namespace Go.Proofs.YtjgkmnmemjebbaaDoor
open Go.RowKit

theorem Told.below {w w' : World} {z : Value} {p m x : Nat} {n : Bool} {e : Int} (h : Told w z p m n x e) (hb : Below w.heap.size w w') : Told w' z p m n x e := by
  obtain ⟨f, ng, v, E, zs, h1, h2, h3, h4⟩ := h
  exact ⟨f, ng, v, E, zs, h1, h2.below hb, h3, h4⟩
theorem Told.form {w : World} {z : Value} {p m x : Nat} {n : Bool} {e : Int} (h : Told w z p m n x e) : ∃ (f : Nat) (ng : Bool) (v : Value) (E : Int), z = .agg #[.int .u64 p, .int .i64 m, .int .i64 f, .bool ng, v, .int .i64 E] ∧ IsS v := by
  obtain ⟨f, ng, v, E, zs, h1, h2, -, -⟩ := h
  exact ⟨f, ng, v, E, h1, h2.isS⟩
theorem rk_le (p x : Nat) : rk p x ≤ bl x := by unfold rk; omega
theorem bl_rQ (p m : Nat) (neg : Bool) (s x : Nat) : bl (rQ p m neg s x) ≤ bl x + 1 := by
  refine bl_le ?_
  have h1 := lt_bl x
  have h2 : rQ p m neg s x ≤ x + 1 := by unfold rQ; have := Nat.div_le_self x (2 ^ rk p x); split <;> omega
  rw [Nat.pow_succ]
  have := Nat.two_pow_pos (bl x)
  omega
set_option maxRecDepth 100000 in
set_option maxHeartbeats 1600000 in
theorem rounds_any (z : Value) (acc : Int) (n : Bool) (a : Value) (x : Nat) (e : Int) (p m : Nat) (w : World) (hz : Told w z p m n (rQ p m n 0 x) (e + (rk p x : Nat))) (hacc : acc = rA p m n 0 x) (ha : NatV w a x)
    (hx : bl x ≤ 9000000) (hp : p ≤ 10000000) (hm : m ≤ 5) (he1 : -4000000000 ≤ e) (he2 : e ≤ 4000000000) :
    Calls Tryd.prog 19 #[z, .int .i64 acc, .agg #[.bool n, a, .int .i64 e], .int .u64 p, .int .i64 m] w fun e' w' => e' = .returned (.bool true) ∧ Below w.heap.size w w' := by
  obtain ⟨f, ng, v, E, rfl, hSv⟩ := hz.form
  have hSa := ha.isS
  have hab := (Below.refl w.heap.size w).alloc (Nat.le_refl _) (.cells #[.int .u64 p, .int .i64 m, .int .i64 f, .bool ng, v, .int .i64 E] 26)
  have hac := hab.alloc hab.size (.cells #[.bool n, a, .int .i64 e] 36)
  obtain ⟨X, hX⟩ : ∃ X, X = (w.alloc (.cells #[.int .u64 p, .int .i64 m, .int .i64 f, .bool ng, v, .int .i64 E] 26)).alloc (.cells #[.bool n, a, .int .i64 e] 36) := ⟨_, rfl⟩
  have hr1 : X.heap[w.heap.size]? = some (.cells #[.int .u64 p, .int .i64 m, .int .i64 f, .bool ng, v, .int .i64 E] 26 (0, 0)) := by
    rw [hX]; exact keep_row (fbone _) (box_row (Below.refl _ _))
  have hr2 : X.heap[w.heap.size + 1]? = some (.cells #[.bool n, a, .int .i64 e] 36 (0, 0)) := by
    rw [hX]
    have := box_row (Below.refl _ ((w.alloc (.cells #[.int .u64 p, .int .i64 m, .int .i64 f, .bool ng, v, .int .i64 E] 26)).alloc (.cells #[.bool n, a, .int .i64 e] 36)))
    simpa using this
  rw [← hX] at hac
  obtain ⟨⟨x0, x1, x2, x3, x4, x5⟩, y0, y1, y2⟩ := ks18 hr1 hr2 (Below.refl _ _)
  have HR1 := Lib.hid hr1
  have HZ := Lib.hid (hz.below hac)
  have HA := Lib.hid (ha.below hac)
  have HB := Lib.hid hac
  have hXs := hac.size
  have HACC := Lib.hid hacc
  have hk := rk_le p x
  have hbq := bl_rQ p m n 0 x
  have HBX := Lib.hid hx
  obtain ⟨k, hkk⟩ : ∃ k, k = rk p x := ⟨_, rfl⟩
  rw [← hkk] at hk HZ
  have hkl : k ≤ 9000000 := by omega
  have hqb : bl (rQ p m n 0 x) ≤ 10000000 := by omega
  have HK := Lib.hid hkk
  clear hr1 hr2 hab hac hz ha hacc hk hbq hkk hx
  go_enter Tryd.func19, Tryd.ntmps19
  go_upto_region 1 with fail
  rw [← hX]
  clear hX
  go_wp2_with fail
  refine (spRound n a e x p m X HA.out (by have := HBX.out; omega) (by omega) hm he1 he2).mono ?_
  rintro _ w1 ⟨r, rfl, hn1, hb1⟩
  rw [← HK.out]
  have hS1 := hn1.isS
  have HN1 := Lib.hid hn1
  have HX1 := Lib.hid hb1
  have HB1 := Lib.hid (HB.out.trans (hb1.mono hXs))
  have hXs1 := hb1.size
  clear x0 x1 x2 x3 x4 x5 y0 y1 y2 hn1 hb1
  obtain ⟨A, hA⟩ : ∃ A, A = rA p m n 0 x := ⟨_, rfl⟩
  rw [← hA]
  have q1 : (acc == A) = true := by rw [HACC.out, hA]; exact beq_self_eq_true _
  obtain ⟨F, hF⟩ : ∃ F, F = e + (k : Int) := ⟨_, rfl⟩
  have HF := Lib.hid hF
  rw [← hF]
  have hFb : -4000000000 ≤ F ∧ F ≤ 4009000000 := by omega
  clear hA hF
  obtain ⟨w2, hw2⟩ : ∃ w2, w2 = w1.alloc (.cells #[.bool n, r, .int .i64 F] 36) := ⟨_, rfl⟩
  have hrow2 : w2.heap[w1.heap.size]? = some (.cells #[.bool n, r, .int .i64 F] 36 (0, 0)) := by rw [hw2]; exact box_row (Below.refl _ _)
  have hB2 : Below w1.heap.size w1 w2 := by
    rw [hw2]
    exact (Below.refl w1.heap.size w1).alloc (Nat.le_refl _) _
  have hN2 : NatV w2 r (rQ p m n 0 x) := HN1.out.below hB2
  have HZ2 := Lib.hid ((HZ.out.below HX1.out).below hB2)
  obtain ⟨v0, v1, v2, -, -, -⟩ := row3 hrow2
  obtain ⟨-, x0, x1, x2, x3, x4, x5⟩ := ks12 HR1.out (bthen HX1.out hB2)
  have HN2 := Lib.hid hN2
  have HBB := Lib.hid (HB1.out.trans (hB2.mono (Nat.le_trans hXs hXs1)))
  clear hrow2 hB2 hN2
  go_upto_region 2 with fail
  rw [← hw2]
  clear hw2
  go_wp2_with fail
  refine (spIsReal (.agg #[.int .u64 p, .int .i64 m, .int .i64 f, .bool ng, v, .int .i64 E]) p m n r (rQ p m n 0 x) F w2 (by rw [HF.out]; exact HZ2.out) HN2.out hqb (by omega) (by omega)).mono ?_
  rintro _ w3 ⟨rfl, hb3⟩
  have HB3 := Lib.hid (HBB.out.trans (hb3.mono HBB.out.size))
  clear hb3
  go_wp2
  go_ret
  exact ⟨rfl, HB3.out⟩
end Go.Proofs.YtjgkmnmemjebbaaDoor

/-
The thin package's both and MinPrec. No condition.
-/
namespace Go.Proofs.YtjgkmnmemjebbaaDoor
open Go.RowKit

theorem RealV.below {w w' : World} {z : Value} {p m f M : Nat} {neg : Bool} {X : Int} (h : RealV w z p m f neg M X) (hb : Below w.heap.size w w') : RealV w' z p m f neg M X := by
  obtain ⟨v, E, zs, B, h1, h2, hd, h3, h4⟩ := h
  exact ⟨v, E, zs, B, h1, h2.below hb, hd, h3, h4⟩
theorem RealV.told {w : World} {z : Value} {p m M x : Nat} {neg : Bool} {X e : Int} (h : RealV w z p m 1 neg M X) (hM : 0 < M) (hq : deq M X x e) : Told w z p m neg x e := by
  obtain ⟨v, E, zs, B, h1, h2', hd, -, h4⟩ := h
  have h2 := h2'.rw' hd
  obtain ⟨h5, h6⟩ := h4 rfl
  have hx := hq.pos hM
  obtain ⟨k1, k2⟩ := hq.od hM
  exact ⟨1, neg, v, E, zs, h1, h2, fun h => by omega, fun _ => ⟨rfl, rfl, by rw [h5, k1], by rw [h6, k2]⟩⟩
theorem RealV.told0 {w : World} {z : Value} {p m M : Nat} {neg n : Bool} {X e : Int} (h : RealV w z p m 0 neg M X) : Told w z p m n 0 e := by
  obtain ⟨v, E, zs, B, h1, h2', hd, h3, -⟩ := h
  have h2 := h2'.rw' hd
  obtain ⟨h5, h6⟩ := h3 (by decide)
  exact ⟨0, neg, v, E, zs, h1, h2, fun _ => ⟨rfl, h5, h6⟩, fun h => absurd rfl h⟩
theorem FVal.form {w : World} {B b p m f M : Nat} {a : Int} {neg : Bool} {X : Int} (h : FVal w B b p m a f neg M X) : ∃ v e, FltR w b p m a f neg v e := by
  obtain ⟨v, e, h, -⟩ := h; exact ⟨v, e, h⟩
/-- real of a Float's value. -/
theorem implReal (B b p m f : Nat) (a : Int) (neg : Bool) (M : Nat) (X : Int) (w : World) (h : FVal w B b p m a f neg M X) (hf : f ≤ 2) (hp : p ≤ 64000000) (hm : m ≤ 255) (hp0 : f = 1 → 0 < p) (hX : f = 1 → -900000000 ≤ X ∧ X + bl M ≤ 900000000) (hT : TabW w) :
    Calls Tryd.prog 48 #[.pointer (some ⟨b, 0, none⟩)] w fun e' w' => ∃ z, e' = .returned z ∧ RealV w' z p m f neg M X ∧ Below w.heap.size w w' := by
  obtain ⟨v, e, h1, h2⟩ := h
  by_cases h3 : f = 1
  · subst h3
    obtain ⟨hM, ws, ho, hg, hq⟩ := h2 rfl
    have h0 := hq.symm.pos hM
    have hb := hq.bl h0
    rw [hg.bl] at hb
    have := hX rfl
    exact real_one b p m a e neg v ws w h1 ho hg (hp0 rfl) hp hm M X hM hq (by omega) (by omega) hT
  · exact real_other b p m f a e neg v w h1 (by omega) hp hm M X
set_option maxRecDepth 100000 in
set_option maxHeartbeats 1600000 in
theorem implBoth (B b p m f : Nat) (a : Int) (neg : Bool) (M : Nat) (X : Int) (w : World) (h : FVal w B b p m a f neg M X) (hf : f ≤ 2) (hp : p ≤ 64000000) (hm : m ≤ 255) (hp0 : f = 1 → 0 < p) (hX : f = 1 → -900000000 ≤ X ∧ X + bl M ≤ 900000000) (hT : TabW w) (ha : -1 ≤ a ∧ a ≤ 1) :
    Calls Tryd.prog 40 #[.pointer (some ⟨b, 0, none⟩)] w fun e' w' => ∃ z, e' = .returned (.tuple #[z, .int .i64 a]) ∧ RealV w' z p m f neg M X ∧ Below w.heap.size w w' := by
  have hab := (Below.refl w.heap.size w).alloc (Nat.le_refl _) (.cells #[.int .u64 0, .int .i64 0, .int .i64 0, .bool false, .slice none 0 0, .int .i64 0] 26)
  obtain ⟨Y, hY⟩ : ∃ Y, Y = w.alloc (.cells #[.int .u64 0, .int .i64 0, .int .i64 0, .bool false, .slice none 0 0, .int .i64 0] 26) := ⟨_, rfl⟩
  have hr1 : Y.heap[w.heap.size]? = some (.cells #[.int .u64 0, .int .i64 0, .int .i64 0, .bool false, .slice none 0 0, .int .i64 0] 26 (0, 0)) := by rw [hY]; exact box_row (Below.refl _ _)
  rw [← hY] at hab
  have HF := Lib.hid (h.below hab)
  have HR := Lib.hid (implReal B b p m f a neg M X Y (h.below hab) hf hp hm hp0 hX (hT.below hab))
  have HR1 := Lib.hid hr1
  have HAB := Lib.hid hab
  clear h hr1 hT hX hab hp0
  go_enter Tryd.func40, Tryd.ntmps40
  go_upto_region 1 with fail
  rw [← hY]
  clear hY
  go_wp2_with fail
  refine HR.out.mono ?_
  rintro _ w1 ⟨z, rfl, hz, hb1⟩
  obtain ⟨v, e, hv⟩ := (HF.out.below hb1).form
  have HV := Lib.hid hv
  have q1 := keep_row hb1 HR1.out
  have B1 := Lib.hid (HAB.out.trans (hb1.mono HAB.out.size))
  obtain ⟨v', E, zs, Bz, rfl, h2, hd, h3, h4⟩ := hz
  have hSv := h2.isS
  have H2 := Lib.hid h2
  have H34 := Lib.hid (And.intro hd (And.intro h3 h4))
  have HQ1 := Lib.hid q1
  obtain ⟨⟨x0, x1, x2, x3, x4, x5⟩, g0, g1, g2, g3, g4, g5⟩ := row6 q1
  clear hv hb1 q1 h2 h3 h4 hd
  go_wp2_with fail
  refine (fAcc HV.out).mono ?_
  rintro _ _ ⟨rfl, rfl⟩
  go_wp2_with fail
  have HS := row6_set (x := .int .u64 (p : Int)) (y := .int .i64 (m : Int)) (z := .int .i64 (f : Int)) (x' := .bool neg) (y' := v') (z' := .int .i64 E) HQ1.out
  have HB := bset6 (x := .int .u64 (p : Int)) (y := .int .i64 (m : Int)) (z := .int .i64 (f : Int)) (x' := .bool neg) (y' := v') (z' := .int .i64 E) B1.out (Nat.le_refl _)
  obtain ⟨⟨a0, a1, a2, a3, a4, a5⟩, -⟩ := row6 HS
  refine bodyPost_ret (v := .tuple #[.agg #[.int .u64 p, .int .i64 m, .int .i64 f, .bool neg, v', .int .i64 E], .int .i64 a]) ?_ rfl ⟨_, rfl, ⟨_, _, _, Bz, rfl, ?_, H34.out.1, H34.out.2⟩, HB⟩
  · simp [results, Tryd.results40, go_sem, a0, a1, a2, a3, a4, a5]
  · exact H2.out.same fun hc => by
      have hne : sBlk v' ≠ w.heap.size := H2.out.ne_row HQ1.out (by decide) hc
      exact heap6_other hne
end Go.Proofs.YtjgkmnmemjebbaaDoor

/-
The thin package's MinPrec; the statement on it. No condition.
-/
namespace Go.Proofs.YtjgkmnmemjebbaaDoor
open Go.RowKit

set_option maxRecDepth 100000 in
theorem minPrec_other (b p m f : Nat) (a e : Int) (neg : Bool) (v : Value) (w : World) (h : FltR w b p m a f neg v e) (hf : f ≠ 1) :
    Calls Tryd.prog 52 #[.pointer (some ⟨b, 0, none⟩)] w fun e' w' => e' = .returned (.int .u64 0) ∧ w = w' := by
  obtain ⟨c0, c1, c2, c3, c4, c5, c6⟩ := h.cells
  have t : ((f : Int) != 1) = true := by rw [bne_iff_ne]; omega
  clear h hf
  go_enter Tryd.func52, Tryd.ntmps52
  go_wp2
  go_ret
  exact ⟨rfl, rfl⟩
def mpV (f M : Nat) : Nat := if f = 1 then bl (od M) else 0
theorem minPrec_val (B b p m f : Nat) (a : Int) (neg : Bool) (M : Nat) (X : Int) (w : World) (h : FVal w B b p m a f neg M X) (hT : TabW w) :
    Calls Tryd.prog 52 #[.pointer (some ⟨b, 0, none⟩)] w fun e' w' => e' = .returned (.int .u64 (mpV f M : Nat)) ∧ Below w.heap.size w w' := by
  obtain ⟨v, e, h1, h2⟩ := h
  by_cases h3 : f = 1
  · subst h3
    obtain ⟨hM, ws, ho, hg, hq⟩ := h2 rfl
    have h0 := hq.symm.pos hM
    refine (minPrec_one b p m a e neg v ws w h1 (ho.rw' hg.2.2.1) h0 hg.2.1 hg.bl hT).mono ?_
    rintro _ w' ⟨rfl, n, rfl⟩
    rw [(hq.od h0).1]
    exact ⟨by rw [mpV, if_pos rfl], undrewN' (Below.refl _ _)⟩
  · refine (minPrec_other b p m f a e neg v w h1 h3).mono ?_
    rintro _ _ ⟨rfl, rfl⟩
    exact ⟨by rw [mpV, if_neg h3]; rfl, Below.refl _ _⟩
/-- impl.float's value. -/
theorem float_val (P E p m f : Nat) (neg : Bool) (v : Value) (e : Int) (ws : List Nat) (w : World) (hv : RW w v ws) (ho : RealOk P E p m f ws e) (hP : P ≤ 64000000) (hE : E ≤ 1000000000) :
    Calls Tryd.prog 43 #[.agg #[.int .u64 p, .int .i64 m, .int .i64 f, .bool neg, v, .int .i64 e]] w fun e' w' => ∃ g, e' = .returned (.pointer (some ⟨g, 0, none⟩)) ∧ (w.heap.size ≤ g ∧ FVal w' w.heap.size g p m 0 f neg (wv ws) e) ∧ Below w.heap.size w w' := by
  refine (float_any P E p m f neg v e ws w hv ho hP hE).mono ?_
  rintro _ w' ⟨g, rfl, hF, hb⟩
  refine ⟨g, rfl, ⟨hF.1, hF.val fun hf => ?_⟩, hb⟩
  subst hf
  obtain ⟨-, -, -, h | h | h⟩ := ho
  · exact absurd h (by decide)
  · exact absurd h (by decide)
  · exact ⟨h.2.1, h.2.2.1, by have := nw_le (wv_lt hv.lt); have := h.2.2.2.1; omega⟩
set_option maxRecDepth 100000 in
set_option maxHeartbeats 800000 in
theorem impMinPrec (P E p m f : Nat) (neg : Bool) (v : Value) (e : Int) (ws : List Nat) (w : World) (hv : RW w v ws) (ho : RealOk P E p m f ws e) (hP : P ≤ 64000000) (hE : E ≤ 1000000000) (hT : TabW w) :
    Calls Tryd.prog 34 #[.agg #[.int .u64 p, .int .i64 m, .int .i64 f, .bool neg, v, .int .i64 e]] w fun e' w' => e' = .returned (.int .u64 (mpV f (wv ws) : Nat)) ∧ Below w.heap.size w w' := by
  have hS := hv.isS
  have hab := (Below.refl w.heap.size w).alloc (Nat.le_refl _) (.cells #[.int .u64 p, .int .i64 m, .int .i64 f, .bool neg, v, .int .i64 e] 26)
  obtain ⟨Y, hY⟩ : ∃ Y, Y = w.alloc (.cells #[.int .u64 p, .int .i64 m, .int .i64 f, .bool neg, v, .int .i64 e] 26) := ⟨_, rfl⟩
  have hr1 : Y.heap[w.heap.size]? = some (.cells #[.int .u64 p, .int .i64 m, .int .i64 f, .bool neg, v, .int .i64 e] 26 (0, 0)) := by rw [hY]; exact box_row (Below.refl _ _)
  rw [← hY] at hab
  obtain ⟨⟨x0, x1, x2, x3, x4, x5⟩, -⟩ := row6 hr1
  have HF := Lib.hid (float_val P E p m f neg v e ws Y (hv.below hab) ho hP hE)
  have HT := Lib.hid (hT.below hab)
  have HAB := Lib.hid hab
  clear hr1 hv ho hT hab
  go_enter Tryd.func34, Tryd.ntmps34
  go_upto_region 1 with fail
  rw [← hY]
  clear hY
  go_wp2_with fail
  refine HF.out.mono ?_
  rintro _ w1 ⟨g, rfl, hF, hb1⟩
  have HF1 := Lib.hid hF.2
  have HT1 := Lib.hid (HT.out.below hb1)
  have B1 := Lib.hid (HAB.out.trans (hb1.mono HAB.out.size))
  clear hF hb1
  go_wp2_with fail
  refine (minPrec_val Y.heap.size g p m f 0 neg (wv ws) e w1 HF1.out HT1.out).mono ?_
  rintro _ w2 ⟨rfl, hb2⟩
  have B2 := Lib.hid (B1.out.trans (hb2.mono B1.out.size))
  clear hb2
  go_wp2
  go_ret
  exact ⟨rfl, B2.out⟩
set_option maxRecDepth 100000 in
set_option maxHeartbeats 1600000 in
theorem lawMinPrec (p : Nat) (m f : Int) (neg : Bool) (v : Value) (e : Int) (ws : List Nat) (w : World) (hT : TabW w) (hv : RW w v ws)
    (hg : p ≤ 18446744073709551615 ∧ (-9223372036854775808 ≤ m ∧ m ≤ 9223372036854775807) ∧ (-9223372036854775808 ≤ f ∧ f ≤ 9223372036854775807) ∧ (-9223372036854775808 ≤ e ∧ e ≤ 9223372036854775807)) :
    Calls Tryd.prog 12 #[.agg #[.int .u64 p, .int .i64 m, .int .i64 f, .bool neg, v, .int .i64 e]] w fun e' w' => e' = .returned (.bool true) ∧ Below w.heap.size w w' := by
  have hS := hv.isS
  clear hg
  have hab := (Below.refl w.heap.size w).alloc (Nat.le_refl _) (.cells #[.int .u64 p, .int .i64 m, .int .i64 f, .bool neg, v, .int .i64 e] 26)
  obtain ⟨W, hW⟩ : ∃ W, W = w.alloc (.cells #[.int .u64 p, .int .i64 m, .int .i64 f, .bool neg, v, .int .i64 e] 26) := ⟨_, rfl⟩
  have hrow : W.heap[w.heap.size]? = some (.cells #[.int .u64 p, .int .i64 m, .int .i64 f, .bool neg, v, .int .i64 e] 26 (0, 0)) := by rw [hW]; exact box_row (Below.refl _ _)
  rw [← hW] at hab
  obtain ⟨-, x0, x1, x2, x3, x4, x5⟩ := ks12 hrow (Below.refl _ _)
  have HR := Lib.hid hrow
  have HV := Lib.hid (hv.below hab)
  have HT := Lib.hid (hT.below hab)
  have hWs := hab.size
  have HAB := Lib.hid hab
  clear hrow hv hab hT
  go_enter Tryd.func12, Tryd.ntmps12
  go_upto_region 1 with fail
  rw [← hW]
  clear hW
  go_wp2_with fail
  refine (zzFits1_any p m f e neg v ws W HV.out).mono ?_
  rintro _ w1 ⟨rfl, hb1⟩
  obtain ⟨-, y0, y1, y2, y3, y4, y5⟩ := ks12 HR.out hb1
  have HB1 := Lib.hid hb1
  have HW1 := Lib.hid (HAB.out.trans (hb1.mono hWs))
  obtain ⟨fits, hfits⟩ : ∃ f, f = decide (ws.length ≤ 2147483647) := ⟨_, rfl⟩
  rw [← hfits]
  clear hfits hb1 x0 x1 x2 x3 x4 x5
  cases fits with
  | false =>
    go_wp2
    go_ret
    exact ⟨rfl, HW1.out⟩
  | true =>
  go_wp2_with fail
  refine (real_any 300 1000000 p m f e neg v ws w1 (HV.out.below HB1.out) (by decide) (by decide)).mono ?_
  rintro _ w2 ⟨ok, rfl, hok, hb2⟩
  have hbt := bthen HB1.out hb2
  have HB2 := Lib.hid hbt
  have HW2 := Lib.hid (HAB.out.trans (hbt.mono hWs))
  have HOK := Lib.hid hok
  obtain ⟨-, z0, z1, z2, z3, z4, z5⟩ := ks12 (keep_row hbt HR.out) (Below.refl _ _)
  clear hb2 hbt hok y0 y1 y2 y3 y4 y5
  cases ok with
  | false =>
    go_wp2
    go_ret
    exact ⟨rfl, HW2.out⟩
  | true =>
  obtain ⟨p', m', f', hp', rfl, rfl, hR⟩ := HOK.out rfl
  have hpp : p' = p := by omega
  subst hpp
  clear HOK hp'
  have HRO := Lib.hid hR
  have V2 := Lib.hid (HV.out.below HB2.out)
  have T2 := Lib.hid (HT.out.below HB2.out)
  have hR2 := keep_row HB2.out HR.out
  have HR2 := Lib.hid hR2
  clear hR hR2
  by_cases f1 : f' = 1
  · have t0 : ((f' : Int) != 1) = false := by rw [f1]; rfl
    have hR1 : 0 < wv ws ∧ bl (wv ws) ≤ 300 ∧ ws.length ≤ 1000000 := by
      obtain ⟨-, h2, -, h | h | h⟩ := HRO.out
      · omega
      · omega
      · exact ⟨h.2.1, by omega, h.2.2.2.1⟩
    obtain ⟨hpos, hbl, hlen⟩ := hR1
    have hmp : mpV f' (wv ws) = bl (od (wv ws)) := by rw [mpV, if_pos f1]
    have HMP := Lib.hid hmp
    have hnl := nl_bl (n := wv ws) (k := 300) (by omega)
    have hodl : bl (od (wv ws)) ≤ 300 := by have := bl_od hpos; omega
    have hnod : nl (od (wv ws)) ≤ 300 := nl_bl (by omega)
    clear f1 hmp
    go_wp2_with fail
    refine (spOf v ws w2 V2.out (by omega)).mono ?_
    rintro _ w3 ⟨d, rfl, hd, hb3⟩
    have hSd := hd.isS
    have HD := Lib.hid hd
    have HB3 := Lib.hid hb3
    clear hd hb3
    go_wp2_with fail
    refine (spOdd d (wv ws) w3 HD.out (by omega) hpos).mono ?_
    rintro _ w4 ⟨r, rfl, hr, hb4⟩
    have hSr := hr.isS
    have hb24 := bthen HB3.out hb4
    obtain ⟨-, u0, u1, u2, u3, u4, u5⟩ := ks12 HR2.out hb24
    have HN := Lib.hid hr
    have HB4 := Lib.hid hb24
    have V4 := Lib.hid (V2.out.below hb24)
    have T4 := Lib.hid (T2.out.below hb24)
    clear hr hb4 hb24 z0 z1 z2 z3 z4 z5
    go_wp2_with fail
    refine (impMinPrec 300 1000000 p' m' f' neg v e ws w4 V4.out HRO.out (by decide) (by decide) T4.out).mono ?_
    rintro _ w5 ⟨rfl, hb5⟩
    rw [HMP.out]
    have HN5 := Lib.hid (HN.out.below hb5)
    have HB5 := Lib.hid (bthen HB4.out hb5)
    clear hb5
    go_wp2_with fail
    refine (spLen r (od (wv ws)) w5 HN5.out (by omega)).mono ?_
    rintro _ _ ⟨rfl, rfl⟩
    obtain ⟨q, hq⟩ : ∃ q, q = bl (od (wv ws)) := ⟨_, rfl⟩
    rw [← hq] at hodl ⊢
    clear hq
    go_wp2
    go_ret
    exact ⟨rfl, HW2.out.trans (HB5.out.mono HW2.out.size)⟩
  · have t0 : ((f' : Int) != 1) = true := by rw [bne_iff_ne]; omega
    have hmp : mpV f' (wv ws) = 0 := by rw [mpV, if_neg f1]
    have HMP := Lib.hid hmp
    clear f1 hmp
    go_wp2_with fail
    refine (impMinPrec 300 1000000 p' m' f' neg v e ws w2 V2.out HRO.out (by decide) (by decide) T2.out).mono ?_
    rintro _ w5 ⟨rfl, hb5⟩
    rw [HMP.out]
    have HB5 := Lib.hid hb5
    clear hb5
    go_wp2
    go_ret
    exact ⟨rfl, HW2.out.trans (HB5.out.mono HW2.out.size)⟩
end Go.Proofs.YtjgkmnmemjebbaaDoor

/-
A statement's argument that is a Real: what it reads as. No condition.
-/
namespace Go.Proofs.YtjgkmnmemjebbaaDoor
open Go.ChangeShapes Go.WideShapes Go.ChangeAt Go.RowKit

section
variable {H : Type} {enc : TypeId × Value → H} {P : Program} {w : World} {base : Nat} {spare : Nat → Bool} {held : Bool}
theorem trod_struct6 {t : TypeId} {f0 f1 f2 f3 f4 f5 : Field} {fuel : Nat} {cs : List Value} {x : DataW H × List MemPlace} (ht : P.underlying t = some (.struct #[f0, f1, f2, f3, f4, f5])) (h : DataW.trod enc P w base spare held fuel t cs = some x) :
    ∃ y0 y1 y2 y3 y4 y5 n, cs.length = P.cellsOf t ∧ DataW.trod enc P w base spare held n f0.type ((cs.drop f0.offset).take (P.cellsOf f0.type)) = some y0 ∧
      DataW.trod enc P w base spare held n f1.type ((cs.drop f1.offset).take (P.cellsOf f1.type)) = some y1 ∧ DataW.trod enc P w base spare held n f2.type ((cs.drop f2.offset).take (P.cellsOf f2.type)) = some y2 ∧
      DataW.trod enc P w base spare held n f3.type ((cs.drop f3.offset).take (P.cellsOf f3.type)) = some y3 ∧ DataW.trod enc P w base spare held n f4.type ((cs.drop f4.offset).take (P.cellsOf f4.type)) = some y4 ∧
      DataW.trod enc P w base spare held n f5.type ((cs.drop f5.offset).take (P.cellsOf f5.type)) = some y5 := by
  obtain ⟨xs, n, _, rfl, hl, hlen, hf⟩ := DataW.trod_struct ht h
  match xs, hlen with
  | [y0, y1, y2, y3, y4, y5], _ => exact ⟨y0, y1, y2, y3, y4, y5, n, hl, by simpa using hf 0 f0 rfl, by simpa using hf 1 f1 rfl, by simpa using hf 2 f2 rfl, by simpa using hf 3 f3 rfl, by simpa using hf 4 f4 rfl, by simpa using hf 5 f5 rfl⟩
end
section
variable {H : Type} {enc : TypeId × Value → H} {W : World} {base : Nat} {held : Bool}
theorem open_i64 {c : Value} {fuel : Nat} {x : DataW H × List MemPlace} (h : DataW.trod enc Tryd.prog W base (fun _ => true) held fuel 3 [c] = some x) : ∃ n : Int, c = .int .i64 n ∧ -9223372036854775808 ≤ n ∧ n ≤ 9223372036854775807 := by
  obtain ⟨n, hc, _, hw⟩ := DataW.trod_int Tryd.underlying3 h
  exact ⟨n, by simpa using hc, by simpa [Lit.wf, IntKind.min, IntKind.max, IntKind.signed, IntKind.bits] using hw⟩
theorem open_u64 {c : Value} {fuel : Nat} {x : DataW H × List MemPlace} (h : DataW.trod enc Tryd.prog W base (fun _ => true) held fuel 23 [c] = some x) : ∃ n : Nat, c = .int .u64 n ∧ n ≤ 18446744073709551615 := by
  obtain ⟨n, hc, _, hw⟩ := DataW.trod_int Tryd.underlying23 h
  have hb : 0 ≤ n ∧ n ≤ 18446744073709551615 := by simpa [Lit.wf, IntKind.min, IntKind.max, IntKind.signed, IntKind.bits] using hw
  obtain ⟨k, rfl⟩ := Int.eq_ofNat_of_zero_le hb.1
  exact ⟨k, by simpa using hc, by omega⟩
set_option maxRecDepth 100000 in
theorem open_real {v : Value} {r : Reach} {b0 : Nat} {d : DataW H} {p : List MemPlace} (hval : Value.okWide Tryd.prog W r b0 26 v) (h : DataW.Trod enc Tryd.prog W base (fun _ => true) held 26 v d p) :
    ∃ (q : Nat) (m f : Int) (n : Bool) (x : Value) (e : Int) (ws : List Nat), v = .agg #[.int .u64 q, .int .i64 m, .int .i64 f, .bool n, x, .int .i64 e] ∧ RW W x ws ∧
      (q ≤ 18446744073709551615 ∧ (-9223372036854775808 ≤ m ∧ m ≤ 9223372036854775807) ∧ (-9223372036854775808 ≤ f ∧ f ≤ 9223372036854775807) ∧ (-9223372036854775808 ≤ e ∧ e ≤ 9223372036854775807)) := by
  obtain ⟨cs, rfl, hsz⟩ := okWide_struct Tryd.underlying26 hval
  have hc : Tryd.prog.cellsOf 26 = 6 := by kernel_rfl
  rw [hc] at hsz
  obtain ⟨fuel, hf⟩ := h
  obtain ⟨y0, y1, y2, y3, y4, y5, n, hl, h0, h1, h2, h3, h4, h5⟩ := trod_struct6 Tryd.underlying26 hf
  match cs, hsz with
  | ⟨[c0, c1, c2, c3, c4, c5]⟩, _ =>
    have hcu : Tryd.prog.cellsOf 23 = 1 := by kernel_rfl
    have hci : Tryd.prog.cellsOf 3 = 1 := by kernel_rfl
    have hcb : Tryd.prog.cellsOf 4 = 1 := by kernel_rfl
    have hcs : Tryd.prog.cellsOf 24 = 1 := by kernel_rfl
    obtain ⟨q, rfl, hq⟩ := open_u64 (c := c0) (by simpa [hcu, Value.cells] using h0)
    obtain ⟨m, rfl, hm⟩ := open_i64 (c := c1) (by simpa [hci, Value.cells] using h1)
    obtain ⟨f, rfl, hf'⟩ := open_i64 (c := c2) (by simpa [hci, Value.cells] using h2)
    obtain ⟨b, hb, _⟩ := DataW.trod_bool Tryd.underlying4 h3
    have e3 : c3 = .bool b := by simpa [hcb, Value.cells] using hb
    subst e3
    obtain ⟨ws, hw⟩ := open_words (v := c4) (by simpa [hcs, Value.cells] using h4)
    obtain ⟨e, rfl, he⟩ := open_i64 (c := c5) (by simpa [hci, Value.cells] using h5)
    exact ⟨q, m, f, b, c4, e, ws, rfl, hw, hq, hm, hf', he⟩
end
end Go.Proofs.YtjgkmnmemjebbaaDoor
