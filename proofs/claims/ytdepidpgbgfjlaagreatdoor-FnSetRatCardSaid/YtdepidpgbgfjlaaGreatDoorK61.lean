/-
Texts of this proof, joined: FlM FlD FlE FlH. No condition.
-/
import Derived.Test.YtdepidpgbgfjlaaGreatDoorK54
import Derived.Test.YtdepidpgbgfjlaaGreatDoorK55
namespace Go.Proofs.YtdepidpgbgfjlaaGreatDoor
open Go.RowKit

set_option maxRecDepth 100000 in
set_option maxHeartbeats 800000 in
theorem setExp_exact (b B p m f : Nat) (a e x : Int) (neg : Bool) (v : Value) (ws : List Nat) (w : World) (h : FltR w b p m a f neg v e) (hB : B ≤ b) (ho : Own w B 164 v (cellsW ws)) (hd : ∀ d ∈ ws, d < 18446744073709551616) (hf : Fits ws p) (h0 : 0 < ws.length) (hl : ws.length ≤ 1000000) (hp0 : 0 < p) (hp : p ≤ 64000000)
    (hx1 : -2147483648 ≤ x) (hx2 : x ≤ 2147483647) :
    Calls Tryz.prog 170 #[.pointer (some ⟨b, 0, none⟩), .int .i64 x, .int .u64 0] w fun e' w' => e' = .returned (.tuple #[]) ∧ FltR w' b p m 0 1 neg v x ∧ Own w' B 164 v (cellsW ws) ∧ Below B w w' := by
  obtain ⟨c0, c1, c2, c3, c4, c5, c6⟩ := h.cells
  obtain ⟨f0, f1, f2, f3, f4, f5, f6⟩ := h.free
  have hS := ho.isS
  have R2 := Lib.hid ((h.s3 1).s6 x)
  have O2 := Lib.hid ((h.s3 1).own (h.own ho 3 (.int .u8 (1 : Int))) 6 (.int .i32 x))
  have B2 := Lib.hid (bset (i := 6) (u := .int .i32 x) (bset (i := 3) (u := .int .u8 (1 : Int)) (Below.refl B w) hB) hB)
  have HD := Lib.hid hd
  have HF := Lib.hid hf
  clear h ho hd hf
  go_enter Tryz.func170, Tryz.ntmps170
  go_wp2_with fail
  refine (round_exact b B p m a x neg v ws _ R2.out hB O2.out HD.out HF.out h0 hl hp0 hp).mono ?_
  rintro _ w1 ⟨rfl, r1, r2, r3⟩
  have Q := Lib.hid (⟨r1, r2, B2.out.trans r3⟩ : FltR w1 b p m 0 1 neg v x ∧ Own w1 B 164 v (cellsW ws) ∧ Below B w w1)
  clear r1 r2 r3
  go_wp2
  go_end0
  exact ⟨rfl, Q.out⟩
theorem nw_bl {n : Nat} (h : 0 < n) : nw n = (bl n + 63) / 64 := by
  have e := bl_words h
  have h1 := bl_le64 (wdg_lt n (nw n - 1))
  have h2 := bl_pos (Nat.pos_of_ne_zero (wdg_last h))
  have h3 := nw_pos h
  omega
def topN (M : Nat) : List Nat := wdsN (M * 2 ^ (64 * nw M - bl M)) (nw M)
theorem topN_length (M : Nat) : (topN M).length = nw M := wdsN_length _ _
theorem topN_wv {M : Nat} (h : 0 < M) : wv (topN M) = M * 2 ^ (64 * nw M - bl M) := by
  have hb := nw_bl h
  have hbp := bl_pos h
  unfold topN
  rw [wdsN_wv]
  refine Nat.mod_eq_of_lt ?_
  have e : (18446744073709551616 : Nat) ^ nw M = 2 ^ bl M * 2 ^ (64 * nw M - bl M) := by rw [show (18446744073709551616 : Nat) = 2 ^ 64 from rfl, ← Nat.pow_mul, ← Nat.pow_add]; congr 1; omega
  rw [e]
  exact Nat.mul_lt_mul_of_pos_right (lt_bl M) (Nat.pow_pos (by decide))
theorem topN_fits {M p : Nat} (h : 0 < M) (hp : bl M ≤ p) : Fits (topN M) p := by
  have hb := nw_bl h
  have hbp := bl_pos h
  unfold Fits
  rw [topN_length, topN_wv h]
  by_cases hc : 64 * nw M ≤ p
  · exact .inl hc
  · refine .inr ⟨by omega, ?_, by omega⟩
    have e : 64 * nw M - bl M = (64 * nw M - p) + (p - bl M) := by omega
    rw [e, Nat.pow_add, ← Nat.mul_assoc, Nat.mul_comm M, Nat.mul_assoc]
    exact Nat.mul_mod_right _ _
def SIV (w : World) (B b m : Nat) (x : Int) : Prop :=
  (x = 0 ∧ ∃ v e, FltR w b 64 m 0 0 false v e) ∨
  (x ≠ 0 ∧ ∃ v, FltR w b 64 m 0 1 (decide (x < 0)) v (bl x.natAbs : Nat) ∧ Own w B 164 v (cellsW [x.natAbs * 2 ^ (64 - bl x.natAbs)]))
def topW (xs : List Nat) (k : Nat) : Nat := if k < xs.length then xs.getD (xs.length - 1 - k) 0 else 0
def topV (xs : List Nat) (n : Nat) : Nat := wv xs * 18446744073709551616 ^ n
theorem wdg_mul_pow (n j i : Nat) : wdg (n * 18446744073709551616 ^ j) i = if i < j then 0 else wdg n (i - j) := by
  unfold wdg
  split
  · rename_i h
    obtain ⟨t, rfl⟩ : ∃ t, j = i + 1 + t := ⟨j - i - 1, by omega⟩
    have : n * 18446744073709551616 ^ (i + 1 + t) = 18446744073709551616 ^ i * (18446744073709551616 * (n * 18446744073709551616 ^ t)) := by
      rw [Nat.pow_add, Nat.pow_succ]; grind
    rw [this, Nat.mul_div_cancel_left _ (wpow_pos i)]; omega
  · rename_i h
    obtain ⟨t, rfl⟩ : ∃ t, i = j + t := ⟨i - j, by omega⟩
    rw [Nat.add_sub_cancel_left, Nat.pow_add, ← Nat.div_div_eq_div_mul, Nat.mul_div_cancel _ (wpow_pos j)]
theorem topV_wdg {xs : List Nat} (h : ∀ d ∈ xs, d < 18446744073709551616) {n k : Nat} (hk : k < xs.length + n) : wdg (topV xs n) (xs.length + n - 1 - k) = topW xs k := by
  unfold topV topW
  rw [wdg_mul_pow]
  by_cases h1 : k < xs.length
  · rw [if_neg (by omega), if_pos h1, wv_dig h, show xs.length + n - 1 - k - n = xs.length - 1 - k by omega]
  · rw [if_pos (by omega), if_neg h1]
theorem topV_lt {xs : List Nat} (h : ∀ d ∈ xs, d < 18446744073709551616) (n : Nat) : topV xs n < 18446744073709551616 ^ (xs.length + n) := by
  unfold topV
  rw [Nat.pow_add]
  exact Nat.mul_lt_mul_of_pos_right (wv_lt h) (wpow_pos n)
theorem lt_of_wdg' {x y i : Nat} (he : x / 18446744073709551616 ^ (i + 1) = y / 18446744073709551616 ^ (i + 1)) (h : wdg x i < wdg y i) : x < y := by
  have h1 := wdv_step x i
  have h2 := wdv_step y i
  refine Nat.lt_of_not_le fun hc => ?_
  have := Nat.div_le_div_right (c := 18446744073709551616 ^ i) hc
  omega
def Alike (xs ys : List Nat) (k : Nat) : Prop := topV xs ys.length / 18446744073709551616 ^ (xs.length + ys.length - k) = topV ys xs.length / 18446744073709551616 ^ (xs.length + ys.length - k)
theorem Alike.start {xs ys : List Nat} (hx : ∀ d ∈ xs, d < 18446744073709551616) (hy : ∀ d ∈ ys, d < 18446744073709551616) : Alike xs ys 0 := by
  unfold Alike
  rw [Nat.sub_zero, Nat.div_eq_of_lt (topV_lt hx _), Nat.div_eq_of_lt (by rw [Nat.add_comm]; exact topV_lt hy _)]
theorem Alike.next {xs ys : List Nat} (hx : ∀ d ∈ xs, d < 18446744073709551616) (hy : ∀ d ∈ ys, d < 18446744073709551616) {k : Nat} (hk : k < xs.length + ys.length) (h : Alike xs ys k) (he : topW xs k = topW ys k) : Alike xs ys (k + 1) := by
  unfold Alike at *
  have h1 := topV_wdg hx (n := ys.length) hk
  have h2 := topV_wdg hy (n := xs.length) (show k < ys.length + xs.length by omega)
  rw [Nat.add_comm ys.length] at h2
  obtain ⟨j, hj⟩ : ∃ j, xs.length + ys.length - 1 - k = j := ⟨_, rfl⟩
  rw [hj] at h1 h2
  rw [show xs.length + ys.length - k = j + 1 by omega] at h
  rw [show xs.length + ys.length - (k + 1) = j by omega, wdv_step _ j, wdv_step (topV ys _) j, h, h1, h2, he]
theorem Alike.less {xs ys : List Nat} (hx : ∀ d ∈ xs, d < 18446744073709551616) (hy : ∀ d ∈ ys, d < 18446744073709551616) {k : Nat} (hk : k < xs.length + ys.length) (h : Alike xs ys k) (hl : topW xs k < topW ys k) : topV xs ys.length < topV ys xs.length := by
  unfold Alike at *
  have h1 := topV_wdg hx (n := ys.length) hk
  have h2 := topV_wdg hy (n := xs.length) (show k < ys.length + xs.length by omega)
  rw [Nat.add_comm ys.length] at h2
  obtain ⟨j, hj⟩ : ∃ j, xs.length + ys.length - 1 - k = j := ⟨_, rfl⟩
  rw [hj] at h1 h2
  rw [show xs.length + ys.length - k = j + 1 by omega] at h
  exact lt_of_wdg' h (by rw [h1, h2]; exact hl)
theorem Alike.symm {xs ys : List Nat} {k : Nat} (h : Alike xs ys k) : Alike ys xs k := by
  unfold Alike at *; rw [Nat.add_comm]; exact Eq.symm h
theorem Alike.full {xs ys : List Nat} {k : Nat} (hx : ∀ d ∈ xs, d < 18446744073709551616) (hy : ∀ d ∈ ys, d < 18446744073709551616) (h : Alike xs ys k) (h1 : xs.length ≤ k) (h2 : ys.length ≤ k) : topV xs ys.length = topV ys xs.length := by
  have step : ∀ n, k + n ≤ xs.length + ys.length → Alike xs ys (k + n) := by
    intro n
    induction n with
    | zero => intro _; exact h
    | succ n ih =>
      intro hn
      exact (ih (by omega)).next (k := k + n) hx hy (by omega) (by unfold topW; rw [if_neg (show ¬ k + n < xs.length by omega), if_neg (show ¬ k + n < ys.length by omega)])
  by_cases hk : k ≤ xs.length + ys.length
  · have := step (xs.length + ys.length - k) (by omega)
    rw [show k + (xs.length + ys.length - k) = xs.length + ys.length by omega] at this
    unfold Alike at this
    simpa using this
  · unfold Alike at h
    rw [show xs.length + ys.length - k = 0 by omega] at h
    simpa using h
theorem SIV.below {w w' : World} {B b m : Nat} {x : Int} (h : SIV w B b m x) (hb : Below w.heap.size w w') : SIV w' B b m x := by
  rcases h with ⟨h0, v, e, hF⟩ | ⟨h0, v, hF, ho⟩
  · exact .inl ⟨h0, v, e, hF.below hb⟩
  · exact .inr ⟨h0, v, hF.below hb, ho.below hb⟩
def newF : Obj := .cells #[.int .u32 0, .int .u8 0, .int .i8 0, .int .u8 0, .bool false, .slice none 0 0, .int .i32 0] 155
theorem newF_row (w : World) : FltR (w.alloc newF) w.heap.size 0 0 0 0 false (.slice none 0 0) 0 := box_row (Below.refl _ _)
end Go.Proofs.YtdepidpgbgfjlaaGreatDoor
