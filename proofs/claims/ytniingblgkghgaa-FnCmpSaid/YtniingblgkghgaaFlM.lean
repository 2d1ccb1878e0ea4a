/-
Floats: setExpAndRound where nothing is rounded; SetInt of a new receiver. No condition.
-/
import Derived.Test.YtniingblgkghgaaFlL
namespace Go.Proofs.Ytniingblgkghgaa
open Go.RowKit

set_option maxRecDepth 100000 in
set_option maxHeartbeats 800000 in
theorem setExp_exact (b B p m f : Nat) (a e x : Int) (neg : Bool) (v : Value) (ws : List Nat) (w : World) (h : FltR w b p m a f neg v e) (hB : B ≤ b) (ho : Own w B 132 v (cellsW ws)) (hd : ∀ d ∈ ws, d < 18446744073709551616) (hf : Fits ws p) (h0 : 0 < ws.length) (hl : ws.length ≤ 1000000) (hp0 : 0 < p) (hp : p ≤ 64000000)
    (hx1 : -2147483648 ≤ x) (hx2 : x ≤ 2147483647) :
    Calls Try.prog 88 #[.pointer (some ⟨b, 0, none⟩), .int .i64 x, .int .u64 0] w fun e' w' => e' = .returned (.tuple #[]) ∧ FltR w' b p m 0 1 neg v x ∧ Own w' B 132 v (cellsW ws) ∧ Below B w w' := by
  obtain ⟨c0, c1, c2, c3, c4, c5, c6⟩ := h.cells
  obtain ⟨f0, f1, f2, f3, f4, f5, f6⟩ := h.free
  have hS := ho.isS
  have R2 := Lib.hid ((h.s3 1).s6 x)
  have O2 := Lib.hid ((h.s3 1).own (h.own ho 3 (.int .u8 (1 : Int))) 6 (.int .i32 x))
  have B2 := Lib.hid (bset (i := 6) (u := .int .i32 x) (bset (i := 3) (u := .int .u8 (1 : Int)) (Below.refl B w) hB) hB)
  have HD := Lib.hid hd
  have HF := Lib.hid hf
  clear h ho hd hf
  go_enter Try.func88, Try.ntmps88
  go_wp2_with fail
  refine (round_exact b B p m a x neg v ws _ R2.out hB O2.out HD.out HF.out h0 hl hp0 hp).mono ?_
  rintro _ w1 ⟨rfl, r1, r2, r3⟩
  have Q := Lib.hid (⟨r1, r2, B2.out.trans r3⟩ : FltR w1 b p m 0 1 neg v x ∧ Own w1 B 132 v (cellsW ws) ∧ Below B w w1)
  clear r1 r2 r3
  go_wp2
  go_end0
  exact ⟨rfl, Q.out⟩
theorem nw_bl {n : Nat} (h : 0 < n) : nw n = (bl n + 63) / 64 := by
  have e := bl_words h
  have h1 := bl_le64 (wdg_lt n (nw n - 1))
  have h2 := bl_pos (Nat.pos_of_ne_zero (wdg_last h))
  have h3 := nw_pos h
  omega
/-- The mantissa of a number: its bits at the top of its words. -/
def topN (M : Nat) : List Nat := wdsN (M * 2 ^ (64 * nw M - bl M)) (nw M)
theorem topN_length (M : Nat) : (topN M).length = nw M := wdsN_length _ _
theorem topN_wv {M : Nat} (h : 0 < M) : wv (topN M) = M * 2 ^ (64 * nw M - bl M) := by
  have hb := nw_bl h
  have hbp := bl_pos h
  unfold topN
  rw [wdsN_wv]
  refine Nat.mod_eq_of_lt ?_
  have e : (18446744073709551616 : Nat) ^ nw M = 2 ^ bl M * 2 ^ (64 * nw M - bl M) := by rw [show (18446744073709551616 : Nat) = 2 ^ 64 from rfl, ← Nat.pow_mul, ← Nat.pow_add]; congr 1; omega
  rw [e]
  exact Nat.mul_lt_mul_of_pos_right (lt_bl M) (Nat.pow_pos (by decide))
theorem topN_fits {M p : Nat} (h : 0 < M) (hp : bl M ≤ p) : Fits (topN M) p := by
  have hb := nw_bl h
  have hbp := bl_pos h
  unfold Fits
  rw [topN_length, topN_wv h]
  by_cases hc : 64 * nw M ≤ p
  · exact .inl hc
  · refine .inr ⟨by omega, ?_, by omega⟩
    have e : 64 * nw M - bl M = (64 * nw M - p) + (p - bl M) := by omega
    rw [e, Nat.pow_add, ← Nat.mul_assoc, Nat.mul_comm M, Nat.mul_assoc]
    exact Nat.mul_mod_right _ _
set_option maxRecDepth 100000 in
set_option maxHeartbeats 1600000 in
theorem setInt_exact (b B c Bc p m M : Nat) (a e : Int) (neg0 : Bool) (w : World) (h : FltR w b p m a 0 neg0 (.slice none 0 0) e) (hB : B ≤ b) (hx : IntP w Bc c false M) (hbc : b ≠ c) (h0 : 0 < M) (hM : bl M ≤ p) (hp : p ≤ 64000000) :
    Calls Try.prog 64 #[.pointer (some ⟨b, 0, none⟩), .pointer (some ⟨c, 0, none⟩)] w fun e' w' => e' = .returned (.pointer (some ⟨b, 0, none⟩)) ∧ ∃ v, FltR w' b p m 0 1 false v (bl M : Nat) ∧ Own w' B 132 v (cellsW (topN M)) ∧ Below B w w' := by
  obtain ⟨vx, hcB, hrc, hox⟩ := hx
  have hbp := bl_pos h0
  have hnb := nw_bl h0
  have hnp := nw_pos h0
  have hblt := h.lt
  obtain ⟨c0, c1, c2, c3, c4, c5, c6⟩ := h.cells
  obtain ⟨f0, f1, f2, f3, f4, f5, f6⟩ := h.free
  have d0 : w.cell? ⟨c, 0, none⟩ = some (.bool false) := (row_at (i := 0) hrc rfl).1
  have d1 : w.cell? ⟨c, 1, none⟩ = some vx := (row_at (i := 1) hrc rfl).1
  have hS := hox.isS
  have hLx : sLen vx = nw M := by rw [hox.len, cellsW_length, wds_length]
  have hbc1 : ¬ b = c := hbc
  have hbc2 : ¬ c = b := fun h => hbc h.symm
  have tp : ((p : Int) == 0) = false := by rw [beq_eq_false_iff_ne]; omega
  have tl : ((nw M : Int) == 0) = false := by rw [beq_eq_false_iff_ne]; omega
  have R4 := Lib.hid ((h.s2 0).s4 false)
  have V4 := Lib.hid (((h.s2 0).own (h.own hox 2 (.int .i8 0)) 4 (.bool false)).rw' (wds_all M))
  have B4 := Lib.hid (bset (i := 4) (u := .bool false) (bset (i := 2) (u := .int .i8 0) (Below.refl B w) hB) hB)
  have VX := Lib.hid (hox.rw' (wds_all M))
  have HT := Lib.hid (topN_fits h0 hM)
  have H0 := Lib.hid h0
  obtain ⟨L, hL⟩ : ∃ L, L = nw M := ⟨_, rfl⟩
  obtain ⟨l, hl⟩ : ∃ l, l = bl M := ⟨_, rfl⟩
  rw [← hL] at hLx tl hnp hnb
  rw [← hl] at hM hbp hnb ⊢
  have hLl : L ≤ 1000000 := by omega
  have HL := Lib.hid hL
  have Hl := Lib.hid hl
  clear h hrc hox h0 hL hl hnb
  go_enter Try.func64, Try.ntmps64
  go_wp2_with fail
  refine (intBitLen c 0 vx M w d1 VX.out (by rw [← HL.out]; omega)).mono ?_
  rintro _ _ ⟨rfl, rfl⟩
  rw [← Hl.out]
  go_wp2
  (refine wp_region_hoist 9 (by kernel_rfl) (by kernel_rfl) ⟨fun _ _ _ h => (by first | cases h.2.1 | (obtain ⟨_, h3, _⟩ := h.2; cases h3)), fun _ _ h => (by first | cases h.1 | (obtain ⟨_, h3, _⟩ := h; cases h3))⟩ ?_; simp only [List.take_succ_cons, List.take_zero, List.drop_succ_cons, List.drop_zero]; (repeat (go_big_quiet_step (fail))); refine wpQuiet_nil ?_; rintro _ ⟨nq, rfl⟩)
  go_wp2_with fail
  refine (set_nil vx (wds M) _ (V4.out.drewN _) (by rw [wds_length, ← HL.out]; omega)).mono ?_
  rintro _ w5 ⟨r, rfl, ho, hb⟩
  have hSr := ho.isS
  have hb' := undrewN hb
  have R5 := R4.out.below hb'
  have B5 := B4.out.trans (hb'.mono (by simp; omega))
  have O5 : Own w5 B 132 r (cellsW (wds M)) := ho.mono (show B ≤ _ by simp; omega)
  obtain ⟨g0, g1, g2, g3, g4, g5, g6⟩ := R5.cells
  obtain ⟨k0, k1, k2, k3, k4, k5, k6⟩ := R5.free
  have R6 := Lib.hid (R5.s5 r)
  have O6 := Lib.hid (R5.own O5 5 r)
  have B6 := Lib.hid (bset (i := 5) (u := r) B5 hB)
  clear ho hb hb' R5 B5 O5 c0 c1 c2 c3 c4 c5 c6 f0 f1 f2 f3 f4 f5 f6
  go_wp2_with fail
  refine (fnorm_any r M B _ O6.out H0.out (by rw [← HL.out]; omega)).mono ?_
  rintro _ w7 ⟨⟨z, rfl⟩, ho7, hb7, hon7⟩
  have hcap : 0 < sCap r := by
    have h1 := hSr.le
    have h2 : sLen r = nw M := by rw [O6.out.len, cellsW_length, wds_length]
    have := HL.out
    omega
  have hrb := O6.out.ne_row R6.out (by decide) hcap
  have R7 : FltR w7 b p m 0 0 false r e := (hon7 b R6.out.lt hrb.symm).trans R6.out
  have HR7 := Lib.hid R7
  have HO7 := Lib.hid ho7
  have B7 := Lib.hid (B6.out.trans hb7)
  clear R7 ho7 hb7 hon7 hrb g0 g1 g2 g3 g4 g5 g6 k0 k1 k2 k3 k4 k5 k6
  go_wp2_with fail
  refine (setExp_exact b B p m 0 0 e (l : Int) false r (topN M) w7 HR7.out hB HO7.out wdsN_lt HT.out (by rw [topN_length, ← HL.out]; exact hnp) (by rw [topN_length, ← HL.out]; exact hLl) (by omega) hp (by omega) (by omega)).mono ?_
  rintro _ w8 ⟨rfl, r1, r2, r3⟩
  have Q := Lib.hid (⟨r1, r2, B7.out.trans r3⟩ : FltR w8 b p m 0 1 false r (l : Int) ∧ Own w8 B 132 r (cellsW (topN M)) ∧ Below B w w8)
  clear r1 r2 r3
  go_wp2
  go_ret
  exact ⟨rfl, r, Q.out⟩
end Go.Proofs.Ytniingblgkghgaa
