/-
Floats: round where nothing is to be rounded. No condition.
-/
import Derived.Test.YtniingblgkghgaaFlK
import Derived.Laws.BitsAllLaws
namespace Go.Proofs.Ytniingblgkghgaa
open Go.RowKit

theorem andNot_low {d s : Nat} (hs : s < 64) (hd : d < 18446744073709551616) (h : d % 2 ^ s = 0) : bits .andNot .u64 (d : Int) (((2 ^ s - 1 : Nat)) : Int) = (d : Int) := by
  have hS : 2 ^ s ≤ 9223372036854775808 := Nat.pow_le_pow_right (show 0 < 2 by decide) (show s ≤ 63 by omega)
  rw [u64_andNot_nat d (2 ^ s - 1) hd (by omega)]
  congr 1
  apply Nat.eq_of_testBit_eq
  intro i
  rw [Nat.testBit_and, show (18446744073709551615 : Nat) - (2 ^ s - 1) = 2 ^ 64 - ((2 ^ s - 1) + 1) by omega, Nat.testBit_two_pow_sub_succ (show 2 ^ s - 1 < 2 ^ 64 by omega), Nat.testBit_two_pow_sub_one]
  by_cases hi : i < s
  · have : d.testBit i = false := by
      have h2 : d = 2 ^ s * (d / 2 ^ s) := by have := Nat.div_add_mod d (2 ^ s); omega
      rw [h2, Nat.testBit_two_pow_mul]; simp [show ¬ s ≤ i by omega]
    rw [this]; rfl
  · by_cases h64 : i < 64
    · simp [hi, h64]
    · rw [Nat.testBit_lt_two_pow (Nat.lt_of_lt_of_le hd (show 18446744073709551616 ≤ 2 ^ i from Nat.pow_le_pow_right (show 0 < 2 by decide) (show 64 ≤ i by omega)))]; rfl
/-- Nothing is to be rounded: the words' bits fit, or all behind the precision are 0 and there is no word too many. -/
def Fits (ws : List Nat) (p : Nat) : Prop := 64 * ws.length ≤ p ∨ (p < 64 * ws.length ∧ wv ws % 2 ^ (64 * ws.length - p) = 0 ∧ ws.length = (p + 63) / 64)
set_option maxRecDepth 100000 in
set_option maxHeartbeats 1600000 in
theorem round_exact (b B p m : Nat) (a e : Int) (neg : Bool) (v : Value) (ws : List Nat) (w : World) (h : FltR w b p m a 1 neg v e) (hB : B ≤ b) (ho : Own w B 132 v (cellsW ws)) (hd : ∀ d ∈ ws, d < 18446744073709551616) (hf : Fits ws p) (h0 : 0 < ws.length) (hl : ws.length ≤ 1000000) (hp0 : 0 < p) (hp : p ≤ 64000000) :
    Calls Try.prog 86 #[.pointer (some ⟨b, 0, none⟩), .int .u64 0] w fun e' w' => e' = .returned (.tuple #[]) ∧ FltR w' b p m 0 1 neg v e ∧ Own w' B 132 v (cellsW ws) ∧ Below B w w' := by
  obtain ⟨c0, c1, c2, c3, c4, c5, c6⟩ := h.cells
  obtain ⟨f0, f1, f2, f3, f4, f5, f6⟩ := h.free
  have c3' : w.cell? ⟨b, 3, none⟩ = some (.int .u8 1) := c3
  have hS := ho.isS
  have hL : sLen v = ws.length := by rw [ho.len, cellsW_length]
  have R2 := h.s2 0
  have O2 := h.own ho 2 (.int .i8 0)
  have B2 := bset (i := 2) (u := .int .i8 0) (Below.refl B w) hB
  obtain ⟨L, hLw⟩ : ∃ L, L = ws.length := ⟨_, rfl⟩
  rw [← hLw] at hL h0 hl
  have HL := Lib.hid hLw
  unfold Fits at hf
  rw [← hLw] at hf
  rcases hf with hf | ⟨hf1, hf2, hf3⟩
  · have t1 : decide ((L : Int) * 64 ≤ p) = true := decide_eq_true (by omega)
    have FR := Lib.hid R2
    have FO := Lib.hid O2
    have FB := Lib.hid B2
    clear c3 h ho hd hLw R2 O2 B2 HL
    go_enter Try.func86, Try.ntmps86
    go_wp2
    refine bodyPost_ret (results_none rfl _ _ _) rfl ?_
    exact ⟨rfl, FR.out, FO.out, FB.out⟩
  · have t1 : decide ((L : Int) * 64 ≤ p) = false := decide_eq_false (by omega)
    have HD := Lib.hid hd
    have HO := Lib.hid ho
    have HR2 := Lib.hid R2
    have HO2 := Lib.hid O2
    have HB2 := Lib.hid B2
    have rwO := Lib.hid (O2.rw' hd)
    have e1 : (L : Int) * 64 - (p : Int) - 1 = ((L * 64 - p - 1 : Nat) : Int) := by omega
    obtain ⟨r, hr⟩ : ∃ r, r = L * 64 - p - 1 := ⟨_, rfl⟩
    rw [← hr] at e1
    have hbit : wv ws / 2 ^ r % 2 = 0 := by
      have e3 : 64 * L - p = r + 1 := by omega
      rw [e3] at hf2
      have := Nat.mod_pow_succ (x := wv ws) (b := 2) (k := r)
      rw [hf2] at this
      have hP : 0 < 2 ^ r := Nat.pow_pos (by decide)
      have h2 : 2 ^ r * (wv ws / 2 ^ r % 2) = 0 := by omega
      exact (Nat.mul_eq_zero.1 h2).resolve_left (by omega)
    have hlow : wv ws % 2 ^ r = 0 := by
      have e3 : 64 * L - p = r + 1 := by omega
      rw [e3] at hf2
      have := Nat.mod_pow_succ (x := wv ws) (b := 2) (k := r)
      omega
    have HBit := Lib.hid hbit
    have HLow := Lib.hid hlow
    have hrl : r < 64 * L := by omega
    have e4 : ((p : Int) + 63) / 64 = (L : Int) := by omega
    have e5 : (L : Int) * 64 - (p : Int) = ((L * 64 - p : Nat) : Int) := by omega
    obtain ⟨t, ht⟩ : ∃ t, t = L * 64 - p := ⟨_, rfl⟩
    rw [← ht] at e5
    have ht64 : t < 64 := by omega
    have e1' : (t : Int) - 1 = (r : Int) := by omega
    clear e1
    have hT64 : 2 ^ t ≤ 9223372036854775808 := Nat.pow_le_pow_right (show 0 < 2 by decide) (show t ≤ 63 by omega)
    have hw2 : IntKind.u64.wrap ((2 : Int) ^ t) = ((2 ^ t : Nat) : Int) := by
      rw [show (2 : Int) ^ t = ((2 ^ t : Nat) : Int) by simp, IntKind.wrap_u64]
      generalize 2 ^ t = T at hT64 ⊢
      omega
    have hT0 : 0 < 2 ^ t := Nat.pow_pos (by decide)
    have hcap : 0 < sCap v := by have := hS.le; omega
    have hne : sBlk v ≠ b := ho.ne_row h (by decide) hcap
    have hcw := (ho.rw' hd).cell 0 (by omega)
    rw [Nat.add_zero] at hcw
    have hzlow : ws.getD 0 0 % 2 ^ t = 0 := by
      rw [← wv_dig hd, wdg_zero_eq, ← word_split (show t ≤ 64 by omega), Nat.mul_comm, Nat.mod_mul_right_mod, show t = 64 * L - p by omega]
      exact hf2
    have han := andNot_low ht64 (getD_ltW hd 0) hzlow
    have hset : (cellsW ws).set 0 (.int .u64 ((ws.getD 0 0 : Nat) : Int)) = cellsW ws := by
      rw [cellsW_set]
      congr 1
      cases ws with
      | nil => rfl
      | cons x xs => rfl
    have O3 := O2.set (i := 0) (by rw [cellsW_length]; omega) (.int .u64 ((ws.getD 0 0 : Nat) : Int))
    rw [hset, Nat.add_zero] at O3
    have R3 : FltR ((w.setCell ⟨b, 2, none⟩ (.int .i8 0)).setCell ⟨sBlk v, sOff v, none⟩ (.int .u64 ((ws.getD 0 0 : Nat) : Int))) b p m 0 1 neg v e := (heap_setCell_other _ _ _ _ (by simpa using fun h => hne h.symm)).trans R2
    have B3 := bset (i := sOff v) (u := .int .u64 ((ws.getD 0 0 : Nat) : Int)) B2 (ho.lt hcap).1
    have fz := ho.frozen hcap (sOff v)
    have g0 := getD_ltW hd 0
    obtain ⟨d0, hd0⟩ : ∃ d, d = ws.getD 0 0 := ⟨_, rfl⟩
    rw [← hd0] at hcw han O3 R3 B3 g0
    obtain ⟨T, hT⟩ : ∃ T, T = 2 ^ t := ⟨_, rfl⟩
    rw [← hT] at hw2 hT0 han hT64
    have hT1 : (T : Int) - 1 = ((T - 1 : Nat) : Int) := by omega
    have hne1 : ¬ sBlk v = b := hne
    have hne2 : ¬ b = sBlk v := fun h => hne h.symm
    have FR := Lib.hid R3
    have FO := Lib.hid O3
    have FB := Lib.hid B3
    have z1 : bits .and .u64 0 1 = 0 := by decide +kernel
    have z2 : (bits .or .u64 0 0 != 0) = false := by decide +kernel
    have t2 : decide ((L : Int) < L) = false := decide_eq_false (by omega)
    have HF3 := Lib.hid hf3
    have Hr := Lib.hid hr
    clear hbit hlow hf3 hr hLw hf2 ho hd h R2 O2 B2 c3 ht hzlow hset O3 R3 B3 hd0 hT hne
    go_enter Try.func86, Try.ntmps86
    go_wp2_with fail
    refine (bit_any v ws r _ rwO.out (by rw [← HL.out]; exact hrl) (by rw [← HL.out]; omega)).mono ?_
    rintro _ _ ⟨rfl, rfl⟩
    rw [HBit.out]
    go_wp2_with fail
    refine (sticky_any v ws r _ rwO.out (by rw [← HL.out]; exact hrl) (by rw [← HL.out]; omega)).mono ?_
    rintro _ _ ⟨rfl, rfl⟩
    rw [stV_zero HLow.out]
    go_wp2
    go_end0
    exact ⟨rfl, FR.out, FO.out, FB.out⟩
end Go.Proofs.Ytniingblgkghgaa
