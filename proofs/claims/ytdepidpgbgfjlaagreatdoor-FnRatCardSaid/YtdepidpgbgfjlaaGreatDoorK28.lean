/-
Texts of this proof, joined: NmF FcB SfB RdP FlL FlM FlD FlE FlH. No condition.
-/
import Derived.Test.YtdepidpgbgfjlaaGreatDoorK03
import Derived.Test.YtdepidpgbgfjlaaGreatDoorK07
import Derived.Test.YtdepidpgbgfjlaaGreatDoorK11
import Derived.Test.YtdepidpgbgfjlaaGreatDoorK25
import Derived.Test.YtdepidpgbgfjlaaGreatDoorK27
import Derived.WalkKit
import Derived.Laws.FloatArith
import Derived.Laws.BitsAllLaws
import Derived.Laws.Externs
namespace Go.Proofs.YtdepidpgbgfjlaaGreatDoor
open Go.RowKit

set_option maxHeartbeats 1600000 in
theorem norm_full (g B N D : Nat) (n : Bool) (va vb : Value) (w : World) (row : w.heap[g]? = some (.cells #[.bool n, va, .bool false, vb] 125 (0, 0))) (oa : Own w B 164 va (cellsW (wds N))) (ob : Own w B 164 vb (cellsW (wds D)))
    (hab : 0 < sCap va → 0 < sCap vb → sBlk va ≠ sBlk vb) (hD0 : 0 < D) (hN : nw N < 40) (hD : nw D < 40) (hB : B ≤ g) (hT : DivW w) (hg : 3 < B) :
    Calls Tryz.prog 126 #[.pointer (some ⟨g, 0, none⟩)] w fun e w' => e = .returned (.pointer (some ⟨g, 0, none⟩)) ∧ NmP g B (N / Nat.gcd N D) (D / Nat.gcd N D) (n && decide (0 < N)) va vb w w' := by
  rcases Nat.eq_zero_or_pos N with h0 | h0
  · subst h0
    have hBw : B ≤ w.heap.size := Nat.le_trans hB (Nat.le_of_lt (get_lt row))
    have la : sLen va = 0 := oa.len
    refine (norm_zero g B n false va vb _ w row oa.isS la ob hBw).mono ?_
    rintro e w' ⟨he, r, w1, hr, rfl⟩
    rw [Nat.gcd_zero_left, Nat.zero_div, Nat.div_self hD0, decide_eq_false (show ¬ 0 < 0 by omega), Bool.and_false]
    have row2 := rowset (i := 0) (.bool false) row
    have ob2 := ob.away row (by decide) 0 (.bool false)
    have oa2 := oa.away row (by decide) 0 (.bool false)
    have h1 := (hr.fr g (get_lt row2) (fun hc => ob2.neRow row2 (by decide) hc)).trans row2
    have h2 := rowset (i := 3) r h1
    have oa3 := oa2.frz hr.fr (fun a b => hab a b)
    refine ⟨he, ⟨va, r, hB, h2, oa3.away h1 (by decide) 3 r, by have h := hr.own.away h1 (by decide) 3 r; exact h⟩, bset ((bset (Below.refl B w) hB).trans hr.below) hB, fun k hk a b c => ?_⟩
    rw [heap_setCell_other _ _ _ _ (by simpa using a)]
    refine (hr.fr k (by simpa using hk) c).trans ?_
    exact heap_setCell_other _ _ _ _ (by simpa using a)
  · rw [decide_eq_true h0, Bool.and_true]
    exact norm_rat g B N D n false va vb w row oa ob hab h0 hD0 hN hD hB hT hg
@[go_sem] theorem f64bits (b : Nat) (w : World) : (callFunc 57 #[.float .f64 b]).run Tryz.prog w = .ok (.value (.int .u64 (b : Int))) w := by
  rw [run_callFunc_extern Tryz.func57 (by kernel_rfl) (by kernel_rfl) (by kernel_rfl) (e := Extern.MathFloatBits.float64bits) (by kernel_rfl)]
  rfl
@[go_sem] theorem f64from (b : Nat) (w : World) : (callFunc 78 #[.int .u64 (b : Int)]).run Tryz.prog w = .ok (.value (.float .f64 b)) w := by
  rw [run_callFunc_extern Tryz.func78 (by kernel_rfl) (by kernel_rfl) (by kernel_rfl) (e := Extern.MathFloatBits.float64frombits) (by kernel_rfl)]
  rfl
structure SfS (g B N D : Nat) (n : Bool) (va vb : Value) (w W : World) : Prop where
  row : W.heap[g]? = some (.cells #[.bool n, va, .bool false, vb] 125 (0, 0))
  oa : Own W B 164 va (cellsW (wds N))
  ob : Own W B 164 vb (cellsW (wds D))
  ab : 0 < sCap va → 0 < sCap vb → sBlk va ≠ sBlk vb
  bl : Below B w W
  tw : DivW W
theorem SfS.drewN {g B N D : Nat} {n : Bool} {va vb : Value} {w W : World} (h : SfS g B N D n va vb w W) (k : Nat) : SfS g B N D n va vb w (W.drewN k) := ⟨h.row, h.oa.drewN k, h.ob.drewN k, h.ab, undrewN' h.bl, h.tw⟩
section
variable {g B N D : Nat} {n : Bool} {va vb : Value} {w W : World}
theorem SfS.start (row : W.heap[g]? = some (.cells #[.bool false, .slice none 0 0, .bool false, .slice none 0 0] 125 (0, 0))) (hT : DivW W) : SfS g B 0 0 false (.slice none 0 0) (.slice none 0 0) W W :=
  ⟨row, Own.nil _ _ _, Own.nil _ _ _, fun h => absurd h (by decide), Below.refl _ _, hT⟩
theorem SfS.neg (h : SfS g B N D n va vb w W) (hB : B ≤ g) (dg : 3 < B) (x : Bool) : SfS g B N D x va vb w (W.setCell ⟨g, 0, none⟩ (.bool x)) := by
  have q := rowset (i := 0) (.bool x) h.row
  refine ⟨q, h.oa.away h.row (by decide) 0 _, h.ob.away h.row (by decide) 0 _, h.ab, bset h.bl hB, ?_⟩
  have t1 := h.tw
  unfold DivW at t1 ⊢
  rw [cell_other (by simp only; omega)]
  exact t1
theorem SfS.norm (h : SfS g B N D n va vb w W) (hB : B ≤ g) (dg : 3 < B) (hD0 : 0 < D) (hN : nw N < 40) (hD : nw D < 40) :
    Calls Tryz.prog 126 #[.pointer (some ⟨g, 0, none⟩)] W fun e w' => e = .returned (.pointer (some ⟨g, 0, none⟩)) ∧ RatP w' B g (n && decide (0 < N)) (N / Nat.gcd N D) (D / Nat.gcd N D) ∧ Below B w w' := by
  refine (norm_full g B N D n va vb W h.row h.oa h.ob h.ab hD0 hN hD hB h.tw dg).mono ?_
  rintro _ w' ⟨rfl, hp⟩
  exact ⟨rfl, hp.rat, h.bl.trans hp.bl⟩
end
end Go.Proofs.YtdepidpgbgfjlaaGreatDoor
namespace Go.Proofs.YtdepidpgbgfjlaaGreatDoor

theorem red_mul (n d k : Nat) (hk : 0 < k) : (n * k) / Nat.gcd (n * k) (d * k) = n / Nat.gcd n d := by
  rw [Nat.gcd_mul_right, Nat.mul_div_mul_right _ _ hk]
end Go.Proofs.YtdepidpgbgfjlaaGreatDoor
namespace Go.Proofs.YtdepidpgbgfjlaaGreatDoor
open Go.RowKit

theorem andNot_low {d s : Nat} (hs : s < 64) (hd : d < 18446744073709551616) (h : d % 2 ^ s = 0) : bits .andNot .u64 (d : Int) (((2 ^ s - 1 : Nat)) : Int) = (d : Int) := by
  have hS : 2 ^ s ≤ 9223372036854775808 := Nat.pow_le_pow_right (show 0 < 2 by decide) (show s ≤ 63 by omega)
  rw [u64_andNot_nat d (2 ^ s - 1) hd (by omega)]
  congr 1
  apply Nat.eq_of_testBit_eq
  intro i
  rw [Nat.testBit_and, show (18446744073709551615 : Nat) - (2 ^ s - 1) = 2 ^ 64 - ((2 ^ s - 1) + 1) by omega, Nat.testBit_two_pow_sub_succ (show 2 ^ s - 1 < 2 ^ 64 by omega), Nat.testBit_two_pow_sub_one]
  by_cases hi : i < s
  · have : d.testBit i = false := by
      have h2 : d = 2 ^ s * (d / 2 ^ s) := by have := Nat.div_add_mod d (2 ^ s); omega
      rw [h2, Nat.testBit_two_pow_mul]; simp [show ¬ s ≤ i by omega]
    rw [this]; rfl
  · by_cases h64 : i < 64
    · simp [hi, h64]
    · rw [Nat.testBit_lt_two_pow (Nat.lt_of_lt_of_le hd (show 18446744073709551616 ≤ 2 ^ i from Nat.pow_le_pow_right (show 0 < 2 by decide) (show 64 ≤ i by omega)))]; rfl
structure Bel (b u : Nat) (w w' : World) : Prop where
  os : w'.os = w.os
  tape : w'.tape = w.tape
  output : w'.output = w.output
  size : w.heap.size ≤ w'.heap.size
  block : ∀ k, k < w.heap.size → k ≠ b → k ≠ u → w'.heap[k]? = w.heap[k]?
theorem Bel.refl (b u : Nat) (w : World) : Bel b u w w := ⟨rfl, rfl, rfl, Nat.le_refl _, fun _ _ _ _ => rfl⟩
theorem Bel.trans {b u : Nat} {w1 w2 w3 : World} (h : Bel b u w1 w2) (k : Bel b u w2 w3) : Bel b u w1 w3 :=
  ⟨k.os.trans h.os, k.tape.trans h.tape, k.output.trans h.output, Nat.le_trans h.size k.size, fun i hi hb hu => (k.block i (Nat.lt_of_lt_of_le hi h.size) hb hu).trans (h.block i hi hb hu)⟩
theorem Bel.below {b u B : Nat} {w w' : World} (h : Bel b u w w') (hB : B ≤ b) (hu : B ≤ u) (hs : B ≤ w.heap.size) : Below B w w' := ⟨h.os, h.tape, h.output, h.size, fun k hk => h.block k (by omega) (by omega) (by omega)⟩
theorem Bel.box {b u i : Nat} {a w : World} {x : Value} (h : Bel b u a w) : Bel b u a (w.setCell ⟨b, i, none⟩ x) :=
  h.trans ⟨rfl, rfl, rfl, by simp [World.setCell], fun k _ hb _ => Below.heap_setCell _ _ _ _ hb⟩
theorem Bel.far {b u i : Nat} {a w : World} {x : Value} (h : Bel b u a w) : Bel b u a (w.setCell ⟨u, i, none⟩ x) :=
  h.trans ⟨rfl, rfl, rfl, by simp [World.setCell], fun j _ _ hu => Below.heap_setCell _ _ _ _ hu⟩
theorem Bel.drew {b u n : Nat} {a w : World} (h : Bel b u a w) : Bel b u a (w.drewN n) := ⟨h.os, h.tape, h.output, h.size, h.block⟩
set_option maxRecDepth 100000 in
set_option maxHeartbeats 1600000 in
theorem round_exactX (b B p m : Nat) (a e : Int) (neg : Bool) (v : Value) (ws : List Nat) (w : World) (h : FltR w b p m a 1 neg v e) (ho : Own w B 164 v (cellsW ws)) (hd : ∀ d ∈ ws, d < 18446744073709551616) (hf : Fits ws p) (h0 : 0 < ws.length) (hl : ws.length ≤ 1000000) (hp0 : 0 < p) (hp : p ≤ 64000000) :
    Calls Tryz.prog 163 #[.pointer (some ⟨b, 0, none⟩), .int .u64 0] w fun e' w' => e' = .returned (.tuple #[]) ∧ FltR w' b p m 0 1 neg v e ∧ Own w' B 164 v (cellsW ws) ∧ Bel b (sBlk v) w w' := by
  obtain ⟨c0, c1, c2, c3, c4, c5, c6⟩ := h.cells
  obtain ⟨f0, f1, f2, f3, f4, f5, f6⟩ := h.free
  have c3' : w.cell? ⟨b, 3, none⟩ = some (.int .u8 1) := c3
  have hS := ho.isS
  have hL : sLen v = ws.length := by rw [ho.len, cellsW_length]
  have R2 := h.s2 0
  have O2 := h.own ho 2 (.int .i8 0)
  have B2 := Bel.box (i := 2) (x := .int .i8 0) (Bel.refl b (sBlk v) w)
  obtain ⟨L, hLw⟩ : ∃ L, L = ws.length := ⟨_, rfl⟩
  rw [← hLw] at hL h0 hl
  have HL := Lib.hid hLw
  unfold Fits at hf
  rw [← hLw] at hf
  rcases hf with hf | ⟨hf1, hf2, hf3⟩
  · have t1 : decide ((L : Int) * 64 ≤ p) = true := decide_eq_true (by omega)
    have FR := Lib.hid R2
    have FO := Lib.hid O2
    have FB := Lib.hid B2
    clear c3 h ho hd hLw R2 O2 B2 HL
    go_enter Tryz.func163, Tryz.ntmps163
    go_wp2
    refine bodyPost_ret (results_none rfl _ _ _) rfl ?_
    exact ⟨rfl, FR.out, FO.out, FB.out⟩
  · have t1 : decide ((L : Int) * 64 ≤ p) = false := decide_eq_false (by omega)
    have HD := Lib.hid hd
    have HO := Lib.hid ho
    have HR2 := Lib.hid R2
    have HO2 := Lib.hid O2
    have HB2 := Lib.hid B2
    have rwO := Lib.hid (O2.rw' hd)
    have e1 : (L : Int) * 64 - (p : Int) - 1 = ((L * 64 - p - 1 : Nat) : Int) := by omega
    obtain ⟨r, hr⟩ : ∃ r, r = L * 64 - p - 1 := ⟨_, rfl⟩
    rw [← hr] at e1
    have hbit : wv ws / 2 ^ r % 2 = 0 := by
      have e3 : 64 * L - p = r + 1 := by omega
      rw [e3] at hf2
      have := Nat.mod_pow_succ (x := wv ws) (b := 2) (k := r)
      rw [hf2] at this
      have hP : 0 < 2 ^ r := Nat.pow_pos (by decide)
      have h2 : 2 ^ r * (wv ws / 2 ^ r % 2) = 0 := by omega
      exact (Nat.mul_eq_zero.1 h2).resolve_left (by omega)
    have hlow : wv ws % 2 ^ r = 0 := by
      have e3 : 64 * L - p = r + 1 := by omega
      rw [e3] at hf2
      have := Nat.mod_pow_succ (x := wv ws) (b := 2) (k := r)
      omega
    have HBit := Lib.hid hbit
    have HLow := Lib.hid hlow
    have hrl : r < 64 * L := by omega
    have e4 : ((p : Int) + 63) / 64 = (L : Int) := by omega
    have e5 : (L : Int) * 64 - (p : Int) = ((L * 64 - p : Nat) : Int) := by omega
    obtain ⟨t, ht⟩ : ∃ t, t = L * 64 - p := ⟨_, rfl⟩
    rw [← ht] at e5
    have ht64 : t < 64 := by omega
    have e1' : (t : Int) - 1 = (r : Int) := by omega
    clear e1
    have hT64 : 2 ^ t ≤ 9223372036854775808 := Nat.pow_le_pow_right (show 0 < 2 by decide) (show t ≤ 63 by omega)
    have hw2 : IntKind.u64.wrap ((2 : Int) ^ t) = ((2 ^ t : Nat) : Int) := by
      rw [show (2 : Int) ^ t = ((2 ^ t : Nat) : Int) by simp, IntKind.wrap_u64]
      generalize 2 ^ t = T at hT64 ⊢
      omega
    have hT0 : 0 < 2 ^ t := Nat.pow_pos (by decide)
    have hcap : 0 < sCap v := by have := hS.le; omega
    have hne : sBlk v ≠ b := ho.ne_row h (by decide) hcap
    have hcw := (ho.rw' hd).cell 0 (by omega)
    rw [Nat.add_zero] at hcw
    have hzlow : ws.getD 0 0 % 2 ^ t = 0 := by
      rw [← wv_dig hd, wdg_zero_eq, ← word_split (show t ≤ 64 by omega), Nat.mul_comm, Nat.mod_mul_right_mod, show t = 64 * L - p by omega]
      exact hf2
    have han := andNot_low ht64 (getD_ltW hd 0) hzlow
    have hset : (cellsW ws).set 0 (.int .u64 ((ws.getD 0 0 : Nat) : Int)) = cellsW ws := by
      rw [cellsW_set]
      congr 1
      cases ws with
      | nil => rfl
      | cons x xs => rfl
    have O3 := O2.set (i := 0) (by rw [cellsW_length]; omega) (.int .u64 ((ws.getD 0 0 : Nat) : Int))
    rw [hset, Nat.add_zero] at O3
    have R3 : FltR ((w.setCell ⟨b, 2, none⟩ (.int .i8 0)).setCell ⟨sBlk v, sOff v, none⟩ (.int .u64 ((ws.getD 0 0 : Nat) : Int))) b p m 0 1 neg v e := (heap_setCell_other _ _ _ _ (by simpa using fun h => hne h.symm)).trans R2
    have B3 := Bel.far (i := sOff v) (x := .int .u64 ((ws.getD 0 0 : Nat) : Int)) B2
    have fz := ho.frozen hcap (sOff v)
    have g0 := getD_ltW hd 0
    obtain ⟨d0, hd0⟩ : ∃ d, d = ws.getD 0 0 := ⟨_, rfl⟩
    rw [← hd0] at hcw han O3 R3 B3 g0
    obtain ⟨T, hT⟩ : ∃ T, T = 2 ^ t := ⟨_, rfl⟩
    rw [← hT] at hw2 hT0 han hT64
    have hT1 : (T : Int) - 1 = ((T - 1 : Nat) : Int) := by omega
    have hne1 : ¬ sBlk v = b := hne
    have hne2 : ¬ b = sBlk v := fun h => hne h.symm
    have FR := Lib.hid R3
    have FO := Lib.hid O3
    have FB := Lib.hid B3
    have z1 : bits .and .u64 0 1 = 0 := by decide +kernel
    have z2 : (bits .or .u64 0 0 != 0) = false := by decide +kernel
    have t2 : decide ((L : Int) < L) = false := decide_eq_false (by omega)
    have HF3 := Lib.hid hf3
    have Hr := Lib.hid hr
    clear hbit hlow hf3 hr hLw hf2 ho hd h R2 O2 B2 c3 ht hzlow hset O3 R3 B3 hd0 hT hne
    go_enter Tryz.func163, Tryz.ntmps163
    go_wp2_with fail
    refine (bit_any v ws r _ rwO.out (by rw [← HL.out]; exact hrl) (by rw [← HL.out]; omega)).mono ?_
    rintro _ _ ⟨rfl, rfl⟩
    rw [HBit.out]
    go_wp2_with fail
    refine (sticky_any v ws r _ rwO.out (by rw [← HL.out]; exact hrl) (by rw [← HL.out]; omega)).mono ?_
    rintro _ _ ⟨rfl, rfl⟩
    rw [stV_zero HLow.out]
    go_wp2
    go_end0
    exact ⟨rfl, FR.out, FO.out, FB.out⟩
theorem round_exact (b B p m : Nat) (a e : Int) (neg : Bool) (v : Value) (ws : List Nat) (w : World) (h : FltR w b p m a 1 neg v e) (hB : B ≤ b) (ho : Own w B 164 v (cellsW ws)) (hd : ∀ d ∈ ws, d < 18446744073709551616) (hf : Fits ws p) (h0 : 0 < ws.length) (hl : ws.length ≤ 1000000) (hp0 : 0 < p) (hp : p ≤ 64000000) :
    Calls Tryz.prog 163 #[.pointer (some ⟨b, 0, none⟩), .int .u64 0] w fun e' w' => e' = .returned (.tuple #[]) ∧ FltR w' b p m 0 1 neg v e ∧ Own w' B 164 v (cellsW ws) ∧ Below B w w' :=
  (round_exactX b B p m a e neg v ws w h ho hd hf h0 hl hp0 hp).mono fun _ _ h => by
    have hc : 0 < sCap v := by have := ho.isS.le; have := ho.len; rw [cellsW_length] at this; omega
    have h1 := ho.lt hc
    exact ⟨h.1, h.2.1, h.2.2.1, h.2.2.2.below hB h1.1 (by omega)⟩
set_option maxRecDepth 100000 in
set_option maxHeartbeats 800000 in
theorem setExp_exact (b B p m f : Nat) (a e x : Int) (neg : Bool) (v : Value) (ws : List Nat) (w : World) (h : FltR w b p m a f neg v e) (hB : B ≤ b) (ho : Own w B 164 v (cellsW ws)) (hd : ∀ d ∈ ws, d < 18446744073709551616) (hf : Fits ws p) (h0 : 0 < ws.length) (hl : ws.length ≤ 1000000) (hp0 : 0 < p) (hp : p ≤ 64000000)
    (hx1 : -2147483648 ≤ x) (hx2 : x ≤ 2147483647) :
    Calls Tryz.prog 170 #[.pointer (some ⟨b, 0, none⟩), .int .i64 x, .int .u64 0] w fun e' w' => e' = .returned (.tuple #[]) ∧ FltR w' b p m 0 1 neg v x ∧ Own w' B 164 v (cellsW ws) ∧ Below B w w' := by
  obtain ⟨c0, c1, c2, c3, c4, c5, c6⟩ := h.cells
  obtain ⟨f0, f1, f2, f3, f4, f5, f6⟩ := h.free
  have hS := ho.isS
  have R2 := Lib.hid ((h.s3 1).s6 x)
  have O2 := Lib.hid ((h.s3 1).own (h.own ho 3 (.int .u8 (1 : Int))) 6 (.int .i32 x))
  have B2 := Lib.hid (bset (i := 6) (u := .int .i32 x) (bset (i := 3) (u := .int .u8 (1 : Int)) (Below.refl B w) hB) hB)
  have HD := Lib.hid hd
  have HF := Lib.hid hf
  clear h ho hd hf
  go_enter Tryz.func170, Tryz.ntmps170
  go_wp2_with fail
  refine (round_exact b B p m a x neg v ws _ R2.out hB O2.out HD.out HF.out h0 hl hp0 hp).mono ?_
  rintro _ w1 ⟨rfl, r1, r2, r3⟩
  have Q := Lib.hid (⟨r1, r2, B2.out.trans r3⟩ : FltR w1 b p m 0 1 neg v x ∧ Own w1 B 164 v (cellsW ws) ∧ Below B w w1)
  clear r1 r2 r3
  go_wp2
  go_end0
  exact ⟨rfl, Q.out⟩
theorem nw_bl {n : Nat} (h : 0 < n) : nw n = (bl n + 63) / 64 := by
  have e := bl_words h
  have h1 := bl_le64 (wdg_lt n (nw n - 1))
  have h2 := bl_pos (Nat.pos_of_ne_zero (wdg_last h))
  have h3 := nw_pos h
  omega
def topN (M : Nat) : List Nat := wdsN (M * 2 ^ (64 * nw M - bl M)) (nw M)
theorem topN_length (M : Nat) : (topN M).length = nw M := wdsN_length _ _
theorem topN_wv {M : Nat} (h : 0 < M) : wv (topN M) = M * 2 ^ (64 * nw M - bl M) := by
  have hb := nw_bl h
  have hbp := bl_pos h
  unfold topN
  rw [wdsN_wv]
  refine Nat.mod_eq_of_lt ?_
  have e : (18446744073709551616 : Nat) ^ nw M = 2 ^ bl M * 2 ^ (64 * nw M - bl M) := by rw [show (18446744073709551616 : Nat) = 2 ^ 64 from rfl, ← Nat.pow_mul, ← Nat.pow_add]; congr 1; omega
  rw [e]
  exact Nat.mul_lt_mul_of_pos_right (lt_bl M) (Nat.pow_pos (by decide))
theorem topN_fits {M p : Nat} (h : 0 < M) (hp : bl M ≤ p) : Fits (topN M) p := by
  have hb := nw_bl h
  have hbp := bl_pos h
  unfold Fits
  rw [topN_length, topN_wv h]
  by_cases hc : 64 * nw M ≤ p
  · exact .inl hc
  · refine .inr ⟨by omega, ?_, by omega⟩
    have e : 64 * nw M - bl M = (64 * nw M - p) + (p - bl M) := by omega
    rw [e, Nat.pow_add, ← Nat.mul_assoc, Nat.mul_comm M, Nat.mul_assoc]
    exact Nat.mul_mod_right _ _
set_option maxRecDepth 100000 in
set_option maxHeartbeats 1600000 in
theorem setInt_exact (b B c Bc p m M : Nat) (a e : Int) (neg0 : Bool) (w : World) (h : FltR w b p m a 0 neg0 (.slice none 0 0) e) (hB : B ≤ b) (hx : IntP w Bc c false M) (hbc : b ≠ c) (h0 : 0 < M) (hM : bl M ≤ p) (hp : p ≤ 64000000) :
    Calls Tryz.prog 106 #[.pointer (some ⟨b, 0, none⟩), .pointer (some ⟨c, 0, none⟩)] w fun e' w' => e' = .returned (.pointer (some ⟨b, 0, none⟩)) ∧ ∃ v, FltR w' b p m 0 1 false v (bl M : Nat) ∧ Own w' B 164 v (cellsW (topN M)) ∧ Below B w w' := by
  obtain ⟨vx, hcB, hrc, hox⟩ := hx
  have hbp := bl_pos h0
  have hnb := nw_bl h0
  have hnp := nw_pos h0
  have hblt := h.lt
  obtain ⟨c0, c1, c2, c3, c4, c5, c6⟩ := h.cells
  obtain ⟨f0, f1, f2, f3, f4, f5, f6⟩ := h.free
  have d0 : w.cell? ⟨c, 0, none⟩ = some (.bool false) := (row_at (i := 0) hrc rfl).1
  have d1 : w.cell? ⟨c, 1, none⟩ = some vx := (row_at (i := 1) hrc rfl).1
  have hS := hox.isS
  have hLx : sLen vx = nw M := by rw [hox.len, cellsW_length, wds_length]
  have hbc1 : ¬ b = c := hbc
  have hbc2 : ¬ c = b := fun h => hbc h.symm
  have tp : ((p : Int) == 0) = false := by rw [beq_eq_false_iff_ne]; omega
  have tl : ((nw M : Int) == 0) = false := by rw [beq_eq_false_iff_ne]; omega
  have R4 := Lib.hid ((h.s2 0).s4 false)
  have V4 := Lib.hid (((h.s2 0).own (h.own hox 2 (.int .i8 0)) 4 (.bool false)).rw' (wds_all M))
  have B4 := Lib.hid (bset (i := 4) (u := .bool false) (bset (i := 2) (u := .int .i8 0) (Below.refl B w) hB) hB)
  have VX := Lib.hid (hox.rw' (wds_all M))
  have HT := Lib.hid (topN_fits h0 hM)
  have H0 := Lib.hid h0
  obtain ⟨L, hL⟩ : ∃ L, L = nw M := ⟨_, rfl⟩
  obtain ⟨l, hl⟩ : ∃ l, l = bl M := ⟨_, rfl⟩
  rw [← hL] at hLx tl hnp hnb
  rw [← hl] at hM hbp hnb ⊢
  have hLl : L ≤ 1000000 := by omega
  have HL := Lib.hid hL
  have Hl := Lib.hid hl
  clear h hrc hox h0 hL hl hnb
  go_enter Tryz.func106, Tryz.ntmps106
  go_wp2_with fail
  refine (intBitLen c 0 vx M w d1 VX.out (by rw [← HL.out]; omega)).mono ?_
  rintro _ _ ⟨rfl, rfl⟩
  rw [← Hl.out]
  go_wp2
  (refine wp_region_hoist 9 (by kernel_rfl) (by kernel_rfl) ⟨fun _ _ _ h => (by first | exact (hQp _ _ _ h).elim | cases h.2.1 | (obtain ⟨_, h3, _⟩ := h.2; cases h3)), fun _ _ h => (by first | exact (hQo _ _ h).elim | cases h.1 | (obtain ⟨_, h3, _⟩ := h; cases h3))⟩ ?_; simp only [List.take_succ_cons, List.take_zero, List.drop_succ_cons, List.drop_zero]; (repeat (go_big_quiet_step (fail))); refine wpQuiet_nil ?_; rintro _ ⟨nq, rfl⟩)
  go_wp2_with fail
  refine (set_nil vx (wds M) _ (V4.out.drewN _) (by rw [wds_length, ← HL.out]; omega)).mono ?_
  rintro _ w5 ⟨r, rfl, ho, hb⟩
  have hSr := ho.isS
  have hb' := undrewN hb
  have R5 := R4.out.below hb'
  have B5 := B4.out.trans (hb'.mono (by simp; omega))
  have O5 : Own w5 B 164 r (cellsW (wds M)) := ho.mono (show B ≤ _ by simp; omega)
  obtain ⟨g0, g1, g2, g3, g4, g5, g6⟩ := R5.cells
  obtain ⟨k0, k1, k2, k3, k4, k5, k6⟩ := R5.free
  have R6 := Lib.hid (R5.s5 r)
  have O6 := Lib.hid (R5.own O5 5 r)
  have B6 := Lib.hid (bset (i := 5) (u := r) B5 hB)
  clear ho hb hb' R5 B5 O5 c0 c1 c2 c3 c4 c5 c6 f0 f1 f2 f3 f4 f5 f6
  go_wp2_with fail
  refine (fnorm_any r M B _ O6.out H0.out (by rw [← HL.out]; omega)).mono ?_
  rintro _ w7 ⟨⟨z, rfl⟩, ho7, hb7, hon7⟩
  have hcap : 0 < sCap r := by
    have h1 := hSr.le
    have h2 : sLen r = nw M := by rw [O6.out.len, cellsW_length, wds_length]
    have := HL.out
    omega
  have hrb := O6.out.ne_row R6.out (by decide) hcap
  have R7 : FltR w7 b p m 0 0 false r e := (hon7 b R6.out.lt hrb.symm).trans R6.out
  have HR7 := Lib.hid R7
  have HO7 := Lib.hid ho7
  have B7 := Lib.hid (B6.out.trans hb7)
  clear R7 ho7 hb7 hon7 hrb g0 g1 g2 g3 g4 g5 g6 k0 k1 k2 k3 k4 k5 k6
  go_wp2_with fail
  refine (setExp_exact b B p m 0 0 e (l : Int) false r (topN M) w7 HR7.out hB HO7.out wdsN_lt HT.out (by rw [topN_length, ← HL.out]; exact hnp) (by rw [topN_length, ← HL.out]; exact hLl) (by omega) hp (by omega) (by omega)).mono ?_
  rintro _ w8 ⟨rfl, r1, r2, r3⟩
  have Q := Lib.hid (⟨r1, r2, B7.out.trans r3⟩ : FltR w8 b p m 0 1 false r (l : Int) ∧ Own w8 B 164 r (cellsW (topN M)) ∧ Below B w w8)
  clear r1 r2 r3
  go_wp2
  go_ret
  exact ⟨rfl, r, Q.out⟩
def SIV (w : World) (B b m : Nat) (x : Int) : Prop :=
  (x = 0 ∧ ∃ v e, FltR w b 64 m 0 0 false v e) ∨
  (x ≠ 0 ∧ ∃ v, FltR w b 64 m 0 1 (decide (x < 0)) v (bl x.natAbs : Nat) ∧ Own w B 164 v (cellsW [x.natAbs * 2 ^ (64 - bl x.natAbs)]))
def topW (xs : List Nat) (k : Nat) : Nat := if k < xs.length then xs.getD (xs.length - 1 - k) 0 else 0
def topV (xs : List Nat) (n : Nat) : Nat := wv xs * 18446744073709551616 ^ n
theorem wdg_mul_pow (n j i : Nat) : wdg (n * 18446744073709551616 ^ j) i = if i < j then 0 else wdg n (i - j) := by
  unfold wdg
  split
  · rename_i h
    obtain ⟨t, rfl⟩ : ∃ t, j = i + 1 + t := ⟨j - i - 1, by omega⟩
    have : n * 18446744073709551616 ^ (i + 1 + t) = 18446744073709551616 ^ i * (18446744073709551616 * (n * 18446744073709551616 ^ t)) := by
      rw [Nat.pow_add, Nat.pow_succ]; grind
    rw [this, Nat.mul_div_cancel_left _ (wpow_pos i)]; omega
  · rename_i h
    obtain ⟨t, rfl⟩ : ∃ t, i = j + t := ⟨i - j, by omega⟩
    rw [Nat.add_sub_cancel_left, Nat.pow_add, ← Nat.div_div_eq_div_mul, Nat.mul_div_cancel _ (wpow_pos j)]
theorem topV_wdg {xs : List Nat} (h : ∀ d ∈ xs, d < 18446744073709551616) {n k : Nat} (hk : k < xs.length + n) : wdg (topV xs n) (xs.length + n - 1 - k) = topW xs k := by
  unfold topV topW
  rw [wdg_mul_pow]
  by_cases h1 : k < xs.length
  · rw [if_neg (by omega), if_pos h1, wv_dig h, show xs.length + n - 1 - k - n = xs.length - 1 - k by omega]
  · rw [if_pos (by omega), if_neg h1]
theorem topV_lt {xs : List Nat} (h : ∀ d ∈ xs, d < 18446744073709551616) (n : Nat) : topV xs n < 18446744073709551616 ^ (xs.length + n) := by
  unfold topV
  rw [Nat.pow_add]
  exact Nat.mul_lt_mul_of_pos_right (wv_lt h) (wpow_pos n)
theorem lt_of_wdg' {x y i : Nat} (he : x / 18446744073709551616 ^ (i + 1) = y / 18446744073709551616 ^ (i + 1)) (h : wdg x i < wdg y i) : x < y := by
  have h1 := wdv_step x i
  have h2 := wdv_step y i
  refine Nat.lt_of_not_le fun hc => ?_
  have := Nat.div_le_div_right (c := 18446744073709551616 ^ i) hc
  omega
def Alike (xs ys : List Nat) (k : Nat) : Prop := topV xs ys.length / 18446744073709551616 ^ (xs.length + ys.length - k) = topV ys xs.length / 18446744073709551616 ^ (xs.length + ys.length - k)
theorem Alike.start {xs ys : List Nat} (hx : ∀ d ∈ xs, d < 18446744073709551616) (hy : ∀ d ∈ ys, d < 18446744073709551616) : Alike xs ys 0 := by
  unfold Alike
  rw [Nat.sub_zero, Nat.div_eq_of_lt (topV_lt hx _), Nat.div_eq_of_lt (by rw [Nat.add_comm]; exact topV_lt hy _)]
theorem Alike.next {xs ys : List Nat} (hx : ∀ d ∈ xs, d < 18446744073709551616) (hy : ∀ d ∈ ys, d < 18446744073709551616) {k : Nat} (hk : k < xs.length + ys.length) (h : Alike xs ys k) (he : topW xs k = topW ys k) : Alike xs ys (k + 1) := by
  unfold Alike at *
  have h1 := topV_wdg hx (n := ys.length) hk
  have h2 := topV_wdg hy (n := xs.length) (show k < ys.length + xs.length by omega)
  rw [Nat.add_comm ys.length] at h2
  obtain ⟨j, hj⟩ : ∃ j, xs.length + ys.length - 1 - k = j := ⟨_, rfl⟩
  rw [hj] at h1 h2
  rw [show xs.length + ys.length - k = j + 1 by omega] at h
  rw [show xs.length + ys.length - (k + 1) = j by omega, wdv_step _ j, wdv_step (topV ys _) j, h, h1, h2, he]
theorem Alike.less {xs ys : List Nat} (hx : ∀ d ∈ xs, d < 18446744073709551616) (hy : ∀ d ∈ ys, d < 18446744073709551616) {k : Nat} (hk : k < xs.length + ys.length) (h : Alike xs ys k) (hl : topW xs k < topW ys k) : topV xs ys.length < topV ys xs.length := by
  unfold Alike at *
  have h1 := topV_wdg hx (n := ys.length) hk
  have h2 := topV_wdg hy (n := xs.length) (show k < ys.length + xs.length by omega)
  rw [Nat.add_comm ys.length] at h2
  obtain ⟨j, hj⟩ : ∃ j, xs.length + ys.length - 1 - k = j := ⟨_, rfl⟩
  rw [hj] at h1 h2
  rw [show xs.length + ys.length - k = j + 1 by omega] at h
  exact lt_of_wdg' h (by rw [h1, h2]; exact hl)
theorem Alike.symm {xs ys : List Nat} {k : Nat} (h : Alike xs ys k) : Alike ys xs k := by
  unfold Alike at *; rw [Nat.add_comm]; exact Eq.symm h
theorem Alike.full {xs ys : List Nat} {k : Nat} (hx : ∀ d ∈ xs, d < 18446744073709551616) (hy : ∀ d ∈ ys, d < 18446744073709551616) (h : Alike xs ys k) (h1 : xs.length ≤ k) (h2 : ys.length ≤ k) : topV xs ys.length = topV ys xs.length := by
  have step : ∀ n, k + n ≤ xs.length + ys.length → Alike xs ys (k + n) := by
    intro n
    induction n with
    | zero => intro _; exact h
    | succ n ih =>
      intro hn
      exact (ih (by omega)).next (k := k + n) hx hy (by omega) (by unfold topW; rw [if_neg (show ¬ k + n < xs.length by omega), if_neg (show ¬ k + n < ys.length by omega)])
  by_cases hk : k ≤ xs.length + ys.length
  · have := step (xs.length + ys.length - k) (by omega)
    rw [show k + (xs.length + ys.length - k) = xs.length + ys.length by omega] at this
    unfold Alike at this
    simpa using this
  · unfold Alike at h
    rw [show xs.length + ys.length - k = 0 by omega] at h
    simpa using h
theorem SIV.below {w w' : World} {B b m : Nat} {x : Int} (h : SIV w B b m x) (hb : Below w.heap.size w w') : SIV w' B b m x := by
  rcases h with ⟨h0, v, e, hF⟩ | ⟨h0, v, hF, ho⟩
  · exact .inl ⟨h0, v, e, hF.below hb⟩
  · exact .inr ⟨h0, v, hF.below hb, ho.below hb⟩
def newF : Obj := .cells #[.int .u32 0, .int .u8 0, .int .i8 0, .int .u8 0, .bool false, .slice none 0 0, .int .i32 0] 155
theorem newF_row (w : World) : FltR (w.alloc newF) w.heap.size 0 0 0 0 false (.slice none 0 0) 0 := box_row (Below.refl _ _)
end Go.Proofs.YtdepidpgbgfjlaaGreatDoor
