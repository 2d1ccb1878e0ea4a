/-
Texts of this proof, joined: FlB FlL RnF. No condition.
-/
import Derived.Test.YtllhnjpnkmjopaaGreatDoorK04
import Derived.Test.YtllhnjpnkmjopaaGreatDoorK05
import Derived.Test.YtllhnjpnkmjopaaGreatDoorK08
import Derived.Laws.BitsAllLaws
namespace Go.Proofs.YtllhnjpnkmjopaaGreatDoor
open Go.RowKit

def fcells (p m : Nat) (a : Int) (f : Nat) (neg : Bool) (v : Value) (e : Int) : Array Value := #[.int .u32 p, .int .u8 m, .int .i8 a, .int .u8 f, .bool neg, v, .int .i32 e]
def FltR (w : World) (b p m : Nat) (a : Int) (f : Nat) (neg : Bool) (v : Value) (e : Int) : Prop := w.heap[b]? = some (.cells (fcells p m a f neg v e) 129 (0, 0))
theorem FltR.cells {w : World} {b p m f : Nat} {a e : Int} {neg : Bool} {v : Value} (h : FltR w b p m a f neg v e) :
    w.cell? ⟨b, 0, none⟩ = some (.int .u32 p) ∧ w.cell? ⟨b, 1, none⟩ = some (.int .u8 m) ∧ w.cell? ⟨b, 2, none⟩ = some (.int .i8 a) ∧ w.cell? ⟨b, 3, none⟩ = some (.int .u8 f) ∧ w.cell? ⟨b, 4, none⟩ = some (.bool neg) ∧ w.cell? ⟨b, 5, none⟩ = some v ∧ w.cell? ⟨b, 6, none⟩ = some (.int .i32 e) :=
  ⟨(row_at (i := 0) h rfl).1, (row_at (i := 1) h rfl).1, (row_at (i := 2) h rfl).1, (row_at (i := 3) h rfl).1, (row_at (i := 4) h rfl).1, (row_at (i := 5) h rfl).1, (row_at (i := 6) h rfl).1⟩
theorem FltR.free {w : World} {b p m f : Nat} {a e : Int} {neg : Bool} {v : Value} (h : FltR w b p m a f neg v e) :
    w.frozen? ⟨b, 0, none⟩ = false ∧ w.frozen? ⟨b, 1, none⟩ = false ∧ w.frozen? ⟨b, 2, none⟩ = false ∧ w.frozen? ⟨b, 3, none⟩ = false ∧ w.frozen? ⟨b, 4, none⟩ = false ∧ w.frozen? ⟨b, 5, none⟩ = false ∧ w.frozen? ⟨b, 6, none⟩ = false :=
  ⟨frozen_of_row w b 0 _ _ h, frozen_of_row w b 1 _ _ h, frozen_of_row w b 2 _ _ h, frozen_of_row w b 3 _ _ h, frozen_of_row w b 4 _ _ h, frozen_of_row w b 5 _ _ h, frozen_of_row w b 6 _ _ h⟩
theorem FltR.lt {w : World} {b p m f : Nat} {a e : Int} {neg : Bool} {v : Value} (h : FltR w b p m a f neg v e) : b < w.heap.size := (heap_alloc_lt (o := .cells #[] 0) h).2
theorem FltR.below {w w' : World} {b p m f : Nat} {a e : Int} {neg : Bool} {v : Value} (h : FltR w b p m a f neg v e) (hb : Below w.heap.size w w') : FltR w' b p m a f neg v e := keep_row hb h
theorem FltR.drewN {w : World} {b p m f : Nat} {a e : Int} {neg : Bool} {v : Value} (h : FltR w b p m a f neg v e) (n : Nat) : FltR (w.drewN n) b p m a f neg v e := h
theorem FltR.s0 {w : World} {b p m f : Nat} {a e : Int} {neg : Bool} {v : Value} (h : FltR w b p m a f neg v e) (x : Nat) : FltR (w.setCell ⟨b, 0, none⟩ (.int .u32 x)) b x m a f neg v e := rowset (i := 0) (.int .u32 x) h
theorem FltR.s1 {w : World} {b p m f : Nat} {a e : Int} {neg : Bool} {v : Value} (h : FltR w b p m a f neg v e) (x : Nat) : FltR (w.setCell ⟨b, 1, none⟩ (.int .u8 x)) b p x a f neg v e := rowset (i := 1) (.int .u8 x) h
theorem FltR.s2 {w : World} {b p m f : Nat} {a e : Int} {neg : Bool} {v : Value} (h : FltR w b p m a f neg v e) (x : Int) : FltR (w.setCell ⟨b, 2, none⟩ (.int .i8 x)) b p m x f neg v e := rowset (i := 2) (.int .i8 x) h
theorem FltR.s3 {w : World} {b p m f : Nat} {a e : Int} {neg : Bool} {v : Value} (h : FltR w b p m a f neg v e) (x : Nat) : FltR (w.setCell ⟨b, 3, none⟩ (.int .u8 x)) b p m a x neg v e := rowset (i := 3) (.int .u8 x) h
theorem FltR.s4 {w : World} {b p m f : Nat} {a e : Int} {neg : Bool} {v : Value} (h : FltR w b p m a f neg v e) (x : Bool) : FltR (w.setCell ⟨b, 4, none⟩ (.bool x)) b p m a f x v e := rowset (i := 4) (.bool x) h
theorem FltR.s5 {w : World} {b p m f : Nat} {a e : Int} {neg : Bool} {v : Value} (h : FltR w b p m a f neg v e) (x : Value) : FltR (w.setCell ⟨b, 5, none⟩ x) b p m a f neg x e := rowset (i := 5) x h
theorem FltR.s6 {w : World} {b p m f : Nat} {a e : Int} {neg : Bool} {v : Value} (h : FltR w b p m a f neg v e) (x : Int) : FltR (w.setCell ⟨b, 6, none⟩ (.int .i32 x)) b p m a f neg v x := rowset (i := 6) (.int .i32 x) h
theorem FltR.own {w : World} {b p m f B : Nat} {a e : Int} {neg : Bool} {v u : Value} {xs : List Value} (h : FltR w b p m a f neg v e) (ho : Own w B 116 u xs) (i : Nat) (x : Value) : Own (w.setCell ⟨b, i, none⟩ x) B 116 u xs :=
  ho.away h (by decide) i x
theorem andNot_low {d s : Nat} (hs : s < 64) (hd : d < 18446744073709551616) (h : d % 2 ^ s = 0) : bits .andNot .u64 (d : Int) (((2 ^ s - 1 : Nat)) : Int) = (d : Int) := by
  have hS : 2 ^ s ≤ 9223372036854775808 := Nat.pow_le_pow_right (show 0 < 2 by decide) (show s ≤ 63 by omega)
  rw [u64_andNot_nat d (2 ^ s - 1) hd (by omega)]
  congr 1
  apply Nat.eq_of_testBit_eq
  intro i
  rw [Nat.testBit_and, show (18446744073709551615 : Nat) - (2 ^ s - 1) = 2 ^ 64 - ((2 ^ s - 1) + 1) by omega, Nat.testBit_two_pow_sub_succ (show 2 ^ s - 1 < 2 ^ 64 by omega), Nat.testBit_two_pow_sub_one]
  by_cases hi : i < s
  · have : d.testBit i = false := by
      have h2 : d = 2 ^ s * (d / 2 ^ s) := by have := Nat.div_add_mod d (2 ^ s); omega
      rw [h2, Nat.testBit_two_pow_mul]; simp [show ¬ s ≤ i by omega]
    rw [this]; rfl
  · by_cases h64 : i < 64
    · simp [hi, h64]
    · rw [Nat.testBit_lt_two_pow (Nat.lt_of_lt_of_le hd (show 18446744073709551616 ≤ 2 ^ i from Nat.pow_le_pow_right (show 0 < 2 by decide) (show 64 ≤ i by omega)))]; rfl
structure Bel (b u : Nat) (w w' : World) : Prop where
  os : w'.os = w.os
  tape : w'.tape = w.tape
  output : w'.output = w.output
  size : w.heap.size ≤ w'.heap.size
  block : ∀ k, k < w.heap.size → k ≠ b → k ≠ u → w'.heap[k]? = w.heap[k]?
theorem Bel.refl (b u : Nat) (w : World) : Bel b u w w := ⟨rfl, rfl, rfl, Nat.le_refl _, fun _ _ _ _ => rfl⟩
theorem Bel.trans {b u : Nat} {w1 w2 w3 : World} (h : Bel b u w1 w2) (k : Bel b u w2 w3) : Bel b u w1 w3 :=
  ⟨k.os.trans h.os, k.tape.trans h.tape, k.output.trans h.output, Nat.le_trans h.size k.size, fun i hi hb hu => (k.block i (Nat.lt_of_lt_of_le hi h.size) hb hu).trans (h.block i hi hb hu)⟩
theorem Bel.below {b u B : Nat} {w w' : World} (h : Bel b u w w') (hB : B ≤ b) (hu : B ≤ u) (hs : B ≤ w.heap.size) : Below B w w' := ⟨h.os, h.tape, h.output, h.size, fun k hk => h.block k (by omega) (by omega) (by omega)⟩
theorem bel_only {b u B n : Nat} {w w' : World} (h : Below B (w.drewN n) w') (ho : Only u (w.drewN n) w') : Bel b u w w' := ⟨h.os, h.tape, h.output, h.size, fun k hk _ hu => ho k hk hu⟩
theorem Bel.box {b u i : Nat} {a w : World} {x : Value} (h : Bel b u a w) : Bel b u a (w.setCell ⟨b, i, none⟩ x) :=
  h.trans ⟨rfl, rfl, rfl, by simp [World.setCell], fun k _ hb _ => Below.heap_setCell _ _ _ _ hb⟩
theorem Bel.far {b u i : Nat} {a w : World} {x : Value} (h : Bel b u a w) : Bel b u a (w.setCell ⟨u, i, none⟩ x) :=
  h.trans ⟨rfl, rfl, rfl, by simp [World.setCell], fun j _ _ hu => Below.heap_setCell _ _ _ _ hu⟩
theorem Bel.drew {b u n : Nat} {a w : World} (h : Bel b u a w) : Bel b u a (w.drewN n) := ⟨h.os, h.tape, h.output, h.size, h.block⟩
set_option maxRecDepth 100000 in
set_option maxHeartbeats 1600000 in
theorem round_exactX (b B p m : Nat) (a e : Int) (neg : Bool) (v : Value) (ws : List Nat) (w : World) (h : FltR w b p m a 1 neg v e) (ho : Own w B 116 v (cellsW ws)) (hd : ∀ d ∈ ws, d < 18446744073709551616) (hf : Fits ws p) (h0 : 0 < ws.length) (hl : ws.length ≤ 1000000) (hp0 : 0 < p) (hp : p ≤ 64000000) :
    Calls Tryz.prog 108 #[.pointer (some ⟨b, 0, none⟩), .int .u64 0] w fun e' w' => e' = .returned (.tuple #[]) ∧ FltR w' b p m 0 1 neg v e ∧ Own w' B 116 v (cellsW ws) ∧ Bel b (sBlk v) w w' := by
  obtain ⟨c0, c1, c2, c3, c4, c5, c6⟩ := h.cells
  obtain ⟨f0, f1, f2, f3, f4, f5, f6⟩ := h.free
  have c3' : w.cell? ⟨b, 3, none⟩ = some (.int .u8 1) := c3
  have hS := ho.isS
  have hL : sLen v = ws.length := by rw [ho.len, cellsW_length]
  have R2 := h.s2 0
  have O2 := h.own ho 2 (.int .i8 0)
  have B2 := Bel.box (i := 2) (x := .int .i8 0) (Bel.refl b (sBlk v) w)
  obtain ⟨L, hLw⟩ : ∃ L, L = ws.length := ⟨_, rfl⟩
  rw [← hLw] at hL h0 hl
  have HL := Lib.hid hLw
  unfold Fits at hf
  rw [← hLw] at hf
  rcases hf with hf | ⟨hf1, hf2, hf3⟩
  · have t1 : decide ((L : Int) * 64 ≤ p) = true := decide_eq_true (by omega)
    have FR := Lib.hid R2
    have FO := Lib.hid O2
    have FB := Lib.hid B2
    clear c3 h ho hd hLw R2 O2 B2 HL
    go_enter Tryz.func108, Tryz.ntmps108
    go_wp2
    refine bodyPost_ret (results_none rfl _ _ _) rfl ?_
    exact ⟨rfl, FR.out, FO.out, FB.out⟩
  · have t1 : decide ((L : Int) * 64 ≤ p) = false := decide_eq_false (by omega)
    have HD := Lib.hid hd
    have HO := Lib.hid ho
    have HR2 := Lib.hid R2
    have HO2 := Lib.hid O2
    have HB2 := Lib.hid B2
    have rwO := Lib.hid (O2.rw' hd)
    have e1 : (L : Int) * 64 - (p : Int) - 1 = ((L * 64 - p - 1 : Nat) : Int) := by omega
    obtain ⟨r, hr⟩ : ∃ r, r = L * 64 - p - 1 := ⟨_, rfl⟩
    rw [← hr] at e1
    have hbit : wv ws / 2 ^ r % 2 = 0 := by
      have e3 : 64 * L - p = r + 1 := by omega
      rw [e3] at hf2
      have := Nat.mod_pow_succ (x := wv ws) (b := 2) (k := r)
      rw [hf2] at this
      have hP : 0 < 2 ^ r := Nat.pow_pos (by decide)
      have h2 : 2 ^ r * (wv ws / 2 ^ r % 2) = 0 := by omega
      exact (Nat.mul_eq_zero.1 h2).resolve_left (by omega)
    have hlow : wv ws % 2 ^ r = 0 := by
      have e3 : 64 * L - p = r + 1 := by omega
      rw [e3] at hf2
      have := Nat.mod_pow_succ (x := wv ws) (b := 2) (k := r)
      omega
    have HBit := Lib.hid hbit
    have HLow := Lib.hid hlow
    have hrl : r < 64 * L := by omega
    have e4 : ((p : Int) + 63) / 64 = (L : Int) := by omega
    have e5 : (L : Int) * 64 - (p : Int) = ((L * 64 - p : Nat) : Int) := by omega
    obtain ⟨t, ht⟩ : ∃ t, t = L * 64 - p := ⟨_, rfl⟩
    rw [← ht] at e5
    have ht64 : t < 64 := by omega
    have e1' : (t : Int) - 1 = (r : Int) := by omega
    clear e1
    have hT64 : 2 ^ t ≤ 9223372036854775808 := Nat.pow_le_pow_right (show 0 < 2 by decide) (show t ≤ 63 by omega)
    have hw2 : IntKind.u64.wrap ((2 : Int) ^ t) = ((2 ^ t : Nat) : Int) := by
      rw [show (2 : Int) ^ t = ((2 ^ t : Nat) : Int) by simp, IntKind.wrap_u64]
      generalize 2 ^ t = T at hT64 ⊢
      omega
    have hT0 : 0 < 2 ^ t := Nat.pow_pos (by decide)
    have hcap : 0 < sCap v := by have := hS.le; omega
    have hne : sBlk v ≠ b := ho.ne_row h (by decide) hcap
    have hcw := (ho.rw' hd).cell 0 (by omega)
    rw [Nat.add_zero] at hcw
    have hzlow : ws.getD 0 0 % 2 ^ t = 0 := by
      rw [← wv_dig hd, wdg_zero_eq, ← word_split (show t ≤ 64 by omega), Nat.mul_comm, Nat.mod_mul_right_mod, show t = 64 * L - p by omega]
      exact hf2
    have han := andNot_low ht64 (getD_ltW hd 0) hzlow
    have hset : (cellsW ws).set 0 (.int .u64 ((ws.getD 0 0 : Nat) : Int)) = cellsW ws := by
      rw [cellsW_set]
      congr 1
      cases ws with
      | nil => rfl
      | cons x xs => rfl
    have O3 := O2.set (i := 0) (by rw [cellsW_length]; omega) (.int .u64 ((ws.getD 0 0 : Nat) : Int))
    rw [hset, Nat.add_zero] at O3
    have R3 : FltR ((w.setCell ⟨b, 2, none⟩ (.int .i8 0)).setCell ⟨sBlk v, sOff v, none⟩ (.int .u64 ((ws.getD 0 0 : Nat) : Int))) b p m 0 1 neg v e := (heap_setCell_other _ _ _ _ (by simpa using fun h => hne h.symm)).trans R2
    have B3 := Bel.far (i := sOff v) (x := .int .u64 ((ws.getD 0 0 : Nat) : Int)) B2
    have fz := ho.frozen hcap (sOff v)
    have g0 := getD_ltW hd 0
    obtain ⟨d0, hd0⟩ : ∃ d, d = ws.getD 0 0 := ⟨_, rfl⟩
    rw [← hd0] at hcw han O3 R3 B3 g0
    obtain ⟨T, hT⟩ : ∃ T, T = 2 ^ t := ⟨_, rfl⟩
    rw [← hT] at hw2 hT0 han hT64
    have hT1 : (T : Int) - 1 = ((T - 1 : Nat) : Int) := by omega
    have hne1 : ¬ sBlk v = b := hne
    have hne2 : ¬ b = sBlk v := fun h => hne h.symm
    have FR := Lib.hid R3
    have FO := Lib.hid O3
    have FB := Lib.hid B3
    have z1 : bits .and .u64 0 1 = 0 := by decide +kernel
    have z2 : (bits .or .u64 0 0 != 0) = false := by decide +kernel
    have t2 : decide ((L : Int) < L) = false := decide_eq_false (by omega)
    have HF3 := Lib.hid hf3
    have Hr := Lib.hid hr
    clear hbit hlow hf3 hr hLw hf2 ho hd h R2 O2 B2 c3 ht hzlow hset O3 R3 B3 hd0 hT hne
    go_enter Tryz.func108, Tryz.ntmps108
    go_wp2_with fail
    refine (bit_any v ws r _ rwO.out (by rw [← HL.out]; exact hrl) (by rw [← HL.out]; omega)).mono ?_
    rintro _ _ ⟨rfl, rfl⟩
    rw [HBit.out]
    go_wp2_with fail
    refine (sticky_any v ws r _ rwO.out (by rw [← HL.out]; exact hrl) (by rw [← HL.out]; omega)).mono ?_
    rintro _ _ ⟨rfl, rfl⟩
    rw [stV_zero HLow.out]
    go_wp2
    go_end0
    exact ⟨rfl, FR.out, FO.out, FB.out⟩
theorem round_exact (b B p m : Nat) (a e : Int) (neg : Bool) (v : Value) (ws : List Nat) (w : World) (h : FltR w b p m a 1 neg v e) (hB : B ≤ b) (ho : Own w B 116 v (cellsW ws)) (hd : ∀ d ∈ ws, d < 18446744073709551616) (hf : Fits ws p) (h0 : 0 < ws.length) (hl : ws.length ≤ 1000000) (hp0 : 0 < p) (hp : p ≤ 64000000) :
    Calls Tryz.prog 108 #[.pointer (some ⟨b, 0, none⟩), .int .u64 0] w fun e' w' => e' = .returned (.tuple #[]) ∧ FltR w' b p m 0 1 neg v e ∧ Own w' B 116 v (cellsW ws) ∧ Below B w w' :=
  (round_exactX b B p m a e neg v ws w h ho hd hf h0 hl hp0 hp).mono fun _ _ h => by
    have hc : 0 < sCap v := by have := ho.isS.le; have := ho.len; rw [cellsW_length] at this; omega
    have h1 := ho.lt hc
    exact ⟨h.1, h.2.1, h.2.2.1, h.2.2.2.below hB h1.1 (by omega)⟩
def RndQ (u B b p m : Nat) (neg : Bool) (s N : Nat) (X : Int) (w w' : World) : Prop :=
  ∃ v ws e, FltR w' b p m (rA p m neg s N) 1 neg v e ∧ Own w' B 116 v (cellsW ws) ∧ Good ws p ∧ deq (wv ws) (e - 64 * (ws.length : Int)) (rQ p m neg s N) (X + rk p N) ∧ sBlk v = u ∧ Bel b u w w'
def RndP (B b p m : Nat) (neg : Bool) (s N : Nat) (X : Int) (w w' : World) : Prop :=
  ∃ v ws e, FltR w' b p m (rA p m neg s N) 1 neg v e ∧ Own w' B 116 v (cellsW ws) ∧ Good ws p ∧ deq (wv ws) (e - 64 * (ws.length : Int)) (rQ p m neg s N) (X + rk p N) ∧ Below B w w'
theorem RndQ.toP {u B b p m s N : Nat} {neg : Bool} {X : Int} {w w' : World} (h : RndQ u B b p m neg s N X w w') (hB : B ≤ b) (hu : B ≤ u) (hs : B ≤ w.heap.size) : RndP B b p m neg s N X w w' := by
  obtain ⟨v, ws, e, h1, h2, h3, h4, -, h5⟩ := h
  exact ⟨v, ws, e, h1, h2, h3, h4, h5.below hB hu hs⟩
def RndM (u B b p m : Nat) (neg : Bool) (s N n t : Nat) (X : Int) (w w' : World) : Prop :=
  ∃ v ws e, FltR w' b p m (rA p m neg s N) 1 neg v e ∧ Own w' B 116 v (cellsW ws) ∧ ws.length = n ∧ (∀ d ∈ ws, d < 18446744073709551616) ∧ 2 ^ (64 * n - 1) ≤ wv ws ∧ deq (wv ws / 2 ^ t * 2 ^ t) (e - 64 * (n : Int)) (rQ p m neg s N) (X + rk p N) ∧ sBlk v = u ∧ Bel b u w w'
theorem rnd_setup {ws : List Nat} {p : Nat} (hd : ∀ d ∈ ws, d < 18446744073709551616) (hp0 : 0 < p) (hpL : p < 64 * ws.length) (htop : 2 ^ (64 * ws.length - 1) ≤ wv ws) {r n t : Nat} (hr : r = 64 * ws.length - p - 1) (hn : n = (p + 63) / 64) (ht : t = 64 * n - p) :
    bl (wv ws) = 64 * ws.length ∧ rk p (wv ws) = r + 1 ∧ n ≤ ws.length ∧ 0 < n ∧ t < 64 ∧ t + p = 64 * n ∧ (∀ d ∈ ws.drop (ws.length - n), d < 18446744073709551616) ∧ (ws.drop (ws.length - n)).length = n ∧
      wv (ws.drop (ws.length - n)) / 2 ^ t = wv ws / 2 ^ rk p (wv ws) ∧ wv (ws.drop (ws.length - n)) < 2 ^ (64 * n) ∧ 2 ^ (64 * n - 1) ≤ wv (ws.drop (ws.length - n)) := by
  have h4 := wv_lt hd
  rw [w_two] at h4
  have hb := bl_of (k := 64 * ws.length - 1) htop (by rw [show 64 * ws.length - 1 + 1 = 64 * ws.length by omega]; exact h4)
  have hnl : n ≤ ws.length := by omega
  have hk : rk p (wv ws) = r + 1 := by unfold rk; omega
  have hdd : ∀ d ∈ ws.drop (ws.length - n), d < 18446744073709551616 := fun d h => hd d (List.mem_of_mem_drop h)
  have hlen : (ws.drop (ws.length - n)).length = n := by rw [List.length_drop]; omega
  have hlt := wv_lt hdd
  rw [hlen, w_two] at hlt
  have hv := wv_drop hd (show ws.length - n ≤ ws.length by omega)
  refine ⟨by omega, hk, hnl, by omega, by omega, by omega, hdd, hlen, ?_, hlt, ?_⟩
  · rw [hv, w_two, Nat.div_div_eq_div_mul, ← Nat.pow_add, hk]; congr 2; omega
  · rw [hv, w_two, Nat.le_div_iff_mul_le (Nat.two_pow_pos _), ← Nat.pow_add]
    exact Nat.le_trans (Nat.pow_le_pow_right (by decide) (by omega)) htop
theorem fin_a {N3 Q n t p L r : Nat} {e : Int} (h : N3 / 2 ^ t = Q) (ht : t + p = 64 * n) (hr : r + 1 + p = 64 * L) : deq (N3 / 2 ^ t * 2 ^ t) (e - 64 * (n : Int)) Q (e - 64 * (L : Int) + ((r + 1 : Nat) : Int)) := by
  rw [h]
  refine ⟨0, t, by simp, ?_⟩
  push_cast; omega
theorem fin_b {x n t p L r : Nat} {e : Int} (hx : x < 2 ^ t) (hn : 0 < n) (hp : 0 < p) (ht : t + p = 64 * n) (hr : r + 1 + p = 64 * L) : deq ((2 ^ (64 * n - 1) + x) / 2 ^ t * 2 ^ t) (e + 1 - 64 * (n : Int)) (2 ^ p) (e - 64 * (L : Int) + ((r + 1 : Nat) : Int)) := by
  have e1 : (2 ^ (64 * n - 1) + x) / 2 ^ t = 2 ^ (p - 1) := by
    rw [show 64 * n - 1 = t + (p - 1) by omega, Nat.pow_add, Nat.mul_add_div (Nat.two_pow_pos t), Nat.div_eq_of_lt hx]; rfl
  rw [e1, ← Nat.pow_add]
  refine ⟨1, t, ?_, ?_⟩
  · rw [← Nat.pow_add, ← Nat.pow_add]; congr 1; omega
  · push_cast; omega
theorem and1 {x : Nat} (h : x ≤ 1) : bits .and .u64 (x : Int) 1 = (x : Int) := by
  rcases (by omega : x = 0 ∨ x = 1) with rfl | rfl <;> decide +kernel
theorem or01 {x y : Nat} (hx : x ≤ 1) (hy : y ≤ 1) : (bits .or .u64 (x : Int) (y : Int) != 0) = !(decide (x = 0) && decide (y = 0)) := by
  rcases (by omega : x = 0 ∨ x = 1) with rfl | rfl <;> rcases (by omega : y = 0 ∨ y = 1) with rfl | rfl <;> decide +kernel
def nav : List Nat → Code → Code
  | [], c => c
  | 1 :: ks, .seq a _ => nav ks a
  | 2 :: ks, .seq _ b => nav ks b
  | 3 :: ks, .cond _ t _ => nav ks t
  | 4 :: ks, .cond _ _ e => nav ks e
  | 5 :: ks, .block _ b => nav ks b
  | _, c => c
def fbody (f : Func) : Code := f.body.getD .skip
end Go.Proofs.YtllhnjpnkmjopaaGreatDoor
