/-
Texts of this proof, joined: RnL StA StB StC TzA TzB TzC TzD InF TzE SrE SrF TzF TzG LwA StE SbA. No condition.
-/
import Derived.Test.YtlgnaioodnhkjaaK03
import Derived.Test.YtlgnaioodnhkjaaK05
import Derived.Test.YtlgnaioodnhkjaaK08
import Derived.Test.YtlgnaioodnhkjaaK11
import Derived.Test.YtlgnaioodnhkjaaK12
import Derived.Test.YtlgnaioodnhkjaaK15
import Derived.Test.YtlgnaioodnhkjaaK20
import Derived.Lib.TrailingZeros
import Derived.Shelf.Spec.TrailingZeros
/-
Floats: round, setExpAndRound, any mode; a Float's value. No condition.
-/
namespace Go.Proofs.Ytlgnaioodnhkjaa
open Go.RowKit

theorem rnd_fits {ws : List Nat} {p m : Nat} (neg : Bool) (h : Good ws p) (X : Int) : rA p m neg 0 (wv ws) = 0 ∧ deq (rQ p m neg 0 (wv ws)) (X + rk p (wv ws)) (wv ws) X := by
  have hb := h.bl
  obtain ⟨-, -, -, -, hf⟩ := h
  rcases hf with hf | ⟨hf1, hf2, -⟩
  · obtain ⟨k0, q0, a0⟩ := rQ_fits (p := p) (m := m) (M := wv ws) neg (by omega)
    rw [k0, q0, a0]
    exact ⟨rfl, 0, 0, rfl, by omega⟩
  · have hk : rk p (wv ws) = 64 * ws.length - p := by unfold rk; rw [hb]
    have hl : rL p 0 (wv ws) = 0 := by unfold rL; rw [hk, hf2]; exact lef_exact _
    have hq : rQ p m neg 0 (wv ws) = wv ws / 2 ^ (64 * ws.length - p) := by unfold rQ rU; rw [hl, awy_zero, hk]; simp
    refine ⟨by unfold rA; rw [if_pos hl], ?_⟩
    rw [hq, hk]
    refine ⟨64 * ws.length - p, 0, ?_, by omega⟩
    rw [Nat.pow_zero, Nat.mul_one]
    exact Nat.div_mul_cancel (Nat.dvd_of_mod_eq_zero hf2)
set_option maxRecDepth 100000 in
theorem round_any (b B p m s : Nat) (a e : Int) (neg : Bool) (v : Value) (ws : List Nat) (w : World) (h : FltR w b p m a 1 neg v e) (hB : B ≤ b) (ho : Own w B 112 v (cellsW ws)) (hd : ∀ d ∈ ws, d < 18446744073709551616)
    (h0 : 0 < ws.length) (htop : 2 ^ (64 * ws.length - 1) ≤ wv ws) (hl : ws.length ≤ 1000000) (hp0 : 0 < p) (hp : p ≤ 64000000) (hm : m ≤ 5) (hs : s ≤ 1) (hsp : s = 0 ∨ p < 64 * ws.length) (he1 : -2147483648 ≤ e) (he2 : e < 2147483647) :
    Calls Try.prog 78 #[.pointer (some ⟨b, 0, none⟩), .int .u64 s] w fun e' w' => e' = .returned (.tuple #[]) ∧ RndP B b p m neg s (wv ws) (e - 64 * (ws.length : Int)) w w' := by
  by_cases hpL : p < 64 * ws.length
  · exact round_cut b B p m s a e neg v ws w h hB ho hd htop hpL hl hp0 hp hm hs he1 he2
  · have hs0 : s = 0 := by omega
    subst hs0
    have hf : Fits ws p := .inl (by omega)
    have hg : Good ws p := ⟨h0, hl, hd, htop, hf⟩
    have hc := round_exact b B p m a e neg v ws w h hB ho hd hf h0 hl hp0 hp
    refine Calls.mono hc ?_
    rintro _ w' ⟨rfl, r1, r2, r3⟩
    obtain ⟨k1, k2⟩ := rnd_fits (m := m) neg hg (e - 64 * (ws.length : Int))
    exact ⟨rfl, v, ws, e, by rw [k1]; exact r1, r2, hg, k2.symm, r3⟩
set_option maxRecDepth 100000 in
set_option maxHeartbeats 800000 in
theorem setExp_any (b B p m f s : Nat) (a e x : Int) (neg : Bool) (v : Value) (ws : List Nat) (w : World) (h : FltR w b p m a f neg v e) (hB : B ≤ b) (ho : Own w B 112 v (cellsW ws)) (hd : ∀ d ∈ ws, d < 18446744073709551616)
    (h0 : 0 < ws.length) (htop : 2 ^ (64 * ws.length - 1) ≤ wv ws) (hl : ws.length ≤ 1000000) (hp0 : 0 < p) (hp : p ≤ 64000000) (hm : m ≤ 5) (hs : s ≤ 1) (hsp : s = 0 ∨ p < 64 * ws.length) (hx1 : -2147483648 ≤ x) (hx2 : x < 2147483647) :
    Calls Try.prog 93 #[.pointer (some ⟨b, 0, none⟩), .int .i64 x, .int .u64 s] w fun e' w' => e' = .returned (.tuple #[]) ∧ RndP B b p m neg s (wv ws) (x - 64 * (ws.length : Int)) w w' := by
  obtain ⟨c0, c1, c2, c3, c4, c5, c6⟩ := h.cells
  obtain ⟨f0, f1, f2, f3, f4, f5, f6⟩ := h.free
  have hS := ho.isS
  have R2 := Lib.hid ((h.s3 1).s6 x)
  have O2 := Lib.hid ((h.s3 1).own (h.own ho 3 (.int .u8 (1 : Int))) 6 (.int .i32 x))
  have B2 := Lib.hid (bset (i := 6) (u := .int .i32 x) (bset (i := 3) (u := .int .u8 (1 : Int)) (Below.refl B w) hB) hB)
  have HD := Lib.hid hd
  have HT := Lib.hid htop
  have HS := Lib.hid hsp
  clear h ho hd htop hsp
  go_enter Try.func93, Try.ntmps93
  go_wp2_with fail
  refine (round_any b B p m s a x neg v ws _ R2.out hB O2.out HD.out h0 HT.out hl hp0 hp hm hs HS.out hx1 hx2).mono ?_
  rintro _ w1 ⟨rfl, v1, ws1, e1, r1, r2, r3, r4, r5⟩
  have Q : Hid (RndP B b p m neg s (wv ws) (x - 64 * (ws.length : Int)) w w1) := Lib.hid ⟨v1, ws1, e1, r1, r2, r3, r4, B2.out.trans r5⟩
  clear r1 r2 r3 r4 r5
  go_wp2
  go_end0
  exact ⟨rfl, Q.out⟩
/-- A Float with its value: of a finite one M times 2 to X. -/
def FVal (w : World) (B b p m : Nat) (a : Int) (f : Nat) (neg : Bool) (M : Nat) (X : Int) : Prop :=
  ∃ v e, FltR w b p m a f neg v e ∧ (f = 1 → 0 < M ∧ ∃ ws, Own w B 112 v (cellsW ws) ∧ Good ws p ∧ deq (wv ws) (e - 64 * (ws.length : Int)) M X)
theorem FVal.below {w w' : World} {B b p m f : Nat} {a : Int} {neg : Bool} {M : Nat} {X : Int} (h : FVal w B b p m a f neg M X) (hb : Below w.heap.size w w') : FVal w' B b p m a f neg M X := by
  obtain ⟨v, e, h1, h3⟩ := h
  refine ⟨v, e, h1.below hb, fun hf => ?_⟩
  obtain ⟨h4, ws, h5, h6, h7⟩ := h3 hf
  exact ⟨h4, ws, h5.below hb, h6, h7⟩
theorem topN_good {M p : Nat} (h : 0 < M) (hM : bl M ≤ p) (hl : nw M ≤ 1000000) : Good (topN M) p := by
  have hb := nw_bl h
  have hbp := bl_pos h
  refine ⟨by rw [topN_length]; exact nw_pos h, by rw [topN_length]; exact hl, wdsN_lt, ?_, topN_fits h hM⟩
  rw [topN_length, topN_wv h, show 64 * nw M - 1 = (bl M - 1) + (64 * nw M - bl M) by omega, Nat.pow_add]
  exact Nat.mul_le_mul_right _ (bl_ge h)
/-- What impl.float gives. -/
theorem FloatAt.val {w : World} {B g p m f M : Nat} {neg : Bool} {e : Int} (h : FloatAt w B g p m f neg M e) (h1 : f = 1 → 0 < M ∧ bl M ≤ p ∧ nw M ≤ 1000000) : FVal w B g p m 0 f neg M e := by
  obtain ⟨-, r, x, h2, h3⟩ := h
  refine ⟨r, x, h2, fun hf => ?_⟩
  obtain ⟨k1, k2, k3⟩ := h1 hf
  obtain ⟨k4, k5⟩ := h3 hf
  have hb := nw_bl k1
  refine ⟨k1, topN M, k5, topN_good k1 k2 k3, ?_⟩
  rw [topN_wv k1, topN_length, k4]
  refine ⟨0, 64 * nw M - bl M, by simp, ?_⟩
  omega
/-- What round gives is a Float's value. -/
theorem RndP.val {B b p m s N : Nat} {neg : Bool} {X : Int} {w w' : World} (h : RndP B b p m neg s N X w w') (hN : 0 < rQ p m neg s N) : FVal w' B b p m (rA p m neg s N) 1 neg (rQ p m neg s N) (X + rk p N) := by
  obtain ⟨v, ws, e, h1, h2, h3, h4, -⟩ := h
  exact ⟨v, e, h1, fun _ => ⟨hN, ws, h2, h3, h4⟩⟩
end Go.Proofs.Ytlgnaioodnhkjaa

/-
Floats: Set of a new receiver from another Float. No condition.
-/
namespace Go.Proofs.Ytlgnaioodnhkjaa
open Go.RowKit

theorem rQ_pos {p m M : Nat} (neg : Bool) (s : Nat) (hp : 0 < p) (hM : 0 < M) : 0 < rQ p m neg s M := by
  have h : 0 < M / 2 ^ rk p M := by
    rcases Nat.lt_or_ge p (bl M) with h | h
    · have := (rQ_bound (m := m) neg s hp h).1
      have := Nat.two_pow_pos (p - 1)
      omega
    · have h0 : rk p M = 0 := by unfold rk; omega
      rw [h0, Nat.pow_zero, Nat.div_one]; exact hM
  unfold rQ; omega
theorem Good.posv {ws : List Nat} {p : Nat} (h : Good ws p) : 0 < wv ws := Nat.lt_of_lt_of_le (Nat.two_pow_pos _) h.2.2.2.1
theorem Good.wide {ws : List Nat} {p q : Nat} (h : Good ws p) (hpq : p ≤ q) : Good ws q := by
  obtain ⟨h1, h2, h3, h4, h5⟩ := h
  refine ⟨h1, h2, h3, h4, ?_⟩
  rcases h5 with h5 | ⟨h5, h6, h7⟩
  · exact .inl (by omega)
  · by_cases hq : 64 * ws.length ≤ q
    · exact .inl hq
    · refine .inr ⟨by omega, ?_, by omega⟩
      rw [show 64 * ws.length - p = (64 * ws.length - q) + (q - p) by omega, Nat.pow_add] at h6
      have h8 := Nat.mod_mul_right_mod (wv ws) (2 ^ (64 * ws.length - q)) (2 ^ (q - p))
      rw [h6] at h8; exact h8.symm.trans (Nat.zero_mod _) |>.symm ▸ rfl
/-- The precision of a result. -/
def pOf (p0 p : Nat) : Nat := if p0 = 0 then p else p0
/-- What holds of a Float that holds a value of N times 2 to X, rounded. -/
theorem fval_rnd {w : World} {B b p m : Nat} {neg : Bool} {v : Value} {e : Int} {ws : List Nat} (h : FltR w b p m 0 1 neg v e) (ho : Own w B 112 v (cellsW ws)) (hg : Good ws p) (hp : 0 < p) :
    FVal w B b p m (rA p m neg 0 (wv ws)) 1 neg (rQ p m neg 0 (wv ws)) (e - 64 * (ws.length : Int) + rk p (wv ws)) := by
  obtain ⟨k1, k2⟩ := rnd_fits (m := m) neg hg (e - 64 * (ws.length : Int))
  have hN : 0 < wv ws := Nat.lt_of_lt_of_le (Nat.two_pow_pos _) hg.2.2.2.1
  exact ⟨v, e, by rw [k1]; exact h, fun _ => ⟨rQ_pos neg 0 hp hN, ws, ho, hg, k2.symm⟩⟩
set_option maxRecDepth 100000 in
set_option maxHeartbeats 1600000 in
theorem setF_one (b B c p0 m0 f0' p m : Nat) (a0 e0 a e : Int) (n0 neg : Bool) (v : Value) (ws : List Nat) (w : World) (h : FltR w b p0 m0 a0 f0' n0 (.slice none 0 0) e0) (hB : B ≤ b) (hx : FltR w c p m a 1 neg v e) (hbc : b ≠ c)
    {Bx : Nat} (ho : Own w Bx 112 v (cellsW ws)) (hg : Good ws p) (hp0 : 0 < p) (hp : p ≤ 64000000) (hq : p0 ≤ 64000000) (hm : m0 ≤ 5) (he1 : -2147483648 ≤ e) (he2 : e < 2147483647) :
    Calls Try.prog 83 #[.pointer (some ⟨b, 0, none⟩), .pointer (some ⟨c, 0, none⟩)] w fun e' w' => e' = .returned (.pointer (some ⟨b, 0, none⟩)) ∧
      FVal w' B b (pOf p0 p) m0 (rA (pOf p0 p) m0 neg 0 (wv ws)) 1 neg (rQ (pOf p0 p) m0 neg 0 (wv ws)) (e - 64 * (ws.length : Int) + rk (pOf p0 p) (wv ws)) ∧ Below B w w' := by
  obtain ⟨c0, c1, c2, c3, c4, c5, c6⟩ := h.cells
  obtain ⟨f0, f1, f2, f3, f4, f5, f6⟩ := h.free
  obtain ⟨d0, d1, d2, d3, d4, d5, d6⟩ := hx.cells
  have d3' : w.cell? ⟨c, 3, none⟩ = some (.int .u8 1) := d3
  have hS := ho.isS
  have hne : ¬ b = c := hbc
  have hne' : ¬ c = b := fun h => hne h.symm
  have r1 := h.s2 0
  have r2 := r1.s3 1
  have r3 := r2.s4 neg
  have R4 := Lib.hid (r3.s6 e)
  have o4 := r3.own (r2.own (r1.own (h.own ho 2 (.int .i8 0)) 3 (.int .u8 (1 : Int))) 4 (.bool neg)) 6 (.int .i32 e)
  have V4 := Lib.hid (o4.rw' hg.2.2.1)
  have B4 := Lib.hid (bset (i := 6) (u := .int .i32 e) (bset (i := 4) (u := .bool neg) (bset (i := 3) (u := .int .u8 (1 : Int)) (bset (i := 2) (u := .int .i8 0) (Below.refl B w) hB) hB) hB) hB)
  have hoth : ∀ (W : World) (i : Nat) (u : Value), (W.setCell ⟨b, i, none⟩ u).heap[c]? = W.heap[c]? := fun W i u => heap_setCell_other _ _ _ _ (by simpa using hne')
  have X1 : FltR (w.setCell ⟨b, 2, none⟩ (.int .i8 0)) c p m a 1 neg v e := (hoth _ _ _).trans hx
  have X4 : Hid (FltR ((((w.setCell ⟨b, 2, none⟩ (.int .i8 0)).setCell ⟨b, 3, none⟩ (.int .u8 (1 : Int))).setCell ⟨b, 4, none⟩ (.bool neg)).setCell ⟨b, 6, none⟩ (.int .i32 e)) c p m a 1 neg v e) := Lib.hid (by
    unfold FltR; rw [hoth, hoth, hoth, hoth]; exact hx)
  have hcmp := neqF (w.setCell ⟨b, 2, none⟩ (.int .i8 0)) hbc r1 X1
  have HG := Lib.hid hg
  have hbB : b < w.heap.size := h.lt
  have hl := hg.2.1
  have HL := Lib.hid hl
  clear h hx ho d3 r1 r2 r3 o4 hoth X1 hg hl
  go_enter Try.func83, Try.ntmps83
  go_wp2
  (refine wp_region_hoist 9 (by kernel_rfl) (by kernel_rfl) ⟨fun _ _ _ h => (by first | exact (hQp _ _ _ h).elim | cases h.2.1 | (obtain ⟨_, h3, _⟩ := h.2; cases h3)), fun _ _ h => (by first | exact (hQo _ _ h).elim | cases h.1 | (obtain ⟨_, h3, _⟩ := h; cases h3))⟩ ?_; simp only [List.take_succ_cons, List.take_zero, List.drop_succ_cons, List.drop_zero]; (repeat (go_big_quiet_step (fail))); refine wpQuiet_nil ?_; rintro _ ⟨nq, rfl⟩)
  go_wp2_with fail
  refine (set_nil v ws _ (V4.out.drewN _) (by have := HL.out; omega)).mono ?_
  rintro _ w6 ⟨r, rfl, ho, hb⟩
  have hSr := ho.isS
  have hb' := undrewN hb
  have R6 := R4.out.below hb'
  have X6 := X4.out.below hb'
  have B6 := B4.out.trans (hb'.mono (by simp; omega))
  have O6 : Own w6 B 112 r (cellsW ws) := ho.mono (show B ≤ _ by simp; omega)
  obtain ⟨g0, g1, g2, g3, g4, g5, g6⟩ := R6.cells
  obtain ⟨k0, k1, k2, k3, k4, k5, k6⟩ := R6.free
  obtain ⟨x0, x1, x2, x3, x4, x5, x6⟩ := X6.cells
  have R7 := R6.s5 r
  have O7 := R6.own O6 5 r
  have B7 := bset (i := 5) (u := r) B6 hB
  have HR7 := Lib.hid R7
  have HO7 := Lib.hid O7
  have HB7 := Lib.hid B7
  clear ho hb hb' R6 X6 B6 O6 R7 O7 B7 c0 c1 c2 c3 c4 c5 c6 f0 f1 f2 f3 f4 f5 f6 d0 d1 d2 d3' d4 d5 d6 hcmp
  by_cases hz : p0 = 0
  · have t0 : ((p0 : Int) == 0) = true := by rw [hz]; rfl
    have HP : Hid (pOf p0 p = p) := Lib.hid (by unfold pOf; rw [if_pos hz])
    have R8 := Lib.hid (HR7.out.s0 p)
    have O8 := Lib.hid (HR7.out.own HO7.out 0 (.int .u32 (p : Int)))
    have B8 := Lib.hid (bset (i := 0) (u := .int .u32 (p : Int)) HB7.out hB)
    clear hz
    go_wp2
    go_ret
    rw [HP.out]
    exact ⟨rfl, fval_rnd R8.out O8.out HG.out hp0, B8.out⟩
  · have t0 : ((p0 : Int) == 0) = false := by rw [beq_eq_false_iff_ne]; omega
    have HP : Hid (pOf p0 p = p0) := Lib.hid (by unfold pOf; rw [if_neg hz])
    by_cases hpp : p0 < p
    · have t1 : decide (p0 < p) = true := decide_eq_true hpp
      have HZ := Lib.hid (show 0 < p0 by omega)
      clear hz hpp
      go_wp2_with fail
      go_quiet (fail)
      go_wp2_with fail
      have hG := HG.out
      have hr := round_any b B p0 m0 0 0 e neg r ws ((w6.setCell ⟨b, 5, none⟩ r).drewN nq) HR7.out hB (HO7.out.drewN nq) hG.2.2.1 hG.1 hG.2.2.2.1 hG.2.1 HZ.out hq hm (by decide) (.inl rfl) he1 he2
      rw [show ((0 : Nat) : Int) = 0 from rfl] at hr
      refine hr.mono ?_
      rintro _ w8 ⟨rfl, hR⟩
      have F : FVal w8 B b p0 m0 (rA p0 m0 neg 0 (wv ws)) 1 neg (rQ p0 m0 neg 0 (wv ws)) (e - 64 * (ws.length : Int) + rk p0 (wv ws)) :=
        hR.val (rQ_pos neg 0 HZ.out (Nat.lt_of_lt_of_le (Nat.two_pow_pos _) hG.2.2.2.1))
      obtain ⟨_, _, _, -, -, -, -, hb8⟩ := hR
      have HF := Lib.hid F
      have HB8 := Lib.hid (HB7.out.trans (undrewN hb8))
      clear hr hG F hb8
      go_wp2
      go_ret
      rw [HP.out]
      exact ⟨rfl, HF.out, HB8.out⟩
    · have t1 : decide (p0 < p) = false := decide_eq_false hpp
      have HPP := Lib.hid (show p ≤ p0 by omega)
      clear hz hpp
      go_wp2_with fail
      go_quiet (fail)
      go_wp2
      go_ret
      rw [HP.out]
      refine ⟨rfl, fval_rnd (v := r) HR7.out (HO7.out.drewN _) (HG.out.wide HPP.out) (by have := HPP.out; omega), undrewN' HB7.out⟩
end Go.Proofs.Ytlgnaioodnhkjaa

/-
Floats: Set, Neg, Abs of a new receiver by values. No condition.
-/
namespace Go.Proofs.Ytlgnaioodnhkjaa
open Go.RowKit

set_option maxRecDepth 100000 in
set_option maxHeartbeats 800000 in
theorem setF_other (b B c p0 m0 f0' p m f : Nat) (a0 e0 a e : Int) (n0 neg : Bool) (u v : Value) (w : World) (h : FltR w b p0 m0 a0 f0' n0 u e0) (hB : B ≤ b) (hx : FltR w c p m a f neg v e) (hbc : b ≠ c) (hf : f = 0 ∨ f = 2) (_hp : p ≤ 64000000) (_hq : p0 ≤ 64000000) :
    Calls Try.prog 83 #[.pointer (some ⟨b, 0, none⟩), .pointer (some ⟨c, 0, none⟩)] w fun e' w' => e' = .returned (.pointer (some ⟨b, 0, none⟩)) ∧ FltR w' b (pOf p0 p) m0 0 f neg u e0 ∧ Below B w w' := by
  obtain ⟨c0, c1, c2, c3, c4, c5, c6⟩ := h.cells
  obtain ⟨f0, f1, f2, f3, f4, f5, f6⟩ := h.free
  obtain ⟨d0, d1, d2, d3, d4, d5, d6⟩ := hx.cells
  have hne : ¬ b = c := hbc
  have hne' : ¬ c = b := fun h => hne h.symm
  have r1 := h.s2 0
  have r2 := r1.s3 f
  have R3 := Lib.hid (r2.s4 neg)
  have B3 := Lib.hid (bset (i := 4) (u := .bool neg) (bset (i := 3) (u := .int .u8 (f : Int)) (bset (i := 2) (u := .int .i8 0) (Below.refl B w) hB) hB) hB)
  have hoth : ∀ (W : World) (i : Nat) (u : Value), (W.setCell ⟨b, i, none⟩ u).heap[c]? = W.heap[c]? := fun W i u => heap_setCell_other _ _ _ _ (by simpa using hne')
  have X1 : FltR (w.setCell ⟨b, 2, none⟩ (.int .i8 0)) c p m a f neg v e := (hoth _ _ _).trans hx
  have hcmp := neqF (w.setCell ⟨b, 2, none⟩ (.int .i8 0)) hbc r1 X1
  have t1 : ((f : Int) == 1) = false := by rw [beq_eq_false_iff_ne]; omega
  have hround : ∀ (W : World), FltR W b p0 m0 0 f neg u e0 → Calls Try.prog 78 #[.pointer (some ⟨b, 0, none⟩), .int .u64 0] W fun e' w' => e' = .returned (.tuple #[]) ∧ FltR w' b p0 m0 0 f neg u e0 ∧ Below B W w' := fun W hW => by
    obtain ⟨c0, c1, c2, c3, c4, c5, c6⟩ := hW.cells
    obtain ⟨f0, f1, f2, f3, f4, f5, f6⟩ := hW.free
    have t2 : ((f : Int) != 1) = true := by rw [bne_iff_ne]; omega
    have R := Lib.hid (hW.s2 0)
    have BB := Lib.hid (bset (i := 2) (u := .int .i8 0) (Below.refl B W) hB)
    go_enter Try.func78, Try.ntmps78
    go_wp2
    refine bodyPost_ret (results_none rfl _ _ _) rfl ?_
    exact ⟨rfl, R.out, BB.out⟩
  have HRo := Lib.hid hround
  clear h hx r1 r2 hoth X1 hf hround
  by_cases hz : p0 = 0
  · have t0 : ((p0 : Int) == 0) = true := by rw [hz]; rfl
    have HP : Hid (pOf p0 p = p) := Lib.hid (by unfold pOf; rw [if_pos hz])
    have R8 := Lib.hid (R3.out.s0 p)
    have B8 := Lib.hid (bset (i := 0) (u := .int .u32 (p : Int)) B3.out hB)
    clear hz
    go_enter Try.func83, Try.ntmps83
    go_wp2
    go_ret
    rw [HP.out]
    exact ⟨rfl, R8.out, B8.out⟩
  · have t0 : ((p0 : Int) == 0) = false := by rw [beq_eq_false_iff_ne]; omega
    have HP : Hid (pOf p0 p = p0) := Lib.hid (by unfold pOf; rw [if_neg hz])
    clear hz
    by_cases hpp : p0 < p
    · have t3 : decide (p0 < p) = true := decide_eq_true hpp
      clear hpp
      go_enter Try.func83, Try.ntmps83
      go_wp2_with fail
      go_quiet (fail)
      go_wp2_with fail
      refine (HRo.out _ (R3.out.drewN _)).mono ?_
      rintro _ w8 ⟨rfl, r8, b8⟩
      have R8 := Lib.hid r8
      have B8 := Lib.hid (B3.out.trans (undrewN b8))
      clear r8 b8
      go_wp2
      go_ret
      rw [HP.out]
      exact ⟨rfl, R8.out, B8.out⟩
    · have t3 : decide (p0 < p) = false := decide_eq_false hpp
      clear hpp
      go_enter Try.func83, Try.ntmps83
      go_wp2_with fail
      go_quiet (fail)
      go_wp2
      go_ret
      rw [HP.out]
      exact ⟨rfl, R3.out, undrewN' B3.out⟩
/-- The value that Set gives. -/
def stA (f p m : Nat) (neg : Bool) (M : Nat) : Int := if f = 1 then rA p m neg 0 M else 0
theorem setF_val (b B c Bx p0 m0 f0' p m f : Nat) (a0 e0 a : Int) (n0 neg : Bool) (M : Nat) (X : Int) (w : World) (h : FltR w b p0 m0 a0 f0' n0 (.slice none 0 0) e0) (hB : B ≤ b) (hx : FVal w Bx c p m a f neg M X) (hbc : b ≠ c) (hf : f ≤ 2)
    (hp0 : 0 < p) (hp : p ≤ 64000000) (hq : p0 ≤ 64000000) (hm : m0 ≤ 5) (hX : f = 1 → -900000000 ≤ X ∧ X + bl M ≤ 900000000) :
    Calls Try.prog 83 #[.pointer (some ⟨b, 0, none⟩), .pointer (some ⟨c, 0, none⟩)] w fun e' w' => e' = .returned (.pointer (some ⟨b, 0, none⟩)) ∧
      FVal w' B b (pOf p0 p) m0 (stA f (pOf p0 p) m0 neg M) f neg (rQ (pOf p0 p) m0 neg 0 M) (X + rk (pOf p0 p) M) ∧ Below B w w' := by
  obtain ⟨v, e, h1, h2⟩ := hx
  by_cases h3 : f = 1
  · subst h3
    obtain ⟨hM, ws, ho, hg, hd⟩ := h2 rfl
    have h0 := hd.symm.pos hM
    have hb := hd.bl h0
    rw [hg.bl] at hb
    have hx2 := hX rfl
    refine (setF_one b B c p0 m0 f0' p m a0 e0 a e n0 neg v ws w h hB h1 hbc ho hg hp0 hp hq hm (by omega) (by omega)).mono ?_
    rintro _ w' ⟨rfl, ⟨v', e', k1, k2⟩, k3⟩
    obtain ⟨l1, l2⟩ := rnd_deq (p := pOf p0 p) (m := m0) neg h0 hd
    refine ⟨rfl, ⟨v', e', ?_, fun _ => ?_⟩, k3⟩
    · unfold stA; rw [if_pos rfl, ← l2]; exact k1
    · obtain ⟨n1, ws', n2, n3, n4⟩ := k2 rfl
      exact ⟨l1.pos n1, ws', n2, n3, n4.trans l1⟩
  · refine (setF_other b B c p0 m0 f0' p m f a0 e0 a e n0 neg _ v w h hB h1 hbc (by omega) hp hq).mono ?_
    rintro _ w' ⟨rfl, k1, k2⟩
    exact ⟨rfl, ⟨_, _, by unfold stA; rw [if_neg h3]; exact k1, fun hc => absurd hc h3⟩, k2⟩
theorem FVal.setNeg {w : World} {B b p m f M : Nat} {a : Int} {neg : Bool} {X : Int} (h : FVal w B b p m a f neg M X) (x : Bool) : FVal (w.setCell ⟨b, 4, none⟩ (.bool x)) B b p m a f x M X := by
  obtain ⟨v, e, h1, h2⟩ := h
  refine ⟨v, e, h1.s4 x, fun hf => ?_⟩
  obtain ⟨n1, ws, n2, n3, n4⟩ := h2 hf
  exact ⟨n1, ws, h1.own n2 4 _, n3, n4⟩
set_option maxRecDepth 100000 in
theorem negF_val (b B c Bx p0 m0 f0' p m f : Nat) (a0 e0 a : Int) (n0 neg : Bool) (M : Nat) (X : Int) (w : World) (h : FltR w b p0 m0 a0 f0' n0 (.slice none 0 0) e0) (hB : B ≤ b) (hx : FVal w Bx c p m a f neg M X) (hbc : b ≠ c) (hf : f ≤ 2)
    (hp0 : 0 < p) (hp : p ≤ 64000000) (hq : p0 ≤ 64000000) (hm : m0 ≤ 5) (hX : f = 1 → -900000000 ≤ X ∧ X + bl M ≤ 900000000) :
    Calls Try.prog 94 #[.pointer (some ⟨b, 0, none⟩), .pointer (some ⟨c, 0, none⟩)] w fun e' w' => e' = .returned (.pointer (some ⟨b, 0, none⟩)) ∧
      FVal w' B b (pOf p0 p) m0 (stA f (pOf p0 p) m0 neg M) f (!neg) (rQ (pOf p0 p) m0 neg 0 M) (X + rk (pOf p0 p) M) ∧ Below B w w' := by
  have HS := Lib.hid (setF_val b B c Bx p0 m0 f0' p m f a0 e0 a n0 neg M X w h hB hx hbc hf hp0 hp hq hm hX)
  clear h hx hX
  go_enter Try.func94, Try.ntmps94
  go_wp2_with fail
  refine HS.out.mono ?_
  rintro _ w1 ⟨rfl, hF, hb⟩
  obtain ⟨v, e, hR⟩ : ∃ v e, FltR w1 b (pOf p0 p) m0 (stA f (pOf p0 p) m0 neg M) f neg v e := by obtain ⟨v, e, h, -⟩ := hF; exact ⟨v, e, h⟩
  obtain ⟨c0, c1, c2, c3, c4, c5, c6⟩ := hR.cells
  obtain ⟨f0, f1, f2, f3, f4, f5, f6⟩ := hR.free
  have HF := Lib.hid (hF.setNeg (!neg))
  have HB := Lib.hid (bset (i := 4) (u := .bool (!neg)) hb hB)
  clear hF hb hR
  go_wp2
  go_ret
  exact ⟨rfl, HF.out, HB.out⟩
end Go.Proofs.Ytlgnaioodnhkjaa

/-
A new Float of any precision; the statements' number, target, chosen. No condition.
-/
namespace Go.Proofs.Ytlgnaioodnhkjaa
open Go.RowKit

set_option maxRecDepth 100000 in
theorem setPrec0_new (b B m : Nat) (a e : Int) (neg : Bool) (v : Value) (w : World) (h : FltR w b 0 m a 0 neg v e) (hB : B ≤ b) :
    Calls Try.prog 87 #[.pointer (some ⟨b, 0, none⟩), .int .u64 0] w fun e' w' => e' = .returned (.pointer (some ⟨b, 0, none⟩)) ∧ FltR w' b 0 m 0 0 neg v e ∧ Below B w w' := by
  obtain ⟨c0, c1, c2, c3, c4, c5, c6⟩ := h.cells
  obtain ⟨f0, f1, f2, f3, f4, f5, f6⟩ := h.free
  have c3' : w.cell? ⟨b, 3, none⟩ = some (.int .u8 0) := c3
  have F := Lib.hid ((h.s2 0).s0 0)
  have FB := Lib.hid (bset (i := 0) (u := .int .u32 (0 : Int)) (bset (i := 2) (u := .int .i8 0) (Below.refl B w) hB) hB)
  clear h c3
  go_enter Try.func87, Try.ntmps87
  go_wp2
  go_ret
  exact ⟨rfl, F.out, FB.out⟩
set_option maxRecDepth 100000 in
theorem fresh_zero (m : Nat) (w : World) (hm : m ≤ 255) :
    Calls Try.prog 49 #[.int .u64 0, .int .i64 m] w fun e' w' => e' = .returned (.pointer (some ⟨w.heap.size, 0, none⟩)) ∧ FltR w' w.heap.size 0 m 0 0 false (.slice none 0 0) 0 ∧ Below w.heap.size w w' := by
  go_enter Try.func49, Try.ntmps49
  go_wp2_with fail
  refine (setPrec0_new w.heap.size w.heap.size 0 0 0 false (.slice none 0 0) _ (newF_row w) (Nat.le_refl _)).mono ?_
  rintro _ w1 ⟨rfl, h1, hb1⟩
  have hb1' := (fbone (W := w) newF).trans hb1
  have H1 := Lib.hid h1
  have HB1 := Lib.hid hb1'
  clear h1 hb1 hb1'
  go_wp2_with fail
  refine (setMode_any w.heap.size w.heap.size 0 0 m 0 0 0 false _ w1 H1.out (Nat.le_refl _)).mono ?_
  rintro _ w2 ⟨rfl, h2, hb2⟩
  have H2 := Lib.hid h2
  have HB2 := Lib.hid (HB1.out.trans hb2)
  clear h2 hb2
  go_wp2
  go_ret
  exact ⟨rfl, H2.out, HB2.out⟩
theorem fresh_all (p m : Nat) (w : World) (hp : p ≤ 64000000) (hm : m ≤ 255) :
    Calls Try.prog 49 #[.int .u64 p, .int .i64 m] w fun e' w' => ∃ g, e' = .returned (.pointer (some ⟨g, 0, none⟩)) ∧ (g = w.heap.size ∧ FltR w' g p m 0 0 false (.slice none 0 0) 0) ∧ Below w.heap.size w w' := by
  rcases Nat.eq_zero_or_pos p with rfl | h
  · refine (fresh_zero m w hm).mono ?_
    rintro _ w' ⟨rfl, h1, h2⟩
    exact ⟨_, rfl, ⟨rfl, h1⟩, h2⟩
  · refine (fresh_any p m w h hp hm).mono ?_
    rintro _ w' ⟨rfl, h1, h2⟩
    exact ⟨_, rfl, ⟨rfl, h1⟩, h2⟩
/-- What number says of a Real. -/
def NumIs (p m f : Int) (ws : List Nat) (e : Int) : Prop := f ≠ 2 ∧ RealIs 300 1000 p m f ws e
end Go.Proofs.Ytlgnaioodnhkjaa

/-
bits.TrailingZeros by its table; a Float's least precision. No condition.
-/
namespace Go.Proofs.Ytlgnaioodnhkjaa
open Go.RowKit

def TabW (_w : World) : Prop := True
theorem TabW.below {w w' : World} (_h : TabW w) (_hb : Below w.heap.size w w') : TabW w' := trivial
theorem TabW.drewN {w : World} (h : TabW w) (n : Nat) : TabW (w.drewN n) := h
theorem ctz_tz {x : Nat} (h0 : 0 < x) (hx : x < 18446744073709551616) : Lib.ctz 64 x = tz x := by
  obtain ⟨m, hm, -⟩ := Lib.ctzFrom_spec 64 x h0 (by simpa using hx)
  have e : Lib.ctz 64 x = Lib.ctzFrom 64 x := by simp [Lib.ctz]; omega
  rw [e]
  exact ((od_of (n := x) (o := 2 * m + 1) (t := Lib.ctzFrom 64 x) (by rw [Nat.mul_comm]; exact hm) (by omega)).2).symm
/-- Words that are 0 below place k. -/
theorem tz_words {N k : Nat} (h : ∀ j, j < k → wdg N j = 0) (hk : wdg N k ≠ 0) : tz N = 64 * k + tz (wdg N k) := by
  have h1 := (wlow_zero (n := N) k).2 h
  have hd := Nat.pos_of_ne_zero hk
  have hN : N = 18446744073709551616 ^ k * (N / 18446744073709551616 ^ k) := by have := Nat.div_add_mod N (18446744073709551616 ^ k); omega
  obtain ⟨o1, o2⟩ := od_tz hd
  have hq : N / 18446744073709551616 ^ k = 18446744073709551616 * (N / 18446744073709551616 ^ k / 18446744073709551616) + wdg N k := by
    unfold wdg; exact (Nat.div_add_mod _ _).symm
  have ht : tz (wdg N k) < 64 := by have := tz_le hd; have := bl_le64 (wdg_lt N k); omega
  obtain ⟨Y, hY⟩ : ∃ Y, Y = N / 18446744073709551616 ^ k / 18446744073709551616 := ⟨_, rfl⟩
  rw [← hY] at hq
  have e : (18446744073709551616 : Nat) = 2 ^ (63 - tz (wdg N k)) * 2 * 2 ^ tz (wdg N k) := by
    rw [← Nat.pow_succ, ← Nat.pow_add, show 63 - tz (wdg N k) + 1 + tz (wdg N k) = 64 by omega]
  have h2 : N / 18446744073709551616 ^ k = (2 * (2 ^ (63 - tz (wdg N k)) * Y) + od (wdg N k)) * 2 ^ tz (wdg N k) := by
    rw [hq, Nat.add_mul, ← o1]
    congr 1
    conv => lhs; rw [e]
    simp only [Nat.mul_comm, Nat.mul_left_comm]
  refine (od_of (n := N) (o := 2 * (2 ^ (63 - tz (wdg N k)) * Y) + od (wdg N k)) (t := 64 * k + tz (wdg N k)) ?_ (by omega)).2
  conv => lhs; rw [hN, h2, w_two]
  rw [Nat.mul_comm (2 ^ (64 * k)), Nat.mul_assoc, ← Nat.pow_add, Nat.add_comm (tz _)]
end Go.Proofs.Ytlgnaioodnhkjaa

/-
A number shifted to the right into a new slice. No condition.
-/
namespace Go.Proofs.Ytlgnaioodnhkjaa
open Go.RowKit

theorem RW.dropW {w : World} {v : Value} {ws : List Nat} {k : Nat} (h : RW w v ws) (hk : k ≤ ws.length) : RW w (subS v k ws.length) (ws.drop k) := by
  refine ⟨?_, fun d hd => h.lt d (List.mem_of_mem_drop hd)⟩
  have := h.ri.sub (l := k) (n := ws.length) hk (by rw [ints_length]; exact Nat.le_refl _)
  rw [List.take_of_length_le (by rw [ints_length]; exact Nat.le_refl _)] at this
  unfold ints at this ⊢
  rw [List.map_drop]
  exact this
theorem cellsW_zeros (n : Nat) : List.replicate n (Value.int .u64 0) = cellsW (List.replicate n 0) := by
  unfold cellsW; rw [List.map_replicate]; rfl
end Go.Proofs.Ytlgnaioodnhkjaa

/-
Floats: the least precision; a Float as an integer. No condition.
-/
namespace Go.Proofs.Ytlgnaioodnhkjaa
open Go.RowKit

/-- An integer's cells lie new. -/
theorem intP_of {w : World} {B g n : Nat} {neg : Bool} {v : Value} (hB : B ≤ g) (h : w.heap[g]? = some (.cells #[.bool neg, v] 130 (0, 0))) (ho : Own w B 112 v (cellsW (wds n))) : IntP w B g neg n := ⟨v, hB, h, ho⟩
def accI (neg ex : Bool) : Int := if ex then 0 else if neg then 1 else -1
end Go.Proofs.Ytlgnaioodnhkjaa

/-
Floats: what is told of one; MantExp. No condition.
-/
namespace Go.Proofs.Ytlgnaioodnhkjaa
open Go.RowKit

section
variable {b p m f : Nat} {a e : Int} {neg : Bool} {v : Value} {w : World}
set_option maxRecDepth 100000 in
theorem fAcc (h : FltR w b p m a f neg v e) : Calls Try.prog 50 #[.pointer (some ⟨b, 0, none⟩)] w fun e' w' => e' = .returned (.int .i8 a) ∧ w = w' := by
  obtain ⟨c0, c1, c2, c3, c4, c5, c6⟩ := h.cells
  clear h
  go_enter Try.func50, Try.ntmps50
  go_wp2
  go_ret
  exact ⟨rfl, rfl⟩
end
set_option maxRecDepth 100000 in
set_option maxHeartbeats 1600000 in
theorem mantExp_one (b B c p0 m0 f0' p m : Nat) (a0 e0 a e : Int) (n0 neg : Bool) (v : Value) (ws : List Nat) (w : World) (h : FltR w b p0 m0 a0 f0' n0 (.slice none 0 0) e0) (hB : B ≤ b) (hx : FltR w c p m a 1 neg v e) (hbc : b ≠ c)
    {Bx : Nat} (ho : Own w Bx 112 v (cellsW ws)) (hd : ∀ d ∈ ws, d < 18446744073709551616) (hl : ws.length ≤ 1000000) (he1 : -2147483648 ≤ e) (he2 : e ≤ 2147483647) :
    Calls Try.prog 47 #[.pointer (some ⟨c, 0, none⟩), .pointer (some ⟨b, 0, none⟩)] w fun e' w' => e' = .returned (.int .i64 e) ∧ ∃ r, FltR w' b p m a 1 neg r 0 ∧ Own w' B 112 r (cellsW ws) ∧ Below B w w' := by
  obtain ⟨c0, c1, c2, c3, c4, c5, c6⟩ := hx.cells
  have c3' : w.cell? ⟨c, 3, none⟩ = some (.int .u8 1) := c3
  have HC := Lib.hid (copyF b B c p0 m0 f0' p m a0 e0 a e n0 neg v ws w h hB hx hbc ho hd hl)
  clear h hx ho hd c3
  go_enter Try.func47, Try.ntmps47
  go_wp2_with fail
  refine HC.out.mono ?_
  rintro _ w1 ⟨rfl, r, h1, h2, h3⟩
  obtain ⟨d0, d1, d2, d3, d4, d5, d6⟩ := h1.cells
  have d3' : w1.cell? ⟨b, 3, none⟩ = some (.int .u8 1) := d3
  obtain ⟨f0, f1, f2, f3, f4, f5, f6⟩ := h1.free
  have R := Lib.hid (h1.s6 0)
  have O := Lib.hid (h1.own h2 6 (.int .i32 (0 : Int)))
  have BB := Lib.hid (bset (i := 6) (u := .int .i32 (0 : Int)) h3 hB)
  clear h1 h2 h3 d3
  go_wp2
  go_ret
  exact ⟨rfl, r, R.out, O.out, BB.out⟩
/-- A Real that a Float has. -/
def RealV (w : World) (z : Value) (p m f : Nat) (neg : Bool) (M : Nat) (X : Int) : Prop :=
  ∃ (v : Value) (E : Int) (zs : List Nat) (B : Nat), z = .agg #[.int .u64 p, .int .i64 m, .int .i64 f, .bool neg, v, .int .i64 E] ∧ Own w B 23 v (cellsW zs) ∧ (∀ d ∈ zs, d < 18446744073709551616) ∧ (f ≠ 1 → zs = [] ∧ E = 0) ∧ (f = 1 → zs = wds (od M) ∧ E = X + (tz M : Nat))
end Go.Proofs.Ytlgnaioodnhkjaa

/-
The thin package's integers: wordsOf, told. No condition.
-/
namespace Go.Proofs.Ytlgnaioodnhkjaa
open Go.RowKit

def WoU (ws : List Nat) (B k : Nat) (w : World) (v : Value) (wr : World) : Prop := Own wr B 23 v (cellsW (ws.take k)) ∧ Below B w wr
theorem WoU.step {ws : List Nat} {B k : Nat} {w w1 : World} {v1 : Value} (hk : k < ws.length) (h : Own w1 B 23 v1 (cellsW (ws.take k) ++ [.int .u64 ((ws.getD k 0 : Nat) : Int)])) (hb : Below B w w1) : WoU ws B (k + 1) w v1 w1 := by
  refine ⟨?_, hb⟩
  rw [cellsW_snoc] at h
  rw [List.take_succ_eq_append_getElem hk]
  simpa [List.getD_eq_getElem?_getD, List.getElem?_eq_getElem hk] using h
set_option maxRecDepth 100000 in
set_option maxHeartbeats 800000 in
theorem wordsOf_any (b o : Nat) (v : Value) (ws : List Nat) (w : World) (hc : w.cell? ⟨b, o + 1, none⟩ = some v) (hv : RW w v ws) (hl : ws.length ≤ 100000000) :
    Calls Try.prog 112 #[.pointer (some ⟨b, o, none⟩)] w fun e w' => ∃ r, e = .returned r ∧ Own w' w.heap.size 23 r (cellsW ws) ∧ Below w.heap.size w w' := by
  have hSv := hv.isS
  have hLv := hv.len
  obtain ⟨la, hla⟩ : ∃ la, la = ws.length := ⟨_, rfl⟩
  rw [← hla] at hLv hl
  have Hla := Lib.hid hla
  have Hv := Lib.hid hv
  clear hla hv
  go_enter Try.func112, Try.ntmps112
  go_wp2_with fail
  refine (intBits b o v w hc hSv).mono ?_
  rintro _ _ ⟨rfl, rfl⟩
  go_wp2
  go_loopw [3, 9] (fun v i wr => ∃ k : Nat, k ≤ la ∧ i = .int .i64 k ∧ WoU ws w.heap.size k w v wr) (fun _ i _ => la - (intOf i).toNat)
  case atStart => exact ⟨0, Nat.zero_le _, rfl, Own.nil _ _ _, Below.refl _ _⟩
  case round =>
    obtain ⟨i, hi, rfl, hO, hbl⟩ := hrel
    have hbz := hbl.size
    have hSo : IsS u3 := hO.isS
    have HO := Lib.hid hO
    clear hO
    by_cases hia : i < la
    · have ca := (Hv.out.below hbl).cell i (by rw [← Hla.out]; exact hia)
      obtain ⟨d, hd⟩ : ∃ d, d = ws.getD i 0 := ⟨_, rfl⟩
      rw [← hd] at ca
      have Hd := Lib.hid hd
      clear hd
      have hlk : (cellsW (ws.take i)).length = i := by rw [cellsW_length]; have := Hla.out; simp; omega
      have Hlk := Lib.hid hlk
      clear hlk
      go_wp2_with (at_builtin; refine wpList_append_O rfl _ _ _ _ rfl elemU w.heap.size _ _ rfl (HO.out.alloc _) _ rfl 1 [.int .u64 (d : Int)] (srcOne Try.underlying48 wr _ _) ?c3 ?c4 ?c5 ?_)
      case c3 => rw [Hlk.out]; unfold maxLen; omega
      case c4 => rw [Hlk.out]; omega
      case c5 => simp; omega
      rintro v1 w1 ho1 hb1 - - -
      have hs := WoU.step (by rw [← Hla.out]; exact hia) (by rw [← Hd.out]; exact ho1) ((hbl.alloc hbz _).trans hb1)
      have Hs := Lib.hid hs
      clear hs ho1
      go_wp2
      go_roundw
      case rel => exact ⟨i + 1, by omega, by go_num, Hs.out⟩
      case measure => simp [intOf]; omega
    · have hil : i = la := by omega
      subst hil
      have hfull : ws.take i = ws := List.take_of_length_le (by rw [Hla.out]; exact Nat.le_refl _)
      have ho := HO.out
      rw [hfull] at ho
      have Ho := Lib.hid ho
      clear hfull ho
      go_wp2
      go_ret
      exact ⟨_, rfl, Ho.out, hbl⟩
theorem sgn_lt (neg : Bool) (n : Nat) : decide (sgnI neg (nw n) < 0) = (neg && decide (0 < n)) := by
  rcases Nat.eq_zero_or_pos n with h | h
  · subst h; cases neg <;> rfl
  · have := nw_pos h
    unfold sgnI
    rw [if_neg (by omega)]
    cases neg
    · rfl
    · simp [h]
set_option maxRecDepth 100000 in
theorem told_any (b o : Nat) (neg : Bool) (v : Value) (n : Nat) (w : World) (h0 : w.cell? ⟨b, o, none⟩ = some (.bool neg)) (hc : w.cell? ⟨b, o + 1, none⟩ = some v) (hv : RW w v (wds n)) (hl : nw n ≤ 100000000) :
    Calls Try.prog 110 #[.pointer (some ⟨b, o, none⟩)] w fun e w' => ∃ r, e = .returned (.agg #[.bool (neg && decide (0 < n)), r]) ∧ Own w' w.heap.size 23 r (cellsW (wds n)) ∧ Below w.heap.size w w' := by
  have hSv := hv.isS
  have hLv := hv.len
  rw [wds_length] at hLv
  have hlt := World.block_lt_of_cell? w _ hc
  have Hv := Lib.hid hv
  clear hv
  have hab := (Below.refl w.heap.size w).alloc (Nat.le_refl _) (.cells #[.bool false, .slice none 0 0] 70)
  have hrow0 := box_row (Below.refl _ (w.alloc (.cells #[.bool false, .slice none 0 0] 70)))
  obtain ⟨W, hW⟩ : ∃ W, W = w.alloc (.cells #[.bool false, .slice none 0 0] 70) := ⟨_, rfl⟩
  rw [← hW] at hab hrow0
  have h0' := (hab.cell (p := ⟨b, o, none⟩) hlt).trans h0
  have hc' := (hab.cell (p := ⟨b, o + 1, none⟩) hlt).trans hc
  have HR := Lib.hid hrow0
  have hWs := hab.size
  clear hrow0
  have t1 := sgn_lt neg n
  obtain ⟨x, hx⟩ : ∃ x, x = (neg && decide (0 < n)) := ⟨_, rfl⟩
  obtain ⟨z, hz⟩ : ∃ z, z = sgnI neg (nw n) := ⟨_, rfl⟩
  rw [← hx]
  rw [← hx, ← hz] at t1
  have hzb : -1 ≤ z ∧ z ≤ 1 := by rw [hz]; unfold sgnI; split <;> (try split) <;> omega
  obtain ⟨hz1, hz2⟩ := hzb
  have HZ := Lib.hid hz
  clear hx hz
  go_enter Try.func110, Try.ntmps110
  go_upto_region 1 with fail
  rw [← hW]
  clear hW
  go_wp2_with fail
  refine (intSign b o neg v W h0' hc' hSv).mono ?_
  rintro _ _ ⟨rfl, rfl⟩
  rw [hLv]
  have Z := HZ.out
  rw [← Z]
  clear Z h0 hc h0' hLv
  go_wp2_with fail
  refine (wordsOf_any b o v (wds n) W hc' (Hv.out.below hab) (by rw [wds_length]; exact hl)).mono ?_
  rintro _ w2 ⟨r, rfl, hr, hb2⟩
  have hSr := hr.isS
  have hrow2 := keep_row hb2 HR.out
  have k0 := row_at (i := 0) hrow2 rfl
  have k1 := row_at (i := 1) hrow2 rfl
  obtain ⟨k00, k01⟩ := k0
  obtain ⟨k10, k11⟩ := k1
  have q2 := rowset (i := 1) r (rowset (i := 0) (.bool x) hrow2)
  have e0 := (row_at (i := 0) q2 rfl).1
  have e1 := (row_at (i := 1) q2 rfl).1
  have o1 := ((hr.away hrow2 (by decide) 0 (.bool x)).away (rowset (i := 0) (.bool x) hrow2) (by decide) 1 r).mono hWs
  have b1 := bset (i := 1) (u := r) (bset (i := 0) (u := .bool x) (hab.trans (hb2.mono hWs)) (Nat.le_refl _)) (Nat.le_refl _)
  have O1 := Lib.hid o1
  have B1 := Lib.hid b1
  clear hr hrow2 q2 o1 b1
  go_wp2
  refine bodyPost_ret (v := .agg #[.bool x, r]) ?_ rfl ⟨r, rfl, O1.out, B1.out⟩
  simp [results, Try.results110, go_sem, e0, e1]
end Go.Proofs.Ytlgnaioodnhkjaa

/-
The thin package's real. No condition.
-/
namespace Go.Proofs.Ytlgnaioodnhkjaa
open Go.RowKit

theorem row6_set {w : World} {k T : Nat} {a b c d e f x y z x' y' z' : Value} (h : w.heap[k]? = some (.cells #[a, b, c, d, e, f] T (0, 0))) :
    ((((((w.setCell ⟨k, 0, none⟩ x).setCell ⟨k, 1, none⟩ y).setCell ⟨k, 2, none⟩ z).setCell ⟨k, 3, none⟩ x').setCell ⟨k, 4, none⟩ y').setCell ⟨k, 5, none⟩ z').heap[k]? = some (.cells #[x, y, z, x', y', z'] T (0, 0)) :=
  rowset (i := 5) z' (rowset (i := 4) y' (rowset (i := 3) x' (rowset (i := 2) z (rowset (i := 1) y (rowset (i := 0) x h)))))
theorem row6 {w : World} {k T : Nat} {a b c d e f : Value} (h : w.heap[k]? = some (.cells #[a, b, c, d, e, f] T (0, 0))) :
    (w.cell? ⟨k, 0, none⟩ = some a ∧ w.cell? ⟨k, 1, none⟩ = some b ∧ w.cell? ⟨k, 2, none⟩ = some c ∧ w.cell? ⟨k, 3, none⟩ = some d ∧ w.cell? ⟨k, 4, none⟩ = some e ∧ w.cell? ⟨k, 5, none⟩ = some f) ∧
    (w.frozen? ⟨k, 0, none⟩ = false ∧ w.frozen? ⟨k, 1, none⟩ = false ∧ w.frozen? ⟨k, 2, none⟩ = false ∧ w.frozen? ⟨k, 3, none⟩ = false ∧ w.frozen? ⟨k, 4, none⟩ = false ∧ w.frozen? ⟨k, 5, none⟩ = false) :=
  ⟨⟨(row_at (i := 0) h rfl).1, (row_at (i := 1) h rfl).1, (row_at (i := 2) h rfl).1, (row_at (i := 3) h rfl).1, (row_at (i := 4) h rfl).1, (row_at (i := 5) h rfl).1⟩,
   ⟨(row_at (i := 0) h rfl).2, (row_at (i := 1) h rfl).2, (row_at (i := 2) h rfl).2, (row_at (i := 3) h rfl).2, (row_at (i := 4) h rfl).2, (row_at (i := 5) h rfl).2⟩⟩
theorem bset6 {W w : World} {B k : Nat} {x y z x' y' z' : Value} (h : Below B W w) (hk : B ≤ k) :
    Below B W ((((((w.setCell ⟨k, 0, none⟩ x).setCell ⟨k, 1, none⟩ y).setCell ⟨k, 2, none⟩ z).setCell ⟨k, 3, none⟩ x').setCell ⟨k, 4, none⟩ y').setCell ⟨k, 5, none⟩ z') :=
  bset (bset (bset (bset (bset (bset h hk) hk) hk) hk) hk) hk
theorem RW.nil (w : World) : RW w (.slice none 0 0) [] := ⟨⟨IsS.nil, rfl, fun i hi => by simp [ints] at hi⟩, fun d hd => by cases hd⟩
theorem heap6_other {w : World} {k j : Nat} {x y z x' y' z' : Value} (h : j ≠ k) :
    ((((((w.setCell ⟨k, 0, none⟩ x).setCell ⟨k, 1, none⟩ y).setCell ⟨k, 2, none⟩ z).setCell ⟨k, 3, none⟩ x').setCell ⟨k, 4, none⟩ y').setCell ⟨k, 5, none⟩ z').heap[j]? = w.heap[j]? := by
  rw [heap_setCell_other _ _ _ _ (by simpa using h), heap_setCell_other _ _ _ _ (by simpa using h), heap_setCell_other _ _ _ _ (by simpa using h), heap_setCell_other _ _ _ _ (by simpa using h), heap_setCell_other _ _ _ _ (by simpa using h), heap_setCell_other _ _ _ _ (by simpa using h)]
theorem realV_other (w : World) (p m f : Nat) (neg : Bool) (M : Nat) (X : Int) (hf : f ≠ 1) : RealV w (.agg #[.int .u64 p, .int .i64 m, .int .i64 f, .bool neg, .slice none 0 0, .int .i64 0]) p m f neg M X :=
  ⟨.slice none 0 0, 0, [], 0, rfl, Own.nil _ _ _, (fun d hd => by cases hd), fun _ => ⟨rfl, rfl⟩, fun h => absurd h hf⟩
end Go.Proofs.Ytlgnaioodnhkjaa

/-
The reference's IsReal, where it is true; the statements' rounds. No condition.
-/
namespace Go.Proofs.Ytlgnaioodnhkjaa
open Go.RowKit

/-- What is told of a value with a precision and a mode. -/
def Told (w : World) (z : Value) (p m : Nat) (n : Bool) (x : Nat) (e : Int) : Prop :=
  ∃ (f : Nat) (ng : Bool) (v : Value) (E : Int) (zs : List Nat), z = .agg #[.int .u64 p, .int .i64 m, .int .i64 f, .bool ng, v, .int .i64 E] ∧ RW w v zs ∧
    (x = 0 → f = 0 ∧ zs = [] ∧ E = 0) ∧ (x ≠ 0 → f = 1 ∧ ng = n ∧ zs = wds (od x) ∧ E = e + (tz x : Nat))
theorem ks18 {W X : World} {k l : Nat} {a b c d e f a' b' c' : Value} {T T' : TypeId} (hr : W.heap[k]? = some (.cells #[a, b, c, d, e, f] T (0, 0))) (hq : W.heap[l]? = some (.cells #[a', b', c'] T' (0, 0))) (h : Below W.heap.size W X) :
    (X.cell? ⟨k, 0, none⟩ = some a ∧ X.cell? ⟨k, 1, none⟩ = some b ∧ X.cell? ⟨k, 2, none⟩ = some c ∧ X.cell? ⟨k, 3, none⟩ = some d ∧ X.cell? ⟨k, 4, none⟩ = some e ∧ X.cell? ⟨k, 5, none⟩ = some f) ∧
    X.cell? ⟨l, 0, none⟩ = some a' ∧ X.cell? ⟨l, 1, none⟩ = some b' ∧ X.cell? ⟨l, 2, none⟩ = some c' :=
  ⟨(ks12 hr h).2, (row_at (keep_row h hq) rfl).1, (row_at (keep_row h hq) rfl).1, (row_at (keep_row h hq) rfl).1⟩
end Go.Proofs.Ytlgnaioodnhkjaa

/-
The statements' rounds, where it is true. No condition.
-/
namespace Go.Proofs.Ytlgnaioodnhkjaa
open Go.RowKit

theorem Told.below {w w' : World} {z : Value} {p m x : Nat} {n : Bool} {e : Int} (h : Told w z p m n x e) (hb : Below w.heap.size w w') : Told w' z p m n x e := by
  obtain ⟨f, ng, v, E, zs, h1, h2, h3, h4⟩ := h
  exact ⟨f, ng, v, E, zs, h1, h2.below hb, h3, h4⟩
theorem Told.form {w : World} {z : Value} {p m x : Nat} {n : Bool} {e : Int} (h : Told w z p m n x e) : ∃ (f : Nat) (ng : Bool) (v : Value) (E : Int), z = .agg #[.int .u64 p, .int .i64 m, .int .i64 f, .bool ng, v, .int .i64 E] ∧ IsS v := by
  obtain ⟨f, ng, v, E, zs, h1, h2, -, -⟩ := h
  exact ⟨f, ng, v, E, h1, h2.isS⟩
theorem rA_bd (p m : Nat) (neg : Bool) (s M : Nat) : -1 ≤ rA p m neg s M ∧ rA p m neg s M ≤ 1 := by
  unfold rA; repeat' split
  all_goals omega
theorem rk_le (p x : Nat) : rk p x ≤ bl x := by unfold rk; omega
theorem bl_rQ (p m : Nat) (neg : Bool) (s x : Nat) : bl (rQ p m neg s x) ≤ bl x + 1 := by
  refine bl_le ?_
  have h1 := lt_bl x
  have h2 : rQ p m neg s x ≤ x + 1 := by unfold rQ; have := Nat.div_le_self x (2 ^ rk p x); split <;> omega
  rw [Nat.pow_succ]
  have := Nat.two_pow_pos (bl x)
  omega
end Go.Proofs.Ytlgnaioodnhkjaa

/-
The thin package's both and MinPrec. No condition.
-/
namespace Go.Proofs.Ytlgnaioodnhkjaa
open Go.RowKit

theorem RealV.below {w w' : World} {z : Value} {p m f M : Nat} {neg : Bool} {X : Int} (h : RealV w z p m f neg M X) (hb : Below w.heap.size w w') : RealV w' z p m f neg M X := by
  obtain ⟨v, E, zs, B, h1, h2, hd, h3, h4⟩ := h
  exact ⟨v, E, zs, B, h1, h2.below hb, hd, h3, h4⟩
theorem RealV.told {w : World} {z : Value} {p m M x : Nat} {neg : Bool} {X e : Int} (h : RealV w z p m 1 neg M X) (hM : 0 < M) (hq : deq M X x e) : Told w z p m neg x e := by
  obtain ⟨v, E, zs, B, h1, h2', hd, -, h4⟩ := h
  have h2 := h2'.rw' hd
  obtain ⟨h5, h6⟩ := h4 rfl
  have hx := hq.pos hM
  obtain ⟨k1, k2⟩ := hq.od hM
  exact ⟨1, neg, v, E, zs, h1, h2, fun h => by omega, fun _ => ⟨rfl, rfl, by rw [h5, k1], by rw [h6, k2]⟩⟩
theorem RealV.told0 {w : World} {z : Value} {p m M : Nat} {neg n : Bool} {X e : Int} (h : RealV w z p m 0 neg M X) : Told w z p m n 0 e := by
  obtain ⟨v, E, zs, B, h1, h2', hd, h3, -⟩ := h
  have h2 := h2'.rw' hd
  obtain ⟨h5, h6⟩ := h3 (by decide)
  exact ⟨0, neg, v, E, zs, h1, h2, fun _ => ⟨rfl, h5, h6⟩, fun h => absurd rfl h⟩
theorem FVal.form {w : World} {B b p m f M : Nat} {a : Int} {neg : Bool} {X : Int} (h : FVal w B b p m a f neg M X) : ∃ v e, FltR w b p m a f neg v e := by
  obtain ⟨v, e, h, -⟩ := h; exact ⟨v, e, h⟩
end Go.Proofs.Ytlgnaioodnhkjaa

/-
The thin package's MinPrec; the statement on it. No condition.
-/
namespace Go.Proofs.Ytlgnaioodnhkjaa
open Go.RowKit

def mpV (f M : Nat) : Nat := if f = 1 then bl (od M) else 0
/-- impl.float's value. -/
theorem float_val (P E p m f : Nat) (neg : Bool) (v : Value) (e : Int) (ws : List Nat) (w : World) (hv : RW w v ws) (ho : RealOk P E p m f ws e) (hP : P ≤ 64000000) (hE : E ≤ 1000000000) :
    Calls Try.prog 55 #[.agg #[.int .u64 p, .int .i64 m, .int .i64 f, .bool neg, v, .int .i64 e]] w fun e' w' => ∃ g, e' = .returned (.pointer (some ⟨g, 0, none⟩)) ∧ (w.heap.size ≤ g ∧ FVal w' w.heap.size g p m 0 f neg (wv ws) e) ∧ Below w.heap.size w w' := by
  refine (float_any P E p m f neg v e ws w hv ho hP hE).mono ?_
  rintro _ w' ⟨g, rfl, hF, hb⟩
  refine ⟨g, rfl, ⟨hF.1, hF.val fun hf => ?_⟩, hb⟩
  subst hf
  obtain ⟨-, -, -, h | h | h⟩ := ho
  · exact absurd h (by decide)
  · exact absurd h (by decide)
  · exact ⟨h.2.1, h.2.2.1, by have := nw_le (wv_lt hv.lt); have := h.2.2.2.1; omega⟩
end Go.Proofs.Ytlgnaioodnhkjaa

/-
Rows of reals in a world, for the statements' walks. No condition.
-/
namespace Go.Proofs.Ytlgnaioodnhkjaa
open Go.RowKit

theorem row_chain11 {w : World} {a : Array Value} {A : TypeId} : (w.alloc (.cells a A)).heap[w.heap.size]? = some (.cells a A (0, 0)) := box_row (Below.refl _ _)
theorem row_chain21 {w : World} {a b : Array Value} {A B : TypeId} : ((w.alloc (.cells a A)).alloc (.cells b B)).heap[w.heap.size]? = some (.cells a A (0, 0)) := keep_row (fbone _) row_chain11
theorem row_chain22 {w : World} {a b : Array Value} {A B : TypeId} : ((w.alloc (.cells a A)).alloc (.cells b B)).heap[w.heap.size + 1]? = some (.cells b B (0, 0)) := by
  have := row_chain11 (w := w.alloc (.cells a A)) (a := b) (A := B)
  simpa using this
theorem row_chain31 {w : World} {a b c : Array Value} {A B C : TypeId} : (((w.alloc (.cells a A)).alloc (.cells b B)).alloc (.cells c C)).heap[w.heap.size]? = some (.cells a A (0, 0)) := keep_row (fbone _) row_chain21
theorem row_chain32 {w : World} {a b c : Array Value} {A B C : TypeId} : (((w.alloc (.cells a A)).alloc (.cells b B)).alloc (.cells c C)).heap[w.heap.size + 1]? = some (.cells b B (0, 0)) := keep_row (fbone _) row_chain22
theorem row_chain33 {w : World} {a b c : Array Value} {A B C : TypeId} : (((w.alloc (.cells a A)).alloc (.cells b B)).alloc (.cells c C)).heap[w.heap.size + 2]? = some (.cells c C (0, 0)) := by
  have := row_chain11 (w := (w.alloc (.cells a A)).alloc (.cells b B)) (a := c) (A := C)
  simpa using this
section
variable {W X : World} {i j k l : Nat} {a b c d e f a' b' c' d' e' f' a'' b'' c'' d'' e'' f'' x y z : Value} {T T' T'' U : TypeId}
theorem ksR1 (hr : W.heap[i]? = some (.cells #[a, b, c, d, e, f] T (0, 0))) (h : Below W.heap.size W X) :
    Below W.heap.size W X ∧ X.cell? ⟨i, 0, none⟩ = some a ∧ X.cell? ⟨i, 1, none⟩ = some b ∧ X.cell? ⟨i, 2, none⟩ = some c ∧ X.cell? ⟨i, 3, none⟩ = some d ∧ X.cell? ⟨i, 4, none⟩ = some e ∧ X.cell? ⟨i, 5, none⟩ = some f := ks12 hr h
theorem ksR2 (hr : W.heap[i]? = some (.cells #[a, b, c, d, e, f] T (0, 0))) (hq : W.heap[j]? = some (.cells #[a', b', c', d', e', f'] T' (0, 0))) (h : Below W.heap.size W X) :
    Below W.heap.size W X ∧ (X.cell? ⟨i, 0, none⟩ = some a ∧ X.cell? ⟨i, 1, none⟩ = some b ∧ X.cell? ⟨i, 2, none⟩ = some c ∧ X.cell? ⟨i, 3, none⟩ = some d ∧ X.cell? ⟨i, 4, none⟩ = some e ∧ X.cell? ⟨i, 5, none⟩ = some f) ∧
    (X.cell? ⟨j, 0, none⟩ = some a' ∧ X.cell? ⟨j, 1, none⟩ = some b' ∧ X.cell? ⟨j, 2, none⟩ = some c' ∧ X.cell? ⟨j, 3, none⟩ = some d' ∧ X.cell? ⟨j, 4, none⟩ = some e' ∧ X.cell? ⟨j, 5, none⟩ = some f') :=
  ⟨h, (ks12 hr h).2, (ks12 hq h).2⟩
theorem ksR3 (hr : W.heap[i]? = some (.cells #[a, b, c, d, e, f] T (0, 0))) (hq : W.heap[j]? = some (.cells #[a', b', c', d', e', f'] T' (0, 0))) (hs : W.heap[k]? = some (.cells #[a'', b'', c'', d'', e'', f''] T'' (0, 0))) (h : Below W.heap.size W X) :
    Below W.heap.size W X ∧ (X.cell? ⟨i, 0, none⟩ = some a ∧ X.cell? ⟨i, 1, none⟩ = some b ∧ X.cell? ⟨i, 2, none⟩ = some c ∧ X.cell? ⟨i, 3, none⟩ = some d ∧ X.cell? ⟨i, 4, none⟩ = some e ∧ X.cell? ⟨i, 5, none⟩ = some f) ∧
    (X.cell? ⟨j, 0, none⟩ = some a' ∧ X.cell? ⟨j, 1, none⟩ = some b' ∧ X.cell? ⟨j, 2, none⟩ = some c' ∧ X.cell? ⟨j, 3, none⟩ = some d' ∧ X.cell? ⟨j, 4, none⟩ = some e' ∧ X.cell? ⟨j, 5, none⟩ = some f') ∧
    (X.cell? ⟨k, 0, none⟩ = some a'' ∧ X.cell? ⟨k, 1, none⟩ = some b'' ∧ X.cell? ⟨k, 2, none⟩ = some c'' ∧ X.cell? ⟨k, 3, none⟩ = some d'' ∧ X.cell? ⟨k, 4, none⟩ = some e'' ∧ X.cell? ⟨k, 5, none⟩ = some f'') :=
  ⟨h, (ks12 hr h).2, (ks12 hq h).2, (ks12 hs h).2⟩
end
end Go.Proofs.Ytlgnaioodnhkjaa

/-
Floats: SetPrec, SetMantExp, MantExp, IsInt by values. No condition.
-/
namespace Go.Proofs.Ytlgnaioodnhkjaa
open Go.RowKit

set_option maxRecDepth 100000 in
theorem round_other (b B p m f : Nat) (a e : Int) (neg : Bool) (v : Value) (W : World) (hW : FltR W b p m a f neg v e) (hB : B ≤ b) (hf : f = 0 ∨ f = 2) :
    Calls Try.prog 78 #[.pointer (some ⟨b, 0, none⟩), .int .u64 0] W fun e' w' => e' = .returned (.tuple #[]) ∧ FltR w' b p m 0 f neg v e ∧ Below B W w' := by
  obtain ⟨c0, c1, c2, c3, c4, c5, c6⟩ := hW.cells
  obtain ⟨f0, f1, f2, f3, f4, f5, f6⟩ := hW.free
  have t2 : ((f : Int) != 1) = true := by rw [bne_iff_ne]; omega
  have R := Lib.hid (hW.s2 0)
  have BB := Lib.hid (bset (i := 2) (u := .int .i8 0) (Below.refl B W) hB)
  clear hW hf
  go_enter Try.func78, Try.ntmps78
  go_wp2
  refine bodyPost_ret (results_none rfl _ _ _) rfl ?_
  exact ⟨rfl, R.out, BB.out⟩
set_option maxRecDepth 100000 in
set_option maxHeartbeats 800000 in
theorem setPrec_val (b B p q m f : Nat) (a : Int) (neg : Bool) (M : Nat) (X : Int) (w : World) (h : FVal w B b p m a f neg M X) (hB : B ≤ b) (hf : f ≤ 2) (_hp0 : 0 < p) (_hp : p ≤ 64000000) (hq0 : 0 < q) (hq : q ≤ 64000000) (hm : m ≤ 5) (hX : f = 1 → -900000000 ≤ X ∧ X + bl M ≤ 900000000) :
    Calls Try.prog 87 #[.pointer (some ⟨b, 0, none⟩), .int .u64 q] w fun e' w' => e' = .returned (.pointer (some ⟨b, 0, none⟩)) ∧ FVal w' B b q m (stA f q m neg M) f neg (rQ q m neg 0 M) (X + rk q M) ∧ Below B w w' := by
  obtain ⟨v, e, h1, h2⟩ := h
  obtain ⟨c0, c1, c2, c3, c4, c5, c6⟩ := h1.cells
  obtain ⟨f0, f1, f2, f3, f4, f5, f6⟩ := h1.free
  have R1 := Lib.hid ((h1.s2 0).s0 q)
  have B1 := Lib.hid (bset (i := 0) (u := .int .u32 (q : Int)) (bset (i := 2) (u := .int .i8 0) (Below.refl B w) hB) hB)
  have t1 : ((q : Int) == 0) = false := by rw [beq_eq_false_iff_ne]; omega
  by_cases h3 : f = 1
  · subst h3
    obtain ⟨hM, ws, ho, hg, hd⟩ := h2 rfl
    have h0 := hd.symm.pos hM
    have hb := hd.bl h0
    rw [hg.bl] at hb
    have hx2 := hX rfl
    have he1 : -2147483648 ≤ e := by omega
    have he2 : e < 2147483647 := by omega
    obtain ⟨l1, l2⟩ := rnd_deq (p := q) (m := m) neg h0 hd
    have O1 := Lib.hid ((h1.s2 0).own (h1.own ho 2 (.int .i8 0)) 0 (.int .u32 (q : Int)))
    have HG := Lib.hid hg
    have HM := Lib.hid hM
    have HH : ∀ w', FVal w' B b q m (rA q m neg 0 (wv ws)) 1 neg (rQ q m neg 0 (wv ws)) (e - 64 * (ws.length : Int) + rk q (wv ws)) → FVal w' B b q m (stA 1 q m neg M) 1 neg (rQ q m neg 0 M) (X + rk q M) := fun w' hw => by
      obtain ⟨v', e', k1, k2⟩ := hw
      obtain ⟨n1, ws', n2, n3, n4⟩ := k2 rfl
      refine ⟨v', e', ?_, fun _ => ⟨l1.pos n1, ws', n2, n3, n4.trans l1⟩⟩
      unfold stA; rw [if_pos rfl, ← l2]; exact k1
    have HH := Lib.hid HH
    clear h1 h2 ho hg hd h0 hb hx2 hX l1 l2 hM
    by_cases hqp : q < p
    · have t2 : decide (q < p) = true := decide_eq_true hqp
      clear hqp
      go_enter Try.func87, Try.ntmps87
      go_wp2_with fail
      have hG := HG.out
      have hr := round_any b B q m 0 0 e neg v ws _ R1.out hB O1.out hG.2.2.1 hG.1 hG.2.2.2.1 hG.2.1 hq0 hq hm (by decide) (.inl rfl) he1 he2
      rw [show ((0 : Nat) : Int) = 0 from rfl] at hr
      refine hr.mono ?_
      rintro _ w8 ⟨rfl, hR⟩
      have F := Lib.hid (HH.out _ (hR.val (rQ_pos neg 0 hq0 (Nat.lt_of_lt_of_le (Nat.two_pow_pos _) hG.2.2.2.1))))
      obtain ⟨_, _, _, -, -, -, -, hb8⟩ := hR
      have HB8 := Lib.hid (B1.out.trans hb8)
      clear hr hG hb8
      go_wp2
      go_ret
      exact ⟨rfl, F.out, HB8.out⟩
    · have t2 : decide (q < p) = false := decide_eq_false hqp
      have F := Lib.hid (HH.out _ (fval_rnd R1.out O1.out (HG.out.wide (by omega)) hq0))
      clear hqp HH
      go_enter Try.func87, Try.ntmps87
      go_wp2
      go_ret
      exact ⟨rfl, F.out, B1.out⟩
  · have HF : Hid (∀ w', FltR w' b q m 0 f neg v e → FVal w' B b q m (stA f q m neg M) f neg (rQ q m neg 0 M) (X + rk q M)) := Lib.hid (fun w' hw => ⟨v, e, by unfold stA; rw [if_neg h3]; exact hw, fun hc => absurd hc h3⟩)
    have HR := Lib.hid (round_other b B q m f 0 e neg v _ R1.out hB (by omega))
    clear h1 h2 hX
    by_cases hqp : q < p
    · have t2 : decide (q < p) = true := decide_eq_true hqp
      clear hqp h3
      go_enter Try.func87, Try.ntmps87
      go_wp2_with fail
      refine HR.out.mono ?_
      rintro _ w8 ⟨rfl, hr, hb⟩
      have F := Lib.hid (HF.out _ hr)
      have HB8 := Lib.hid (B1.out.trans hb)
      clear hr hb
      go_wp2
      go_ret
      exact ⟨rfl, F.out, HB8.out⟩
    · have t2 : decide (q < p) = false := decide_eq_false hqp
      have F := Lib.hid (HF.out _ R1.out)
      clear hqp h3 HF HR
      go_enter Try.func87, Try.ntmps87
      go_wp2
      go_ret
      exact ⟨rfl, F.out, B1.out⟩
/-- What precision 0 leaves. -/
def zpF (f : Nat) : Nat := if f = 1 then 0 else f
set_option maxRecDepth 100000 in
set_option maxHeartbeats 800000 in
theorem setPrec_zero (b B p m f : Nat) (a e : Int) (neg : Bool) (v : Value) (w : World) (h : FltR w b p m a f neg v e) (hB : B ≤ b) (hf : f ≤ 2) :
    Calls Try.prog 87 #[.pointer (some ⟨b, 0, none⟩), .int .u64 0] w fun e' w' => e' = .returned (.pointer (some ⟨b, 0, none⟩)) ∧ (∃ a' : Int, (-1 ≤ a' ∧ a' ≤ 1) ∧ FltR w' b 0 m a' (zpF f) neg v e) ∧ Below B w w' := by
  obtain ⟨c0, c1, c2, c3, c4, c5, c6⟩ := h.cells
  obtain ⟨f0, f1, f2, f3, f4, f5, f6⟩ := h.free
  have r1 := (h.s2 0).s0 0
  have R1 := Lib.hid r1
  have B1 := Lib.hid (bset (i := 0) (u := .int .u32 (0 : Int)) (bset (i := 2) (u := .int .i8 0) (Below.refl B w) hB) hB)
  by_cases h3 : f = 1
  · subst h3
    obtain ⟨d0, d1, d2, d3, d4, d5, d6⟩ := r1.cells
    have c3' : w.cell? ⟨b, 3, none⟩ = some (.int .u8 1) := c3
    clear h r1 c3 d3
    go_enter Try.func87, Try.ntmps87
    go_wp2_with fail
    refine (makeAcc_any neg _).mono ?_
    rintro _ w1 ⟨rfl, hw1⟩
    obtain ⟨ac, hac⟩ : ∃ ac : Int, ac = (if neg then 1 else -1) := ⟨_, rfl⟩
    rw [← hac]
    have hacb : -1 ≤ ac ∧ ac ≤ 1 := by rw [hac]; cases neg <;> decide
    have HA := Lib.hid hacb
    have R2 := R1.out
    have B2 := B1.out
    rw [show ((0 : Nat) : Int) = 0 from rfl] at R2
    have R2' : FltR w1 b 0 m 0 1 neg v e := hw1 ▸ R2
    have B2' : Below B w w1 := hw1 ▸ B2
    obtain ⟨d0, d1, d2, d3, d4, d5, d6⟩ := R2'.cells
    obtain ⟨g0, g1, g2, g3, g4, g5, g6⟩ := R2'.free
    have R3 := Lib.hid ((R2'.s2 ac).s3 0)
    have B3 := Lib.hid (bset (i := 3) (u := .int .u8 (0 : Int)) (bset (i := 2) (u := .int .i8 ac) B2' hB) hB)
    clear hac hacb R1 B1 R2 B2 R2' B2' hw1
    go_wp2
    go_ret
    exact ⟨rfl, ⟨ac, HA.out, R3.out⟩, B3.out⟩
  · have t2 : ((f : Int) == 1) = false := by rw [beq_eq_false_iff_ne]; omega
    have HZ : Hid (zpF f = f) := Lib.hid (by unfold zpF; rw [if_neg h3])
    clear h h3 r1
    go_enter Try.func87, Try.ntmps87
    go_wp2
    go_ret
    exact ⟨rfl, ⟨0, by omega, by rw [HZ.out]; exact R1.out⟩, B1.out⟩
set_option maxRecDepth 100000 in
set_option maxHeartbeats 800000 in
theorem copyF_other (b B c p0 m0 f0' p m f : Nat) (a0 e0 a e : Int) (n0 neg : Bool) (u v : Value) (w : World) (h : FltR w b p0 m0 a0 f0' n0 u e0) (hB : B ≤ b) (hx : FltR w c p m a f neg v e) (hbc : b ≠ c) (hf : f ≠ 1) :
    Calls Try.prog 86 #[.pointer (some ⟨b, 0, none⟩), .pointer (some ⟨c, 0, none⟩)] w fun e' w' => e' = .returned (.pointer (some ⟨b, 0, none⟩)) ∧ FltR w' b p m a f neg u e0 ∧ Below B w w' := by
  obtain ⟨c0, c1, c2, c3, c4, c5, c6⟩ := h.cells
  obtain ⟨f0, f1, f2, f3, f4, f5, f6⟩ := h.free
  obtain ⟨d0, d1, d2, d3, d4, d5, d6⟩ := hx.cells
  have hcmp := neqF w hbc h hx
  have hbc1 : ¬ b = c := hbc
  have hbc2 : ¬ c = b := fun h => hbc h.symm
  have t1 : ((f : Int) == 1) = false := by rw [beq_eq_false_iff_ne]; omega
  have R5 := Lib.hid (((((h.s0 p).s1 m).s2 a).s3 f).s4 neg)
  have B5 := Lib.hid (bset (i := 4) (u := .bool neg) (bset (i := 3) (u := .int .u8 (f : Int)) (bset (i := 2) (u := .int .i8 a) (bset (i := 1) (u := .int .u8 (m : Int)) (bset (i := 0) (u := .int .u32 (p : Int)) (Below.refl B w) hB) hB) hB) hB) hB)
  clear h hx hf
  go_enter Try.func86, Try.ntmps86
  go_wp2
  go_ret
  exact ⟨rfl, R5.out, B5.out⟩
/-- The accuracy behind SetMantExp. -/
def smA (f : Nat) (a : Int) : Int := if f = 1 then 0 else a
set_option maxRecDepth 100000 in
set_option maxHeartbeats 800000 in
theorem setMantExp_val (b B c Bx p0 m0 f0' p m f : Nat) (a0 e0 a : Int) (n0 neg : Bool) (M : Nat) (X x : Int) (w : World) (h : FltR w b p0 m0 a0 f0' n0 (.slice none 0 0) e0) (hB : B ≤ b) (hx : FVal w Bx c p m a f neg M X) (hbc : b ≠ c) (hf : f ≤ 2)
    (hp0 : f = 1 → 0 < p) (hp : p ≤ 64000000) (hX : f = 1 → -500000000 ≤ X ∧ X + bl M ≤ 500000000) (hx1 : -500000000 ≤ x) (hx2 : x ≤ 500000000) :
    Calls Try.prog 54 #[.pointer (some ⟨b, 0, none⟩), .pointer (some ⟨c, 0, none⟩), .int .i64 x] w fun e' w' => e' = .returned (.pointer (some ⟨b, 0, none⟩)) ∧ FVal w' B b p m (smA f a) f neg M (X + x) ∧ Below B w w' := by
  obtain ⟨v, e, h1, h2⟩ := hx
  by_cases h3 : f = 1
  · subst h3
    obtain ⟨hM, ws, ho, hg, hd⟩ := h2 rfl
    have h0 := hd.symm.pos hM
    have hb := hd.bl h0
    rw [hg.bl] at hb
    have hx2 := hX rfl
    refine (setMantExp_exact b B c p0 m0 f0' p m a0 e0 a e x n0 neg v ws w h hB h1 hbc ho hg.2.2.1 hg.2.2.2.2 hg.1 hg.2.1 (hp0 rfl) hp (by omega) (by omega) (by omega) (by omega)).mono ?_
    rintro _ w' ⟨rfl, r, k1, k2, k3⟩
    refine ⟨rfl, ⟨r, e + x, k1, fun _ => ⟨hM, ws, k2, hg, ?_⟩⟩, k3⟩
    have := hd.exp x
    rw [show e + x - 64 * (ws.length : Int) = e - 64 * (ws.length : Int) + x by omega]
    exact this
  · have HC := Lib.hid (copyF_other b B c p0 m0 f0' p m f a0 e0 a e n0 neg _ v w h hB h1 hbc h3)
    have t1 : ((f : Int) == 1) = false := by rw [beq_eq_false_iff_ne]; omega
    have HF : Hid (∀ w', FltR w' b p m a f neg (.slice none 0 0) e0 → FVal w' B b p m (smA f a) f neg M (X + x)) := Lib.hid (fun w' hw => ⟨_, _, by unfold smA; rw [if_neg h3]; exact hw, fun hc => absurd hc h3⟩)
    clear h h1 h2 hX h3 hp0
    go_enter Try.func54, Try.ntmps54
    go_wp2_with fail
    refine HC.out.mono ?_
    rintro _ w1 ⟨rfl, k1, k2⟩
    obtain ⟨c0, c1, c2, c3, c4, c5, c6⟩ := k1.cells
    have K1 := Lib.hid (HF.out _ k1)
    have K2 := Lib.hid k2
    clear k1 k2
    go_wp2
    go_ret
    exact ⟨rfl, K1.out, K2.out⟩
/-- The exponent that MantExp tells, and what is left. -/
def mxE (f M : Nat) (X : Int) : Int := if f = 1 then X + bl M else 0
set_option maxRecDepth 100000 in
set_option maxHeartbeats 800000 in
theorem mantExp_val (b B c Bx p0 m0 f0' p m f : Nat) (a0 e0 a : Int) (n0 neg : Bool) (M : Nat) (X : Int) (w : World) (h : FltR w b p0 m0 a0 f0' n0 (.slice none 0 0) e0) (hB : B ≤ b) (hx : FVal w Bx c p m a f neg M X) (hbc : b ≠ c) (hf : f ≤ 2)
    (hX : f = 1 → -500000000 ≤ X ∧ X + bl M ≤ 500000000) :
    Calls Try.prog 47 #[.pointer (some ⟨c, 0, none⟩), .pointer (some ⟨b, 0, none⟩)] w fun e' w' => e' = .returned (.int .i64 (mxE f M X)) ∧ FVal w' B b p m a f neg M (-(bl M : Int)) ∧ Below B w w' := by
  obtain ⟨v, e, h1, h2⟩ := hx
  by_cases h3 : f = 1
  · subst h3
    obtain ⟨hM, ws, ho, hg, hd⟩ := h2 rfl
    have h0 := hd.symm.pos hM
    have hb := hd.bl h0
    rw [hg.bl] at hb
    have hx2 := hX rfl
    refine (mantExp_one b B c p0 m0 f0' p m a0 e0 a e n0 neg v ws w h hB h1 hbc ho hg.2.2.1 hg.2.1 (by omega) (by omega)).mono ?_
    rintro _ w' ⟨rfl, r, k1, k2, k3⟩
    refine ⟨by rw [mxE, if_pos rfl, show e = X + bl M by omega], ⟨r, 0, k1, fun _ => ⟨hM, ws, k2, hg, ?_⟩⟩, k3⟩
    have := hd.exp (-e)
    rw [show (0 : Int) - 64 * (ws.length : Int) = e - 64 * (ws.length : Int) + -e by omega, show -(bl M : Int) = X + -e by omega]
    exact this
  · have HC := Lib.hid (copyF_other b B c p0 m0 f0' p m f a0 e0 a e n0 neg _ v w h hB h1 hbc h3)
    have t1 : ((f : Int) == 1) = false := by rw [beq_eq_false_iff_ne]; omega
    have HF : Hid (∀ w', FltR w' b p m a f neg (.slice none 0 0) e0 → FVal w' B b p m a f neg M (-(bl M : Int))) := Lib.hid (fun w' hw => ⟨_, _, hw, fun hc => absurd hc h3⟩)
    have HE : Hid (mxE f M X = 0) := Lib.hid (by rw [mxE, if_neg h3])
    obtain ⟨d0, d1, d2, d3, d4, d5, d6⟩ := h1.cells
    clear h h1 h2 hX h3
    go_enter Try.func47, Try.ntmps47
    go_wp2_with fail
    refine HC.out.mono ?_
    rintro _ w1 ⟨rfl, k1, k2⟩
    obtain ⟨c0, c1, c2, c3, c4, c5, c6⟩ := k1.cells
    have K1 := Lib.hid (HF.out _ k1)
    have K2 := Lib.hid k2
    clear k1 k2
    go_wp2
    go_ret
    rw [HE.out]
    exact ⟨rfl, K1.out, K2.out⟩
/-- Whether a value is an integer. -/
def iiV (f M : Nat) (X : Int) : Bool := if f = 1 then decide (0 ≤ X + (tz M : Nat)) else decide (f = 0)
end Go.Proofs.Ytlgnaioodnhkjaa

/-
Floats: setBits64, SetInt64, SetUint64 of a new receiver of any precision, by values. No condition.
-/
namespace Go.Proofs.Ytlgnaioodnhkjaa
open Go.RowKit

/-- The precision that is taken where none is asked. -/
def pD (p d : Nat) : Nat := if p = 0 then d else p
theorem pD_pos {p d : Nat} (h : 0 < d) : 0 < pD p d := by unfold pD; split <;> omega
theorem pD_le {p d q : Nat} (h1 : p ≤ q) (h2 : d ≤ q) : pD p d ≤ q := by unfold pD; split <;> omega
/-- A word with its first bit at the top. -/
theorem good_word {y p : Nat} (h1 : y < 18446744073709551616) (h2 : 9223372036854775808 ≤ y) (hp : 64 ≤ p) : Good [y] p :=
  ⟨Nat.one_pos, by simp, fun d hd => by rw [List.mem_singleton] at hd; rw [hd]; exact h1, by simpa [wv] using h2, .inl (by simpa using hp)⟩
theorem wv_one (y : Nat) : wv [y] = y := by simp [wv]
/-- What becomes of a Float that holds a value, exactly, and is rounded where its precision is less than that of the words. -/
theorem fval_trans {w : World} {B b q m : Nat} {neg : Bool} {N M : Nat} {X Y : Int} (h : FVal w B b q m (rA q m neg 0 N) 1 neg (rQ q m neg 0 N) (X + rk q N)) (hN : 0 < N) (hd : deq N X M Y) :
    FVal w B b q m (rA q m neg 0 M) 1 neg (rQ q m neg 0 M) (Y + rk q M) := by
  obtain ⟨l1, l2⟩ := rnd_deq (p := q) (m := m) neg hN hd
  obtain ⟨v', e', k1, k2⟩ := h
  obtain ⟨n1, ws', n2, n3, n4⟩ := k2 rfl
  refine ⟨v', e', by rw [← l2]; exact k1, fun _ => ⟨l1.pos n1, ws', n2, n3, n4.trans l1⟩⟩
/-- The form of a number. -/
def fO (M : Nat) : Nat := if M = 0 then 0 else 1
def sbA (q m : Nat) (neg : Bool) (M : Nat) : Int := if M = 0 then 0 else rA q m neg 0 M
set_option maxRecDepth 100000 in
set_option maxHeartbeats 1600000 in
theorem setBits64_val (b B p m f : Nat) (a e : Int) (neg neg0 : Bool) (x : Nat) (w : World) (h : FltR w b p m a f neg0 (.slice none 0 0) e) (hB : B ≤ b) (hp : p ≤ 64000000) (hm : m ≤ 5) (hx : x < 18446744073709551616) :
    Calls Try.prog 81 #[.pointer (some ⟨b, 0, none⟩), .bool neg, .int .u64 x] w fun e' w' => e' = .returned (.pointer (some ⟨b, 0, none⟩)) ∧
      FVal w' B b (pD p 64) m (sbA (pD p 64) m neg x) (fO x) neg (rQ (pD p 64) m neg 0 x) (0 + rk (pD p 64) x) ∧ Below B w w' := by
  obtain ⟨c0, c1, c2, c3, c4, c5, c6⟩ := h.cells
  obtain ⟨f0, f1, f2, f3, f4, f5, f6⟩ := h.free
  have hlt := h.lt
  have hq0 : 0 < pD p 64 := pD_pos (by decide)
  have hqb : pD p 64 ≤ 64000000 := pD_le hp (by decide)
  by_cases hx0 : x = 0
  · subst hx0
    have HF : Hid (∀ w', FltR w' b (pD p 64) m 0 0 neg (.slice none 0 0) e → FVal w' B b (pD p 64) m (sbA (pD p 64) m neg 0) (fO 0) neg (rQ (pD p 64) m neg 0 0) (0 + rk (pD p 64) 0)) := Lib.hid (fun w' hw => ⟨_, _, hw, fun hc => absurd hc (by decide)⟩)
    by_cases hp0 : p = 0
    · have t0 : ((p : Int) == 0) = true := by rw [hp0]; rfl
      have F := Lib.hid (HF.out _ (show FltR _ b (pD p 64) m 0 0 neg _ e by rw [show pD p 64 = 64 by unfold pD; rw [if_pos hp0]]; exact (((h.s0 64).s2 0).s4 neg).s3 0))
      have BB := Lib.hid (bset (i := 3) (u := .int .u8 (0 : Int)) (bset (i := 4) (u := .bool neg) (bset (i := 2) (u := .int .i8 0) (bset (i := 0) (u := .int .u32 (64 : Int)) (Below.refl B w) hB) hB) hB) hB)
      clear h hp0 HF
      go_enter Try.func81, Try.ntmps81
      go_wp2
      go_ret
      exact ⟨rfl, F.out, BB.out⟩
    · have t0 : ((p : Int) == 0) = false := by rw [beq_eq_false_iff_ne]; omega
      have F := Lib.hid (HF.out _ (show FltR _ b (pD p 64) m 0 0 neg _ e by rw [show pD p 64 = p by unfold pD; rw [if_neg hp0]]; exact ((h.s2 0).s4 neg).s3 0))
      have BB := Lib.hid (bset (i := 3) (u := .int .u8 (0 : Int)) (bset (i := 4) (u := .bool neg) (bset (i := 2) (u := .int .i8 0) (Below.refl B w) hB) hB) hB)
      clear h hp0 HF
      go_enter Try.func81, Try.ntmps81
      go_wp2
      go_ret
      exact ⟨rfl, F.out, BB.out⟩
  · have h0 : 0 < x := by omega
    have t1 : ((x : Int) == 0) = false := by rw [beq_eq_false_iff_ne]; omega
    have hst := shl_top h0 hx
    have hbl := bl_le64 hx
    have hbp := bl_pos h0
    have HD : Hid (∀ (Q : Nat) (w' : World), FVal w' B b Q m (rA Q m neg 0 (x * 2 ^ (64 - bl x))) 1 neg (rQ Q m neg 0 (x * 2 ^ (64 - bl x))) ((bl x : Int) - 64 * (([x * 2 ^ (64 - bl x)] : List Nat).length : Int) + rk Q (x * 2 ^ (64 - bl x))) →
        FVal w' B b Q m (sbA Q m neg x) (fO x) neg (rQ Q m neg 0 x) (0 + rk Q x)) := Lib.hid (fun Q w' hw => by
      have := fval_trans hw (Nat.mul_pos h0 (Nat.two_pow_pos _)) (show deq _ _ x 0 from ⟨0, 64 - bl x, by simp, by simp; omega⟩)
      unfold sbA fO; rw [if_neg hx0, if_neg hx0]; exact this)
    obtain ⟨l, hl⟩ : ∃ l, l = bl x := ⟨_, rfl⟩
    have HX := Lib.hid hx
    rw [← hl] at hst hbl hbp HD
    have hs64 : 64 - l < 64 := by omega
    have hP2 : (2 : Int) ^ (64 - l) = ((2 ^ (64 - l) : Nat) : Int) := by simp
    obtain ⟨s, hs⟩ : ∃ s, s = 64 - l := ⟨_, rfl⟩
    rw [← hs] at hst hs64 hP2 HD
    obtain ⟨S, hS⟩ : ∃ S, S = 2 ^ s := ⟨_, rfl⟩
    rw [← hS] at hst hP2 HD
    obtain ⟨y, hy⟩ : ∃ y, y = x * S := ⟨_, rfl⟩
    rw [← hy] at hst HD
    have hxy : (x : Int) * (S : Int) = (y : Int) := by rw [hy]; simp
    obtain ⟨hy1, hy2⟩ := hst
    have HL := Lib.hid hl
    have HSl := Lib.hid hs
    have hls : (64 : Int) - (s : Int) = (l : Int) := by omega
    have hl2 : l ≤ 64 := hbl
    have HTL : Hid (∀ w5, FltR w5 b (pD p 64) m 0 1 neg (.slice none 0 0) e → Below B w w5 → Calls Try.prog 77 #[.slice none 0 0, .int .u64 y] w5 fun e' w' => ∃ v, e' = .returned v ∧ IsS v ∧
        (FltR w' b (pD p 64) m 0 1 neg (.slice none 0 0) e ∧ FltR ((w'.setCell ⟨b, 5, none⟩ v).setCell ⟨b, 6, none⟩ (.int .i32 (l : Int))) b (pD p 64) m 0 1 neg v (l : Int) ∧ Own ((w'.setCell ⟨b, 5, none⟩ v).setCell ⟨b, 6, none⟩ (.int .i32 (l : Int))) B 112 v (cellsW [y]) ∧ Below B w ((w'.setCell ⟨b, 5, none⟩ v).setCell ⟨b, 6, none⟩ (.int .i32 (l : Int))))) := Lib.hid (fun w5 h5 hb5 => by
      refine (setUint64_nil y w5 (by omega) hy1).mono ?_
      rintro _ w' ⟨v, rfl, ho, hb⟩
      have hBs : B ≤ w5.heap.size := by have := h5.lt; omega
      have R5 := h5.below hb
      exact ⟨v, rfl, ho.isS, R5, (R5.s5 v).s6 _, (R5.s5 v).own (R5.own (ho.mono hBs) 5 v) 6 _, bset (bset (hb5.trans (hb.mono hBs)) hB) hB⟩)
    have HRD : Hid (∀ (w' : World) (v : Value), FltR w' b (pD p 64) m 0 1 neg v (l : Int) → Own w' B 112 v (cellsW [y]) → Calls Try.prog 78 #[.pointer (some ⟨b, 0, none⟩), .int .u64 0] w' fun e' w'' => e' = .returned (.tuple #[]) ∧ FVal w'' B b (pD p 64) m (sbA (pD p 64) m neg x) (fO x) neg (rQ (pD p 64) m neg 0 x) (0 + rk (pD p 64) x) ∧ Below B w' w'') := Lib.hid (fun w' v hf ho => by
      have hg := good_word (p := 64) hy1 hy2 (Nat.le_refl _)
      have hr := round_any b B (pD p 64) m 0 0 (l : Int) neg v [y] w' hf hB ho hg.2.2.1 Nat.one_pos hg.2.2.2.1 (by simp) hq0 hqb hm (by decide) (.inl rfl) (by omega) (by omega)
      rw [show ((0 : Nat) : Int) = 0 from rfl] at hr
      refine hr.mono ?_
      rintro _ w'' ⟨rfl, hR⟩
      have hQ : 0 < rQ (pD p 64) m neg 0 (wv [y]) := rQ_pos neg 0 hq0 (by rw [wv_one]; omega)
      have F := hR.val hQ
      obtain ⟨_, _, _, -, -, -, -, hb8⟩ := hR
      rw [wv_one] at F
      exact ⟨rfl, HD.out _ _ F, hb8⟩)
    have HEX : Hid (64 ≤ pD p 64 → ∀ (w' : World) (v : Value), FltR w' b (pD p 64) m 0 1 neg v (l : Int) → Own w' B 112 v (cellsW [y]) → FVal w' B b (pD p 64) m (sbA (pD p 64) m neg x) (fO x) neg (rQ (pD p 64) m neg 0 x) (0 + rk (pD p 64) x)) := Lib.hid (fun h64 w' v hf ho => by
      have F := fval_rnd hf ho (good_word hy1 hy2 h64) hq0
      rw [wv_one] at F
      exact HD.out _ _ F)
    clear hl hs hS hy hx hbl HD hx0
    by_cases hp0 : p = 0
    · have t0 : ((p : Int) == 0) = true := by rw [hp0]; rfl
      have HP : Hid (pD p 64 = 64) := Lib.hid (by unfold pD; rw [if_pos hp0])
      have R4 := Lib.hid ((((h.s0 64).s2 0).s4 neg).s3 1)
      have B4 := Lib.hid (bset (i := 3) (u := .int .u8 (1 : Int)) (bset (i := 4) (u := .bool neg) (bset (i := 2) (u := .int .i8 0) (bset (i := 0) (u := .int .u32 (64 : Int)) (Below.refl B w) hB) hB) hB) hB)
      rw [HP.out] at HTL HEX ⊢
      clear h h0 hp0 HRD hq0 hqb
      go_enter Try.func81, Try.ntmps81
      go_wp2_with fail
      refine (lz64 x _ HX.out).mono ?_
      rintro _ _ ⟨rfl, rfl⟩
      rw [← HL.out, ← HSl.out]
      go_wp2_with fail
      refine (HTL.out _ R4.out B4.out).mono ?_
      rintro _ w5 ⟨v, rfl, hSv, R5, F, O, BF⟩
      obtain ⟨d0, d1, d2, d3, d4, d5, d6⟩ := R5.cells
      obtain ⟨g0, g1, g2, g3, g4, g5, g6⟩ := R5.free
      have d0' : w5.cell? ⟨b, 0, none⟩ = some (.int .u32 64) := d0
      have HV := Lib.hid (HEX.out (Nat.le_refl _) _ _ F O)
      have HB := Lib.hid BF
      clear c0 c1 c2 c3 c4 c5 c6 f0 f1 f2 f3 f4 f5 f6 d0 R5 F O BF
      go_wp2
      go_ret
      exact ⟨rfl, HV.out, HB.out⟩
    · have t0 : ((p : Int) == 0) = false := by rw [beq_eq_false_iff_ne]; omega
      have HP : Hid (pD p 64 = p) := Lib.hid (by unfold pD; rw [if_neg hp0])
      have R4 := Lib.hid (((h.s2 0).s4 neg).s3 1)
      have B4 := Lib.hid (bset (i := 3) (u := .int .u8 (1 : Int)) (bset (i := 4) (u := .bool neg) (bset (i := 2) (u := .int .i8 0) (Below.refl B w) hB) hB) hB)
      rw [HP.out] at HTL HEX HRD ⊢
      clear h h0 hp0 hq0 hqb
      by_cases hp64 : p < 64
      · have t2 : decide (p < 64) = true := decide_eq_true hp64
        have t2' : decide ((p : Int) < 64) = true := decide_eq_true (by omega)
        clear hp64 HEX
        go_enter Try.func81, Try.ntmps81
        go_wp2_with fail
        refine (lz64 x _ HX.out).mono ?_
        rintro _ _ ⟨rfl, rfl⟩
        rw [← HL.out, ← HSl.out]
        go_wp2_with fail
        refine (HTL.out _ R4.out B4.out).mono ?_
        rintro _ w5 ⟨v, rfl, hSv, R5, F, O, BF⟩
        obtain ⟨d0, d1, d2, d3, d4, d5, d6⟩ := R5.cells
        obtain ⟨g0, g1, g2, g3, g4, g5, g6⟩ := R5.free
        have HV := Lib.hid (HRD.out _ _ F O)
        have HB := Lib.hid BF
        clear c0 c1 c2 c3 c4 c5 c6 f0 f1 f2 f3 f4 f5 f6 R5 F O BF
        go_wp2_with fail
        refine HV.out.mono ?_
        rintro _ w8 ⟨rfl, hv8, hb8⟩
        have H8 := Lib.hid hv8
        have B8 := Lib.hid (HB.out.trans hb8)
        clear hv8 hb8
        go_wp2
        go_ret
        exact ⟨rfl, H8.out, B8.out⟩
      · have t2 : decide (p < 64) = false := decide_eq_false hp64
        have t2' : decide ((p : Int) < 64) = false := decide_eq_false (by omega)
        have H64 := Lib.hid (show 64 ≤ p by omega)
        clear hp64 HRD
        go_enter Try.func81, Try.ntmps81
        go_wp2_with fail
        refine (lz64 x _ HX.out).mono ?_
        rintro _ _ ⟨rfl, rfl⟩
        rw [← HL.out, ← HSl.out]
        go_wp2_with fail
        refine (HTL.out _ R4.out B4.out).mono ?_
        rintro _ w5 ⟨v, rfl, hSv, R5, F, O, BF⟩
        obtain ⟨d0, d1, d2, d3, d4, d5, d6⟩ := R5.cells
        obtain ⟨g0, g1, g2, g3, g4, g5, g6⟩ := R5.free
        have HV := Lib.hid (HEX.out H64.out _ _ F O)
        have HB := Lib.hid BF
        clear c0 c1 c2 c3 c4 c5 c6 f0 f1 f2 f3 f4 f5 f6 R5 F O BF
        go_wp2
        go_ret
        exact ⟨rfl, HV.out, HB.out⟩
set_option maxRecDepth 100000 in
theorem setInt64_val (b B p m f : Nat) (a e : Int) (neg0 : Bool) (x : Int) (w : World) (h : FltR w b p m a f neg0 (.slice none 0 0) e) (hB : B ≤ b) (hp : p ≤ 64000000) (hm : m ≤ 5) (hx1 : -9223372036854775808 ≤ x) (hx2 : x ≤ 9223372036854775807) :
    Calls Try.prog 43 #[.pointer (some ⟨b, 0, none⟩), .int .i64 x] w fun e' w' => e' = .returned (.pointer (some ⟨b, 0, none⟩)) ∧
      FVal w' B b (pD p 64) m (sbA (pD p 64) m (decide (x < 0)) x.natAbs) (fO x.natAbs) (decide (x < 0)) (rQ (pD p 64) m (decide (x < 0)) 0 x.natAbs) (0 + rk (pD p 64) x.natAbs) ∧ Below B w w' := by
  have H := Lib.hid (setBits64_val b B p m f a e (decide (x < 0)) neg0 x.natAbs w h hB hp hm (by omega))
  obtain ⟨n, hn⟩ : ∃ n, n = x.natAbs := ⟨_, rfl⟩
  rw [← hn] at H ⊢
  by_cases hx : x < 0
  · have t : decide (x < 0) = true := decide_eq_true hx
    rw [t] at H ⊢
    have hxx : x = -(n : Int) := by omega
    have hn0 : 0 < n := by omega
    subst hxx
    clear h hn hx
    by_cases hm2 : n = 9223372036854775808
    · subst hm2
      go_enter Try.func43, Try.ntmps43
      go_wp2_with fail
      rw [show IntKind.u64.wrap (wrap64 9223372036854775808) = ((9223372036854775808 : Nat) : Int) by decide +kernel]
      refine H.out.mono ?_
      rintro _ w1 ⟨rfl, h1, h2⟩
      have H1 := Lib.hid h1
      have H2 := Lib.hid h2
      clear h1 h2
      go_wp2
      go_ret
      exact ⟨rfl, H1.out, H2.out⟩
    · have hn2 : n ≤ 9223372036854775807 := by omega
      clear hm2
      go_enter Try.func43, Try.ntmps43
      go_wp2_with fail
      refine H.out.mono ?_
      rintro _ w1 ⟨rfl, h1, h2⟩
      have H1 := Lib.hid h1
      have H2 := Lib.hid h2
      clear h1 h2
      go_wp2
      go_ret
      exact ⟨rfl, H1.out, H2.out⟩
  · have t : decide (x < 0) = false := decide_eq_false hx
    rw [t] at H ⊢
    have e1 : x = (n : Int) := by omega
    subst e1
    clear h hn hx
    go_enter Try.func43, Try.ntmps43
    go_wp2_with fail
    refine H.out.mono ?_
    rintro _ w1 ⟨rfl, h1, h2⟩
    have H1 := Lib.hid h1
    have H2 := Lib.hid h2
    clear h1 h2
    go_wp2
    go_ret
    exact ⟨rfl, H1.out, H2.out⟩
end Go.Proofs.Ytlgnaioodnhkjaa
