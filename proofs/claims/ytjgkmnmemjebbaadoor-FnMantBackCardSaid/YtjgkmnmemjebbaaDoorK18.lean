/-
Texts of this proof, joined: StA StB StC LwA StE StD. No condition.
-/
import Derived.Test.YtjgkmnmemjebbaaDoorK16
import Derived.Test.YtjgkmnmemjebbaaDoorK17
/-
Floats: Set of a new receiver from another Float. No condition.
-/
namespace Go.Proofs.YtjgkmnmemjebbaaDoor
open Go.RowKit

theorem rQ_pos {p m M : Nat} (neg : Bool) (s : Nat) (hp : 0 < p) (hM : 0 < M) : 0 < rQ p m neg s M := by
  have h : 0 < M / 2 ^ rk p M := by
    rcases Nat.lt_or_ge p (bl M) with h | h
    · have := (rQ_bound (m := m) neg s hp h).1
      have := Nat.two_pow_pos (p - 1)
      omega
    · have h0 : rk p M = 0 := by unfold rk; omega
      rw [h0, Nat.pow_zero, Nat.div_one]; exact hM
  unfold rQ; omega
theorem Good.wide {ws : List Nat} {p q : Nat} (h : Good ws p) (hpq : p ≤ q) : Good ws q := by
  obtain ⟨h1, h2, h3, h4, h5⟩ := h
  refine ⟨h1, h2, h3, h4, ?_⟩
  rcases h5 with h5 | ⟨h5, h6, h7⟩
  · exact .inl (by omega)
  · by_cases hq : 64 * ws.length ≤ q
    · exact .inl hq
    · refine .inr ⟨by omega, ?_, by omega⟩
      rw [show 64 * ws.length - p = (64 * ws.length - q) + (q - p) by omega, Nat.pow_add] at h6
      have h8 := Nat.mod_mul_right_mod (wv ws) (2 ^ (64 * ws.length - q)) (2 ^ (q - p))
      rw [h6] at h8; exact h8.symm.trans (Nat.zero_mod _) |>.symm ▸ rfl
/-- The precision of a result. -/
def pOf (p0 p : Nat) : Nat := if p0 = 0 then p else p0
/-- What holds of a Float that holds a value of N times 2 to X, rounded. -/
theorem fval_rnd {w : World} {B b p m : Nat} {neg : Bool} {v : Value} {e : Int} {ws : List Nat} (h : FltR w b p m 0 1 neg v e) (ho : Own w B 115 v (cellsW ws)) (hg : Good ws p) (hp : 0 < p) :
    FVal w B b p m (rA p m neg 0 (wv ws)) 1 neg (rQ p m neg 0 (wv ws)) (e - 64 * (ws.length : Int) + rk p (wv ws)) := by
  obtain ⟨k1, k2⟩ := rnd_fits (m := m) neg hg (e - 64 * (ws.length : Int))
  have hN : 0 < wv ws := Nat.lt_of_lt_of_le (Nat.two_pow_pos _) hg.2.2.2.1
  exact ⟨v, e, by rw [k1]; exact h, fun _ => ⟨rQ_pos neg 0 hp hN, ws, ho, hg, k2.symm⟩⟩
set_option maxRecDepth 100000 in
set_option maxHeartbeats 1600000 in
theorem setF_one (b B c p0 m0 f0' p m : Nat) (a0 e0 a e : Int) (n0 neg : Bool) (v : Value) (ws : List Nat) (w : World) (h : FltR w b p0 m0 a0 f0' n0 (.slice none 0 0) e0) (hB : B ≤ b) (hx : FltR w c p m a 1 neg v e) (hbc : b ≠ c)
    {Bx : Nat} (ho : Own w Bx 115 v (cellsW ws)) (hg : Good ws p) (hp0 : 0 < p) (hp : p ≤ 64000000) (hq : p0 ≤ 64000000) (hm : m0 ≤ 5) (he1 : -2147483648 ≤ e) (he2 : e < 2147483647) :
    Calls Tryd.prog 42 #[.pointer (some ⟨b, 0, none⟩), .pointer (some ⟨c, 0, none⟩)] w fun e' w' => e' = .returned (.pointer (some ⟨b, 0, none⟩)) ∧
      FVal w' B b (pOf p0 p) m0 (rA (pOf p0 p) m0 neg 0 (wv ws)) 1 neg (rQ (pOf p0 p) m0 neg 0 (wv ws)) (e - 64 * (ws.length : Int) + rk (pOf p0 p) (wv ws)) ∧ Below B w w' := by
  obtain ⟨c0, c1, c2, c3, c4, c5, c6⟩ := h.cells
  obtain ⟨f0, f1, f2, f3, f4, f5, f6⟩ := h.free
  obtain ⟨d0, d1, d2, d3, d4, d5, d6⟩ := hx.cells
  have d3' : w.cell? ⟨c, 3, none⟩ = some (.int .u8 1) := d3
  have hS := ho.isS
  have hne : ¬ b = c := hbc
  have hne' : ¬ c = b := fun h => hne h.symm
  have r1 := h.s2 0
  have r2 := r1.s3 1
  have r3 := r2.s4 neg
  have R4 := Lib.hid (r3.s6 e)
  have o4 := r3.own (r2.own (r1.own (h.own ho 2 (.int .i8 0)) 3 (.int .u8 (1 : Int))) 4 (.bool neg)) 6 (.int .i32 e)
  have V4 := Lib.hid (o4.rw' hg.2.2.1)
  have B4 := Lib.hid (bset (i := 6) (u := .int .i32 e) (bset (i := 4) (u := .bool neg) (bset (i := 3) (u := .int .u8 (1 : Int)) (bset (i := 2) (u := .int .i8 0) (Below.refl B w) hB) hB) hB) hB)
  have hoth : ∀ (W : World) (i : Nat) (u : Value), (W.setCell ⟨b, i, none⟩ u).heap[c]? = W.heap[c]? := fun W i u => heap_setCell_other _ _ _ _ (by simpa using hne')
  have X1 : FltR (w.setCell ⟨b, 2, none⟩ (.int .i8 0)) c p m a 1 neg v e := (hoth _ _ _).trans hx
  have X4 : Hid (FltR ((((w.setCell ⟨b, 2, none⟩ (.int .i8 0)).setCell ⟨b, 3, none⟩ (.int .u8 (1 : Int))).setCell ⟨b, 4, none⟩ (.bool neg)).setCell ⟨b, 6, none⟩ (.int .i32 e)) c p m a 1 neg v e) := Lib.hid (by
    unfold FltR; rw [hoth, hoth, hoth, hoth]; exact hx)
  have hcmp := neqF (w.setCell ⟨b, 2, none⟩ (.int .i8 0)) hbc r1 X1
  have HG := Lib.hid hg
  have hbB : b < w.heap.size := h.lt
  have hl := hg.2.1
  have HL := Lib.hid hl
  clear h hx ho d3 r1 r2 r3 o4 hoth X1 hg hl
  go_enter Tryd.func42, Tryd.ntmps42
  go_wp2
  (refine wp_region_hoist 9 (by kernel_rfl) (by kernel_rfl) ⟨fun _ _ _ h => (by first | exact (hQp _ _ _ h).elim | cases h.2.1 | (obtain ⟨_, h3, _⟩ := h.2; cases h3)), fun _ _ h => (by first | exact (hQo _ _ h).elim | cases h.1 | (obtain ⟨_, h3, _⟩ := h; cases h3))⟩ ?_; simp only [List.take_succ_cons, List.take_zero, List.drop_succ_cons, List.drop_zero]; (repeat (go_big_quiet_step (fail))); refine wpQuiet_nil ?_; rintro _ ⟨nq, rfl⟩)
  go_wp2_with fail
  refine (set_nil v ws _ (V4.out.drewN _) (by have := HL.out; omega)).mono ?_
  rintro _ w6 ⟨r, rfl, ho, hb⟩
  have hSr := ho.isS
  have hb' := undrewN hb
  have R6 := R4.out.below hb'
  have X6 := X4.out.below hb'
  have B6 := B4.out.trans (hb'.mono (by simp; omega))
  have O6 : Own w6 B 115 r (cellsW ws) := ho.mono (show B ≤ _ by simp; omega)
  obtain ⟨g0, g1, g2, g3, g4, g5, g6⟩ := R6.cells
  obtain ⟨k0, k1, k2, k3, k4, k5, k6⟩ := R6.free
  obtain ⟨x0, x1, x2, x3, x4, x5, x6⟩ := X6.cells
  have R7 := R6.s5 r
  have O7 := R6.own O6 5 r
  have B7 := bset (i := 5) (u := r) B6 hB
  have HR7 := Lib.hid R7
  have HO7 := Lib.hid O7
  have HB7 := Lib.hid B7
  clear ho hb hb' R6 X6 B6 O6 R7 O7 B7 c0 c1 c2 c3 c4 c5 c6 f0 f1 f2 f3 f4 f5 f6 d0 d1 d2 d3' d4 d5 d6 hcmp
  by_cases hz : p0 = 0
  · have t0 : ((p0 : Int) == 0) = true := by rw [hz]; rfl
    have HP : Hid (pOf p0 p = p) := Lib.hid (by unfold pOf; rw [if_pos hz])
    have R8 := Lib.hid (HR7.out.s0 p)
    have O8 := Lib.hid (HR7.out.own HO7.out 0 (.int .u32 (p : Int)))
    have B8 := Lib.hid (bset (i := 0) (u := .int .u32 (p : Int)) HB7.out hB)
    clear hz
    go_wp2
    go_ret
    rw [HP.out]
    exact ⟨rfl, fval_rnd R8.out O8.out HG.out hp0, B8.out⟩
  · have t0 : ((p0 : Int) == 0) = false := by rw [beq_eq_false_iff_ne]; omega
    have HP : Hid (pOf p0 p = p0) := Lib.hid (by unfold pOf; rw [if_neg hz])
    by_cases hpp : p0 < p
    · have t1 : decide (p0 < p) = true := decide_eq_true hpp
      have HZ := Lib.hid (show 0 < p0 by omega)
      clear hz hpp
      go_wp2_with fail
      go_quiet (fail)
      go_wp2_with fail
      have hG := HG.out
      have hr := round_any b B p0 m0 0 0 e neg r ws ((w6.setCell ⟨b, 5, none⟩ r).drewN nq) HR7.out hB (HO7.out.drewN nq) hG.2.2.1 hG.1 hG.2.2.2.1 hG.2.1 HZ.out hq hm (by decide) (.inl rfl) he1 he2
      rw [show ((0 : Nat) : Int) = 0 from rfl] at hr
      refine hr.mono ?_
      rintro _ w8 ⟨rfl, hR⟩
      have F : FVal w8 B b p0 m0 (rA p0 m0 neg 0 (wv ws)) 1 neg (rQ p0 m0 neg 0 (wv ws)) (e - 64 * (ws.length : Int) + rk p0 (wv ws)) :=
        hR.val (rQ_pos neg 0 HZ.out (Nat.lt_of_lt_of_le (Nat.two_pow_pos _) hG.2.2.2.1))
      obtain ⟨_, _, _, -, -, -, -, hb8⟩ := hR
      have HF := Lib.hid F
      have HB8 := Lib.hid (HB7.out.trans (undrewN hb8))
      clear hr hG F hb8
      go_wp2
      go_ret
      rw [HP.out]
      exact ⟨rfl, HF.out, HB8.out⟩
    · have t1 : decide (p0 < p) = false := decide_eq_false hpp
      have HPP := Lib.hid (show p ≤ p0 by omega)
      clear hz hpp
      go_wp2_with fail
      go_quiet (fail)
      go_wp2
      go_ret
      rw [HP.out]
      refine ⟨rfl, fval_rnd (v := r) HR7.out (HO7.out.drewN _) (HG.out.wide HPP.out) (by have := HPP.out; omega), undrewN' HB7.out⟩
end Go.Proofs.YtjgkmnmemjebbaaDoor

/-
Floats: Set, Neg, Abs of a new receiver by values. No condition.
-/
namespace Go.Proofs.YtjgkmnmemjebbaaDoor
open Go.RowKit

set_option maxRecDepth 100000 in
set_option maxHeartbeats 800000 in
theorem setF_other (b B c p0 m0 f0' p m f : Nat) (a0 e0 a e : Int) (n0 neg : Bool) (u v : Value) (w : World) (h : FltR w b p0 m0 a0 f0' n0 u e0) (hB : B ≤ b) (hx : FltR w c p m a f neg v e) (hbc : b ≠ c) (hf : f = 0 ∨ f = 2) (_hp : p ≤ 64000000) (_hq : p0 ≤ 64000000) :
    Calls Tryd.prog 42 #[.pointer (some ⟨b, 0, none⟩), .pointer (some ⟨c, 0, none⟩)] w fun e' w' => e' = .returned (.pointer (some ⟨b, 0, none⟩)) ∧ FltR w' b (pOf p0 p) m0 0 f neg u e0 ∧ Below B w w' := by
  obtain ⟨c0, c1, c2, c3, c4, c5, c6⟩ := h.cells
  obtain ⟨f0, f1, f2, f3, f4, f5, f6⟩ := h.free
  obtain ⟨d0, d1, d2, d3, d4, d5, d6⟩ := hx.cells
  have hne : ¬ b = c := hbc
  have hne' : ¬ c = b := fun h => hne h.symm
  have r1 := h.s2 0
  have r2 := r1.s3 f
  have R3 := Lib.hid (r2.s4 neg)
  have B3 := Lib.hid (bset (i := 4) (u := .bool neg) (bset (i := 3) (u := .int .u8 (f : Int)) (bset (i := 2) (u := .int .i8 0) (Below.refl B w) hB) hB) hB)
  have hoth : ∀ (W : World) (i : Nat) (u : Value), (W.setCell ⟨b, i, none⟩ u).heap[c]? = W.heap[c]? := fun W i u => heap_setCell_other _ _ _ _ (by simpa using hne')
  have X1 : FltR (w.setCell ⟨b, 2, none⟩ (.int .i8 0)) c p m a f neg v e := (hoth _ _ _).trans hx
  have hcmp := neqF (w.setCell ⟨b, 2, none⟩ (.int .i8 0)) hbc r1 X1
  have t1 : ((f : Int) == 1) = false := by rw [beq_eq_false_iff_ne]; omega
  have hround : ∀ (W : World), FltR W b p0 m0 0 f neg u e0 → Calls Tryd.prog 66 #[.pointer (some ⟨b, 0, none⟩), .int .u64 0] W fun e' w' => e' = .returned (.tuple #[]) ∧ FltR w' b p0 m0 0 f neg u e0 ∧ Below B W w' := fun W hW => by
    obtain ⟨c0, c1, c2, c3, c4, c5, c6⟩ := hW.cells
    obtain ⟨f0, f1, f2, f3, f4, f5, f6⟩ := hW.free
    have t2 : ((f : Int) != 1) = true := by rw [bne_iff_ne]; omega
    have R := Lib.hid (hW.s2 0)
    have BB := Lib.hid (bset (i := 2) (u := .int .i8 0) (Below.refl B W) hB)
    go_enter Tryd.func66, Tryd.ntmps66
    go_wp2
    refine bodyPost_ret (results_none rfl _ _ _) rfl ?_
    exact ⟨rfl, R.out, BB.out⟩
  have HRo := Lib.hid hround
  clear h hx r1 r2 hoth X1 hf hround
  by_cases hz : p0 = 0
  · have t0 : ((p0 : Int) == 0) = true := by rw [hz]; rfl
    have HP : Hid (pOf p0 p = p) := Lib.hid (by unfold pOf; rw [if_pos hz])
    have R8 := Lib.hid (R3.out.s0 p)
    have B8 := Lib.hid (bset (i := 0) (u := .int .u32 (p : Int)) B3.out hB)
    clear hz
    go_enter Tryd.func42, Tryd.ntmps42
    go_wp2
    go_ret
    rw [HP.out]
    exact ⟨rfl, R8.out, B8.out⟩
  · have t0 : ((p0 : Int) == 0) = false := by rw [beq_eq_false_iff_ne]; omega
    have HP : Hid (pOf p0 p = p0) := Lib.hid (by unfold pOf; rw [if_neg hz])
    clear hz
    by_cases hpp : p0 < p
    · have t3 : decide (p0 < p) = true := decide_eq_true hpp
      clear hpp
      go_enter Tryd.func42, Tryd.ntmps42
      go_wp2_with fail
      go_quiet (fail)
      go_wp2_with fail
      refine (HRo.out _ (R3.out.drewN _)).mono ?_
      rintro _ w8 ⟨rfl, r8, b8⟩
      have R8 := Lib.hid r8
      have B8 := Lib.hid (B3.out.trans (undrewN b8))
      clear r8 b8
      go_wp2
      go_ret
      rw [HP.out]
      exact ⟨rfl, R8.out, B8.out⟩
    · have t3 : decide (p0 < p) = false := decide_eq_false hpp
      clear hpp
      go_enter Tryd.func42, Tryd.ntmps42
      go_wp2_with fail
      go_quiet (fail)
      go_wp2
      go_ret
      rw [HP.out]
      exact ⟨rfl, R3.out, undrewN' B3.out⟩
/-- The value that Set gives. -/
def stA (f p m : Nat) (neg : Bool) (M : Nat) : Int := if f = 1 then rA p m neg 0 M else 0
theorem setF_val (b B c Bx p0 m0 f0' p m f : Nat) (a0 e0 a : Int) (n0 neg : Bool) (M : Nat) (X : Int) (w : World) (h : FltR w b p0 m0 a0 f0' n0 (.slice none 0 0) e0) (hB : B ≤ b) (hx : FVal w Bx c p m a f neg M X) (hbc : b ≠ c) (hf : f ≤ 2)
    (hp0 : 0 < p) (hp : p ≤ 64000000) (hq : p0 ≤ 64000000) (hm : m0 ≤ 5) (hX : f = 1 → -900000000 ≤ X ∧ X + bl M ≤ 900000000) :
    Calls Tryd.prog 42 #[.pointer (some ⟨b, 0, none⟩), .pointer (some ⟨c, 0, none⟩)] w fun e' w' => e' = .returned (.pointer (some ⟨b, 0, none⟩)) ∧
      FVal w' B b (pOf p0 p) m0 (stA f (pOf p0 p) m0 neg M) f neg (rQ (pOf p0 p) m0 neg 0 M) (X + rk (pOf p0 p) M) ∧ Below B w w' := by
  obtain ⟨v, e, h1, h2⟩ := hx
  by_cases h3 : f = 1
  · subst h3
    obtain ⟨hM, ws, ho, hg, hd⟩ := h2 rfl
    have h0 := hd.symm.pos hM
    have hb := hd.bl h0
    rw [hg.bl] at hb
    have hx2 := hX rfl
    refine (setF_one b B c p0 m0 f0' p m a0 e0 a e n0 neg v ws w h hB h1 hbc ho hg hp0 hp hq hm (by omega) (by omega)).mono ?_
    rintro _ w' ⟨rfl, ⟨v', e', k1, k2⟩, k3⟩
    obtain ⟨l1, l2⟩ := rnd_deq (p := pOf p0 p) (m := m0) neg h0 hd
    refine ⟨rfl, ⟨v', e', ?_, fun _ => ?_⟩, k3⟩
    · unfold stA; rw [if_pos rfl, ← l2]; exact k1
    · obtain ⟨n1, ws', n2, n3, n4⟩ := k2 rfl
      exact ⟨l1.pos n1, ws', n2, n3, n4.trans l1⟩
  · refine (setF_other b B c p0 m0 f0' p m f a0 e0 a e n0 neg _ v w h hB h1 hbc (by omega) hp hq).mono ?_
    rintro _ w' ⟨rfl, k1, k2⟩
    exact ⟨rfl, ⟨_, _, by unfold stA; rw [if_neg h3]; exact k1, fun hc => absurd hc h3⟩, k2⟩
theorem FVal.setNeg {w : World} {B b p m f M : Nat} {a : Int} {neg : Bool} {X : Int} (h : FVal w B b p m a f neg M X) (x : Bool) : FVal (w.setCell ⟨b, 4, none⟩ (.bool x)) B b p m a f x M X := by
  obtain ⟨v, e, h1, h2⟩ := h
  refine ⟨v, e, h1.s4 x, fun hf => ?_⟩
  obtain ⟨n1, ws, n2, n3, n4⟩ := h2 hf
  exact ⟨n1, ws, h1.own n2 4 _, n3, n4⟩
set_option maxRecDepth 100000 in
theorem negF_val (b B c Bx p0 m0 f0' p m f : Nat) (a0 e0 a : Int) (n0 neg : Bool) (M : Nat) (X : Int) (w : World) (h : FltR w b p0 m0 a0 f0' n0 (.slice none 0 0) e0) (hB : B ≤ b) (hx : FVal w Bx c p m a f neg M X) (hbc : b ≠ c) (hf : f ≤ 2)
    (hp0 : 0 < p) (hp : p ≤ 64000000) (hq : p0 ≤ 64000000) (hm : m0 ≤ 5) (hX : f = 1 → -900000000 ≤ X ∧ X + bl M ≤ 900000000) :
    Calls Tryd.prog 50 #[.pointer (some ⟨b, 0, none⟩), .pointer (some ⟨c, 0, none⟩)] w fun e' w' => e' = .returned (.pointer (some ⟨b, 0, none⟩)) ∧
      FVal w' B b (pOf p0 p) m0 (stA f (pOf p0 p) m0 neg M) f (!neg) (rQ (pOf p0 p) m0 neg 0 M) (X + rk (pOf p0 p) M) ∧ Below B w w' := by
  have HS := Lib.hid (setF_val b B c Bx p0 m0 f0' p m f a0 e0 a n0 neg M X w h hB hx hbc hf hp0 hp hq hm hX)
  clear h hx hX
  go_enter Tryd.func50, Tryd.ntmps50
  go_wp2_with fail
  refine HS.out.mono ?_
  rintro _ w1 ⟨rfl, hF, hb⟩
  obtain ⟨v, e, hR⟩ : ∃ v e, FltR w1 b (pOf p0 p) m0 (stA f (pOf p0 p) m0 neg M) f neg v e := by obtain ⟨v, e, h, -⟩ := hF; exact ⟨v, e, h⟩
  obtain ⟨c0, c1, c2, c3, c4, c5, c6⟩ := hR.cells
  obtain ⟨f0, f1, f2, f3, f4, f5, f6⟩ := hR.free
  have HF := Lib.hid (hF.setNeg (!neg))
  have HB := Lib.hid (bset (i := 4) (u := .bool (!neg)) hb hB)
  clear hF hb hR
  go_wp2
  go_ret
  exact ⟨rfl, HF.out, HB.out⟩
set_option maxRecDepth 100000 in
theorem absF_val (b B c Bx p0 m0 f0' p m f : Nat) (a0 e0 a : Int) (n0 neg : Bool) (M : Nat) (X : Int) (w : World) (h : FltR w b p0 m0 a0 f0' n0 (.slice none 0 0) e0) (hB : B ≤ b) (hx : FVal w Bx c p m a f neg M X) (hbc : b ≠ c) (hf : f ≤ 2)
    (hp0 : 0 < p) (hp : p ≤ 64000000) (hq : p0 ≤ 64000000) (hm : m0 ≤ 5) (hX : f = 1 → -900000000 ≤ X ∧ X + bl M ≤ 900000000) :
    Calls Tryd.prog 51 #[.pointer (some ⟨b, 0, none⟩), .pointer (some ⟨c, 0, none⟩)] w fun e' w' => e' = .returned (.pointer (some ⟨b, 0, none⟩)) ∧
      FVal w' B b (pOf p0 p) m0 (stA f (pOf p0 p) m0 neg M) f false (rQ (pOf p0 p) m0 neg 0 M) (X + rk (pOf p0 p) M) ∧ Below B w w' := by
  have HS := Lib.hid (setF_val b B c Bx p0 m0 f0' p m f a0 e0 a n0 neg M X w h hB hx hbc hf hp0 hp hq hm hX)
  clear h hx hX
  go_enter Tryd.func51, Tryd.ntmps51
  go_wp2_with fail
  refine HS.out.mono ?_
  rintro _ w1 ⟨rfl, hF, hb⟩
  obtain ⟨v, e, hR⟩ : ∃ v e, FltR w1 b (pOf p0 p) m0 (stA f (pOf p0 p) m0 neg M) f neg v e := by obtain ⟨v, e, h, -⟩ := hF; exact ⟨v, e, h⟩
  obtain ⟨c0, c1, c2, c3, c4, c5, c6⟩ := hR.cells
  obtain ⟨f0, f1, f2, f3, f4, f5, f6⟩ := hR.free
  have HF := Lib.hid (hF.setNeg false)
  have HB := Lib.hid (bset (i := 4) (u := .bool false) hb hB)
  clear hF hb hR
  go_wp2
  go_ret
  exact ⟨rfl, HF.out, HB.out⟩
end Go.Proofs.YtjgkmnmemjebbaaDoor

/-
A new Float of any precision; the statements' number, target, chosen. No condition.
-/
namespace Go.Proofs.YtjgkmnmemjebbaaDoor
open Go.RowKit

set_option maxRecDepth 100000 in
theorem setPrec0_new (b B m : Nat) (a e : Int) (neg : Bool) (v : Value) (w : World) (h : FltR w b 0 m a 0 neg v e) (hB : B ≤ b) :
    Calls Tryd.prog 44 #[.pointer (some ⟨b, 0, none⟩), .int .u64 0] w fun e' w' => e' = .returned (.pointer (some ⟨b, 0, none⟩)) ∧ FltR w' b 0 m 0 0 neg v e ∧ Below B w w' := by
  obtain ⟨c0, c1, c2, c3, c4, c5, c6⟩ := h.cells
  obtain ⟨f0, f1, f2, f3, f4, f5, f6⟩ := h.free
  have c3' : w.cell? ⟨b, 3, none⟩ = some (.int .u8 0) := c3
  have F := Lib.hid ((h.s2 0).s0 0)
  have FB := Lib.hid (bset (i := 0) (u := .int .u32 (0 : Int)) (bset (i := 2) (u := .int .i8 0) (Below.refl B w) hB) hB)
  clear h c3
  go_enter Tryd.func44, Tryd.ntmps44
  go_wp2
  go_ret
  exact ⟨rfl, F.out, FB.out⟩
set_option maxRecDepth 100000 in
theorem fresh_zero (m : Nat) (w : World) (hm : m ≤ 255) :
    Calls Tryd.prog 41 #[.int .u64 0, .int .i64 m] w fun e' w' => e' = .returned (.pointer (some ⟨w.heap.size, 0, none⟩)) ∧ FltR w' w.heap.size 0 m 0 0 false (.slice none 0 0) 0 ∧ Below w.heap.size w w' := by
  go_enter Tryd.func41, Tryd.ntmps41
  go_wp2_with fail
  refine (setPrec0_new w.heap.size w.heap.size 0 0 0 false (.slice none 0 0) _ (newF_row w) (Nat.le_refl _)).mono ?_
  rintro _ w1 ⟨rfl, h1, hb1⟩
  have hb1' := (fbone (W := w) newF).trans hb1
  have H1 := Lib.hid h1
  have HB1 := Lib.hid hb1'
  clear h1 hb1 hb1'
  go_wp2_with fail
  refine (setMode_any w.heap.size w.heap.size 0 0 m 0 0 0 false _ w1 H1.out (Nat.le_refl _)).mono ?_
  rintro _ w2 ⟨rfl, h2, hb2⟩
  have H2 := Lib.hid h2
  have HB2 := Lib.hid (HB1.out.trans hb2)
  clear h2 hb2
  go_wp2
  go_ret
  exact ⟨rfl, H2.out, HB2.out⟩
theorem fresh_all (p m : Nat) (w : World) (hp : p ≤ 64000000) (hm : m ≤ 255) :
    Calls Tryd.prog 41 #[.int .u64 p, .int .i64 m] w fun e' w' => ∃ g, e' = .returned (.pointer (some ⟨g, 0, none⟩)) ∧ (g = w.heap.size ∧ FltR w' g p m 0 0 false (.slice none 0 0) 0) ∧ Below w.heap.size w w' := by
  rcases Nat.eq_zero_or_pos p with rfl | h
  · refine (fresh_zero m w hm).mono ?_
    rintro _ w' ⟨rfl, h1, h2⟩
    exact ⟨_, rfl, ⟨rfl, h1⟩, h2⟩
  · refine (fresh_any p m w h hp hm).mono ?_
    rintro _ w' ⟨rfl, h1, h2⟩
    exact ⟨_, rfl, ⟨rfl, h1⟩, h2⟩
set_option maxRecDepth 100000 in
theorem target_any (p m : Nat) (w : World) (hp : p ≤ 65535) (hm : m ≤ 255) :
    Calls Tryd.prog 17 #[.int .u16 p, .int .u8 m] w fun e w' => e = .returned (.tuple #[.int .u64 ((p % 301 : Nat) : Int), .int .i64 ((m % 6 : Nat) : Int)]) ∧ w = w' := by
  have e1 : (p : Int) % 301 = ((p % 301 : Nat) : Int) := by omega
  have e2 : (m : Int) % 6 = ((m % 6 : Nat) : Int) := by omega
  obtain ⟨q, hq⟩ : ∃ q, q = p % 301 := ⟨_, rfl⟩
  obtain ⟨n, hn⟩ : ∃ n, n = m % 6 := ⟨_, rfl⟩
  rw [← hq] at e1 ⊢
  rw [← hn] at e2 ⊢
  have hql : q ≤ 300 := by omega
  have hnl : n ≤ 5 := by omega
  clear hq hn
  go_enter Tryd.func17, Tryd.ntmps17
  go_wp2
  go_ret2
  exact ⟨rfl, rfl⟩
set_option maxRecDepth 100000 in
theorem chosen_any (k p1 p2 m1 m2 f1 f2 : Nat) (n1 n2 : Bool) (v1 v2 : Value) (e1 e2 : Int) (w : World) (hS1 : IsS v1) (hS2 : IsS v2) :
    Calls Tryd.prog 21 #[.int .u64 k, .agg #[.int .u64 p1, .int .i64 m1, .int .i64 f1, .bool n1, v1, .int .i64 e1], .agg #[.int .u64 p2, .int .i64 m2, .int .i64 f2, .bool n2, v2, .int .i64 e2]] w fun e' w' => e' = .returned (.int .u64 (pOf k (max p1 p2) : Nat)) ∧ Below w.heap.size w w' := by
  have hab := (Below.refl w.heap.size w).alloc (Nat.le_refl _) (.cells #[.int .u64 p1, .int .i64 m1, .int .i64 f1, .bool n1, v1, .int .i64 e1] 26)
  have hac := hab.alloc hab.size (.cells #[.int .u64 p2, .int .i64 m2, .int .i64 f2, .bool n2, v2, .int .i64 e2] 26)
  have em : max (p1 : Int) (p2 : Int) = ((max p1 p2 : Nat) : Int) := by omega
  by_cases hk : k = 0
  · have t : ((k : Int) == 0) = true := by rw [hk]; rfl
    have H : Hid (pOf k (max p1 p2) = max p1 p2) := Lib.hid (by unfold pOf; rw [if_pos hk])
    obtain ⟨M, hM⟩ : ∃ M, M = max p1 p2 := ⟨_, rfl⟩
    rw [← hM] at em H ⊢
    clear hk hM
    go_enter Tryd.func21, Tryd.ntmps21
    go_wp2
    go_ret
    rw [H.out]
    exact ⟨rfl, hac⟩
  · have t : ((k : Int) == 0) = false := by rw [beq_eq_false_iff_ne]; omega
    have H : Hid (pOf k (max p1 p2) = k) := Lib.hid (by unfold pOf; rw [if_neg hk])
    clear hk em
    go_enter Tryd.func21, Tryd.ntmps21
    go_wp2
    go_ret
    rw [H.out]
    exact ⟨rfl, hac⟩
/-- What number says of a Real. -/
def NumIs (p m f : Int) (ws : List Nat) (e : Int) : Prop := f ≠ 2 ∧ RealIs 300 1000 p m f ws e
set_option maxRecDepth 100000 in
set_option maxHeartbeats 800000 in
theorem number_any (p : Nat) (m f e : Int) (neg : Bool) (v : Value) (ws : List Nat) (w : World) (hv : RW w v ws) :
    Calls Tryd.prog 16 #[.agg #[.int .u64 p, .int .i64 m, .int .i64 f, .bool neg, v, .int .i64 e]] w fun e' w' => ∃ ok, e' = .returned (.bool ok) ∧ (ok = true → NumIs p m f ws e) ∧ Below w.heap.size w w' := by
  have hS := hv.isS
  have hab := (Below.refl w.heap.size w).alloc (Nat.le_refl _) (.cells #[.int .u64 p, .int .i64 m, .int .i64 f, .bool neg, v, .int .i64 e] 26)
  obtain ⟨W, hW⟩ : ∃ W, W = w.alloc (.cells #[.int .u64 p, .int .i64 m, .int .i64 f, .bool neg, v, .int .i64 e] 26) := ⟨_, rfl⟩
  have hrow : W.heap[w.heap.size]? = some (.cells #[.int .u64 p, .int .i64 m, .int .i64 f, .bool neg, v, .int .i64 e] 26 (0, 0)) := by rw [hW]; exact box_row (Below.refl _ _)
  rw [← hW] at hab
  obtain ⟨-, x0, x1, x2, x3, x4, x5⟩ := ks12 hrow (Below.refl _ _)
  have HV := Lib.hid (hv.below hab)
  have HAB := Lib.hid hab
  clear hrow hv hab
  by_cases f2 : f = 2
  · have t : (f != 2) = false := by rw [f2]; rfl
    clear f2
    go_enter Tryd.func16, Tryd.ntmps16
    go_upto_region 1 with fail
    rw [← hW]
    clear hW
    go_wp2
    go_ret
    exact ⟨_, rfl, fun h => by simp at h, HAB.out⟩
  · have t : (f != 2) = true := by rw [bne_iff_ne]; exact f2
    have HF := Lib.hid f2
    clear f2
    go_enter Tryd.func16, Tryd.ntmps16
    go_upto_region 1 with fail
    rw [← hW]
    clear hW
    go_wp2_with fail
    refine (real_any 300 1000 p m f e neg v ws W HV.out (by decide) (by decide)).mono ?_
    rintro _ w1 ⟨ok, rfl, hok, hb⟩
    have HOK := Lib.hid hok
    have HB := Lib.hid (HAB.out.trans (hb.mono HAB.out.size))
    clear hok hb
    go_wp2
    go_ret
    exact ⟨_, rfl, fun h => ⟨HF.out, HOK.out h⟩, HB.out⟩
end Go.Proofs.YtjgkmnmemjebbaaDoor

/-
Rows of reals in a world, for the statements' walks. No condition.
-/
namespace Go.Proofs.YtjgkmnmemjebbaaDoor
open Go.RowKit

theorem row_chain11 {w : World} {a : Array Value} {A : TypeId} : (w.alloc (.cells a A)).heap[w.heap.size]? = some (.cells a A (0, 0)) := box_row (Below.refl _ _)
theorem row_chain21 {w : World} {a b : Array Value} {A B : TypeId} : ((w.alloc (.cells a A)).alloc (.cells b B)).heap[w.heap.size]? = some (.cells a A (0, 0)) := keep_row (fbone _) row_chain11
theorem row_chain22 {w : World} {a b : Array Value} {A B : TypeId} : ((w.alloc (.cells a A)).alloc (.cells b B)).heap[w.heap.size + 1]? = some (.cells b B (0, 0)) := by
  have := row_chain11 (w := w.alloc (.cells a A)) (a := b) (A := B)
  simpa using this
theorem row_chain31 {w : World} {a b c : Array Value} {A B C : TypeId} : (((w.alloc (.cells a A)).alloc (.cells b B)).alloc (.cells c C)).heap[w.heap.size]? = some (.cells a A (0, 0)) := keep_row (fbone _) row_chain21
theorem row_chain32 {w : World} {a b c : Array Value} {A B C : TypeId} : (((w.alloc (.cells a A)).alloc (.cells b B)).alloc (.cells c C)).heap[w.heap.size + 1]? = some (.cells b B (0, 0)) := keep_row (fbone _) row_chain22
theorem row_chain33 {w : World} {a b c : Array Value} {A B C : TypeId} : (((w.alloc (.cells a A)).alloc (.cells b B)).alloc (.cells c C)).heap[w.heap.size + 2]? = some (.cells c C (0, 0)) := by
  have := row_chain11 (w := (w.alloc (.cells a A)).alloc (.cells b B)) (a := c) (A := C)
  simpa using this
section
variable {W X : World} {i j k l : Nat} {a b c d e f a' b' c' d' e' f' a'' b'' c'' d'' e'' f'' x y z : Value} {T T' T'' U : TypeId}
theorem ksR1 (hr : W.heap[i]? = some (.cells #[a, b, c, d, e, f] T (0, 0))) (h : Below W.heap.size W X) :
    Below W.heap.size W X ∧ X.cell? ⟨i, 0, none⟩ = some a ∧ X.cell? ⟨i, 1, none⟩ = some b ∧ X.cell? ⟨i, 2, none⟩ = some c ∧ X.cell? ⟨i, 3, none⟩ = some d ∧ X.cell? ⟨i, 4, none⟩ = some e ∧ X.cell? ⟨i, 5, none⟩ = some f := ks12 hr h
theorem ksR2 (hr : W.heap[i]? = some (.cells #[a, b, c, d, e, f] T (0, 0))) (hq : W.heap[j]? = some (.cells #[a', b', c', d', e', f'] T' (0, 0))) (h : Below W.heap.size W X) :
    Below W.heap.size W X ∧ (X.cell? ⟨i, 0, none⟩ = some a ∧ X.cell? ⟨i, 1, none⟩ = some b ∧ X.cell? ⟨i, 2, none⟩ = some c ∧ X.cell? ⟨i, 3, none⟩ = some d ∧ X.cell? ⟨i, 4, none⟩ = some e ∧ X.cell? ⟨i, 5, none⟩ = some f) ∧
    (X.cell? ⟨j, 0, none⟩ = some a' ∧ X.cell? ⟨j, 1, none⟩ = some b' ∧ X.cell? ⟨j, 2, none⟩ = some c' ∧ X.cell? ⟨j, 3, none⟩ = some d' ∧ X.cell? ⟨j, 4, none⟩ = some e' ∧ X.cell? ⟨j, 5, none⟩ = some f') :=
  ⟨h, (ks12 hr h).2, (ks12 hq h).2⟩
theorem ksR3 (hr : W.heap[i]? = some (.cells #[a, b, c, d, e, f] T (0, 0))) (hq : W.heap[j]? = some (.cells #[a', b', c', d', e', f'] T' (0, 0))) (hs : W.heap[k]? = some (.cells #[a'', b'', c'', d'', e'', f''] T'' (0, 0))) (h : Below W.heap.size W X) :
    Below W.heap.size W X ∧ (X.cell? ⟨i, 0, none⟩ = some a ∧ X.cell? ⟨i, 1, none⟩ = some b ∧ X.cell? ⟨i, 2, none⟩ = some c ∧ X.cell? ⟨i, 3, none⟩ = some d ∧ X.cell? ⟨i, 4, none⟩ = some e ∧ X.cell? ⟨i, 5, none⟩ = some f) ∧
    (X.cell? ⟨j, 0, none⟩ = some a' ∧ X.cell? ⟨j, 1, none⟩ = some b' ∧ X.cell? ⟨j, 2, none⟩ = some c' ∧ X.cell? ⟨j, 3, none⟩ = some d' ∧ X.cell? ⟨j, 4, none⟩ = some e' ∧ X.cell? ⟨j, 5, none⟩ = some f') ∧
    (X.cell? ⟨k, 0, none⟩ = some a'' ∧ X.cell? ⟨k, 1, none⟩ = some b'' ∧ X.cell? ⟨k, 2, none⟩ = some c'' ∧ X.cell? ⟨k, 3, none⟩ = some d'' ∧ X.cell? ⟨k, 4, none⟩ = some e'' ∧ X.cell? ⟨k, 5, none⟩ = some f'') :=
  ⟨h, (ks12 hr h).2, (ks12 hq h).2, (ks12 hs h).2⟩
end
end Go.Proofs.YtjgkmnmemjebbaaDoor

/-
Floats: SetPrec, SetMantExp, MantExp, IsInt by values. No condition.
-/
namespace Go.Proofs.YtjgkmnmemjebbaaDoor
open Go.RowKit

set_option maxRecDepth 100000 in
theorem round_other (b B p m f : Nat) (a e : Int) (neg : Bool) (v : Value) (W : World) (hW : FltR W b p m a f neg v e) (hB : B ≤ b) (hf : f = 0 ∨ f = 2) :
    Calls Tryd.prog 66 #[.pointer (some ⟨b, 0, none⟩), .int .u64 0] W fun e' w' => e' = .returned (.tuple #[]) ∧ FltR w' b p m 0 f neg v e ∧ Below B W w' := by
  obtain ⟨c0, c1, c2, c3, c4, c5, c6⟩ := hW.cells
  obtain ⟨f0, f1, f2, f3, f4, f5, f6⟩ := hW.free
  have t2 : ((f : Int) != 1) = true := by rw [bne_iff_ne]; omega
  have R := Lib.hid (hW.s2 0)
  have BB := Lib.hid (bset (i := 2) (u := .int .i8 0) (Below.refl B W) hB)
  clear hW hf
  go_enter Tryd.func66, Tryd.ntmps66
  go_wp2
  refine bodyPost_ret (results_none rfl _ _ _) rfl ?_
  exact ⟨rfl, R.out, BB.out⟩
set_option maxRecDepth 100000 in
set_option maxHeartbeats 800000 in
theorem setPrec_val (b B p q m f : Nat) (a : Int) (neg : Bool) (M : Nat) (X : Int) (w : World) (h : FVal w B b p m a f neg M X) (hB : B ≤ b) (hf : f ≤ 2) (_hp0 : 0 < p) (_hp : p ≤ 64000000) (hq0 : 0 < q) (hq : q ≤ 64000000) (hm : m ≤ 5) (hX : f = 1 → -900000000 ≤ X ∧ X + bl M ≤ 900000000) :
    Calls Tryd.prog 44 #[.pointer (some ⟨b, 0, none⟩), .int .u64 q] w fun e' w' => e' = .returned (.pointer (some ⟨b, 0, none⟩)) ∧ FVal w' B b q m (stA f q m neg M) f neg (rQ q m neg 0 M) (X + rk q M) ∧ Below B w w' := by
  obtain ⟨v, e, h1, h2⟩ := h
  obtain ⟨c0, c1, c2, c3, c4, c5, c6⟩ := h1.cells
  obtain ⟨f0, f1, f2, f3, f4, f5, f6⟩ := h1.free
  have R1 := Lib.hid ((h1.s2 0).s0 q)
  have B1 := Lib.hid (bset (i := 0) (u := .int .u32 (q : Int)) (bset (i := 2) (u := .int .i8 0) (Below.refl B w) hB) hB)
  have t1 : ((q : Int) == 0) = false := by rw [beq_eq_false_iff_ne]; omega
  by_cases h3 : f = 1
  · subst h3
    obtain ⟨hM, ws, ho, hg, hd⟩ := h2 rfl
    have h0 := hd.symm.pos hM
    have hb := hd.bl h0
    rw [hg.bl] at hb
    have hx2 := hX rfl
    have he1 : -2147483648 ≤ e := by omega
    have he2 : e < 2147483647 := by omega
    obtain ⟨l1, l2⟩ := rnd_deq (p := q) (m := m) neg h0 hd
    have O1 := Lib.hid ((h1.s2 0).own (h1.own ho 2 (.int .i8 0)) 0 (.int .u32 (q : Int)))
    have HG := Lib.hid hg
    have HM := Lib.hid hM
    have HH : ∀ w', FVal w' B b q m (rA q m neg 0 (wv ws)) 1 neg (rQ q m neg 0 (wv ws)) (e - 64 * (ws.length : Int) + rk q (wv ws)) → FVal w' B b q m (stA 1 q m neg M) 1 neg (rQ q m neg 0 M) (X + rk q M) := fun w' hw => by
      obtain ⟨v', e', k1, k2⟩ := hw
      obtain ⟨n1, ws', n2, n3, n4⟩ := k2 rfl
      refine ⟨v', e', ?_, fun _ => ⟨l1.pos n1, ws', n2, n3, n4.trans l1⟩⟩
      unfold stA; rw [if_pos rfl, ← l2]; exact k1
    have HH := Lib.hid HH
    clear h1 h2 ho hg hd h0 hb hx2 hX l1 l2 hM
    by_cases hqp : q < p
    · have t2 : decide (q < p) = true := decide_eq_true hqp
      clear hqp
      go_enter Tryd.func44, Tryd.ntmps44
      go_wp2_with fail
      have hG := HG.out
      have hr := round_any b B q m 0 0 e neg v ws _ R1.out hB O1.out hG.2.2.1 hG.1 hG.2.2.2.1 hG.2.1 hq0 hq hm (by decide) (.inl rfl) he1 he2
      rw [show ((0 : Nat) : Int) = 0 from rfl] at hr
      refine hr.mono ?_
      rintro _ w8 ⟨rfl, hR⟩
      have F := Lib.hid (HH.out _ (hR.val (rQ_pos neg 0 hq0 (Nat.lt_of_lt_of_le (Nat.two_pow_pos _) hG.2.2.2.1))))
      obtain ⟨_, _, _, -, -, -, -, hb8⟩ := hR
      have HB8 := Lib.hid (B1.out.trans hb8)
      clear hr hG hb8
      go_wp2
      go_ret
      exact ⟨rfl, F.out, HB8.out⟩
    · have t2 : decide (q < p) = false := decide_eq_false hqp
      have F := Lib.hid (HH.out _ (fval_rnd R1.out O1.out (HG.out.wide (by omega)) hq0))
      clear hqp HH
      go_enter Tryd.func44, Tryd.ntmps44
      go_wp2
      go_ret
      exact ⟨rfl, F.out, B1.out⟩
  · have HF : Hid (∀ w', FltR w' b q m 0 f neg v e → FVal w' B b q m (stA f q m neg M) f neg (rQ q m neg 0 M) (X + rk q M)) := Lib.hid (fun w' hw => ⟨v, e, by unfold stA; rw [if_neg h3]; exact hw, fun hc => absurd hc h3⟩)
    have HR := Lib.hid (round_other b B q m f 0 e neg v _ R1.out hB (by omega))
    clear h1 h2 hX
    by_cases hqp : q < p
    · have t2 : decide (q < p) = true := decide_eq_true hqp
      clear hqp h3
      go_enter Tryd.func44, Tryd.ntmps44
      go_wp2_with fail
      refine HR.out.mono ?_
      rintro _ w8 ⟨rfl, hr, hb⟩
      have F := Lib.hid (HF.out _ hr)
      have HB8 := Lib.hid (B1.out.trans hb)
      clear hr hb
      go_wp2
      go_ret
      exact ⟨rfl, F.out, HB8.out⟩
    · have t2 : decide (q < p) = false := decide_eq_false hqp
      have F := Lib.hid (HF.out _ R1.out)
      clear hqp h3 HF HR
      go_enter Tryd.func44, Tryd.ntmps44
      go_wp2
      go_ret
      exact ⟨rfl, F.out, B1.out⟩
/-- What precision 0 leaves. -/
def zpF (f : Nat) : Nat := if f = 1 then 0 else f
set_option maxRecDepth 100000 in
set_option maxHeartbeats 800000 in
theorem setPrec_zero (b B p m f : Nat) (a e : Int) (neg : Bool) (v : Value) (w : World) (h : FltR w b p m a f neg v e) (hB : B ≤ b) (hf : f ≤ 2) :
    Calls Tryd.prog 44 #[.pointer (some ⟨b, 0, none⟩), .int .u64 0] w fun e' w' => e' = .returned (.pointer (some ⟨b, 0, none⟩)) ∧ (∃ a' : Int, (-1 ≤ a' ∧ a' ≤ 1) ∧ FltR w' b 0 m a' (zpF f) neg v e) ∧ Below B w w' := by
  obtain ⟨c0, c1, c2, c3, c4, c5, c6⟩ := h.cells
  obtain ⟨f0, f1, f2, f3, f4, f5, f6⟩ := h.free
  have r1 := (h.s2 0).s0 0
  have R1 := Lib.hid r1
  have B1 := Lib.hid (bset (i := 0) (u := .int .u32 (0 : Int)) (bset (i := 2) (u := .int .i8 0) (Below.refl B w) hB) hB)
  by_cases h3 : f = 1
  · subst h3
    obtain ⟨d0, d1, d2, d3, d4, d5, d6⟩ := r1.cells
    have c3' : w.cell? ⟨b, 3, none⟩ = some (.int .u8 1) := c3
    clear h r1 c3 d3
    go_enter Tryd.func44, Tryd.ntmps44
    go_wp2_with fail
    refine (makeAcc_any neg _).mono ?_
    rintro _ w1 ⟨rfl, hw1⟩
    obtain ⟨ac, hac⟩ : ∃ ac : Int, ac = (if neg then 1 else -1) := ⟨_, rfl⟩
    rw [← hac]
    have hacb : -1 ≤ ac ∧ ac ≤ 1 := by rw [hac]; cases neg <;> decide
    have HA := Lib.hid hacb
    have R2 := R1.out
    have B2 := B1.out
    rw [show ((0 : Nat) : Int) = 0 from rfl] at R2
    have R2' : FltR w1 b 0 m 0 1 neg v e := hw1 ▸ R2
    have B2' : Below B w w1 := hw1 ▸ B2
    obtain ⟨d0, d1, d2, d3, d4, d5, d6⟩ := R2'.cells
    obtain ⟨g0, g1, g2, g3, g4, g5, g6⟩ := R2'.free
    have R3 := Lib.hid ((R2'.s2 ac).s3 0)
    have B3 := Lib.hid (bset (i := 3) (u := .int .u8 (0 : Int)) (bset (i := 2) (u := .int .i8 ac) B2' hB) hB)
    clear hac hacb R1 B1 R2 B2 R2' B2' hw1
    go_wp2
    go_ret
    exact ⟨rfl, ⟨ac, HA.out, R3.out⟩, B3.out⟩
  · have t2 : ((f : Int) == 1) = false := by rw [beq_eq_false_iff_ne]; omega
    have HZ : Hid (zpF f = f) := Lib.hid (by unfold zpF; rw [if_neg h3])
    clear h h3 r1
    go_enter Tryd.func44, Tryd.ntmps44
    go_wp2
    go_ret
    exact ⟨rfl, ⟨0, by omega, by rw [HZ.out]; exact R1.out⟩, B1.out⟩
set_option maxRecDepth 100000 in
set_option maxHeartbeats 800000 in
theorem copyF_other (b B c p0 m0 f0' p m f : Nat) (a0 e0 a e : Int) (n0 neg : Bool) (u v : Value) (w : World) (h : FltR w b p0 m0 a0 f0' n0 u e0) (hB : B ≤ b) (hx : FltR w c p m a f neg v e) (hbc : b ≠ c) (hf : f ≠ 1) :
    Calls Tryd.prog 71 #[.pointer (some ⟨b, 0, none⟩), .pointer (some ⟨c, 0, none⟩)] w fun e' w' => e' = .returned (.pointer (some ⟨b, 0, none⟩)) ∧ FltR w' b p m a f neg u e0 ∧ Below B w w' := by
  obtain ⟨c0, c1, c2, c3, c4, c5, c6⟩ := h.cells
  obtain ⟨f0, f1, f2, f3, f4, f5, f6⟩ := h.free
  obtain ⟨d0, d1, d2, d3, d4, d5, d6⟩ := hx.cells
  have hcmp := neqF w hbc h hx
  have hbc1 : ¬ b = c := hbc
  have hbc2 : ¬ c = b := fun h => hbc h.symm
  have t1 : ((f : Int) == 1) = false := by rw [beq_eq_false_iff_ne]; omega
  have R5 := Lib.hid (((((h.s0 p).s1 m).s2 a).s3 f).s4 neg)
  have B5 := Lib.hid (bset (i := 4) (u := .bool neg) (bset (i := 3) (u := .int .u8 (f : Int)) (bset (i := 2) (u := .int .i8 a) (bset (i := 1) (u := .int .u8 (m : Int)) (bset (i := 0) (u := .int .u32 (p : Int)) (Below.refl B w) hB) hB) hB) hB) hB)
  clear h hx hf
  go_enter Tryd.func71, Tryd.ntmps71
  go_wp2
  go_ret
  exact ⟨rfl, R5.out, B5.out⟩
/-- The accuracy behind SetMantExp. -/
def smA (f : Nat) (a : Int) : Int := if f = 1 then 0 else a
set_option maxRecDepth 100000 in
set_option maxHeartbeats 800000 in
theorem setMantExp_val (b B c Bx p0 m0 f0' p m f : Nat) (a0 e0 a : Int) (n0 neg : Bool) (M : Nat) (X x : Int) (w : World) (h : FltR w b p0 m0 a0 f0' n0 (.slice none 0 0) e0) (hB : B ≤ b) (hx : FVal w Bx c p m a f neg M X) (hbc : b ≠ c) (hf : f ≤ 2)
    (hp0 : f = 1 → 0 < p) (hp : p ≤ 64000000) (hX : f = 1 → -500000000 ≤ X ∧ X + bl M ≤ 500000000) (hx1 : -500000000 ≤ x) (hx2 : x ≤ 500000000) :
    Calls Tryd.prog 45 #[.pointer (some ⟨b, 0, none⟩), .pointer (some ⟨c, 0, none⟩), .int .i64 x] w fun e' w' => e' = .returned (.pointer (some ⟨b, 0, none⟩)) ∧ FVal w' B b p m (smA f a) f neg M (X + x) ∧ Below B w w' := by
  obtain ⟨v, e, h1, h2⟩ := hx
  by_cases h3 : f = 1
  · subst h3
    obtain ⟨hM, ws, ho, hg, hd⟩ := h2 rfl
    have h0 := hd.symm.pos hM
    have hb := hd.bl h0
    rw [hg.bl] at hb
    have hx2 := hX rfl
    refine (setMantExp_exact b B c p0 m0 f0' p m a0 e0 a e x n0 neg v ws w h hB h1 hbc ho hg.2.2.1 hg.2.2.2.2 hg.1 hg.2.1 (hp0 rfl) hp (by omega) (by omega) (by omega) (by omega)).mono ?_
    rintro _ w' ⟨rfl, r, k1, k2, k3⟩
    refine ⟨rfl, ⟨r, e + x, k1, fun _ => ⟨hM, ws, k2, hg, ?_⟩⟩, k3⟩
    have := hd.exp x
    rw [show e + x - 64 * (ws.length : Int) = e - 64 * (ws.length : Int) + x by omega]
    exact this
  · have HC := Lib.hid (copyF_other b B c p0 m0 f0' p m f a0 e0 a e n0 neg _ v w h hB h1 hbc h3)
    have t1 : ((f : Int) == 1) = false := by rw [beq_eq_false_iff_ne]; omega
    have HF : Hid (∀ w', FltR w' b p m a f neg (.slice none 0 0) e0 → FVal w' B b p m (smA f a) f neg M (X + x)) := Lib.hid (fun w' hw => ⟨_, _, by unfold smA; rw [if_neg h3]; exact hw, fun hc => absurd hc h3⟩)
    clear h h1 h2 hX h3 hp0
    go_enter Tryd.func45, Tryd.ntmps45
    go_wp2_with fail
    refine HC.out.mono ?_
    rintro _ w1 ⟨rfl, k1, k2⟩
    obtain ⟨c0, c1, c2, c3, c4, c5, c6⟩ := k1.cells
    have K1 := Lib.hid (HF.out _ k1)
    have K2 := Lib.hid k2
    clear k1 k2
    go_wp2
    go_ret
    exact ⟨rfl, K1.out, K2.out⟩
/-- The exponent that MantExp tells, and what is left. -/
def mxE (f M : Nat) (X : Int) : Int := if f = 1 then X + bl M else 0
set_option maxRecDepth 100000 in
set_option maxHeartbeats 800000 in
theorem mantExp_val (b B c Bx p0 m0 f0' p m f : Nat) (a0 e0 a : Int) (n0 neg : Bool) (M : Nat) (X : Int) (w : World) (h : FltR w b p0 m0 a0 f0' n0 (.slice none 0 0) e0) (hB : B ≤ b) (hx : FVal w Bx c p m a f neg M X) (hbc : b ≠ c) (hf : f ≤ 2)
    (hX : f = 1 → -500000000 ≤ X ∧ X + bl M ≤ 500000000) :
    Calls Tryd.prog 47 #[.pointer (some ⟨c, 0, none⟩), .pointer (some ⟨b, 0, none⟩)] w fun e' w' => e' = .returned (.int .i64 (mxE f M X)) ∧ FVal w' B b p m a f neg M (-(bl M : Int)) ∧ Below B w w' := by
  obtain ⟨v, e, h1, h2⟩ := hx
  by_cases h3 : f = 1
  · subst h3
    obtain ⟨hM, ws, ho, hg, hd⟩ := h2 rfl
    have h0 := hd.symm.pos hM
    have hb := hd.bl h0
    rw [hg.bl] at hb
    have hx2 := hX rfl
    refine (mantExp_one b B c p0 m0 f0' p m a0 e0 a e n0 neg v ws w h hB h1 hbc ho hg.2.2.1 hg.2.1 (by omega) (by omega)).mono ?_
    rintro _ w' ⟨rfl, r, k1, k2, k3⟩
    refine ⟨by rw [mxE, if_pos rfl, show e = X + bl M by omega], ⟨r, 0, k1, fun _ => ⟨hM, ws, k2, hg, ?_⟩⟩, k3⟩
    have := hd.exp (-e)
    rw [show (0 : Int) - 64 * (ws.length : Int) = e - 64 * (ws.length : Int) + -e by omega, show -(bl M : Int) = X + -e by omega]
    exact this
  · have HC := Lib.hid (copyF_other b B c p0 m0 f0' p m f a0 e0 a e n0 neg _ v w h hB h1 hbc h3)
    have t1 : ((f : Int) == 1) = false := by rw [beq_eq_false_iff_ne]; omega
    have HF : Hid (∀ w', FltR w' b p m a f neg (.slice none 0 0) e0 → FVal w' B b p m a f neg M (-(bl M : Int))) := Lib.hid (fun w' hw => ⟨_, _, hw, fun hc => absurd hc h3⟩)
    have HE : Hid (mxE f M X = 0) := Lib.hid (by rw [mxE, if_neg h3])
    obtain ⟨d0, d1, d2, d3, d4, d5, d6⟩ := h1.cells
    clear h h1 h2 hX h3
    go_enter Tryd.func47, Tryd.ntmps47
    go_wp2_with fail
    refine HC.out.mono ?_
    rintro _ w1 ⟨rfl, k1, k2⟩
    obtain ⟨c0, c1, c2, c3, c4, c5, c6⟩ := k1.cells
    have K1 := Lib.hid (HF.out _ k1)
    have K2 := Lib.hid k2
    clear k1 k2
    go_wp2
    go_ret
    rw [HE.out]
    exact ⟨rfl, K1.out, K2.out⟩
/-- Whether a value is an integer. -/
def iiV (f M : Nat) (X : Int) : Bool := if f = 1 then decide (0 ≤ X + (tz M : Nat)) else decide (f = 0)
set_option maxRecDepth 100000 in
set_option maxHeartbeats 800000 in
theorem isInt_val (c Bx p m f : Nat) (a : Int) (neg : Bool) (M : Nat) (X : Int) (w : World) (hx : FVal w Bx c p m a f neg M X) (hf : f ≤ 2) (_hp : p ≤ 64000000)
    (hX : f = 1 → -500000000 ≤ X ∧ X + bl M ≤ 500000000) (hT : TabW w) :
    Calls Tryd.prog 55 #[.pointer (some ⟨c, 0, none⟩)] w fun e' w' => e' = .returned (.bool (iiV f M X)) ∧ Below w.heap.size w w' := by
  obtain ⟨v, e, h1, h2⟩ := hx
  obtain ⟨c0, c1, c2, c3, c4, c5, c6⟩ := h1.cells
  by_cases h3 : f = 1
  · subst h3
    obtain ⟨hM, ws, ho, hg, hd⟩ := h2 rfl
    have h0 := hd.symm.pos hM
    have hb := hd.bl h0
    rw [hg.bl] at hb
    have hx2 := hX rfl
    have hod := hd.od h0
    have hbM := bl_od hM
    have htM := tz_le hM
    obtain ⟨q, hq⟩ : ∃ q, q = bl (od (wv ws)) := ⟨_, rfl⟩
    have hMP : ∀ k, Calls Tryd.prog 52 #[.pointer (some ⟨c, 0, none⟩)] (w.drewN k) fun e' w' => e' = .returned (.int .u64 (q : Nat)) ∧ ∃ n, w' = (w.drewN k).drewN n := fun k => by
      rw [hq]; exact minPrec_one c p m a e neg v ws (w.drewN k) (h1.drewN k) ((ho.drewN k).rw' hg.2.2.1) h0 hg.2.1 hg.bl (hT.drewN k)
    have HMP := Lib.hid hMP
    have hqq : q = bl (od M) := by rw [hq, hod.1]
    have hqb : q ≤ 64000000 := by
      have h5 : bl (od (wv ws)) ≤ bl (wv ws) := by have := bl_od h0; omega
      have h6 := hg.bl
      have h7 := hg.2.1
      omega
    have HI : Hid (iiV 1 M X = decide (0 ≤ X + (tz M : Nat))) := Lib.hid (by rw [iiV, if_pos rfl])
    by_cases e0 : e ≤ 0
    · have t1 : decide (e ≤ 0) = true := decide_eq_true e0
      have HD : Hid (decide (0 ≤ X + (tz M : Nat)) = false) := Lib.hid (decide_eq_false (by omega))
      clear h1 h2 ho hg hd h0 hb hx2 hX hod hM hq hT hMP hqq e0
      go_enter Tryd.func55, Tryd.ntmps55
      go_wp2
      go_ret
      rw [HI.out, HD.out]
      exact ⟨rfl, Below.refl _ _⟩
    · have t1 : decide (e ≤ 0) = false := decide_eq_false e0
      obtain ⟨E, hE⟩ := Int.eq_ofNat_of_zero_le (show 0 ≤ e by omega)
      have hEb : E ≤ 1000000000 := by omega
      have t0 : decide (E = 0) = false := decide_eq_false (by omega)
      by_cases hpE : p ≤ E
      · have t2 : decide (p ≤ E) = true := decide_eq_true hpE
        have HD : Hid (decide (0 ≤ X + (tz M : Nat)) = true) := Lib.hid (decide_eq_true (by
          have h9 : (tz (wv ws) : Int) ≥ 64 * (ws.length : Int) - p := by
            rcases hg.2.2.2.2 with h | ⟨h, h', -⟩
            · omega
            · have := tz_dvd h0 h'; omega
          omega))
        subst hE
        clear h1 h2 ho hg hd h0 hb hx2 hX hod hM hq hT hMP hqq e0 hpE
        go_enter Tryd.func55, Tryd.ntmps55
        go_wp2_with fail
        go_quiet ((go_at_call 52; exact Calls.quiet_of (HMP.out _)))
        go_wp2
        go_ret
        rw [HI.out, HD.out]
        exact ⟨rfl, undrewN' (Below.refl _ _)⟩
      · have t2 : decide (p ≤ E) = false := decide_eq_false hpE
        have HD : Hid (decide (0 ≤ X + (tz M : Nat)) = decide (q ≤ E)) := Lib.hid (by
          rw [decide_eq_decide]; omega)
        subst hE
        clear h1 h2 ho hg hd h0 hb hx2 hX hod hM hq hT hMP hqq e0 hpE
        go_enter Tryd.func55, Tryd.ntmps55
        go_wp2_with fail
        go_quiet ((go_at_call 52; exact Calls.quiet_of (HMP.out _)))
        go_wp2
        go_ret
        rw [HI.out, HD.out]
        exact ⟨rfl, undrewN' (Below.refl _ _)⟩
  · have t1 : ((f : Int) != 1) = true := by rw [bne_iff_ne]; omega
    have t2 : ((f : Int) == 0) = decide (f = 0) := by
      by_cases h : f = 0
      · rw [h]; rfl
      · rw [decide_eq_false h, beq_eq_false_iff_ne]; omega
    obtain ⟨r, hr⟩ : ∃ r, r = decide (f = 0) := ⟨_, rfl⟩
    rw [← hr] at t2
    have HE : Hid (iiV f M X = r) := Lib.hid (by rw [iiV, if_neg h3, hr])
    clear h1 h2 hX h3 hr hT
    go_enter Tryd.func55, Tryd.ntmps55
    go_wp2
    go_ret
    rw [HE.out]
    exact ⟨rfl, Below.refl _ _⟩
end Go.Proofs.YtjgkmnmemjebbaaDoor

/-
The thin package's Set, Neg, Abs. No condition.
-/
namespace Go.Proofs.YtjgkmnmemjebbaaDoor
open Go.RowKit

theorem bthenX {B : Nat} {a b c : World} (h : Below B a b) (k : Below B b c) : Below B a c := h.trans k
theorem stA_bd (f p m : Nat) (neg : Bool) (M : Nat) : -1 ≤ stA f p m neg M ∧ stA f p m neg M ≤ 1 := by
  unfold stA rA; repeat' split
  all_goals omega
theorem rQ_range {p m M : Nat} {neg : Bool} {e : Int} (h : bl M ≤ 1000000 ∧ -100000000 ≤ e ∧ e ≤ 100000000) : -900000000 ≤ e + (rk p M : Nat) ∧ e + (rk p M : Nat) + bl (rQ p m neg 0 M) ≤ 900000000 := by
  have h1 := rk_le p M
  have h2 := bl_rQ p m neg 0 M
  omega
set_option maxRecDepth 100000 in
set_option maxHeartbeats 3200000 in
theorem impSet (P E q k p m f : Nat) (neg : Bool) (v : Value) (e : Int) (ws : List Nat) (w : World) (hv : RW w v ws) (ho : RealOk P E p m f ws e) (hP : P ≤ 1000000) (hE : E ≤ 100000000) (hq : q ≤ 1000000) (hk : k ≤ 5) (hT : TabW w) :
    Calls Tryd.prog 18 #[.int .u64 q, .int .i64 k, .agg #[.int .u64 p, .int .i64 m, .int .i64 f, .bool neg, v, .int .i64 e]] w fun e' w' => ∃ z, e' = .returned (.tuple #[z, .int .i64 (stA f (pOf q p) k neg (wv ws))]) ∧ RealV w' z (pOf q p) k f (neg) (rQ (pOf q p) k neg 0 (wv ws)) (e + rk (pOf q p) (wv ws)) ∧ Below w.heap.size w w' := by
  have hS := hv.isS
  have hab := (Below.refl w.heap.size w).alloc (Nat.le_refl _) (.cells #[.int .u64 p, .int .i64 m, .int .i64 f, .bool neg, v, .int .i64 e] 26)
  have hac := hab.alloc hab.size (.cells #[.int .u64 0, .int .i64 0, .int .i64 0, .bool false, .slice none 0 0, .int .i64 0] 26)
  obtain ⟨X, hX⟩ : ∃ X, X = (w.alloc (.cells #[.int .u64 p, .int .i64 m, .int .i64 f, .bool neg, v, .int .i64 e] 26)).alloc (.cells #[.int .u64 0, .int .i64 0, .int .i64 0, .bool false, .slice none 0 0, .int .i64 0] 26) := ⟨_, rfl⟩
  have hr1 : X.heap[w.heap.size]? = some (.cells #[.int .u64 p, .int .i64 m, .int .i64 f, .bool neg, v, .int .i64 e] 26 (0, 0)) := by
    rw [hX]; exact row_chain21
  have hr2 : X.heap[w.heap.size + 1]? = some (.cells #[.int .u64 0, .int .i64 0, .int .i64 0, .bool false, .slice none 0 0, .int .i64 0] 26 (0, 0)) := by
    rw [hX]; exact row_chain22
  rw [← hX] at hac
  have HV := Lib.hid (hv.below hac)
  have HO := Lib.hid ho
  have HT := Lib.hid (hT.below hac)
  have HR1 := Lib.hid hr1
  have HR2 := Lib.hid hr2
  have hwX := Lib.hid hac
  have hcc := Below.refl X.heap.size X
  have hXs := hac.size
  have hN := Lib.hid (show w.heap.size + 1 ≠ w.heap.size by omega)
  have hX2 : w.heap.size + 2 ≤ X.heap.size := by rw [hX]; simp
  have hp0 : 0 < p := ho.1
  have hpP : p ≤ 1000000 := Nat.le_trans ho.2.1 hP
  have hf2 : f ≤ 2 := by obtain ⟨_, _, _, h | h | ⟨h, _⟩⟩ := ho <;> omega
  have HXB : Hid (f = 1 → bl (wv ws) ≤ 1000000 ∧ -100000000 ≤ e ∧ e ≤ 100000000) := Lib.hid (fun h1 => by
    obtain ⟨_, _, _, h | h | h⟩ := ho
    · omega
    · omega
    · omega)
  have hpo : pOf q p ≤ 1000000 ∧ 0 < pOf q p := by unfold pOf; split <;> omega
  have HPO := Lib.hid hpo
  obtain ⟨A, hA⟩ : ∃ A, A = stA f (pOf q p) k neg (wv ws) := ⟨_, rfl⟩
  have hAb : -1 ≤ A ∧ A ≤ 1 := by rw [hA]; exact stA_bd _ _ _ _ _
  have HA := Lib.hid hA
  rw [← hA]
  obtain ⟨Z, hZ⟩ : ∃ Z, Z = pOf q p := ⟨_, rfl⟩
  have HZ := Lib.hid hZ
  rw [← hZ] at HPO ⊢
  clear hv ho hab hac hr1 hr2 hT hpo hA hZ
  go_enter Tryd.func18, Tryd.ntmps18
  go_upto_region 1 with fail
  rw [← hX]
  clear hX
  first
    | (go_region_held3 (fun w' => w'.cell? ⟨w.heap.size, 0, none⟩ = some (.int .u64 (p : Int)) ∧ w'.cell? ⟨w.heap.size, 1, none⟩ = some (.int .i64 (m : Int)) ∧ w'.cell? ⟨w.heap.size, 2, none⟩ = some (.int .i64 (f : Int)) ∧ w'.cell? ⟨w.heap.size, 3, none⟩ = some (.bool neg) ∧ w'.cell? ⟨w.heap.size, 4, none⟩ = some v ∧ w'.cell? ⟨w.heap.size, 5, none⟩ = some (.int .i64 e))
        ((first | (refine (ks12 HR1.out ?_).2; with_reducible first | assumption | exact Below.drew hcc) | with_reducible exact ks6R hN.out (ks6R hN.out (ks6R hN.out (ks6R hN.out (ks6R hN.out (ks6R hN.out (ks12 HR1.out hb6).2)))))))
        (first
          | (go_at_call 43; refine (float_val P E p m f neg v e ws _ (HV.out.below hb3) HO.out (by omega) (by omega)).mono ?_; rintro _ w4 ⟨g2, rfl, ⟨hgg, hF2⟩, hb4⟩; have G1 := Lib.hid (hF1.below hb4); have G2 := Lib.hid hF2; have hne := Lib.hid (show g1 ≠ g2 by have := hF1.lt; omega); have hBg := hb3.size; clear hF1 hF2; have hb4 := bthen hb3 hb4; have hbs4 := hb4.size)
          | (go_at_call 41; refine (fresh_all q k _ (by omega) (by omega)).mono ?_; rintro _ w3 ⟨g1, rfl, ⟨hg1, hF1⟩, hb3⟩; have hg1X : X.heap.size ≤ g1 := (by rw [hg1]; exact Nat.le_refl _); clear hg1; have hb3 : Below X.heap.size X w3 := bthen (Below.drew hcc) hb3)
          | (go_at_call 42; refine (setF_val g1 X.heap.size g2 _ q k 0 p m f 0 0 0 false neg (wv ws) e _ G1.out hg1X G2.out hne.out hf2 hp0 (by omega) (by omega) hk (fun h => by have := HXB.out h; omega)).mono ?_; rintro _ w5 ⟨rfl, hF5, hb5⟩; rw [← HA.out, ← HZ.out] at hF5; have F5 := Lib.hid hF5; clear hF5; have hb5 := bthenX hb4 hb5)
          | (go_at_call 40; refine (implBoth _ g1 Z k f A _ _ _ _ F5.out hf2 (by have := HPO.out; omega) (by omega) (fun _ => HPO.out.2) (fun h => rQ_range (HXB.out h)) (HT.out.below hb5) hAb).mono ?_; rintro _ w6 ⟨z, rfl, hz, hb6⟩; have hb6 := bthen hb5 hb6; have hq2 := keep_row hb6 HR2.out; obtain ⟨vz, Ez, zs, Bz, rfl, hz2, hzd, hz3, hz4⟩ := hz; have hSz := hz2.isS; obtain ⟨⟨y0, y1, y2, y3, y4, y5⟩, s0, s1, s2, s3, s4, s5⟩ := row6 hq2; have H2 := Lib.hid hz2; have H34 := Lib.hid (And.intro hzd (And.intro hz3 hz4)); have HQ2 := Lib.hid hq2; clear hz2 hzd hz3 hz4 hq2)))
    | fail
  all_goals go_wp2_with fail
  all_goals
    have HS := row6_set (x := .int .u64 (Z : Int)) (y := .int .i64 (k : Int)) (z := .int .i64 (f : Int)) (x' := .bool (neg)) (y' := vz) (z' := .int .i64 Ez) HQ2.out
    have HB := bset6 (x := .int .u64 (Z : Int)) (y := .int .i64 (k : Int)) (z := .int .i64 (f : Int)) (x' := .bool (neg)) (y' := vz) (z' := .int .i64 Ez) (hwX.out.trans (hb6.mono hXs)) (Nat.le_succ _)
    obtain ⟨⟨a0, a1, a2, a3, a4, a5⟩, -⟩ := row6 HS
    refine bodyPost_ret (v := .tuple #[.agg #[.int .u64 Z, .int .i64 k, .int .i64 f, .bool (neg), vz, .int .i64 Ez], .int .i64 A]) ?_ rfl ⟨_, rfl, ⟨_, _, _, Bz, rfl, ?_, H34.out.1, H34.out.2⟩, HB⟩
    · simp [results, Tryd.results18, go_sem, a0, a1, a2, a3, a4, a5]
    · exact H2.out.same fun hc => by
        have hne : sBlk vz ≠ w.heap.size + 1 := H2.out.ne_row HQ2.out (by decide) hc
        exact heap6_other hne
set_option maxRecDepth 100000 in
set_option maxHeartbeats 3200000 in
theorem impNeg (P E q k p m f : Nat) (neg : Bool) (v : Value) (e : Int) (ws : List Nat) (w : World) (hv : RW w v ws) (ho : RealOk P E p m f ws e) (hP : P ≤ 1000000) (hE : E ≤ 100000000) (hq : q ≤ 1000000) (hk : k ≤ 5) (hT : TabW w) :
    Calls Tryd.prog 29 #[.int .u64 q, .int .i64 k, .agg #[.int .u64 p, .int .i64 m, .int .i64 f, .bool neg, v, .int .i64 e]] w fun e' w' => ∃ z, e' = .returned (.tuple #[z, .int .i64 (stA f (pOf q p) k neg (wv ws))]) ∧ RealV w' z (pOf q p) k f (!neg) (rQ (pOf q p) k neg 0 (wv ws)) (e + rk (pOf q p) (wv ws)) ∧ Below w.heap.size w w' := by
  have hS := hv.isS
  have hab := (Below.refl w.heap.size w).alloc (Nat.le_refl _) (.cells #[.int .u64 p, .int .i64 m, .int .i64 f, .bool neg, v, .int .i64 e] 26)
  have hac := hab.alloc hab.size (.cells #[.int .u64 0, .int .i64 0, .int .i64 0, .bool false, .slice none 0 0, .int .i64 0] 26)
  obtain ⟨X, hX⟩ : ∃ X, X = (w.alloc (.cells #[.int .u64 p, .int .i64 m, .int .i64 f, .bool neg, v, .int .i64 e] 26)).alloc (.cells #[.int .u64 0, .int .i64 0, .int .i64 0, .bool false, .slice none 0 0, .int .i64 0] 26) := ⟨_, rfl⟩
  have hr1 : X.heap[w.heap.size]? = some (.cells #[.int .u64 p, .int .i64 m, .int .i64 f, .bool neg, v, .int .i64 e] 26 (0, 0)) := by
    rw [hX]; exact row_chain21
  have hr2 : X.heap[w.heap.size + 1]? = some (.cells #[.int .u64 0, .int .i64 0, .int .i64 0, .bool false, .slice none 0 0, .int .i64 0] 26 (0, 0)) := by
    rw [hX]; exact row_chain22
  rw [← hX] at hac
  have HV := Lib.hid (hv.below hac)
  have HO := Lib.hid ho
  have HT := Lib.hid (hT.below hac)
  have HR1 := Lib.hid hr1
  have HR2 := Lib.hid hr2
  have hwX := Lib.hid hac
  have hcc := Below.refl X.heap.size X
  have hXs := hac.size
  have hN := Lib.hid (show w.heap.size + 1 ≠ w.heap.size by omega)
  have hX2 : w.heap.size + 2 ≤ X.heap.size := by rw [hX]; simp
  have hp0 : 0 < p := ho.1
  have hpP : p ≤ 1000000 := Nat.le_trans ho.2.1 hP
  have hf2 : f ≤ 2 := by obtain ⟨_, _, _, h | h | ⟨h, _⟩⟩ := ho <;> omega
  have HXB : Hid (f = 1 → bl (wv ws) ≤ 1000000 ∧ -100000000 ≤ e ∧ e ≤ 100000000) := Lib.hid (fun h1 => by
    obtain ⟨_, _, _, h | h | h⟩ := ho
    · omega
    · omega
    · omega)
  have hpo : pOf q p ≤ 1000000 ∧ 0 < pOf q p := by unfold pOf; split <;> omega
  have HPO := Lib.hid hpo
  obtain ⟨A, hA⟩ : ∃ A, A = stA f (pOf q p) k neg (wv ws) := ⟨_, rfl⟩
  have hAb : -1 ≤ A ∧ A ≤ 1 := by rw [hA]; exact stA_bd _ _ _ _ _
  have HA := Lib.hid hA
  rw [← hA]
  obtain ⟨Z, hZ⟩ : ∃ Z, Z = pOf q p := ⟨_, rfl⟩
  have HZ := Lib.hid hZ
  rw [← hZ] at HPO ⊢
  clear hv ho hab hac hr1 hr2 hT hpo hA hZ
  go_enter Tryd.func29, Tryd.ntmps29
  go_upto_region 1 with fail
  rw [← hX]
  clear hX
  first
    | (go_region_held3 (fun w' => w'.cell? ⟨w.heap.size, 0, none⟩ = some (.int .u64 (p : Int)) ∧ w'.cell? ⟨w.heap.size, 1, none⟩ = some (.int .i64 (m : Int)) ∧ w'.cell? ⟨w.heap.size, 2, none⟩ = some (.int .i64 (f : Int)) ∧ w'.cell? ⟨w.heap.size, 3, none⟩ = some (.bool neg) ∧ w'.cell? ⟨w.heap.size, 4, none⟩ = some v ∧ w'.cell? ⟨w.heap.size, 5, none⟩ = some (.int .i64 e))
        ((first | (refine (ks12 HR1.out ?_).2; with_reducible first | assumption | exact Below.drew hcc) | with_reducible exact ks6R hN.out (ks6R hN.out (ks6R hN.out (ks6R hN.out (ks6R hN.out (ks6R hN.out (ks12 HR1.out hb6).2)))))))
        (first
          | (go_at_call 43; refine (float_val P E p m f neg v e ws _ (HV.out.below hb3) HO.out (by omega) (by omega)).mono ?_; rintro _ w4 ⟨g2, rfl, ⟨hgg, hF2⟩, hb4⟩; have G1 := Lib.hid (hF1.below hb4); have G2 := Lib.hid hF2; have hne := Lib.hid (show g1 ≠ g2 by have := hF1.lt; omega); have hBg := hb3.size; clear hF1 hF2; have hb4 := bthen hb3 hb4; have hbs4 := hb4.size)
          | (go_at_call 41; refine (fresh_all q k _ (by omega) (by omega)).mono ?_; rintro _ w3 ⟨g1, rfl, ⟨hg1, hF1⟩, hb3⟩; have hg1X : X.heap.size ≤ g1 := (by rw [hg1]; exact Nat.le_refl _); clear hg1; have hb3 : Below X.heap.size X w3 := bthen (Below.drew hcc) hb3)
          | (go_at_call 50; refine (negF_val g1 X.heap.size g2 _ q k 0 p m f 0 0 0 false neg (wv ws) e _ G1.out hg1X G2.out hne.out hf2 hp0 (by omega) (by omega) hk (fun h => by have := HXB.out h; omega)).mono ?_; rintro _ w5 ⟨rfl, hF5, hb5⟩; rw [← HA.out, ← HZ.out] at hF5; have F5 := Lib.hid hF5; clear hF5; have hb5 := bthenX hb4 hb5)
          | (go_at_call 40; refine (implBoth _ g1 Z k f A _ _ _ _ F5.out hf2 (by have := HPO.out; omega) (by omega) (fun _ => HPO.out.2) (fun h => rQ_range (HXB.out h)) (HT.out.below hb5) hAb).mono ?_; rintro _ w6 ⟨z, rfl, hz, hb6⟩; have hb6 := bthen hb5 hb6; have hq2 := keep_row hb6 HR2.out; obtain ⟨vz, Ez, zs, Bz, rfl, hz2, hzd, hz3, hz4⟩ := hz; have hSz := hz2.isS; obtain ⟨⟨y0, y1, y2, y3, y4, y5⟩, s0, s1, s2, s3, s4, s5⟩ := row6 hq2; have H2 := Lib.hid hz2; have H34 := Lib.hid (And.intro hzd (And.intro hz3 hz4)); have HQ2 := Lib.hid hq2; clear hz2 hzd hz3 hz4 hq2)))
    | fail
  all_goals go_wp2_with fail
  all_goals
    have HS := row6_set (x := .int .u64 (Z : Int)) (y := .int .i64 (k : Int)) (z := .int .i64 (f : Int)) (x' := .bool (!neg)) (y' := vz) (z' := .int .i64 Ez) HQ2.out
    have HB := bset6 (x := .int .u64 (Z : Int)) (y := .int .i64 (k : Int)) (z := .int .i64 (f : Int)) (x' := .bool (!neg)) (y' := vz) (z' := .int .i64 Ez) (hwX.out.trans (hb6.mono hXs)) (Nat.le_succ _)
    obtain ⟨⟨a0, a1, a2, a3, a4, a5⟩, -⟩ := row6 HS
    refine bodyPost_ret (v := .tuple #[.agg #[.int .u64 Z, .int .i64 k, .int .i64 f, .bool (!neg), vz, .int .i64 Ez], .int .i64 A]) ?_ rfl ⟨_, rfl, ⟨_, _, _, Bz, rfl, ?_, H34.out.1, H34.out.2⟩, HB⟩
    · simp [results, Tryd.results29, go_sem, a0, a1, a2, a3, a4, a5]
    · exact H2.out.same fun hc => by
        have hne : sBlk vz ≠ w.heap.size + 1 := H2.out.ne_row HQ2.out (by decide) hc
        exact heap6_other hne
set_option maxRecDepth 100000 in
set_option maxHeartbeats 3200000 in
theorem impAbs (P E q k p m f : Nat) (neg : Bool) (v : Value) (e : Int) (ws : List Nat) (w : World) (hv : RW w v ws) (ho : RealOk P E p m f ws e) (hP : P ≤ 1000000) (hE : E ≤ 100000000) (hq : q ≤ 1000000) (hk : k ≤ 5) (hT : TabW w) :
    Calls Tryd.prog 32 #[.int .u64 q, .int .i64 k, .agg #[.int .u64 p, .int .i64 m, .int .i64 f, .bool neg, v, .int .i64 e]] w fun e' w' => ∃ z, e' = .returned (.tuple #[z, .int .i64 (stA f (pOf q p) k neg (wv ws))]) ∧ RealV w' z (pOf q p) k f (false) (rQ (pOf q p) k neg 0 (wv ws)) (e + rk (pOf q p) (wv ws)) ∧ Below w.heap.size w w' := by
  have hS := hv.isS
  have hab := (Below.refl w.heap.size w).alloc (Nat.le_refl _) (.cells #[.int .u64 p, .int .i64 m, .int .i64 f, .bool neg, v, .int .i64 e] 26)
  have hac := hab.alloc hab.size (.cells #[.int .u64 0, .int .i64 0, .int .i64 0, .bool false, .slice none 0 0, .int .i64 0] 26)
  obtain ⟨X, hX⟩ : ∃ X, X = (w.alloc (.cells #[.int .u64 p, .int .i64 m, .int .i64 f, .bool neg, v, .int .i64 e] 26)).alloc (.cells #[.int .u64 0, .int .i64 0, .int .i64 0, .bool false, .slice none 0 0, .int .i64 0] 26) := ⟨_, rfl⟩
  have hr1 : X.heap[w.heap.size]? = some (.cells #[.int .u64 p, .int .i64 m, .int .i64 f, .bool neg, v, .int .i64 e] 26 (0, 0)) := by
    rw [hX]; exact row_chain21
  have hr2 : X.heap[w.heap.size + 1]? = some (.cells #[.int .u64 0, .int .i64 0, .int .i64 0, .bool false, .slice none 0 0, .int .i64 0] 26 (0, 0)) := by
    rw [hX]; exact row_chain22
  rw [← hX] at hac
  have HV := Lib.hid (hv.below hac)
  have HO := Lib.hid ho
  have HT := Lib.hid (hT.below hac)
  have HR1 := Lib.hid hr1
  have HR2 := Lib.hid hr2
  have hwX := Lib.hid hac
  have hcc := Below.refl X.heap.size X
  have hXs := hac.size
  have hN := Lib.hid (show w.heap.size + 1 ≠ w.heap.size by omega)
  have hX2 : w.heap.size + 2 ≤ X.heap.size := by rw [hX]; simp
  have hp0 : 0 < p := ho.1
  have hpP : p ≤ 1000000 := Nat.le_trans ho.2.1 hP
  have hf2 : f ≤ 2 := by obtain ⟨_, _, _, h | h | ⟨h, _⟩⟩ := ho <;> omega
  have HXB : Hid (f = 1 → bl (wv ws) ≤ 1000000 ∧ -100000000 ≤ e ∧ e ≤ 100000000) := Lib.hid (fun h1 => by
    obtain ⟨_, _, _, h | h | h⟩ := ho
    · omega
    · omega
    · omega)
  have hpo : pOf q p ≤ 1000000 ∧ 0 < pOf q p := by unfold pOf; split <;> omega
  have HPO := Lib.hid hpo
  obtain ⟨A, hA⟩ : ∃ A, A = stA f (pOf q p) k neg (wv ws) := ⟨_, rfl⟩
  have hAb : -1 ≤ A ∧ A ≤ 1 := by rw [hA]; exact stA_bd _ _ _ _ _
  have HA := Lib.hid hA
  rw [← hA]
  obtain ⟨Z, hZ⟩ : ∃ Z, Z = pOf q p := ⟨_, rfl⟩
  have HZ := Lib.hid hZ
  rw [← hZ] at HPO ⊢
  clear hv ho hab hac hr1 hr2 hT hpo hA hZ
  go_enter Tryd.func32, Tryd.ntmps32
  go_upto_region 1 with fail
  rw [← hX]
  clear hX
  first
    | (go_region_held3 (fun w' => w'.cell? ⟨w.heap.size, 0, none⟩ = some (.int .u64 (p : Int)) ∧ w'.cell? ⟨w.heap.size, 1, none⟩ = some (.int .i64 (m : Int)) ∧ w'.cell? ⟨w.heap.size, 2, none⟩ = some (.int .i64 (f : Int)) ∧ w'.cell? ⟨w.heap.size, 3, none⟩ = some (.bool neg) ∧ w'.cell? ⟨w.heap.size, 4, none⟩ = some v ∧ w'.cell? ⟨w.heap.size, 5, none⟩ = some (.int .i64 e))
        ((first | (refine (ks12 HR1.out ?_).2; with_reducible first | assumption | exact Below.drew hcc) | with_reducible exact ks6R hN.out (ks6R hN.out (ks6R hN.out (ks6R hN.out (ks6R hN.out (ks6R hN.out (ks12 HR1.out hb6).2)))))))
        (first
          | (go_at_call 43; refine (float_val P E p m f neg v e ws _ (HV.out.below hb3) HO.out (by omega) (by omega)).mono ?_; rintro _ w4 ⟨g2, rfl, ⟨hgg, hF2⟩, hb4⟩; have G1 := Lib.hid (hF1.below hb4); have G2 := Lib.hid hF2; have hne := Lib.hid (show g1 ≠ g2 by have := hF1.lt; omega); have hBg := hb3.size; clear hF1 hF2; have hb4 := bthen hb3 hb4; have hbs4 := hb4.size)
          | (go_at_call 41; refine (fresh_all q k _ (by omega) (by omega)).mono ?_; rintro _ w3 ⟨g1, rfl, ⟨hg1, hF1⟩, hb3⟩; have hg1X : X.heap.size ≤ g1 := (by rw [hg1]; exact Nat.le_refl _); clear hg1; have hb3 : Below X.heap.size X w3 := bthen (Below.drew hcc) hb3)
          | (go_at_call 51; refine (absF_val g1 X.heap.size g2 _ q k 0 p m f 0 0 0 false neg (wv ws) e _ G1.out hg1X G2.out hne.out hf2 hp0 (by omega) (by omega) hk (fun h => by have := HXB.out h; omega)).mono ?_; rintro _ w5 ⟨rfl, hF5, hb5⟩; rw [← HA.out, ← HZ.out] at hF5; have F5 := Lib.hid hF5; clear hF5; have hb5 := bthenX hb4 hb5)
          | (go_at_call 40; refine (implBoth _ g1 Z k f A _ _ _ _ F5.out hf2 (by have := HPO.out; omega) (by omega) (fun _ => HPO.out.2) (fun h => rQ_range (HXB.out h)) (HT.out.below hb5) hAb).mono ?_; rintro _ w6 ⟨z, rfl, hz, hb6⟩; have hb6 := bthen hb5 hb6; have hq2 := keep_row hb6 HR2.out; obtain ⟨vz, Ez, zs, Bz, rfl, hz2, hzd, hz3, hz4⟩ := hz; have hSz := hz2.isS; obtain ⟨⟨y0, y1, y2, y3, y4, y5⟩, s0, s1, s2, s3, s4, s5⟩ := row6 hq2; have H2 := Lib.hid hz2; have H34 := Lib.hid (And.intro hzd (And.intro hz3 hz4)); have HQ2 := Lib.hid hq2; clear hz2 hzd hz3 hz4 hq2)))
    | fail
  all_goals go_wp2_with fail
  all_goals
    have HS := row6_set (x := .int .u64 (Z : Int)) (y := .int .i64 (k : Int)) (z := .int .i64 (f : Int)) (x' := .bool (false)) (y' := vz) (z' := .int .i64 Ez) HQ2.out
    have HB := bset6 (x := .int .u64 (Z : Int)) (y := .int .i64 (k : Int)) (z := .int .i64 (f : Int)) (x' := .bool (false)) (y' := vz) (z' := .int .i64 Ez) (hwX.out.trans (hb6.mono hXs)) (Nat.le_succ _)
    obtain ⟨⟨a0, a1, a2, a3, a4, a5⟩, -⟩ := row6 HS
    refine bodyPost_ret (v := .tuple #[.agg #[.int .u64 Z, .int .i64 k, .int .i64 f, .bool (false), vz, .int .i64 Ez], .int .i64 A]) ?_ rfl ⟨_, rfl, ⟨_, _, _, Bz, rfl, ?_, H34.out.1, H34.out.2⟩, HB⟩
    · simp [results, Tryd.results32, go_sem, a0, a1, a2, a3, a4, a5]
    · exact H2.out.same fun hc => by
        have hne : sBlk vz ≠ w.heap.size + 1 := H2.out.ne_row HQ2.out (by decide) hc
        exact heap6_other hne
end Go.Proofs.YtjgkmnmemjebbaaDoor
