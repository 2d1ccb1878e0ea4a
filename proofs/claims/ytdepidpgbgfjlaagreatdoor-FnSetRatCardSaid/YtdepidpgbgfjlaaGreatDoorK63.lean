/-
Texts of this proof, joined: FlO FlP RnL StA StB FlR StC TzA TzB TzC TzD InF. No condition.
-/
import Derived.Test.YtdepidpgbgfjlaaGreatDoorK49
import Derived.Test.YtdepidpgbgfjlaaGreatDoorK50
import Derived.Test.YtdepidpgbgfjlaaGreatDoorK53
import Derived.Test.YtdepidpgbgfjlaaGreatDoorK60
import Derived.Test.YtdepidpgbgfjlaaGreatDoorK62
import Derived.Deep.QuietTactic
import Derived.BigQuiet
import Derived.Lib.TrailingZeros
import Derived.Shelf.Spec.TrailingZeros
namespace Go.Proofs.YtdepidpgbgfjlaaGreatDoor
open Go.RowKit

theorem Own.only {w w' : World} {B g : Nat} {v : Value} {xs : List Value} {p m f : Nat} {a e : Int} {neg : Bool} {u : Value} (h : Own w B 164 v xs) (hr : FltR w g p m a f neg u e) (ho : Only g w w') : Own w' B 164 v xs :=
  h.same fun hc => ho _ (h.lt hc).2 (h.ne_row hr (by decide) hc)
def FloatAt (w : World) (B g p m f : Nat) (neg : Bool) (M : Nat) (e : Int) : Prop :=
  B ≤ g ∧ ∃ r x, FltR w g p m 0 f neg r x ∧ (f = 1 → x = (bl M : Nat) + e ∧ Own w B 164 r (cellsW (topN M)))
def sgF (f : Nat) (neg : Bool) : Int := if f = 0 then 0 else if neg then -1 else 1
set_option maxRecDepth 100000 in
theorem fSign (b p m f : Nat) (a e : Int) (neg : Bool) (v : Value) (w : World) (h : FltR w b p m a f neg v e) :
    Calls Tryz.prog 152 #[.pointer (some ⟨b, 0, none⟩)] w fun e' w' => e' = .returned (.int .i64 (sgF f neg)) ∧ w = w' := by
  obtain ⟨c0, c1, c2, c3, c4, c5, c6⟩ := h.cells
  clear h
  by_cases hf : f = 0
  · subst hf
    have t1 : (((0 : Nat) : Int) == 0) = true := rfl
    have c3' : w.cell? ⟨b, 3, none⟩ = some (.int .u8 0) := c3
    have E : Hid (sgF 0 neg = 0) := Lib.hid rfl
    clear c3
    go_enter Tryz.func152, Tryz.ntmps152
    go_wp2
    go_ret
    exact ⟨congrArg (fun z => Ending.returned (.int .i64 z)) E.out.symm, rfl⟩
  · have t1 : ((f : Int) == 0) = false := by rw [beq_eq_false_iff_ne]; omega
    have E : Hid (sgF f neg = if neg then -1 else 1) := Lib.hid (by unfold sgF; rw [if_neg hf])
    clear hf
    cases neg
    · go_enter Tryz.func152, Tryz.ntmps152
      go_wp2
      go_ret
      exact ⟨congrArg (fun z => Ending.returned (.int .i64 z)) E.out.symm, rfl⟩
    · go_enter Tryz.func152, Tryz.ntmps152
      go_wp2
      go_ret
      exact ⟨congrArg (fun z => Ending.returned (.int .i64 z)) E.out.symm, rfl⟩
set_option maxRecDepth 100000 in
theorem fSignbit (b p m f : Nat) (a e : Int) (neg : Bool) (v : Value) (w : World) (h : FltR w b p m a f neg v e) :
    Calls Tryz.prog 150 #[.pointer (some ⟨b, 0, none⟩)] w fun e' w' => e' = .returned (.bool neg) ∧ w = w' := by
  obtain ⟨c0, c1, c2, c3, c4, c5, c6⟩ := h.cells
  clear h
  go_enter Tryz.func150, Tryz.ntmps150
  go_wp2
  go_ret
  exact ⟨rfl, rfl⟩
def RealOk (P E p m f : Nat) (ws : List Nat) (e : Int) : Prop :=
  0 < p ∧ p ≤ P ∧ m ≤ 5 ∧ (f = 0 ∨ f = 2 ∨ (f = 1 ∧ 0 < wv ws ∧ bl (wv ws) ≤ p ∧ ws.length ≤ 1000000 ∧ -(E : Int) ≤ e ∧ e ≤ E))
theorem rnd_fits {ws : List Nat} {p m : Nat} (neg : Bool) (h : Good ws p) (X : Int) : rA p m neg 0 (wv ws) = 0 ∧ deq (rQ p m neg 0 (wv ws)) (X + rk p (wv ws)) (wv ws) X := by
  have hb := h.bl
  obtain ⟨-, -, -, -, hf⟩ := h
  rcases hf with hf | ⟨hf1, hf2, -⟩
  · obtain ⟨k0, q0, a0⟩ := rQ_fits (p := p) (m := m) (M := wv ws) neg (by omega)
    rw [k0, q0, a0]
    exact ⟨rfl, 0, 0, rfl, by omega⟩
  · have hk : rk p (wv ws) = 64 * ws.length - p := by unfold rk; rw [hb]
    have hl : rL p 0 (wv ws) = 0 := by unfold rL; rw [hk, hf2]; exact lef_exact _
    have hq : rQ p m neg 0 (wv ws) = wv ws / 2 ^ (64 * ws.length - p) := by unfold rQ rU; rw [hl, awy_zero, hk]; simp
    refine ⟨by unfold rA; rw [if_pos hl], ?_⟩
    rw [hq, hk]
    refine ⟨64 * ws.length - p, 0, ?_, by omega⟩
    rw [Nat.pow_zero, Nat.mul_one]
    exact Nat.div_mul_cancel (Nat.dvd_of_mod_eq_zero hf2)
set_option maxRecDepth 100000 in
theorem round_anyX (b B p m s : Nat) (a e : Int) (neg : Bool) (v : Value) (ws : List Nat) (w : World) (h : FltR w b p m a 1 neg v e) (ho : Own w B 164 v (cellsW ws)) (hd : ∀ d ∈ ws, d < 18446744073709551616)
    (h0 : 0 < ws.length) (htop : 2 ^ (64 * ws.length - 1) ≤ wv ws) (hl : ws.length ≤ 1000000) (hp0 : 0 < p) (hp : p ≤ 64000000) (hm : m ≤ 5) (hs : s ≤ 1) (hsp : s = 0 ∨ p < 64 * ws.length) (he1 : -2147483648 ≤ e) (he2 : e < 2147483647) :
    Calls Tryz.prog 163 #[.pointer (some ⟨b, 0, none⟩), .int .u64 s] w fun e' w' => e' = .returned (.tuple #[]) ∧ RndQ (sBlk v) B b p m neg s (wv ws) (e - 64 * (ws.length : Int)) w w' := by
  by_cases hpL : p < 64 * ws.length
  · exact round_cut b B p m s a e neg v ws w h ho hd htop hpL hl hp0 hp hm hs he1 he2
  · have hs0 : s = 0 := by omega
    subst hs0
    have hf : Fits ws p := .inl (by omega)
    have hg : Good ws p := ⟨h0, hl, hd, htop, hf⟩
    have hc := round_exactX b B p m a e neg v ws w h ho hd hf h0 hl hp0 hp
    refine Calls.mono hc ?_
    rintro _ w' ⟨rfl, r1, r2, r3⟩
    obtain ⟨k1, k2⟩ := rnd_fits (m := m) neg hg (e - 64 * (ws.length : Int))
    exact ⟨rfl, v, ws, e, by rw [k1]; exact r1, r2, hg, k2.symm, rfl, r3⟩
set_option maxRecDepth 100000 in
set_option maxHeartbeats 800000 in
theorem setExp_anyX (b B p m f s : Nat) (a e x : Int) (neg : Bool) (v : Value) (ws : List Nat) (w : World) (h : FltR w b p m a f neg v e) (ho : Own w B 164 v (cellsW ws)) (hd : ∀ d ∈ ws, d < 18446744073709551616)
    (h0 : 0 < ws.length) (htop : 2 ^ (64 * ws.length - 1) ≤ wv ws) (hl : ws.length ≤ 1000000) (hp0 : 0 < p) (hp : p ≤ 64000000) (hm : m ≤ 5) (hs : s ≤ 1) (hsp : s = 0 ∨ p < 64 * ws.length) (hx1 : -2147483648 ≤ x) (hx2 : x < 2147483647) :
    Calls Tryz.prog 170 #[.pointer (some ⟨b, 0, none⟩), .int .i64 x, .int .u64 s] w fun e' w' => e' = .returned (.tuple #[]) ∧ RndQ (sBlk v) B b p m neg s (wv ws) (x - 64 * (ws.length : Int)) w w' := by
  obtain ⟨c0, c1, c2, c3, c4, c5, c6⟩ := h.cells
  obtain ⟨f0, f1, f2, f3, f4, f5, f6⟩ := h.free
  have hS := ho.isS
  have R2 := Lib.hid ((h.s3 1).s6 x)
  have O2 := Lib.hid ((h.s3 1).own (h.own ho 3 (.int .u8 (1 : Int))) 6 (.int .i32 x))
  have B2 := Lib.hid (Bel.box (i := 6) (x := .int .i32 x) (Bel.box (i := 3) (x := .int .u8 (1 : Int)) (Bel.refl b (sBlk v) w)))
  have HD := Lib.hid hd
  have HT := Lib.hid htop
  have HS := Lib.hid hsp
  clear h ho hd htop hsp
  go_enter Tryz.func170, Tryz.ntmps170
  go_wp2_with fail
  refine (round_anyX b B p m s a x neg v ws _ R2.out O2.out HD.out h0 HT.out hl hp0 hp hm hs HS.out hx1 hx2).mono ?_
  rintro _ w1 ⟨rfl, v1, ws1, e1, r1, r2, r3, r4, r4', r5⟩
  have Q : Hid (RndQ (sBlk v) B b p m neg s (wv ws) (x - 64 * (ws.length : Int)) w w1) := Lib.hid ⟨v1, ws1, e1, r1, r2, r3, r4, r4', B2.out.trans r5⟩
  clear r1 r2 r3 r4 r4' r5
  go_wp2
  go_end0
  exact ⟨rfl, Q.out⟩
theorem setExp_any (b B p m f s : Nat) (a e x : Int) (neg : Bool) (v : Value) (ws : List Nat) (w : World) (h : FltR w b p m a f neg v e) (hB : B ≤ b) (ho : Own w B 164 v (cellsW ws)) (hd : ∀ d ∈ ws, d < 18446744073709551616)
    (h0 : 0 < ws.length) (htop : 2 ^ (64 * ws.length - 1) ≤ wv ws) (hl : ws.length ≤ 1000000) (hp0 : 0 < p) (hp : p ≤ 64000000) (hm : m ≤ 5) (hs : s ≤ 1) (hsp : s = 0 ∨ p < 64 * ws.length) (hx1 : -2147483648 ≤ x) (hx2 : x < 2147483647) :
    Calls Tryz.prog 170 #[.pointer (some ⟨b, 0, none⟩), .int .i64 x, .int .u64 s] w fun e' w' => e' = .returned (.tuple #[]) ∧ RndP B b p m neg s (wv ws) (x - 64 * (ws.length : Int)) w w' :=
  (setExp_anyX b B p m f s a e x neg v ws w h ho hd h0 htop hl hp0 hp hm hs hsp hx1 hx2).mono fun _ _ h1 => by
    have hc : 0 < sCap v := by have := ho.isS.le; have := ho.len; rw [cellsW_length] at this; omega
    have h2 := ho.lt hc
    exact ⟨h1.1, h1.2.toP hB h2.1 (by omega)⟩
def FVal (w : World) (B b p m : Nat) (a : Int) (f : Nat) (neg : Bool) (M : Nat) (X : Int) : Prop :=
  ∃ v e, FltR w b p m a f neg v e ∧ (f = 1 → 0 < M ∧ ∃ ws, Own w B 164 v (cellsW ws) ∧ Good ws p ∧ deq (wv ws) (e - 64 * (ws.length : Int)) M X)
theorem FVal.below {w w' : World} {B b p m f : Nat} {a : Int} {neg : Bool} {M : Nat} {X : Int} (h : FVal w B b p m a f neg M X) (hb : Below w.heap.size w w') : FVal w' B b p m a f neg M X := by
  obtain ⟨v, e, h1, h3⟩ := h
  refine ⟨v, e, h1.below hb, fun hf => ?_⟩
  obtain ⟨h4, ws, h5, h6, h7⟩ := h3 hf
  exact ⟨h4, ws, h5.below hb, h6, h7⟩
theorem topN_good {M p : Nat} (h : 0 < M) (hM : bl M ≤ p) (hl : nw M ≤ 1000000) : Good (topN M) p := by
  have hb := nw_bl h
  have hbp := bl_pos h
  refine ⟨by rw [topN_length]; exact nw_pos h, by rw [topN_length]; exact hl, wdsN_lt, ?_, topN_fits h hM⟩
  rw [topN_length, topN_wv h, show 64 * nw M - 1 = (bl M - 1) + (64 * nw M - bl M) by omega, Nat.pow_add]
  exact Nat.mul_le_mul_right _ (bl_ge h)
theorem FloatAt.val {w : World} {B g p m f M : Nat} {neg : Bool} {e : Int} (h : FloatAt w B g p m f neg M e) (h1 : f = 1 → 0 < M ∧ bl M ≤ p ∧ nw M ≤ 1000000) : FVal w B g p m 0 f neg M e := by
  obtain ⟨-, r, x, h2, h3⟩ := h
  refine ⟨r, x, h2, fun hf => ?_⟩
  obtain ⟨k1, k2, k3⟩ := h1 hf
  obtain ⟨k4, k5⟩ := h3 hf
  have hb := nw_bl k1
  refine ⟨k1, topN M, k5, topN_good k1 k2 k3, ?_⟩
  rw [topN_wv k1, topN_length, k4]
  refine ⟨0, 64 * nw M - bl M, by simp, ?_⟩
  omega
theorem RndQ.val {u B b p m s N : Nat} {neg : Bool} {X : Int} {w w' : World} (h : RndQ u B b p m neg s N X w w') (hN : 0 < rQ p m neg s N) : FVal w' B b p m (rA p m neg s N) 1 neg (rQ p m neg s N) (X + rk p N) := by
  obtain ⟨v, ws, e, h1, h2, h3, h4, -, -⟩ := h
  exact ⟨v, e, h1, fun _ => ⟨hN, ws, h2, h3, h4⟩⟩
theorem RndP.val {B b p m s N : Nat} {neg : Bool} {X : Int} {w w' : World} (h : RndP B b p m neg s N X w w') (hN : 0 < rQ p m neg s N) : FVal w' B b p m (rA p m neg s N) 1 neg (rQ p m neg s N) (X + rk p N) := by
  obtain ⟨v, ws, e, h1, h2, h3, h4, -⟩ := h
  exact ⟨v, e, h1, fun _ => ⟨hN, ws, h2, h3, h4⟩⟩
theorem rQ_pos {p m M : Nat} (neg : Bool) (s : Nat) (hp : 0 < p) (hM : 0 < M) : 0 < rQ p m neg s M := by
  have h : 0 < M / 2 ^ rk p M := by
    rcases Nat.lt_or_ge p (bl M) with h | h
    · have := (rQ_bound (m := m) neg s hp h).1
      have := Nat.two_pow_pos (p - 1)
      omega
    · have h0 : rk p M = 0 := by unfold rk; omega
      rw [h0, Nat.pow_zero, Nat.div_one]; exact hM
  unfold rQ; omega
def pOf (p0 p : Nat) : Nat := if p0 = 0 then p else p0
theorem FVal.setNeg {w : World} {B b p m f M : Nat} {a : Int} {neg : Bool} {X : Int} (h : FVal w B b p m a f neg M X) (x : Bool) : FVal (w.setCell ⟨b, 4, none⟩ (.bool x)) B b p m a f x M X := by
  obtain ⟨v, e, h1, h2⟩ := h
  refine ⟨v, e, h1.s4 x, fun hf => ?_⟩
  obtain ⟨n1, ws, n2, n3, n4⟩ := h2 hf
  exact ⟨n1, ws, h1.own n2 4 _, n3, n4⟩
theorem ks12 {W X : World} {k : Nat} {a b c d e f : Value} {T : TypeId} (hr : W.heap[k]? = some (.cells #[a, b, c, d, e, f] T (0, 0))) (h : Below W.heap.size W X) :
    Below W.heap.size W X ∧ X.cell? ⟨k, 0, none⟩ = some a ∧ X.cell? ⟨k, 1, none⟩ = some b ∧ X.cell? ⟨k, 2, none⟩ = some c ∧ X.cell? ⟨k, 3, none⟩ = some d ∧ X.cell? ⟨k, 4, none⟩ = some e ∧ X.cell? ⟨k, 5, none⟩ = some f :=
  ⟨h, (row_at (keep_row h hr) rfl).1, (row_at (keep_row h hr) rfl).1, (row_at (keep_row h hr) rfl).1, (row_at (keep_row h hr) rfl).1, (row_at (keep_row h hr) rfl).1, (row_at (keep_row h hr) rfl).1⟩
set_option maxRecDepth 100000 in
theorem setPrec0_new (b B m : Nat) (a e : Int) (neg : Bool) (v : Value) (w : World) (h : FltR w b 0 m a 0 neg v e) (hB : B ≤ b) :
    Calls Tryz.prog 103 #[.pointer (some ⟨b, 0, none⟩), .int .u64 0] w fun e' w' => e' = .returned (.pointer (some ⟨b, 0, none⟩)) ∧ FltR w' b 0 m 0 0 neg v e ∧ Below B w w' := by
  obtain ⟨c0, c1, c2, c3, c4, c5, c6⟩ := h.cells
  obtain ⟨f0, f1, f2, f3, f4, f5, f6⟩ := h.free
  have c3' : w.cell? ⟨b, 3, none⟩ = some (.int .u8 0) := c3
  have F := Lib.hid ((h.s2 0).s0 0)
  have FB := Lib.hid (bset (i := 0) (u := .int .u32 (0 : Int)) (bset (i := 2) (u := .int .i8 0) (Below.refl B w) hB) hB)
  clear h c3
  go_enter Tryz.func103, Tryz.ntmps103
  go_wp2
  go_ret
  exact ⟨rfl, F.out, FB.out⟩
set_option maxRecDepth 100000 in
theorem fresh_zero (m : Nat) (w : World) (hm : m ≤ 255) :
    Calls Tryz.prog 64 #[.int .u64 0, .int .i64 m] w fun e' w' => e' = .returned (.pointer (some ⟨w.heap.size, 0, none⟩)) ∧ FltR w' w.heap.size 0 m 0 0 false (.slice none 0 0) 0 ∧ Below w.heap.size w w' := by
  go_enter Tryz.func64, Tryz.ntmps64
  go_wp2_with fail
  refine (setPrec0_new w.heap.size w.heap.size 0 0 0 false (.slice none 0 0) _ (newF_row w) (Nat.le_refl _)).mono ?_
  rintro _ w1 ⟨rfl, h1, hb1⟩
  have hb1' := (fbone (W := w) newF).trans hb1
  have H1 := Lib.hid h1
  have HB1 := Lib.hid hb1'
  clear h1 hb1 hb1'
  go_wp2_with fail
  refine (setMode_any w.heap.size w.heap.size 0 0 m 0 0 0 false _ w1 H1.out (Nat.le_refl _)).mono ?_
  rintro _ w2 ⟨rfl, h2, hb2⟩
  have H2 := Lib.hid h2
  have HB2 := Lib.hid (HB1.out.trans hb2)
  clear h2 hb2
  go_wp2
  go_ret
  exact ⟨rfl, H2.out, HB2.out⟩
theorem fresh_all (p m : Nat) (w : World) (hp : p ≤ 64000000) (hm : m ≤ 255) :
    Calls Tryz.prog 64 #[.int .u64 p, .int .i64 m] w fun e' w' => ∃ g, e' = .returned (.pointer (some ⟨g, 0, none⟩)) ∧ (g = w.heap.size ∧ FltR w' g p m 0 0 false (.slice none 0 0) 0) ∧ Below w.heap.size w w' := by
  rcases Nat.eq_zero_or_pos p with rfl | h
  · refine (fresh_zero m w hm).mono ?_
    rintro _ w' ⟨rfl, h1, h2⟩
    exact ⟨_, rfl, ⟨rfl, h1⟩, h2⟩
  · refine (fresh_any p m w h hp hm).mono ?_
    rintro _ w' ⟨rfl, h1, h2⟩
    exact ⟨_, rfl, ⟨rfl, h1⟩, h2⟩
set_option maxRecDepth 100000 in
theorem target_any (p m : Nat) (w : World) (hp : p ≤ 65535) (hm : m ≤ 255) :
    Calls Tryz.prog 17 #[.int .u16 p, .int .u8 m] w fun e w' => e = .returned (.tuple #[.int .u64 ((p % 301 : Nat) : Int), .int .i64 ((m % 6 : Nat) : Int)]) ∧ w = w' := by
  have e1 : (p : Int) % 301 = ((p % 301 : Nat) : Int) := by omega
  have e2 : (m : Int) % 6 = ((m % 6 : Nat) : Int) := by omega
  obtain ⟨q, hq⟩ : ∃ q, q = p % 301 := ⟨_, rfl⟩
  obtain ⟨n, hn⟩ : ∃ n, n = m % 6 := ⟨_, rfl⟩
  rw [← hq] at e1 ⊢
  rw [← hn] at e2 ⊢
  have hql : q ≤ 300 := by omega
  have hnl : n ≤ 5 := by omega
  clear hq hn
  go_enter Tryz.func17, Tryz.ntmps17
  go_wp2
  go_ret2
  exact ⟨rfl, rfl⟩
def TabW (w : World) : Prop := TabAt 6 Lib.deBruijn64tab w
theorem TabW.below {w w' : World} (h : TabW w) (hb : Below w.heap.size w w') : TabW w' := fun j hj => by
  have h1 := h j hj
  have hlt := World.block_lt_of_cell? w _ h1
  rw [hb.cell (p := ⟨6, j, none⟩) hlt]; exact h1
theorem TabW.drewN {w : World} (h : TabW w) (n : Nat) : TabW (w.drewN n) := h
theorem ctz_tz {x : Nat} (h0 : 0 < x) (hx : x < 18446744073709551616) : Lib.ctz 64 x = tz x := by
  obtain ⟨m, hm, -⟩ := Lib.ctzFrom_spec 64 x h0 (by simpa using hx)
  have e : Lib.ctz 64 x = Lib.ctzFrom 64 x := by simp [Lib.ctz]; omega
  rw [e]
  exact ((od_of (n := x) (o := 2 * m + 1) (t := Lib.ctzFrom 64 x) (by rw [Nat.mul_comm]; exact hm) (by omega)).2).symm
set_option maxRecDepth 100000 in
theorem tz64_any (x : Nat) (w : World) (h0 : 0 < x) (hx : x < 18446744073709551616) (hT : TabW w) :
    Calls Tryz.prog 234 #[.int .u64 x] w fun e w' => e = .returned (.int .i64 (tz x : Nat)) ∧ w = w' := by
  obtain ⟨hlow, hk⟩ := Lib.lowest_bit 64 x (by omega) (by simpa using hx)
  obtain ⟨hi, htab⟩ := Lib.deBruijn64_at _ hk
  have hcell := hT _ hi
  rw [htab, ctz_tz h0 hx] at hcell
  have key := tz64_key x _ hx (by omega) hlow
  rw [ctz_tz h0 hx] at key hi
  rw [ctz_tz h0 hx] at hk
  obtain ⟨i, hii⟩ : ∃ i, i = 2 ^ tz x * 285870213051353865 % 18446744073709551616 / 288230376151711744 := ⟨_, rfl⟩
  rw [← hii] at key hi hcell
  have t0 : ((x : Int) == 0) = false := by rw [beq_eq_false_iff_ne]; omega
  obtain ⟨k, hkk⟩ : ∃ k, k = tz x := ⟨_, rfl⟩
  rw [← hkk] at hcell hk ⊢
  clear hlow htab hii hkk hT
  go_enter Tryz.func234, Tryz.ntmps234
  go_wp2_with (simp only [key])
  go_ret
  exact ⟨rfl, rfl⟩
set_option maxRecDepth 100000 in
theorem tzc_any (x : Nat) (w : World) (h0 : 0 < x) (hx : x < 18446744073709551616) (hT : TabW w) :
    Calls Tryz.prog 201 #[.int .u64 x] w fun e w' => e = .returned (.int .i64 (tz x : Nat)) ∧ w = w' := by
  have H := Lib.hid (tz64_any x w h0 hx hT)
  have hk : tz x < 64 := by have := tz_le h0; have := bl_le64 hx; omega
  obtain ⟨k, hkk⟩ : ∃ k, k = tz x := ⟨_, rfl⟩
  rw [← hkk] at hk H ⊢
  clear hkk h0 hT
  go_enter Tryz.func201, Tryz.ntmps201
  go_wp2_with fail
  refine H.out.mono ?_
  rintro _ _ ⟨rfl, rfl⟩
  go_wp2
  go_ret
  exact ⟨rfl, rfl⟩
theorem tz_words {N k : Nat} (h : ∀ j, j < k → wdg N j = 0) (hk : wdg N k ≠ 0) : tz N = 64 * k + tz (wdg N k) := by
  have h1 := (wlow_zero (n := N) k).2 h
  have hd := Nat.pos_of_ne_zero hk
  have hN : N = 18446744073709551616 ^ k * (N / 18446744073709551616 ^ k) := by have := Nat.div_add_mod N (18446744073709551616 ^ k); omega
  obtain ⟨o1, o2⟩ := od_tz hd
  have hq : N / 18446744073709551616 ^ k = 18446744073709551616 * (N / 18446744073709551616 ^ k / 18446744073709551616) + wdg N k := by
    unfold wdg; exact (Nat.div_add_mod _ _).symm
  have ht : tz (wdg N k) < 64 := by have := tz_le hd; have := bl_le64 (wdg_lt N k); omega
  obtain ⟨Y, hY⟩ : ∃ Y, Y = N / 18446744073709551616 ^ k / 18446744073709551616 := ⟨_, rfl⟩
  rw [← hY] at hq
  have e : (18446744073709551616 : Nat) = 2 ^ (63 - tz (wdg N k)) * 2 * 2 ^ tz (wdg N k) := by
    rw [← Nat.pow_succ, ← Nat.pow_add, show 63 - tz (wdg N k) + 1 + tz (wdg N k) = 64 by omega]
  have h2 : N / 18446744073709551616 ^ k = (2 * (2 ^ (63 - tz (wdg N k)) * Y) + od (wdg N k)) * 2 ^ tz (wdg N k) := by
    rw [hq, Nat.add_mul, ← o1]
    congr 1
    conv => lhs; rw [e]
    simp only [Nat.mul_comm, Nat.mul_left_comm]
  refine (od_of (n := N) (o := 2 * (2 ^ (63 - tz (wdg N k)) * Y) + od (wdg N k)) (t := 64 * k + tz (wdg N k)) ?_ (by omega)).2
  conv => lhs; rw [hN, h2, w_two]
  rw [Nat.mul_comm (2 ^ (64 * k)), Nat.mul_assoc, ← Nat.pow_add, Nat.add_comm (tz _)]
set_option maxRecDepth 100000 in
set_option maxHeartbeats 800000 in
theorem tzb_any (v : Value) (ws : List Nat) (w : World) (hv : RW w v ws) (h0 : 0 < wv ws) (hl : ws.length ≤ 1000000000) (hT : TabW w) :
    Calls Tryz.prog 142 #[v] w fun e w' => e = .returned (.int .u64 (tz (wv ws) : Nat)) ∧ w = w' := by
  have hS := hv.isS
  have hL : sLen v = ws.length := hv.len
  have hget : ∀ j, ws.getD j 0 = wdg (wv ws) j := fun j => by rw [wv_dig hv.lt]
  have hne : 0 < ws.length := by
    rcases Nat.eq_zero_or_pos ws.length with h | h
    · have := List.eq_nil_of_length_eq_zero h; subst this; simp [wv] at h0
    · exact h
  obtain ⟨L, hLw⟩ : ∃ L, L = ws.length := ⟨_, rfl⟩
  rw [← hLw] at hL hl hne
  have hNl : wv ws < 18446744073709551616 ^ L := by rw [hLw]; exact wv_lt hv.lt
  obtain ⟨N, hN⟩ : ∃ N, N = wv ws := ⟨_, rfl⟩
  rw [← hN] at h0 hget hNl ⊢
  have t0 : ((L : Int) == 0) = false := by rw [beq_eq_false_iff_ne]; omega
  have HV := Lib.hid hv
  have HG := Lib.hid hget
  have HL := Lib.hid hLw
  have HT := Lib.hid hT
  have HNL := Lib.hid hNl
  clear hv hget hLw hT hN hNl
  go_enter Tryz.func142, Tryz.ntmps142
  go_wp2
  go_loopw [3] (fun i wr => ∃ k : Nat, k < L ∧ (∀ j, j < k → wdg N j = 0) ∧ i = .int .u64 k ∧ w = wr) (fun i _ => L - (intOf i).toNat)
  case atStart => exact ⟨0, hne, fun j hj => absurd hj (by omega), rfl, rfl⟩
  case round =>
    obtain ⟨k, hk, hz, rfl, rfl⟩ := hrel
    have c := HV.out.cell k (by rw [← HL.out]; exact hk)
    rw [HG.out] at c
    have HZ := Lib.hid hz
    have hdl := wdg_lt N k
    obtain ⟨d, hd⟩ : ∃ d, d = wdg N k := ⟨_, rfl⟩
    rw [← hd] at c hdl
    have HD := Lib.hid hd
    clear hz hd
    by_cases hd0 : d = 0
    · subst hd0
      have hk1 : k + 1 < L := by
        refine Nat.lt_of_not_le fun hc => ?_
        have : N % 18446744073709551616 ^ L = 0 := (wlow_zero (n := N) L).2 fun j hj => by
          by_cases hjk : j < k
          · exact HZ.out j hjk
          · rw [show j = k by omega]; exact HD.out.symm
        rw [Nat.mod_eq_of_lt HNL.out] at this
        omega
      go_wp2
      refine ⟨⟨k + 1, hk1, fun j hj => ?_, by simp, trivial⟩, by simp [intOf]; omega⟩
      by_cases hjk : j < k
      · exact HZ.out j hjk
      · rw [show j = k by omega]; exact HD.out.symm
    · have t1 : ((d : Int) == 0) = false := by rw [beq_eq_false_iff_ne]; omega
      have hdp : 0 < d := by omega
      have ht := tz_words HZ.out (by rw [← HD.out]; exact hd0)
      rw [← HD.out] at ht
      have htl : tz d < 64 := by have := tz_le hdp; have := bl_le64 hdl; omega
      have HTD := Lib.hid ht
      clear ht hd0
      go_wp2_with fail
      refine (tzc_any d w hdp hdl HT.out).mono ?_
      rintro _ _ ⟨rfl, rfl⟩
      obtain ⟨q, hq⟩ : ∃ q, q = tz d := ⟨_, rfl⟩
      rw [← hq] at htl HTD ⊢
      clear hq
      go_wp2
      go_ret
      rw [HTD.out]
      exact ⟨ret_u64 (by push_cast; omega), rfl⟩
set_option maxRecDepth 100000 in
set_option maxHeartbeats 1600000 in
theorem rsh_nil (v : Value) (ws : List Nat) (s : Nat) (w : World) (hv : RW w v ws) (hl : ws.length ≤ 1000000) (hs0 : 0 < s) (hs : s < 64 * ws.length) :
    Calls Tryz.prog 143 #[.slice none 0 0, v, .int .u64 s] w fun e w' => ∃ r, e = .returned r ∧ Own w' w.heap.size 164 r (cellsW (wds (wv ws / 2 ^ s))) ∧ Below w.heap.size w w' := by
  have hS := hv.isS
  have hLv := hv.len
  obtain ⟨L, hL⟩ : ∃ L, L = ws.length := ⟨_, rfl⟩
  rw [← hL] at hLv hl hs
  have t0 : ((s : Int) == 0) = false := by rw [beq_eq_false_iff_ne]; omega
  obtain ⟨n, hn⟩ : ∃ n, n = L - s / 64 := ⟨_, rfl⟩
  obtain ⟨k, hk⟩ : ∃ k, k = s / 64 := ⟨_, rfl⟩
  obtain ⟨t, ht⟩ : ∃ t, t = s % 64 := ⟨_, rfl⟩
  have hn1 : 0 < n := by omega
  have hnl : n ≤ 1000000 := by omega
  have ek : (s : Int) / 64 = (k : Int) := by omega
  have et : (s : Int) % 64 = (t : Int) := by omega
  have en : (L : Int) - (k : Int) = (n : Int) := by omega
  have en2 : (L : Int) - (n : Int) = (k : Int) := by omega
  have hkL : k ≤ L := by omega
  have hkl2 : k < L := by omega
  have ht64 : t < 64 := by omega
  have tn : decide ((n : Int) ≤ 0) = false := decide_eq_false (by omega)
  have HD := Lib.hid (hv.dropW (k := k) (by omega))
  have hdl : (ws.drop k).length = n := by rw [List.length_drop]; omega
  have HDL := Lib.hid hdl
  have HQ : Hid (wv ws / 2 ^ s = wv (ws.drop k) / 2 ^ t) := Lib.hid (by
    rw [wv_drop hv.lt (by omega), w_two, Nat.div_div_eq_div_mul, ← Nat.pow_add]; congr 2; omega)
  have HV := Lib.hid hv
  have HLt := Lib.hid (show ∀ d ∈ ws.drop k, d < 18446744073709551616 from fun d hd => hv.lt d (List.mem_of_mem_drop hd))
  have hblk : sBlk (subS v k L) < w.heap.size := by
    rw [subS_blk hS]; exact hv.ri.lt (by rw [ints_length]; omega)
  have hLx : sLen (subS v k L) = n := by rw [subS_len hS]; omega
  have hSx : IsS (subS v k L) := subS_isS hS hkL (by have := hS.le; omega)
  have HL := Lib.hid hL
  clear hv hL hn hk ht hdl
  go_enter Tryz.func143, Tryz.ntmps143
  go_wp2_with fail
  refine (make_nil n w (by omega)).mono ?_
  rintro _ w1 ⟨z, rfl, ho, hb, hcz⟩
  have hSz := ho.isS
  have hLz : sLen z = n := by rw [ho.len]; simp
  have hcap := hcz hn1
  have hzB := (ho.lt hcap).1
  have HO := Lib.hid ho
  have HB := Lib.hid hb
  have HX := HD.out.below hb
  rw [← HL.out] at HX
  have HX1 := Lib.hid HX
  have hbz := hb.size
  clear ho hb hcz HX
  have fin : ∀ (os : List Nat) (w2 : World), Own w2 w.heap.size 164 z (cellsW os) → (∀ d ∈ os, d < 18446744073709551616) → wv os = wv ws / 2 ^ s → Own w2 w.heap.size 164 (subS z 0 (nw (wv os))) (cellsW (wds (wv ws / 2 ^ s))) :=
    fun os w2 h1 h2 h3 => by rw [← h3]; exact h1.takeW h2
  have FIN := Lib.hid fin
  clear fin
  by_cases ht0 : t = 0
  · have t1 : ((t : Int) == 0) = true := by rw [ht0]; rfl
    have HT0 := Lib.hid ht0
    clear ht0
    go_wp2_with (refine wpList_copy_O (o := ⟨some 46, _, _, _, _, _⟩) rfl (.tmp 40) (.tmp 45) 121 121 rfl 164 Tryz.underlying121 sizeW z (subS v k L) rfl (by simp [Act.eval]) w.heap.size (List.replicate n (.int .u64 0)) HO.out (cellsW (ws.drop k)) ?d1 hSx ?d2 ?d3 (cellsW_one _) ?_)
    case d1 => rw [cellsW_length, HDL.out]; simp
    case d2 => rw [cellsW_length, HDL.out]; exact hLx
    case d3 => exact HX1.out.at
    intro w2 ho2 hb2 _
    have hSz2 := ho2.isS
    have HO2 := Lib.hid ho2
    have HB2 := Lib.hid (HB.out.trans (hb2.mono (Nat.le_refl _)))
    clear ho2 hb2
    go_wp2_with fail
    refine (norm_any z (ws.drop k) w2 (HO2.out.rw' HLt.out) (by rw [HDL.out]; omega)).mono ?_
    rintro _ _ ⟨rfl, rfl⟩
    have F := Lib.hid (FIN.out (ws.drop k) w2 HO2.out HLt.out (by rw [HQ.out, HT0.out, Nat.pow_zero, Nat.div_one]))
    have hSr := F.out.isS
    go_wp2
    go_ret
    exact ⟨_, rfl, F.out, HB2.out⟩
  · have t1 : ((t : Int) == 0) = false := by rw [beq_eq_false_iff_ne]; omega
    have ht1 : 0 < t := by omega
    have HOZ : Hid (Own w1 w.heap.size 164 z (cellsW (List.replicate n 0))) := Lib.hid (by rw [← cellsW_zeros]; exact HO.out)
    clear ht0
    go_wp2_with fail
    refine (rshVU_any z (subS v k L) (List.replicate n 0) (ws.drop k) (wv (ws.drop k)) t w.heap.size w1 HOZ.out (fun d hd => by rw [List.eq_of_mem_replicate hd]; decide) HX1.out rfl (by rw [HDL.out]; simp) (fun h => by omega) (by rw [HDL.out]; exact hn1) (by rw [HDL.out]; omega) ht1 ht64).mono ?_
    rintro _ w2 ⟨c, rfl, ho2, hb2, _⟩
    rw [HDL.out] at ho2
    have hwv : wv (wdsN (wv (ws.drop k) / 2 ^ t) n) = wv (ws.drop k) / 2 ^ t := by
      rw [wdsN_wv]
      refine Nat.mod_eq_of_lt (Nat.lt_of_le_of_lt (Nat.div_le_self _ _) ?_)
      have := wv_lt HLt.out
      rw [HDL.out] at this; exact this
    have HWV := Lib.hid hwv
    have HO2 := Lib.hid ho2
    have HB2 := Lib.hid (HB.out.trans (hb2.mono (Nat.le_refl _)))
    clear ho2 hb2 hwv
    go_wp2_with fail
    refine (norm_any z (wdsN (wv (ws.drop k) / 2 ^ t) n) w2 (HO2.out.rw' wdsN_lt) (by rw [wdsN_length]; omega)).mono ?_
    rintro _ _ ⟨rfl, rfl⟩
    have F := Lib.hid (FIN.out _ w2 HO2.out wdsN_lt (by rw [HWV.out, HQ.out]))
    have hSr := F.out.isS
    go_wp2
    go_ret
    exact ⟨_, rfl, F.out, HB2.out⟩
set_option maxRecDepth 100000 in
set_option maxHeartbeats 800000 in
theorem minPrec_one (b p m : Nat) (a e : Int) (neg : Bool) (v : Value) (ws : List Nat) (w : World) (h : FltR w b p m a 1 neg v e) (hv : RW w v ws) (h0 : 0 < wv ws) (hl : ws.length ≤ 1000000) (htop : bl (wv ws) = 64 * ws.length) (hT : TabW w) :
    Calls Tryz.prog 154 #[.pointer (some ⟨b, 0, none⟩)] w fun e' w' => e' = .returned (.int .u64 (bl (od (wv ws)) : Nat)) ∧ ∃ n, w' = w.drewN n := by
  obtain ⟨c0, c1, c2, c3, c4, c5, c6⟩ := h.cells
  have hS := hv.isS
  have hL := hv.len
  have hb := bl_od h0
  obtain ⟨t, ht⟩ : ∃ t, t = tz (wv ws) := ⟨_, rfl⟩
  obtain ⟨q, hq⟩ : ∃ q, q = bl (od (wv ws)) := ⟨_, rfl⟩
  obtain ⟨L, hLL⟩ : ∃ L, L = ws.length := ⟨_, rfl⟩
  have hTz : ∀ k, Calls Tryz.prog 142 #[v] (w.drewN k) fun e' w' => e' = .returned (.int .u64 (t : Nat)) ∧ w' = w.drewN k := fun k => by
    rw [ht]
    refine (tzb_any v ws (w.drewN k) (hv.below (undrewN' (Below.refl _ _))) h0 (by omega) (hT.drewN k)).mono ?_
    rintro _ _ ⟨rfl, rfl⟩
    exact ⟨rfl, rfl⟩
  have HTz := Lib.hid hTz
  have e1 : (L : Int) * 64 - (t : Int) = (q : Int) := by rw [htop, ← hq, ← ht, ← hLL] at hb; omega
  rw [← hq]
  rw [← hLL] at hL hl
  have hqb : q ≤ 64000000 := by omega
  have htb : t ≤ 64000000 := by omega
  clear h hv h0 htop hT hTz ht hq hLL hb
  go_enter Tryz.func154, Tryz.ntmps154
  go_wp2_with fail
  go_quiet ((go_at_call 142; exact Calls.quiet_of_same (HTz.out _)))
  go_wp2
  go_ret
  exact ⟨rfl, _, rfl⟩
theorem intP_of {w : World} {B g n : Nat} {neg : Bool} {v : Value} (hB : B ≤ g) (h : w.heap[g]? = some (.cells #[.bool neg, v] 123 (0, 0))) (ho : Own w B 164 v (cellsW (wds n))) : IntP w B g neg n := ⟨v, hB, h, ho⟩
def accI (neg ex : Bool) : Int := if ex then 0 else if neg then 1 else -1
set_option maxRecDepth 100000 in
set_option maxHeartbeats 3200000 in
theorem floatInt_le (b p m k : Nat) (a : Int) (neg : Bool) (v : Value) (ws : List Nat) (w : World) (h : FltR w b p m a 1 neg v (k : Int)) (hv : RW w v ws) (h0 : 0 < wv ws) (hl : ws.length ≤ 1000000) (htop : bl (wv ws) = 64 * ws.length) (hT : TabW w)
    (hk0 : 0 < k) (hk : k ≤ 64 * ws.length) :
    Calls Tryz.prog 155 #[.pointer (some ⟨b, 0, none⟩), .pointer none] w fun e' w' => ∃ g, e' = .returned (.tuple #[.pointer (some ⟨g, 0, none⟩), .int .i8 (accI neg (decide (bl (od (wv ws)) ≤ k)))]) ∧ IntP w' w.heap.size g neg (wv ws / 2 ^ (64 * ws.length - k)) ∧ Below w.heap.size w w' := by
  have hS := hv.isS
  have hL := hv.len
  have hrow : (w.alloc (.cells #[.bool false, .slice none 0 0] 123)).heap[w.heap.size]? = some (.cells #[.bool false, .slice none 0 0] 123 (0, 0)) := box_row (Below.refl _ _)
  obtain ⟨X, hX⟩ : ∃ X, X = w.alloc (.cells #[.bool false, .slice none 0 0] 123) := ⟨_, rfl⟩
  have hab := (Below.refl w.heap.size w).alloc (Nat.le_refl _) (.cells #[.bool false, .slice none 0 0] 123)
  rw [← hX] at hrow hab
  have hF := h.below hab
  obtain ⟨c0, c1, c2, c3, c4, c5, c6⟩ := h.cells
  have hR := hrow
  obtain ⟨L, hLL⟩ : ∃ L, L = ws.length := ⟨_, rfl⟩
  obtain ⟨P, hP⟩ : ∃ P, P = bl (od (wv ws)) := ⟨_, rfl⟩
  have HF := Lib.hid hF
  have HV := Lib.hid hv
  have HWS : Hid (cellsW ws = cellsW (wds (wv ws))) := Lib.hid (congrArg cellsW (wds_of hv.lt (by rw [nw_bl h0, htop]; omega)))
  have HMP := Lib.hid (fun (W : World) (hb : Below w.heap.size w W) => minPrec_one b p m a (k : Int) neg v ws W (h.below hb) (hv.below hb) h0 hl htop (hT.below hb))
  rw [← hP] at HMP ⊢
  have HAB := Lib.hid hab
  have HR := Lib.hid hR
  rw [← hLL] at hL hk hl ⊢
  have hne : ¬ b = w.heap.size := fun hc => by have := h.lt; omega
  have hne' : ¬ w.heap.size = b := fun hc => hne hc.symm
  have hPb : P ≤ 64000000 := by
    have h1 := bl_od h0
    rw [hP]; rw [htop, ← hLL] at h1; omega
  have t1 : decide ((k : Int) ≤ 0) = false := decide_eq_false (by omega)
  have hXs := hab.size
  have HLL := Lib.hid hLL
  clear h hv h0 htop hT hab hrow hF hR hP hLL
  go_enter Tryz.func155, Tryz.ntmps155
  go_upto_region 3 with fail
  rw [← hX]
  clear hX c0 c1 c2 c3 c4 c5 c6
  obtain ⟨c0, c1, c2, c3, c4, c5, c6⟩ := HF.out.cells
  have c3' : X.cell? ⟨b, 3, none⟩ = some (.int .u8 1) := c3
  clear c3
  go_wp2_with fail
  refine (makeAcc_any neg X).mono ?_
  rintro _ _ ⟨rfl, rfl⟩
  obtain ⟨ac, hac⟩ : ∃ ac : Int, ac = (if neg then 1 else -1) := ⟨_, rfl⟩
  rw [← hac]
  have HAC := Lib.hid hac
  clear hac
  go_wp2_with fail
  refine (HMP.out X HAB.out).mono ?_
  rintro _ _ ⟨rfl, n1, rfl⟩
  go_upto_if 53 with fail
  go_cut [6] (fun x wx => x = .int .i8 (accI neg (decide (P ≤ k))) ∧ X.drewN n1 = wx)
  case first =>
    by_cases hPk : P ≤ k
    · have q1 : decide (P ≤ k) = true := decide_eq_true hPk
      go_wp2_with fail
      go_meet
      exact ⟨by rw [q1]; rfl, rfl⟩
    · have q1 : decide (P ≤ k) = false := decide_eq_false hPk
      go_wp2_with fail
      go_meet
      exact ⟨by rw [q1, HAC.out]; rfl, rfl⟩
  case rest =>
    obtain ⟨rfl, rfl⟩ := hcut
    obtain ⟨A, hA⟩ : ∃ A, A = accI neg (decide (P ≤ k)) := ⟨_, rfl⟩
    rw [← hA]
    have HAA := Lib.hid hA
    clear hA HAC
    have hR : (X.drewN n1).heap[w.heap.size]? = some (.cells #[.bool false, .slice none 0 0] 123 (0, 0)) := HR.out
    have hF : FltR (X.drewN n1) b p m a 1 neg v (k : Int) := HF.out
    have hB1 : Below w.heap.size w (X.drewN n1) := undrewN' HAB.out
    obtain ⟨W, hW⟩ : ∃ W, W = X.drewN n1 := ⟨_, rfl⟩
    rw [← hW] at hR hF hB1 ⊢
    clear hW HR HF HMP HAB c0 c1 c2 c3' c4 c5 c6
    have r0 : W.cell? ⟨w.heap.size, 0, none⟩ = some (.bool false) := (row_at (i := 0) hR rfl).1
    have r1 : W.cell? ⟨w.heap.size, 1, none⟩ = some (.slice none 0 0) := (row_at (i := 1) hR rfl).1
    have z0 := frozen_of_row W w.heap.size 0 _ _ hR
    have z1 := frozen_of_row W w.heap.size 1 _ _ hR
    obtain ⟨c0, c1, c2, c3, c4, c5, c6⟩ := hF.cells
    have hWs := hB1.size
    have R1 := rowset (i := 0) (.bool neg) hR
    have hB2 := bset (i := 0) (u := .bool neg) hB1 (Nat.le_refl _)
    have R1c : (W.setCell ⟨w.heap.size, 0, none⟩ (.bool neg)).heap[w.heap.size]? = some (.cells #[.bool neg, .slice none 0 0] 123 (0, 0)) := R1
    have F1 : FltR (W.setCell ⟨w.heap.size, 0, none⟩ (.bool neg)) b p m a 1 neg v (k : Int) := (heap_setCell_other _ _ _ _ (by simpa using hne)).trans hF
    have s1 : (W.setCell ⟨w.heap.size, 0, none⟩ (.bool neg)).cell? ⟨w.heap.size, 1, none⟩ = some (.slice none 0 0) := (row_at (i := 1) R1c rfl).1
    obtain ⟨d0, d1, d2, d3, d4, d5, d6⟩ := F1.cells
    have HR1 := Lib.hid R1c
    have HB2 := Lib.hid hB2
    have hsz : w.heap.size ≤ (W.setCell ⟨w.heap.size, 0, none⟩ (.bool neg)).heap.size := hB2.size
    have fin : ∀ (nq : Nat) (w2 : World) (r : Value) (N : Nat), Own w2 (W.setCell ⟨w.heap.size, 0, none⟩ (.bool neg)).heap.size 164 r (cellsW (wds N)) → Below (W.setCell ⟨w.heap.size, 0, none⟩ (.bool neg)).heap.size ((W.setCell ⟨w.heap.size, 0, none⟩ (.bool neg)).drewN nq) w2 →
        w2.frozen? ⟨w.heap.size, 1, none⟩ = false ∧ w2.cell? ⟨w.heap.size, 1, none⟩ = some (.slice none 0 0) ∧ IntP (w2.setCell ⟨w.heap.size, 1, none⟩ r) w.heap.size w.heap.size neg N ∧ Below w.heap.size w (w2.setCell ⟨w.heap.size, 1, none⟩ r) := fun nq w2 r N ho hb => by
      have hrow2 : w2.heap[w.heap.size]? = some (.cells #[.bool neg, .slice none 0 0] 123 (0, 0)) := keep_row (undrewN hb) HR1.out
      refine ⟨frozen_of_row w2 _ 1 _ _ hrow2, (row_at (i := 1) hrow2 rfl).1, intP_of (v := r) (Nat.le_refl _) (rowset (i := 1) r hrow2) ((ho.mono hsz).away hrow2 (by decide) 1 r), bset (HB2.out.trans ((undrewN hb).mono hsz)) (Nat.le_refl _)⟩
    have FIN := Lib.hid fin
    have tk : decide (L * 64 < k) = false := decide_eq_false (by omega)
    have tk' : decide ((L : Int) * 64 < (k : Int)) = false := decide_eq_false (by omega)
    clear fin R1 R1c hB2 hB1 hR hF F1
    by_cases hkL : k < L * 64
    · have t2 : decide (k < L * 64) = true := decide_eq_true hkL
      have t2' : decide ((k : Int) < (L : Int) * 64) = true := decide_eq_true (by omega)
      have es : (L : Int) * 64 - (k : Int) = ((L * 64 - k : Nat) : Int) := by omega
      obtain ⟨s, hs⟩ : ∃ s, s = L * 64 - k := ⟨_, rfl⟩
      rw [← hs] at es
      have hs0 : 0 < s := by omega
      have hsl : s < 64 * L := by omega
      have HS := Lib.hid (show s = 64 * L - k by omega)
      clear hs hkL
      go_wp2_with fail
      (refine wp_region_hoist 12 (by kernel_rfl) (by kernel_rfl) ⟨fun _ _ _ h => (by first | exact (hQp _ _ _ h).elim | cases h.2.1 | (obtain ⟨_, h3, _⟩ := h.2; cases h3)), fun _ _ h => (by first | exact (hQo _ _ h).elim | cases h.1 | (obtain ⟨_, h3, _⟩ := h; cases h3))⟩ ?_; simp only [List.take_succ_cons, List.take_zero, List.drop_succ_cons, List.drop_zero]; (repeat (go_big_quiet_step (fail))); refine wpQuiet_nil ?_; rintro _ ⟨nq, rfl⟩)
      go_wp2_with fail
      refine (rsh_nil v ws s _ ((HV.out.below HB2.out).below (undrewN' (Below.refl _ _))) (by rw [← HLL.out]; exact hl) hs0 (by rw [← HLL.out]; exact hsl)).mono ?_
      rintro _ w2 ⟨r, rfl, ho, hb⟩
      have hSr := ho.isS
      obtain ⟨g1, g2, g3, g4⟩ := FIN.out nq w2 r _ ho hb
      have G3 := Lib.hid g3
      have G4 := Lib.hid g4
      clear g3 g4 ho hb
      go_wp2
      go_ret2
      refine ⟨w.heap.size, by rw [← HAA.out]; rfl, ?_, G4.out⟩
      rw [← HS.out]; exact G3.out
    · have t2 : decide (k < L * 64) = false := decide_eq_false hkL
      have t2' : decide ((k : Int) < (L : Int) * 64) = false := decide_eq_false (by omega)
      have HKE := Lib.hid (show 64 * L - k = 0 by omega)
      clear hkL
      go_wp2_with fail
      (refine wp_region_hoist 9 (by kernel_rfl) (by kernel_rfl) ⟨fun _ _ _ h => (by first | exact (hQp _ _ _ h).elim | cases h.2.1 | (obtain ⟨_, h3, _⟩ := h.2; cases h3)), fun _ _ h => (by first | exact (hQo _ _ h).elim | cases h.1 | (obtain ⟨_, h3, _⟩ := h; cases h3))⟩ ?_; simp only [List.take_succ_cons, List.take_zero, List.drop_succ_cons, List.drop_zero]; (repeat (go_big_quiet_step (fail))); refine wpQuiet_nil ?_; rintro _ ⟨nq, rfl⟩)
      go_wp2_with fail
      refine (set_nil v ws _ ((HV.out.below HB2.out).below (undrewN' (Below.refl _ _))) (by rw [← HLL.out]; omega)).mono ?_
      rintro _ w2 ⟨r, rfl, ho, hb⟩
      have hSr := ho.isS
      rw [HWS.out] at ho
      obtain ⟨g1, g2, g3, g4⟩ := FIN.out nq w2 r _ ho hb
      have G3 := Lib.hid g3
      have G4 := Lib.hid g4
      clear g3 g4 ho hb
      go_wp2
      go_ret2
      refine ⟨w.heap.size, by rw [← HAA.out]; rfl, ?_, G4.out⟩
      rw [HKE.out, Nat.pow_zero, Nat.div_one]; exact G3.out
section
variable {b p m f : Nat} {a e : Int} {neg : Bool} {v : Value} {w : World}
set_option maxRecDepth 100000 in
theorem fPrec (h : FltR w b p m a f neg v e) (hp : p ≤ 64000000) : Calls Tryz.prog 148 #[.pointer (some ⟨b, 0, none⟩)] w fun e' w' => e' = .returned (.int .u64 p) ∧ w = w' := by
  obtain ⟨c0, c1, c2, c3, c4, c5, c6⟩ := h.cells
  clear h
  go_enter Tryz.func148, Tryz.ntmps148
  go_wp2
  go_ret
  exact ⟨rfl, rfl⟩
set_option maxRecDepth 100000 in
theorem fMode (h : FltR w b p m a f neg v e) : Calls Tryz.prog 149 #[.pointer (some ⟨b, 0, none⟩)] w fun e' w' => e' = .returned (.int .u8 m) ∧ w = w' := by
  obtain ⟨c0, c1, c2, c3, c4, c5, c6⟩ := h.cells
  clear h
  go_enter Tryz.func149, Tryz.ntmps149
  go_wp2
  go_ret
  exact ⟨rfl, rfl⟩
set_option maxRecDepth 100000 in
theorem fAcc (h : FltR w b p m a f neg v e) : Calls Tryz.prog 102 #[.pointer (some ⟨b, 0, none⟩)] w fun e' w' => e' = .returned (.int .i8 a) ∧ w = w' := by
  obtain ⟨c0, c1, c2, c3, c4, c5, c6⟩ := h.cells
  clear h
  go_enter Tryz.func102, Tryz.ntmps102
  go_wp2
  go_ret
  exact ⟨rfl, rfl⟩
set_option maxRecDepth 100000 in
theorem fIsInf (h : FltR w b p m a f neg v e) : Calls Tryz.prog 151 #[.pointer (some ⟨b, 0, none⟩)] w fun e' w' => e' = .returned (.bool (decide (f = 2))) ∧ w = w' := by
  obtain ⟨c0, c1, c2, c3, c4, c5, c6⟩ := h.cells
  have t : ((f : Int) == 2) = decide (f = 2) := by
    by_cases hf : f = 2
    · rw [hf]; rfl
    · rw [decide_eq_false hf, beq_eq_false_iff_ne]; omega
  obtain ⟨B, hB⟩ : ∃ B, B = decide (f = 2) := ⟨_, rfl⟩
  rw [← hB] at t ⊢
  clear h hB
  go_enter Tryz.func151, Tryz.ntmps151
  go_wp2
  go_ret
  exact ⟨rfl, rfl⟩
end
set_option maxRecDepth 100000 in
set_option maxHeartbeats 1600000 in
theorem mantExp_one (b B c p0 m0 f0' p m : Nat) (a0 e0 a e : Int) (n0 neg : Bool) (v : Value) (ws : List Nat) (w : World) (h : FltR w b p0 m0 a0 f0' n0 (.slice none 0 0) e0) (hB : B ≤ b) (hx : FltR w c p m a 1 neg v e) (hbc : b ≠ c)
    {Bx : Nat} (ho : Own w Bx 164 v (cellsW ws)) (hd : ∀ d ∈ ws, d < 18446744073709551616) (hl : ws.length ≤ 1000000) (he1 : -2147483648 ≤ e) (he2 : e ≤ 2147483647) :
    Calls Tryz.prog 153 #[.pointer (some ⟨c, 0, none⟩), .pointer (some ⟨b, 0, none⟩)] w fun e' w' => e' = .returned (.int .i64 e) ∧ ∃ r, FltR w' b p m a 1 neg r 0 ∧ Own w' B 164 r (cellsW ws) ∧ Below B w w' := by
  obtain ⟨c0, c1, c2, c3, c4, c5, c6⟩ := hx.cells
  have c3' : w.cell? ⟨c, 3, none⟩ = some (.int .u8 1) := c3
  have HC := Lib.hid (copyF b B c p0 m0 f0' p m a0 e0 a e n0 neg v ws w h hB hx hbc ho hd hl)
  clear h hx ho hd c3
  go_enter Tryz.func153, Tryz.ntmps153
  go_wp2_with fail
  refine HC.out.mono ?_
  rintro _ w1 ⟨rfl, r, h1, h2, h3⟩
  obtain ⟨d0, d1, d2, d3, d4, d5, d6⟩ := h1.cells
  have d3' : w1.cell? ⟨b, 3, none⟩ = some (.int .u8 1) := d3
  obtain ⟨f0, f1, f2, f3, f4, f5, f6⟩ := h1.free
  have R := Lib.hid (h1.s6 0)
  have O := Lib.hid (h1.own h2 6 (.int .i32 (0 : Int)))
  have BB := Lib.hid (bset (i := 6) (u := .int .i32 (0 : Int)) h3 hB)
  clear h1 h2 h3 d3
  go_wp2
  go_ret
  exact ⟨rfl, r, R.out, O.out, BB.out⟩
def RealV (w : World) (z : Value) (p m f : Nat) (neg : Bool) (M : Nat) (X : Int) : Prop :=
  ∃ (v : Value) (E : Int) (zs : List Nat) (B : Nat), z = .agg #[.int .u64 p, .int .i64 m, .int .i64 f, .bool neg, v, .int .i64 E] ∧ Own w B 35 v (cellsW zs) ∧ (∀ d ∈ zs, d < 18446744073709551616) ∧ (f ≠ 1 → zs = [] ∧ E = 0) ∧ (f = 1 → zs = wds (od M) ∧ E = X + (tz M : Nat))
def WoU (ws : List Nat) (B k : Nat) (w : World) (v : Value) (wr : World) : Prop := Own wr B 35 v (cellsW (ws.take k)) ∧ Below B w wr
theorem WoU.step {ws : List Nat} {B k : Nat} {w w1 : World} {v1 : Value} (hk : k < ws.length) (h : Own w1 B 35 v1 (cellsW (ws.take k) ++ [.int .u64 ((ws.getD k 0 : Nat) : Int)])) (hb : Below B w w1) : WoU ws B (k + 1) w v1 w1 := by
  refine ⟨?_, hb⟩
  rw [cellsW_snoc] at h
  rw [List.take_succ_eq_append_getElem hk]
  simpa [List.getD_eq_getElem?_getD, List.getElem?_eq_getElem hk] using h
set_option maxRecDepth 100000 in
set_option maxHeartbeats 800000 in
theorem wordsOf_any (b o : Nat) (v : Value) (ws : List Nat) (w : World) (hc : w.cell? ⟨b, o + 1, none⟩ = some v) (hv : RW w v ws) (hl : ws.length ≤ 100000000) :
    Calls Tryz.prog 128 #[.pointer (some ⟨b, o, none⟩)] w fun e w' => ∃ r, e = .returned r ∧ Own w' w.heap.size 35 r (cellsW ws) ∧ Below w.heap.size w w' := by
  have hSv := hv.isS
  have hLv := hv.len
  obtain ⟨la, hla⟩ : ∃ la, la = ws.length := ⟨_, rfl⟩
  rw [← hla] at hLv hl
  have Hla := Lib.hid hla
  have Hv := Lib.hid hv
  clear hla hv
  go_enter Tryz.func128, Tryz.ntmps128
  go_wp2_with fail
  refine (intBits b o v w hc hSv).mono ?_
  rintro _ _ ⟨rfl, rfl⟩
  go_wp2
  go_loopw [3, 9] (fun v i wr => ∃ k : Nat, k ≤ la ∧ i = .int .i64 k ∧ WoU ws w.heap.size k w v wr) (fun _ i _ => la - (intOf i).toNat)
  case atStart => exact ⟨0, Nat.zero_le _, rfl, Own.nil _ _ _, Below.refl _ _⟩
  case round =>
    obtain ⟨i, hi, rfl, hO, hbl⟩ := hrel
    have hbz := hbl.size
    have hSo : IsS u3 := hO.isS
    have HO := Lib.hid hO
    clear hO
    by_cases hia : i < la
    · have ca := (Hv.out.below hbl).cell i (by rw [← Hla.out]; exact hia)
      obtain ⟨d, hd⟩ : ∃ d, d = ws.getD i 0 := ⟨_, rfl⟩
      rw [← hd] at ca
      have Hd := Lib.hid hd
      clear hd
      have hlk : (cellsW (ws.take i)).length = i := by rw [cellsW_length]; have := Hla.out; simp; omega
      have Hlk := Lib.hid hlk
      clear hlk
      go_wp2_with (at_builtin; refine wpList_append_O rfl _ _ _ _ rfl elemU w.heap.size _ _ rfl (HO.out.alloc _) _ rfl 1 [.int .u64 (d : Int)] (srcOne Tryz.underlying23 wr _ _) ?c3 ?c4 ?c5 ?_)
      case c3 => rw [Hlk.out]; unfold maxLen; omega
      case c4 => rw [Hlk.out]; omega
      case c5 => simp; omega
      rintro v1 w1 ho1 hb1 - - -
      have hs := WoU.step (by rw [← Hla.out]; exact hia) (by rw [← Hd.out]; exact ho1) ((hbl.alloc hbz _).trans hb1)
      have Hs := Lib.hid hs
      clear hs ho1
      go_wp2
      go_roundw
      case rel => exact ⟨i + 1, by omega, by go_num, Hs.out⟩
      case measure => simp [intOf]; omega
    · have hil : i = la := by omega
      subst hil
      have hfull : ws.take i = ws := List.take_of_length_le (by rw [Hla.out]; exact Nat.le_refl _)
      have ho := HO.out
      rw [hfull] at ho
      have Ho := Lib.hid ho
      clear hfull ho
      go_wp2
      go_ret
      exact ⟨_, rfl, Ho.out, hbl⟩
end Go.Proofs.YtdepidpgbgfjlaaGreatDoor
