/-
Texts of this proof, joined: FlO FlP RnL StA StB FlR StC TzA TzB. No condition.
-/
import Derived.Test.YtllhnjpnkmjopaaGreatDoorK02
import Derived.Test.YtllhnjpnkmjopaaGreatDoorK04
import Derived.Test.YtllhnjpnkmjopaaGreatDoorK05
import Derived.Test.YtllhnjpnkmjopaaGreatDoorK14
import Derived.Test.YtllhnjpnkmjopaaGreatDoorK16
import Derived.Deep.QuietTactic
import Derived.BigQuiet
import Derived.Lib.TrailingZeros
import Derived.Shelf.Spec.TrailingZeros
namespace Go.Proofs.YtllhnjpnkmjopaaGreatDoor
open Go.RowKit

theorem Own.only {w w' : World} {B g : Nat} {v : Value} {xs : List Value} {p m f : Nat} {a e : Int} {neg : Bool} {u : Value} (h : Own w B 116 v xs) (hr : FltR w g p m a f neg u e) (ho : Only g w w') : Own w' B 116 v xs :=
  h.same fun hc => ho _ (h.lt hc).2 (h.ne_row hr (by decide) hc)
theorem keep_row' {B k : Nat} {w w' : World} {o : Obj} (hb : Below B w w') (h : w.heap[k]? = some o) (hk : k < B) : w'.heap[k]? = some o := (hb.block k hk).trans h
def FloatAt (w : World) (B g p m f : Nat) (neg : Bool) (M : Nat) (e : Int) : Prop :=
  B ≤ g ∧ ∃ r x, FltR w g p m 0 f neg r x ∧ (f = 1 → x = (bl M : Nat) + e ∧ Own w B 116 r (cellsW (topN M)))
set_option maxRecDepth 100000 in
set_option maxHeartbeats 1600000 in
theorem float_zero (p m : Nat) (neg : Bool) (v : Value) (e : Int) (M : Nat) (w : World) (_hS : IsS v) (hp0 : 0 < p) (hp : p ≤ 64000000) (hm : m ≤ 255) :
    Calls Tryz.prog 50 #[.agg #[.int .u64 p, .int .i64 m, .int .i64 0, .bool neg, v, .int .i64 e]] w fun e' w' => ∃ g, e' = .returned (.pointer (some ⟨g, 0, none⟩)) ∧ FloatAt w' w.heap.size g p m 0 neg M e ∧ Below w.heap.size w w' := by
  have hab := (Below.refl w.heap.size w).alloc (Nat.le_refl _) (.cells #[.int .u64 p, .int .i64 m, .int .i64 0, .bool neg, v, .int .i64 e] 42)
  obtain ⟨W, hW⟩ : ∃ W, W = w.alloc (.cells #[.int .u64 p, .int .i64 m, .int .i64 0, .bool neg, v, .int .i64 e] 42) := ⟨_, rfl⟩
  have hrow : W.heap[w.heap.size]? = some (.cells #[.int .u64 p, .int .i64 m, .int .i64 0, .bool neg, v, .int .i64 e] 42 (0, 0)) := by rw [hW]; exact box_row (Below.refl _ _)
  rw [← hW] at hab
  have hWs := hab.size
  have k0 := (row_at (i := 0) hrow rfl).1
  have k1 := (row_at (i := 1) hrow rfl).1
  have HR := Lib.hid hrow
  clear hrow
  go_enter Tryz.func50, Tryz.ntmps50
  go_upto_region 1 with fail
  rw [← hW]
  clear hW
  go_wp2_with fail
  refine (fresh_any p m W hp0 hp hm).mono ?_
  rintro _ w1 ⟨rfl, h1, hb1⟩
  obtain ⟨g, hg⟩ : ∃ g, g = W.heap.size := ⟨_, rfl⟩
  rw [← hg] at h1 ⊢
  have hgB : w.heap.size ≤ g := by omega
  have k2 := (row_at (i := 2) (keep_row hb1 HR.out) rfl).1
  have k3 := (row_at (i := 3) (keep_row hb1 HR.out) rfl).1
  have H1 := Lib.hid h1
  have B1 := Lib.hid (hab.trans (hb1.mono hWs))
  clear h1 hb1 hg
  cases neg with
  | false =>
    go_wp2
    go_ret
    exact ⟨g, rfl, ⟨hgB, _, _, H1.out, by intro h; omega⟩, B1.out⟩
  | true =>
    go_wp2_with fail
    refine (negF_same g w.heap.size p m 0 0 0 false _ w1 H1.out hgB).mono ?_
    rintro _ w2 ⟨rfl, h2, hb2, ho2⟩
    have H2 := Lib.hid h2
    have B2 := Lib.hid (B1.out.trans hb2)
    clear h2 hb2 ho2
    go_wp2
    go_ret
    exact ⟨g, rfl, ⟨hgB, _, _, H2.out, by intro h; omega⟩, B2.out⟩
set_option maxRecDepth 100000 in
set_option maxHeartbeats 1600000 in
theorem float_inf (p m : Nat) (neg : Bool) (v : Value) (e : Int) (M : Nat) (w : World) (_hS : IsS v) (hp0 : 0 < p) (hp : p ≤ 64000000) (hm : m ≤ 255) :
    Calls Tryz.prog 50 #[.agg #[.int .u64 p, .int .i64 m, .int .i64 2, .bool neg, v, .int .i64 e]] w fun e' w' => ∃ g, e' = .returned (.pointer (some ⟨g, 0, none⟩)) ∧ FloatAt w' w.heap.size g p m 2 neg M e ∧ Below w.heap.size w w' := by
  have hab := (Below.refl w.heap.size w).alloc (Nat.le_refl _) (.cells #[.int .u64 p, .int .i64 m, .int .i64 2, .bool neg, v, .int .i64 e] 42)
  obtain ⟨W, hW⟩ : ∃ W, W = w.alloc (.cells #[.int .u64 p, .int .i64 m, .int .i64 2, .bool neg, v, .int .i64 e] 42) := ⟨_, rfl⟩
  have hrow : W.heap[w.heap.size]? = some (.cells #[.int .u64 p, .int .i64 m, .int .i64 2, .bool neg, v, .int .i64 e] 42 (0, 0)) := by rw [hW]; exact box_row (Below.refl _ _)
  rw [← hW] at hab
  have hWs := hab.size
  have k0 := (row_at (i := 0) hrow rfl).1
  have k1 := (row_at (i := 1) hrow rfl).1
  have HR := Lib.hid hrow
  clear hrow
  go_enter Tryz.func50, Tryz.ntmps50
  go_upto_region 1 with fail
  rw [← hW]
  clear hW
  go_wp2_with fail
  refine (fresh_any p m W hp0 hp hm).mono ?_
  rintro _ w1 ⟨rfl, h1, hb1⟩
  obtain ⟨g, hg⟩ : ∃ g, g = W.heap.size := ⟨_, rfl⟩
  rw [← hg] at h1 ⊢
  have hgB : w.heap.size ≤ g := by omega
  have k2 := (row_at (i := 2) (keep_row hb1 HR.out) rfl).1
  have k3 := (row_at (i := 3) (keep_row hb1 HR.out) rfl).1
  have H1 := Lib.hid h1
  have B1 := Lib.hid (hab.trans (hb1.mono hWs))
  clear h1 hb1 hg
  go_wp2_with fail
  refine (setInf_any g w.heap.size p m 0 0 0 false neg _ w1 H1.out hgB).mono ?_
  rintro _ w2 ⟨rfl, h2, hb2⟩
  have H2 := Lib.hid h2
  have B2 := Lib.hid (B1.out.trans hb2)
  clear h2 hb2
  go_wp2
  go_ret
  exact ⟨g, rfl, ⟨hgB, _, _, H2.out, by intro h; omega⟩, B2.out⟩
set_option maxRecDepth 100000 in
set_option maxHeartbeats 3200000 in
theorem float_one (p m : Nat) (neg : Bool) (v : Value) (e : Int) (ws : List Nat) (w : World) (hv : RW w v ws) (hl : ws.length ≤ 1000000) (h0 : 0 < wv ws) (hM : bl (wv ws) ≤ p) (hp : p ≤ 64000000) (hm : m ≤ 255) (he1 : -1050000000 ≤ e) (he2 : e ≤ 1050000000) :
    Calls Tryz.prog 50 #[.agg #[.int .u64 p, .int .i64 m, .int .i64 1, .bool neg, v, .int .i64 e]] w fun e' w' => ∃ g, e' = .returned (.pointer (some ⟨g, 0, none⟩)) ∧ FloatAt w' w.heap.size g p m 1 neg (wv ws) e ∧ Below w.heap.size w w' := by
  have hS := hv.isS
  have hab := (Below.refl w.heap.size w).alloc (Nat.le_refl _) (.cells #[.int .u64 p, .int .i64 m, .int .i64 1, .bool neg, v, .int .i64 e] 42)
  obtain ⟨W, hW⟩ : ∃ W, W = w.alloc (.cells #[.int .u64 p, .int .i64 m, .int .i64 1, .bool neg, v, .int .i64 e] 42) := ⟨_, rfl⟩
  have hrow : W.heap[w.heap.size]? = some (.cells #[.int .u64 p, .int .i64 m, .int .i64 1, .bool neg, v, .int .i64 e] 42 (0, 0)) := by rw [hW]; exact box_row (Below.refl _ _)
  rw [← hW] at hab
  have hWs := hab.size
  have hbp := bl_pos h0
  have hp0 : 0 < p := by omega
  have k0 := (row_at (i := 0) hrow rfl).1
  have k1 := (row_at (i := 1) hrow rfl).1
  have HR := Lib.hid hrow
  have HT := Lib.hid (topN_fits h0 hM)
  have HTl : Hid ((topN (wv ws)).length ≤ 1000000) := Lib.hid (by rw [topN_length]; have := nw_le (wv_lt hv.lt); omega)
  have HT0 : Hid (0 < (topN (wv ws)).length) := Lib.hid (by rw [topN_length]; exact nw_pos h0)
  have HTd : Hid (∀ d ∈ topN (wv ws), d < 18446744073709551616) := Lib.hid (wdsN_lt)
  obtain ⟨M, hMM⟩ : ∃ M, M = wv ws := ⟨_, rfl⟩
  rw [← hMM] at hM h0 hbp HT HTl HT0 HTd ⊢
  have HM := Lib.hid hMM
  have HV := Lib.hid (hv.below hab)
  have Hbl := Lib.hid hM
  have Hbp := Lib.hid hbp
  clear hrow hMM hv hM hbp
  go_enter Tryz.func50, Tryz.ntmps50
  go_upto_region 1 with fail
  rw [← hW]
  clear hW
  go_wp2_with fail
  refine (fresh_any p m W hp0 hp hm).mono ?_
  rintro _ w1 ⟨rfl, h1, hb1⟩
  obtain ⟨g, hg⟩ : ∃ g, g = W.heap.size := ⟨_, rfl⟩
  have hb1' : Below w.heap.size W w1 := hb1.mono hWs
  have k2 := (row_at (i := 2) (keep_row hb1 HR.out) rfl).1
  have k4 := (row_at (i := 4) (keep_row hb1 HR.out) rfl).1
  have HR1 := Lib.hid (keep_row hb1 HR.out)
  have HV1 := Lib.hid (HV.out.below hb1)
  rw [← hg] at h1 ⊢
  have hgB : w.heap.size ≤ g := by omega
  have hbg : ¬ w.heap.size = g := by
    have := get_lt HR.out
    omega
  have H1 := Lib.hid h1
  have B1 := Lib.hid (hab.trans hb1')
  have hgl := h1.lt
  clear h1 hb1 hb1' hg
  go_wp2_with fail
  refine (of_any false v ws w1 HV1.out (by omega)).mono ?_
  rintro _ w2 ⟨c, rfl, hI, hb2⟩
  rw [Bool.false_and, ← HM.out] at hI
  have hgc : g ≠ c := by obtain ⟨_, h, _⟩ := hI; omega
  have HI := Lib.hid hI
  have H2 := Lib.hid (H1.out.below hb2)
  have B2 := Lib.hid (B1.out.trans (hb2.mono (B1.out.size)))
  have HR2 := Lib.hid (keep_row hb2 HR1.out)
  clear hI hb2
  go_wp2_with fail
  refine (setInt_exact g g c w1.heap.size p m M 0 0 false w2 H2.out (Nat.le_refl _) HI.out hgc h0 Hbl.out hp).mono ?_
  rintro _ w3 ⟨rfl, vz, h3, ho3, hb3⟩
  have hr3 := keep_row' hb3 HR2.out (by omega)
  have k3 := (row_at (i := 3) hr3 rfl).1
  have H3 := Lib.hid h3
  have O3 := Lib.hid ho3
  have HR3 := Lib.hid hr3
  have B3 := Lib.hid (B2.out.trans (hb3.mono hgB))
  clear h3 ho3 hb3 hr3 k2 k4
  cases neg with
  | false =>
    have hr4 := keep_row (fbone (W := w3) newF) HR3.out
    have k5 := (row_at (i := 5) hr4 rfl).1
    unfold newF at k5
    have B4 := Lib.hid (B3.out.trans ((fbone (W := w3) newF).mono B3.out.size))
    have hs3 := B3.out.size
    have hlt := H3.out.lt
    clear hr4
    go_wp2_with fail
    refine (setMantExp_exact w3.heap.size w.heap.size g 0 0 0 p m 0 0 0 (bl M : Nat) e false false vz (topN M) _ (newF_row w3) hs3 (H3.out.below (fbone (W := w3) newF)) (by omega) (O3.out.below (fbone (W := w3) newF)) HTd.out HT.out HT0.out HTl.out hp0 hp (by omega) (by have := Hbl.out; omega) he1 he2).mono ?_
    rintro _ w5 ⟨rfl, r, r1, r2, r3⟩
    have Q := Lib.hid (⟨⟨hs3, r, _, r1, fun _ => ⟨rfl, r2⟩⟩, B4.out.trans r3⟩ : FloatAt w5 w.heap.size w3.heap.size p m 1 false M e ∧ Below w.heap.size w w5)
    clear r1 r2 r3
    go_wp2
    go_ret
    exact ⟨_, rfl, Q.out⟩
  | true =>
    go_wp2_with fail
    refine (negF_same g g p m 1 0 (bl M : Nat) false vz w3 H3.out (Nat.le_refl _)).mono ?_
    rintro _ w4 ⟨rfl, h4, hb4, hon⟩
    have O4 := Lib.hid (O3.out.only H3.out hon)
    have hr4 := keep_row' hb4 HR3.out (by omega)
    have hr5 := keep_row (fbone (W := w4) newF) hr4
    have k5 := (row_at (i := 5) hr5 rfl).1
    unfold newF at k5
    have B5 := B3.out.trans (hb4.mono hgB)
    have B6 := Lib.hid (B5.trans ((fbone (W := w4) newF).mono B5.size))
    have hs3 := B5.size
    have hlt := h4.lt
    have H4 := Lib.hid h4
    clear hr4 hr5 B5 h4 hb4 hon k3
    go_wp2_with fail
    refine (setMantExp_exact w4.heap.size w.heap.size g 0 0 0 p m 0 0 0 (bl M : Nat) e false true vz (topN M) _ (newF_row w4) hs3 (H4.out.below (fbone (W := w4) newF)) (by omega) (O4.out.below (fbone (W := w4) newF)) HTd.out HT.out HT0.out HTl.out hp0 hp (by omega) (by have := Hbl.out; omega) he1 he2).mono ?_
    rintro _ w5 ⟨rfl, r, r1, r2, r3⟩
    have Q := Lib.hid (⟨⟨hs3, r, _, r1, fun _ => ⟨rfl, r2⟩⟩, B6.out.trans r3⟩ : FloatAt w5 w.heap.size w4.heap.size p m 1 true M e ∧ Below w.heap.size w w5)
    clear r1 r2 r3
    go_wp2
    go_ret
    exact ⟨_, rfl, Q.out⟩
def sgF (f : Nat) (neg : Bool) : Int := if f = 0 then 0 else if neg then -1 else 1
set_option maxRecDepth 100000 in
theorem fSign (b p m f : Nat) (a e : Int) (neg : Bool) (v : Value) (w : World) (h : FltR w b p m a f neg v e) :
    Calls Tryz.prog 84 #[.pointer (some ⟨b, 0, none⟩)] w fun e' w' => e' = .returned (.int .i64 (sgF f neg)) ∧ w = w' := by
  obtain ⟨c0, c1, c2, c3, c4, c5, c6⟩ := h.cells
  clear h
  by_cases hf : f = 0
  · subst hf
    have t1 : (((0 : Nat) : Int) == 0) = true := rfl
    have c3' : w.cell? ⟨b, 3, none⟩ = some (.int .u8 0) := c3
    have E : Hid (sgF 0 neg = 0) := Lib.hid rfl
    clear c3
    go_enter Tryz.func84, Tryz.ntmps84
    go_wp2
    go_ret
    exact ⟨congrArg (fun z => Ending.returned (.int .i64 z)) E.out.symm, rfl⟩
  · have t1 : ((f : Int) == 0) = false := by rw [beq_eq_false_iff_ne]; omega
    have E : Hid (sgF f neg = if neg then -1 else 1) := Lib.hid (by unfold sgF; rw [if_neg hf])
    clear hf
    cases neg
    · go_enter Tryz.func84, Tryz.ntmps84
      go_wp2
      go_ret
      exact ⟨congrArg (fun z => Ending.returned (.int .i64 z)) E.out.symm, rfl⟩
    · go_enter Tryz.func84, Tryz.ntmps84
      go_wp2
      go_ret
      exact ⟨congrArg (fun z => Ending.returned (.int .i64 z)) E.out.symm, rfl⟩
set_option maxRecDepth 100000 in
theorem fSignbit (b p m f : Nat) (a e : Int) (neg : Bool) (v : Value) (w : World) (h : FltR w b p m a f neg v e) :
    Calls Tryz.prog 82 #[.pointer (some ⟨b, 0, none⟩)] w fun e' w' => e' = .returned (.bool neg) ∧ w = w' := by
  obtain ⟨c0, c1, c2, c3, c4, c5, c6⟩ := h.cells
  clear h
  go_enter Tryz.func82, Tryz.ntmps82
  go_wp2
  go_ret
  exact ⟨rfl, rfl⟩
def RealOk (P E p m f : Nat) (ws : List Nat) (e : Int) : Prop :=
  0 < p ∧ p ≤ P ∧ m ≤ 5 ∧ (f = 0 ∨ f = 2 ∨ (f = 1 ∧ 0 < wv ws ∧ bl (wv ws) ≤ p ∧ ws.length ≤ 1000000 ∧ -(E : Int) ≤ e ∧ e ≤ E))
theorem float_any (P E p m f : Nat) (neg : Bool) (v : Value) (e : Int) (ws : List Nat) (w : World) (hv : RW w v ws) (ho : RealOk P E p m f ws e) (hP : P ≤ 64000000) (hE : E ≤ 1050000000) :
    Calls Tryz.prog 50 #[.agg #[.int .u64 p, .int .i64 m, .int .i64 f, .bool neg, v, .int .i64 e]] w fun e' w' => ∃ g, e' = .returned (.pointer (some ⟨g, 0, none⟩)) ∧ FloatAt w' w.heap.size g p m f neg (wv ws) e ∧ Below w.heap.size w w' := by
  obtain ⟨h1, h2, h3, rfl | rfl | ⟨rfl, h4, h5, h6, h7, h8⟩⟩ := ho
  · exact float_zero p m neg v e (wv ws) w hv.isS h1 (by omega) (by omega)
  · exact float_inf p m neg v e (wv ws) w hv.isS h1 (by omega) (by omega)
  · exact float_one p m neg v e ws w hv h6 h4 h5 (by omega) (by omega) (by omega) (by omega)
theorem rnd_fits {ws : List Nat} {p m : Nat} (neg : Bool) (h : Good ws p) (X : Int) : rA p m neg 0 (wv ws) = 0 ∧ deq (rQ p m neg 0 (wv ws)) (X + rk p (wv ws)) (wv ws) X := by
  have hb := h.bl
  obtain ⟨-, -, -, -, hf⟩ := h
  rcases hf with hf | ⟨hf1, hf2, -⟩
  · obtain ⟨k0, q0, a0⟩ := rQ_fits (p := p) (m := m) (M := wv ws) neg (by omega)
    rw [k0, q0, a0]
    exact ⟨rfl, 0, 0, rfl, by omega⟩
  · have hk : rk p (wv ws) = 64 * ws.length - p := by unfold rk; rw [hb]
    have hl : rL p 0 (wv ws) = 0 := by unfold rL; rw [hk, hf2]; exact lef_exact _
    have hq : rQ p m neg 0 (wv ws) = wv ws / 2 ^ (64 * ws.length - p) := by unfold rQ rU; rw [hl, awy_zero, hk]; simp
    refine ⟨by unfold rA; rw [if_pos hl], ?_⟩
    rw [hq, hk]
    refine ⟨64 * ws.length - p, 0, ?_, by omega⟩
    rw [Nat.pow_zero, Nat.mul_one]
    exact Nat.div_mul_cancel (Nat.dvd_of_mod_eq_zero hf2)
set_option maxRecDepth 100000 in
theorem round_anyX (b B p m s : Nat) (a e : Int) (neg : Bool) (v : Value) (ws : List Nat) (w : World) (h : FltR w b p m a 1 neg v e) (ho : Own w B 116 v (cellsW ws)) (hd : ∀ d ∈ ws, d < 18446744073709551616)
    (h0 : 0 < ws.length) (htop : 2 ^ (64 * ws.length - 1) ≤ wv ws) (hl : ws.length ≤ 1000000) (hp0 : 0 < p) (hp : p ≤ 64000000) (hm : m ≤ 5) (hs : s ≤ 1) (hsp : s = 0 ∨ p < 64 * ws.length) (he1 : -2147483648 ≤ e) (he2 : e < 2147483647) :
    Calls Tryz.prog 108 #[.pointer (some ⟨b, 0, none⟩), .int .u64 s] w fun e' w' => e' = .returned (.tuple #[]) ∧ RndQ (sBlk v) B b p m neg s (wv ws) (e - 64 * (ws.length : Int)) w w' := by
  by_cases hpL : p < 64 * ws.length
  · exact round_cut b B p m s a e neg v ws w h ho hd htop hpL hl hp0 hp hm hs he1 he2
  · have hs0 : s = 0 := by omega
    subst hs0
    have hf : Fits ws p := .inl (by omega)
    have hg : Good ws p := ⟨h0, hl, hd, htop, hf⟩
    have hc := round_exactX b B p m a e neg v ws w h ho hd hf h0 hl hp0 hp
    refine Calls.mono hc ?_
    rintro _ w' ⟨rfl, r1, r2, r3⟩
    obtain ⟨k1, k2⟩ := rnd_fits (m := m) neg hg (e - 64 * (ws.length : Int))
    exact ⟨rfl, v, ws, e, by rw [k1]; exact r1, r2, hg, k2.symm, rfl, r3⟩
set_option maxRecDepth 100000 in
set_option maxHeartbeats 800000 in
theorem setExp_anyX (b B p m f s : Nat) (a e x : Int) (neg : Bool) (v : Value) (ws : List Nat) (w : World) (h : FltR w b p m a f neg v e) (ho : Own w B 116 v (cellsW ws)) (hd : ∀ d ∈ ws, d < 18446744073709551616)
    (h0 : 0 < ws.length) (htop : 2 ^ (64 * ws.length - 1) ≤ wv ws) (hl : ws.length ≤ 1000000) (hp0 : 0 < p) (hp : p ≤ 64000000) (hm : m ≤ 5) (hs : s ≤ 1) (hsp : s = 0 ∨ p < 64 * ws.length) (hx1 : -2147483648 ≤ x) (hx2 : x < 2147483647) :
    Calls Tryz.prog 131 #[.pointer (some ⟨b, 0, none⟩), .int .i64 x, .int .u64 s] w fun e' w' => e' = .returned (.tuple #[]) ∧ RndQ (sBlk v) B b p m neg s (wv ws) (x - 64 * (ws.length : Int)) w w' := by
  obtain ⟨c0, c1, c2, c3, c4, c5, c6⟩ := h.cells
  obtain ⟨f0, f1, f2, f3, f4, f5, f6⟩ := h.free
  have hS := ho.isS
  have R2 := Lib.hid ((h.s3 1).s6 x)
  have O2 := Lib.hid ((h.s3 1).own (h.own ho 3 (.int .u8 (1 : Int))) 6 (.int .i32 x))
  have B2 := Lib.hid (Bel.box (i := 6) (x := .int .i32 x) (Bel.box (i := 3) (x := .int .u8 (1 : Int)) (Bel.refl b (sBlk v) w)))
  have HD := Lib.hid hd
  have HT := Lib.hid htop
  have HS := Lib.hid hsp
  clear h ho hd htop hsp
  go_enter Tryz.func131, Tryz.ntmps131
  go_wp2_with fail
  refine (round_anyX b B p m s a x neg v ws _ R2.out O2.out HD.out h0 HT.out hl hp0 hp hm hs HS.out hx1 hx2).mono ?_
  rintro _ w1 ⟨rfl, v1, ws1, e1, r1, r2, r3, r4, r4', r5⟩
  have Q : Hid (RndQ (sBlk v) B b p m neg s (wv ws) (x - 64 * (ws.length : Int)) w w1) := Lib.hid ⟨v1, ws1, e1, r1, r2, r3, r4, r4', B2.out.trans r5⟩
  clear r1 r2 r3 r4 r4' r5
  go_wp2
  go_end0
  exact ⟨rfl, Q.out⟩
theorem round_any (b B p m s : Nat) (a e : Int) (neg : Bool) (v : Value) (ws : List Nat) (w : World) (h : FltR w b p m a 1 neg v e) (hB : B ≤ b) (ho : Own w B 116 v (cellsW ws)) (hd : ∀ d ∈ ws, d < 18446744073709551616)
    (h0 : 0 < ws.length) (htop : 2 ^ (64 * ws.length - 1) ≤ wv ws) (hl : ws.length ≤ 1000000) (hp0 : 0 < p) (hp : p ≤ 64000000) (hm : m ≤ 5) (hs : s ≤ 1) (hsp : s = 0 ∨ p < 64 * ws.length) (he1 : -2147483648 ≤ e) (he2 : e < 2147483647) :
    Calls Tryz.prog 108 #[.pointer (some ⟨b, 0, none⟩), .int .u64 s] w fun e' w' => e' = .returned (.tuple #[]) ∧ RndP B b p m neg s (wv ws) (e - 64 * (ws.length : Int)) w w' :=
  (round_anyX b B p m s a e neg v ws w h ho hd h0 htop hl hp0 hp hm hs hsp he1 he2).mono fun _ _ h1 => by
    have hc : 0 < sCap v := by have := ho.isS.le; have := ho.len; rw [cellsW_length] at this; omega
    have h2 := ho.lt hc
    exact ⟨h1.1, h1.2.toP hB h2.1 (by omega)⟩
theorem setExp_any (b B p m f s : Nat) (a e x : Int) (neg : Bool) (v : Value) (ws : List Nat) (w : World) (h : FltR w b p m a f neg v e) (hB : B ≤ b) (ho : Own w B 116 v (cellsW ws)) (hd : ∀ d ∈ ws, d < 18446744073709551616)
    (h0 : 0 < ws.length) (htop : 2 ^ (64 * ws.length - 1) ≤ wv ws) (hl : ws.length ≤ 1000000) (hp0 : 0 < p) (hp : p ≤ 64000000) (hm : m ≤ 5) (hs : s ≤ 1) (hsp : s = 0 ∨ p < 64 * ws.length) (hx1 : -2147483648 ≤ x) (hx2 : x < 2147483647) :
    Calls Tryz.prog 131 #[.pointer (some ⟨b, 0, none⟩), .int .i64 x, .int .u64 s] w fun e' w' => e' = .returned (.tuple #[]) ∧ RndP B b p m neg s (wv ws) (x - 64 * (ws.length : Int)) w w' :=
  (setExp_anyX b B p m f s a e x neg v ws w h ho hd h0 htop hl hp0 hp hm hs hsp hx1 hx2).mono fun _ _ h1 => by
    have hc : 0 < sCap v := by have := ho.isS.le; have := ho.len; rw [cellsW_length] at this; omega
    have h2 := ho.lt hc
    exact ⟨h1.1, h1.2.toP hB h2.1 (by omega)⟩
def FVal (w : World) (B b p m : Nat) (a : Int) (f : Nat) (neg : Bool) (M : Nat) (X : Int) : Prop :=
  ∃ v e, FltR w b p m a f neg v e ∧ (f = 1 → 0 < M ∧ ∃ ws, Own w B 116 v (cellsW ws) ∧ Good ws p ∧ deq (wv ws) (e - 64 * (ws.length : Int)) M X)
theorem FVal.below {w w' : World} {B b p m f : Nat} {a : Int} {neg : Bool} {M : Nat} {X : Int} (h : FVal w B b p m a f neg M X) (hb : Below w.heap.size w w') : FVal w' B b p m a f neg M X := by
  obtain ⟨v, e, h1, h3⟩ := h
  refine ⟨v, e, h1.below hb, fun hf => ?_⟩
  obtain ⟨h4, ws, h5, h6, h7⟩ := h3 hf
  exact ⟨h4, ws, h5.below hb, h6, h7⟩
theorem topN_good {M p : Nat} (h : 0 < M) (hM : bl M ≤ p) (hl : nw M ≤ 1000000) : Good (topN M) p := by
  have hb := nw_bl h
  have hbp := bl_pos h
  refine ⟨by rw [topN_length]; exact nw_pos h, by rw [topN_length]; exact hl, wdsN_lt, ?_, topN_fits h hM⟩
  rw [topN_length, topN_wv h, show 64 * nw M - 1 = (bl M - 1) + (64 * nw M - bl M) by omega, Nat.pow_add]
  exact Nat.mul_le_mul_right _ (bl_ge h)
theorem FloatAt.val {w : World} {B g p m f M : Nat} {neg : Bool} {e : Int} (h : FloatAt w B g p m f neg M e) (h1 : f = 1 → 0 < M ∧ bl M ≤ p ∧ nw M ≤ 1000000) : FVal w B g p m 0 f neg M e := by
  obtain ⟨-, r, x, h2, h3⟩ := h
  refine ⟨r, x, h2, fun hf => ?_⟩
  obtain ⟨k1, k2, k3⟩ := h1 hf
  obtain ⟨k4, k5⟩ := h3 hf
  have hb := nw_bl k1
  refine ⟨k1, topN M, k5, topN_good k1 k2 k3, ?_⟩
  rw [topN_wv k1, topN_length, k4]
  refine ⟨0, 64 * nw M - bl M, by simp, ?_⟩
  omega
theorem RndQ.val {u B b p m s N : Nat} {neg : Bool} {X : Int} {w w' : World} (h : RndQ u B b p m neg s N X w w') (hN : 0 < rQ p m neg s N) : FVal w' B b p m (rA p m neg s N) 1 neg (rQ p m neg s N) (X + rk p N) := by
  obtain ⟨v, ws, e, h1, h2, h3, h4, -, -⟩ := h
  exact ⟨v, e, h1, fun _ => ⟨hN, ws, h2, h3, h4⟩⟩
theorem RndP.val {B b p m s N : Nat} {neg : Bool} {X : Int} {w w' : World} (h : RndP B b p m neg s N X w w') (hN : 0 < rQ p m neg s N) : FVal w' B b p m (rA p m neg s N) 1 neg (rQ p m neg s N) (X + rk p N) := by
  obtain ⟨v, ws, e, h1, h2, h3, h4, -⟩ := h
  exact ⟨v, e, h1, fun _ => ⟨hN, ws, h2, h3, h4⟩⟩
theorem Good.wide {ws : List Nat} {p q : Nat} (h : Good ws p) (hpq : p ≤ q) : Good ws q := by
  obtain ⟨h1, h2, h3, h4, h5⟩ := h
  refine ⟨h1, h2, h3, h4, ?_⟩
  rcases h5 with h5 | ⟨h5, h6, h7⟩
  · exact .inl (by omega)
  · by_cases hq : 64 * ws.length ≤ q
    · exact .inl hq
    · refine .inr ⟨by omega, ?_, by omega⟩
      rw [show 64 * ws.length - p = (64 * ws.length - q) + (q - p) by omega, Nat.pow_add] at h6
      have h8 := Nat.mod_mul_right_mod (wv ws) (2 ^ (64 * ws.length - q)) (2 ^ (q - p))
      rw [h6] at h8; exact h8.symm.trans (Nat.zero_mod _) |>.symm ▸ rfl
def pOf (p0 p : Nat) : Nat := if p0 = 0 then p else p0
theorem fval_rnd {w : World} {B b p m : Nat} {neg : Bool} {v : Value} {e : Int} {ws : List Nat} (h : FltR w b p m 0 1 neg v e) (ho : Own w B 116 v (cellsW ws)) (hg : Good ws p) (hp : 0 < p) :
    FVal w B b p m (rA p m neg 0 (wv ws)) 1 neg (rQ p m neg 0 (wv ws)) (e - 64 * (ws.length : Int) + rk p (wv ws)) := by
  obtain ⟨k1, k2⟩ := rnd_fits (m := m) neg hg (e - 64 * (ws.length : Int))
  have hN : 0 < wv ws := Nat.lt_of_lt_of_le (Nat.two_pow_pos _) hg.2.2.2.1
  exact ⟨v, e, by rw [k1]; exact h, fun _ => ⟨rQ_pos neg 0 hp hN, ws, ho, hg, k2.symm⟩⟩
set_option maxRecDepth 100000 in
set_option maxHeartbeats 1600000 in
theorem setF_one (b B c p0 m0 f0' p m : Nat) (a0 e0 a e : Int) (n0 neg : Bool) (v : Value) (ws : List Nat) (w : World) (h : FltR w b p0 m0 a0 f0' n0 (.slice none 0 0) e0) (hB : B ≤ b) (hx : FltR w c p m a 1 neg v e) (hbc : b ≠ c)
    {Bx : Nat} (ho : Own w Bx 116 v (cellsW ws)) (hg : Good ws p) (hp0 : 0 < p) (hp : p ≤ 64000000) (hq : p0 ≤ 64000000) (hm : m0 ≤ 5) (he1 : -2147483648 ≤ e) (he2 : e < 2147483647) :
    Calls Tryz.prog 110 #[.pointer (some ⟨b, 0, none⟩), .pointer (some ⟨c, 0, none⟩)] w fun e' w' => e' = .returned (.pointer (some ⟨b, 0, none⟩)) ∧
      FVal w' B b (pOf p0 p) m0 (rA (pOf p0 p) m0 neg 0 (wv ws)) 1 neg (rQ (pOf p0 p) m0 neg 0 (wv ws)) (e - 64 * (ws.length : Int) + rk (pOf p0 p) (wv ws)) ∧ Below B w w' := by
  obtain ⟨c0, c1, c2, c3, c4, c5, c6⟩ := h.cells
  obtain ⟨f0, f1, f2, f3, f4, f5, f6⟩ := h.free
  obtain ⟨d0, d1, d2, d3, d4, d5, d6⟩ := hx.cells
  have d3' : w.cell? ⟨c, 3, none⟩ = some (.int .u8 1) := d3
  have hS := ho.isS
  have hne : ¬ b = c := hbc
  have hne' : ¬ c = b := fun h => hne h.symm
  have r1 := h.s2 0
  have r2 := r1.s3 1
  have r3 := r2.s4 neg
  have R4 := Lib.hid (r3.s6 e)
  have o4 := r3.own (r2.own (r1.own (h.own ho 2 (.int .i8 0)) 3 (.int .u8 (1 : Int))) 4 (.bool neg)) 6 (.int .i32 e)
  have V4 := Lib.hid (o4.rw' hg.2.2.1)
  have B4 := Lib.hid (bset (i := 6) (u := .int .i32 e) (bset (i := 4) (u := .bool neg) (bset (i := 3) (u := .int .u8 (1 : Int)) (bset (i := 2) (u := .int .i8 0) (Below.refl B w) hB) hB) hB) hB)
  have hoth : ∀ (W : World) (i : Nat) (u : Value), (W.setCell ⟨b, i, none⟩ u).heap[c]? = W.heap[c]? := fun W i u => heap_setCell_other _ _ _ _ (by simpa using hne')
  have X1 : FltR (w.setCell ⟨b, 2, none⟩ (.int .i8 0)) c p m a 1 neg v e := (hoth _ _ _).trans hx
  have X4 : Hid (FltR ((((w.setCell ⟨b, 2, none⟩ (.int .i8 0)).setCell ⟨b, 3, none⟩ (.int .u8 (1 : Int))).setCell ⟨b, 4, none⟩ (.bool neg)).setCell ⟨b, 6, none⟩ (.int .i32 e)) c p m a 1 neg v e) := Lib.hid (by
    unfold FltR; rw [hoth, hoth, hoth, hoth]; exact hx)
  have hcmp := neqF (w.setCell ⟨b, 2, none⟩ (.int .i8 0)) hbc r1 X1
  have HG := Lib.hid hg
  have hbB : b < w.heap.size := h.lt
  have hl := hg.2.1
  have HL := Lib.hid hl
  clear h hx ho d3 r1 r2 r3 o4 hoth X1 hg hl
  go_enter Tryz.func110, Tryz.ntmps110
  go_wp2
  (refine wp_region_hoist 9 (by kernel_rfl) (by kernel_rfl) ⟨fun _ _ _ h => (by first | exact (hQp _ _ _ h).elim | cases h.2.1 | (obtain ⟨_, h3, _⟩ := h.2; cases h3)), fun _ _ h => (by first | exact (hQo _ _ h).elim | cases h.1 | (obtain ⟨_, h3, _⟩ := h; cases h3))⟩ ?_; simp only [List.take_succ_cons, List.take_zero, List.drop_succ_cons, List.drop_zero]; (repeat (go_big_quiet_step (fail))); refine wpQuiet_nil ?_; rintro _ ⟨nq, rfl⟩)
  go_wp2_with fail
  refine (set_nil v ws _ (V4.out.drewN _) (by have := HL.out; omega)).mono ?_
  rintro _ w6 ⟨r, rfl, ho, hb⟩
  have hSr := ho.isS
  have hb' := undrewN hb
  have R6 := R4.out.below hb'
  have X6 := X4.out.below hb'
  have B6 := B4.out.trans (hb'.mono (by simp; omega))
  have O6 : Own w6 B 116 r (cellsW ws) := ho.mono (show B ≤ _ by simp; omega)
  obtain ⟨g0, g1, g2, g3, g4, g5, g6⟩ := R6.cells
  obtain ⟨k0, k1, k2, k3, k4, k5, k6⟩ := R6.free
  obtain ⟨x0, x1, x2, x3, x4, x5, x6⟩ := X6.cells
  have R7 := R6.s5 r
  have O7 := R6.own O6 5 r
  have B7 := bset (i := 5) (u := r) B6 hB
  have HR7 := Lib.hid R7
  have HO7 := Lib.hid O7
  have HB7 := Lib.hid B7
  clear ho hb hb' R6 X6 B6 O6 R7 O7 B7 c0 c1 c2 c3 c4 c5 c6 f0 f1 f2 f3 f4 f5 f6 d0 d1 d2 d3' d4 d5 d6 hcmp
  by_cases hz : p0 = 0
  · have t0 : ((p0 : Int) == 0) = true := by rw [hz]; rfl
    have HP : Hid (pOf p0 p = p) := Lib.hid (by unfold pOf; rw [if_pos hz])
    have R8 := Lib.hid (HR7.out.s0 p)
    have O8 := Lib.hid (HR7.out.own HO7.out 0 (.int .u32 (p : Int)))
    have B8 := Lib.hid (bset (i := 0) (u := .int .u32 (p : Int)) HB7.out hB)
    clear hz
    go_wp2
    go_ret
    rw [HP.out]
    exact ⟨rfl, fval_rnd R8.out O8.out HG.out hp0, B8.out⟩
  · have t0 : ((p0 : Int) == 0) = false := by rw [beq_eq_false_iff_ne]; omega
    have HP : Hid (pOf p0 p = p0) := Lib.hid (by unfold pOf; rw [if_neg hz])
    by_cases hpp : p0 < p
    · have t1 : decide (p0 < p) = true := decide_eq_true hpp
      have HZ := Lib.hid (show 0 < p0 by omega)
      clear hz hpp
      go_wp2_with fail
      go_quiet (fail)
      go_wp2_with fail
      have hG := HG.out
      have hr := round_any b B p0 m0 0 0 e neg r ws ((w6.setCell ⟨b, 5, none⟩ r).drewN nq) HR7.out hB (HO7.out.drewN nq) hG.2.2.1 hG.1 hG.2.2.2.1 hG.2.1 HZ.out hq hm (by decide) (.inl rfl) he1 he2
      rw [show ((0 : Nat) : Int) = 0 from rfl] at hr
      refine hr.mono ?_
      rintro _ w8 ⟨rfl, hR⟩
      have F : FVal w8 B b p0 m0 (rA p0 m0 neg 0 (wv ws)) 1 neg (rQ p0 m0 neg 0 (wv ws)) (e - 64 * (ws.length : Int) + rk p0 (wv ws)) :=
        hR.val (rQ_pos neg 0 HZ.out (Nat.lt_of_lt_of_le (Nat.two_pow_pos _) hG.2.2.2.1))
      obtain ⟨_, _, _, -, -, -, -, hb8⟩ := hR
      have HF := Lib.hid F
      have HB8 := Lib.hid (HB7.out.trans (undrewN hb8))
      clear hr hG F hb8
      go_wp2
      go_ret
      rw [HP.out]
      exact ⟨rfl, HF.out, HB8.out⟩
    · have t1 : decide (p0 < p) = false := decide_eq_false hpp
      have HPP := Lib.hid (show p ≤ p0 by omega)
      clear hz hpp
      go_wp2_with fail
      go_quiet (fail)
      go_wp2
      go_ret
      rw [HP.out]
      refine ⟨rfl, fval_rnd (v := r) HR7.out (HO7.out.drewN _) (HG.out.wide HPP.out) (by have := HPP.out; omega), undrewN' HB7.out⟩
set_option maxRecDepth 100000 in
set_option maxHeartbeats 800000 in
theorem setF_other (b B c p0 m0 f0' p m f : Nat) (a0 e0 a e : Int) (n0 neg : Bool) (u v : Value) (w : World) (h : FltR w b p0 m0 a0 f0' n0 u e0) (hB : B ≤ b) (hx : FltR w c p m a f neg v e) (hbc : b ≠ c) (hf : f = 0 ∨ f = 2) (_hp : p ≤ 64000000) (_hq : p0 ≤ 64000000) :
    Calls Tryz.prog 110 #[.pointer (some ⟨b, 0, none⟩), .pointer (some ⟨c, 0, none⟩)] w fun e' w' => e' = .returned (.pointer (some ⟨b, 0, none⟩)) ∧ FltR w' b (pOf p0 p) m0 0 f neg u e0 ∧ Below B w w' := by
  obtain ⟨c0, c1, c2, c3, c4, c5, c6⟩ := h.cells
  obtain ⟨f0, f1, f2, f3, f4, f5, f6⟩ := h.free
  obtain ⟨d0, d1, d2, d3, d4, d5, d6⟩ := hx.cells
  have hne : ¬ b = c := hbc
  have hne' : ¬ c = b := fun h => hne h.symm
  have r1 := h.s2 0
  have r2 := r1.s3 f
  have R3 := Lib.hid (r2.s4 neg)
  have B3 := Lib.hid (bset (i := 4) (u := .bool neg) (bset (i := 3) (u := .int .u8 (f : Int)) (bset (i := 2) (u := .int .i8 0) (Below.refl B w) hB) hB) hB)
  have hoth : ∀ (W : World) (i : Nat) (u : Value), (W.setCell ⟨b, i, none⟩ u).heap[c]? = W.heap[c]? := fun W i u => heap_setCell_other _ _ _ _ (by simpa using hne')
  have X1 : FltR (w.setCell ⟨b, 2, none⟩ (.int .i8 0)) c p m a f neg v e := (hoth _ _ _).trans hx
  have hcmp := neqF (w.setCell ⟨b, 2, none⟩ (.int .i8 0)) hbc r1 X1
  have t1 : ((f : Int) == 1) = false := by rw [beq_eq_false_iff_ne]; omega
  have hround : ∀ (W : World), FltR W b p0 m0 0 f neg u e0 → Calls Tryz.prog 108 #[.pointer (some ⟨b, 0, none⟩), .int .u64 0] W fun e' w' => e' = .returned (.tuple #[]) ∧ FltR w' b p0 m0 0 f neg u e0 ∧ Below B W w' := fun W hW => by
    obtain ⟨c0, c1, c2, c3, c4, c5, c6⟩ := hW.cells
    obtain ⟨f0, f1, f2, f3, f4, f5, f6⟩ := hW.free
    have t2 : ((f : Int) != 1) = true := by rw [bne_iff_ne]; omega
    have R := Lib.hid (hW.s2 0)
    have BB := Lib.hid (bset (i := 2) (u := .int .i8 0) (Below.refl B W) hB)
    go_enter Tryz.func108, Tryz.ntmps108
    go_wp2
    refine bodyPost_ret (results_none rfl _ _ _) rfl ?_
    exact ⟨rfl, R.out, BB.out⟩
  have HRo := Lib.hid hround
  clear h hx r1 r2 hoth X1 hf hround
  by_cases hz : p0 = 0
  · have t0 : ((p0 : Int) == 0) = true := by rw [hz]; rfl
    have HP : Hid (pOf p0 p = p) := Lib.hid (by unfold pOf; rw [if_pos hz])
    have R8 := Lib.hid (R3.out.s0 p)
    have B8 := Lib.hid (bset (i := 0) (u := .int .u32 (p : Int)) B3.out hB)
    clear hz
    go_enter Tryz.func110, Tryz.ntmps110
    go_wp2
    go_ret
    rw [HP.out]
    exact ⟨rfl, R8.out, B8.out⟩
  · have t0 : ((p0 : Int) == 0) = false := by rw [beq_eq_false_iff_ne]; omega
    have HP : Hid (pOf p0 p = p0) := Lib.hid (by unfold pOf; rw [if_neg hz])
    clear hz
    by_cases hpp : p0 < p
    · have t3 : decide (p0 < p) = true := decide_eq_true hpp
      clear hpp
      go_enter Tryz.func110, Tryz.ntmps110
      go_wp2_with fail
      go_quiet (fail)
      go_wp2_with fail
      refine (HRo.out _ (R3.out.drewN _)).mono ?_
      rintro _ w8 ⟨rfl, r8, b8⟩
      have R8 := Lib.hid r8
      have B8 := Lib.hid (B3.out.trans (undrewN b8))
      clear r8 b8
      go_wp2
      go_ret
      rw [HP.out]
      exact ⟨rfl, R8.out, B8.out⟩
    · have t3 : decide (p0 < p) = false := decide_eq_false hpp
      clear hpp
      go_enter Tryz.func110, Tryz.ntmps110
      go_wp2_with fail
      go_quiet (fail)
      go_wp2
      go_ret
      rw [HP.out]
      exact ⟨rfl, R3.out, undrewN' B3.out⟩
def stA (f p m : Nat) (neg : Bool) (M : Nat) : Int := if f = 1 then rA p m neg 0 M else 0
theorem setF_val (b B c Bx p0 m0 f0' p m f : Nat) (a0 e0 a : Int) (n0 neg : Bool) (M : Nat) (X : Int) (w : World) (h : FltR w b p0 m0 a0 f0' n0 (.slice none 0 0) e0) (hB : B ≤ b) (hx : FVal w Bx c p m a f neg M X) (hbc : b ≠ c) (hf : f ≤ 2)
    (hp0 : 0 < p) (hp : p ≤ 64000000) (hq : p0 ≤ 64000000) (hm : m0 ≤ 5) (hX : f = 1 → -2140000000 ≤ X ∧ X + bl M ≤ 2140000000) :
    Calls Tryz.prog 110 #[.pointer (some ⟨b, 0, none⟩), .pointer (some ⟨c, 0, none⟩)] w fun e' w' => e' = .returned (.pointer (some ⟨b, 0, none⟩)) ∧
      FVal w' B b (pOf p0 p) m0 (stA f (pOf p0 p) m0 neg M) f neg (rQ (pOf p0 p) m0 neg 0 M) (X + rk (pOf p0 p) M) ∧ Below B w w' := by
  obtain ⟨v, e, h1, h2⟩ := hx
  by_cases h3 : f = 1
  · subst h3
    obtain ⟨hM, ws, ho, hg, hd⟩ := h2 rfl
    have h0 := hd.symm.pos hM
    have hb := hd.bl h0
    rw [hg.bl] at hb
    have hx2 := hX rfl
    refine (setF_one b B c p0 m0 f0' p m a0 e0 a e n0 neg v ws w h hB h1 hbc ho hg hp0 hp hq hm (by omega) (by omega)).mono ?_
    rintro _ w' ⟨rfl, ⟨v', e', k1, k2⟩, k3⟩
    obtain ⟨l1, l2⟩ := rnd_deq (p := pOf p0 p) (m := m0) neg h0 hd
    refine ⟨rfl, ⟨v', e', ?_, fun _ => ?_⟩, k3⟩
    · unfold stA; rw [if_pos rfl, ← l2]; exact k1
    · obtain ⟨n1, ws', n2, n3, n4⟩ := k2 rfl
      exact ⟨l1.pos n1, ws', n2, n3, n4.trans l1⟩
  · refine (setF_other b B c p0 m0 f0' p m f a0 e0 a e n0 neg _ v w h hB h1 hbc (by omega) hp hq).mono ?_
    rintro _ w' ⟨rfl, k1, k2⟩
    exact ⟨rfl, ⟨_, _, by unfold stA; rw [if_neg h3]; exact k1, fun hc => absurd hc h3⟩, k2⟩
theorem FVal.setNeg {w : World} {B b p m f M : Nat} {a : Int} {neg : Bool} {X : Int} (h : FVal w B b p m a f neg M X) (x : Bool) : FVal (w.setCell ⟨b, 4, none⟩ (.bool x)) B b p m a f x M X := by
  obtain ⟨v, e, h1, h2⟩ := h
  refine ⟨v, e, h1.s4 x, fun hf => ?_⟩
  obtain ⟨n1, ws, n2, n3, n4⟩ := h2 hf
  exact ⟨n1, ws, h1.own n2 4 _, n3, n4⟩
theorem ks12 {W X : World} {k : Nat} {a b c d e f : Value} {T : TypeId} (hr : W.heap[k]? = some (.cells #[a, b, c, d, e, f] T (0, 0))) (h : Below W.heap.size W X) :
    Below W.heap.size W X ∧ X.cell? ⟨k, 0, none⟩ = some a ∧ X.cell? ⟨k, 1, none⟩ = some b ∧ X.cell? ⟨k, 2, none⟩ = some c ∧ X.cell? ⟨k, 3, none⟩ = some d ∧ X.cell? ⟨k, 4, none⟩ = some e ∧ X.cell? ⟨k, 5, none⟩ = some f :=
  ⟨h, (row_at (keep_row h hr) rfl).1, (row_at (keep_row h hr) rfl).1, (row_at (keep_row h hr) rfl).1, (row_at (keep_row h hr) rfl).1, (row_at (keep_row h hr) rfl).1, (row_at (keep_row h hr) rfl).1⟩
set_option maxRecDepth 100000 in
theorem setPrec0_new (b B m : Nat) (a e : Int) (neg : Bool) (v : Value) (w : World) (h : FltR w b 0 m a 0 neg v e) (hB : B ≤ b) :
    Calls Tryz.prog 90 #[.pointer (some ⟨b, 0, none⟩), .int .u64 0] w fun e' w' => e' = .returned (.pointer (some ⟨b, 0, none⟩)) ∧ FltR w' b 0 m 0 0 neg v e ∧ Below B w w' := by
  obtain ⟨c0, c1, c2, c3, c4, c5, c6⟩ := h.cells
  obtain ⟨f0, f1, f2, f3, f4, f5, f6⟩ := h.free
  have c3' : w.cell? ⟨b, 3, none⟩ = some (.int .u8 0) := c3
  have F := Lib.hid ((h.s2 0).s0 0)
  have FB := Lib.hid (bset (i := 0) (u := .int .u32 (0 : Int)) (bset (i := 2) (u := .int .i8 0) (Below.refl B w) hB) hB)
  clear h c3
  go_enter Tryz.func90, Tryz.ntmps90
  go_wp2
  go_ret
  exact ⟨rfl, F.out, FB.out⟩
set_option maxRecDepth 100000 in
theorem fresh_zero (m : Nat) (w : World) (hm : m ≤ 255) :
    Calls Tryz.prog 48 #[.int .u64 0, .int .i64 m] w fun e' w' => e' = .returned (.pointer (some ⟨w.heap.size, 0, none⟩)) ∧ FltR w' w.heap.size 0 m 0 0 false (.slice none 0 0) 0 ∧ Below w.heap.size w w' := by
  go_enter Tryz.func48, Tryz.ntmps48
  go_wp2_with fail
  refine (setPrec0_new w.heap.size w.heap.size 0 0 0 false (.slice none 0 0) _ (newF_row w) (Nat.le_refl _)).mono ?_
  rintro _ w1 ⟨rfl, h1, hb1⟩
  have hb1' := (fbone (W := w) newF).trans hb1
  have H1 := Lib.hid h1
  have HB1 := Lib.hid hb1'
  clear h1 hb1 hb1'
  go_wp2_with fail
  refine (setMode_any w.heap.size w.heap.size 0 0 m 0 0 0 false _ w1 H1.out (Nat.le_refl _)).mono ?_
  rintro _ w2 ⟨rfl, h2, hb2⟩
  have H2 := Lib.hid h2
  have HB2 := Lib.hid (HB1.out.trans hb2)
  clear h2 hb2
  go_wp2
  go_ret
  exact ⟨rfl, H2.out, HB2.out⟩
theorem fresh_all (p m : Nat) (w : World) (hp : p ≤ 64000000) (hm : m ≤ 255) :
    Calls Tryz.prog 48 #[.int .u64 p, .int .i64 m] w fun e' w' => ∃ g, e' = .returned (.pointer (some ⟨g, 0, none⟩)) ∧ (g = w.heap.size ∧ FltR w' g p m 0 0 false (.slice none 0 0) 0) ∧ Below w.heap.size w w' := by
  rcases Nat.eq_zero_or_pos p with rfl | h
  · refine (fresh_zero m w hm).mono ?_
    rintro _ w' ⟨rfl, h1, h2⟩
    exact ⟨_, rfl, ⟨rfl, h1⟩, h2⟩
  · refine (fresh_any p m w h hp hm).mono ?_
    rintro _ w' ⟨rfl, h1, h2⟩
    exact ⟨_, rfl, ⟨rfl, h1⟩, h2⟩
def TabW (w : World) : Prop := TabAt 6 Lib.deBruijn64tab w
theorem TabW.below {w w' : World} (h : TabW w) (hb : Below w.heap.size w w') : TabW w' := fun j hj => by
  have h1 := h j hj
  have hlt := World.block_lt_of_cell? w _ h1
  rw [hb.cell (p := ⟨6, j, none⟩) hlt]; exact h1
theorem TabW.drewN {w : World} (h : TabW w) (n : Nat) : TabW (w.drewN n) := h
theorem ctz_tz {x : Nat} (h0 : 0 < x) (hx : x < 18446744073709551616) : Lib.ctz 64 x = tz x := by
  obtain ⟨m, hm, -⟩ := Lib.ctzFrom_spec 64 x h0 (by simpa using hx)
  have e : Lib.ctz 64 x = Lib.ctzFrom 64 x := by simp [Lib.ctz]; omega
  rw [e]
  exact ((od_of (n := x) (o := 2 * m + 1) (t := Lib.ctzFrom 64 x) (by rw [Nat.mul_comm]; exact hm) (by omega)).2).symm
set_option maxRecDepth 100000 in
theorem tz64_any (x : Nat) (w : World) (h0 : 0 < x) (hx : x < 18446744073709551616) (hT : TabW w) :
    Calls Tryz.prog 203 #[.int .u64 x] w fun e w' => e = .returned (.int .i64 (tz x : Nat)) ∧ w = w' := by
  obtain ⟨hlow, hk⟩ := Lib.lowest_bit 64 x (by omega) (by simpa using hx)
  obtain ⟨hi, htab⟩ := Lib.deBruijn64_at _ hk
  have hcell := hT _ hi
  rw [htab, ctz_tz h0 hx] at hcell
  have key := tz64_key x _ hx (by omega) hlow
  rw [ctz_tz h0 hx] at key hi
  rw [ctz_tz h0 hx] at hk
  obtain ⟨i, hii⟩ : ∃ i, i = 2 ^ tz x * 285870213051353865 % 18446744073709551616 / 288230376151711744 := ⟨_, rfl⟩
  rw [← hii] at key hi hcell
  have t0 : ((x : Int) == 0) = false := by rw [beq_eq_false_iff_ne]; omega
  obtain ⟨k, hkk⟩ : ∃ k, k = tz x := ⟨_, rfl⟩
  rw [← hkk] at hcell hk ⊢
  clear hlow htab hii hkk hT
  go_enter Tryz.func203, Tryz.ntmps203
  go_wp2_with (simp only [key])
  go_ret
  exact ⟨rfl, rfl⟩
set_option maxRecDepth 100000 in
theorem tzc_any (x : Nat) (w : World) (h0 : 0 < x) (hx : x < 18446744073709551616) (hT : TabW w) :
    Calls Tryz.prog 171 #[.int .u64 x] w fun e w' => e = .returned (.int .i64 (tz x : Nat)) ∧ w = w' := by
  have H := Lib.hid (tz64_any x w h0 hx hT)
  have hk : tz x < 64 := by have := tz_le h0; have := bl_le64 hx; omega
  obtain ⟨k, hkk⟩ : ∃ k, k = tz x := ⟨_, rfl⟩
  rw [← hkk] at hk H ⊢
  clear hkk h0 hT
  go_enter Tryz.func171, Tryz.ntmps171
  go_wp2_with fail
  refine H.out.mono ?_
  rintro _ _ ⟨rfl, rfl⟩
  go_wp2
  go_ret
  exact ⟨rfl, rfl⟩
theorem tz_words {N k : Nat} (h : ∀ j, j < k → wdg N j = 0) (hk : wdg N k ≠ 0) : tz N = 64 * k + tz (wdg N k) := by
  have h1 := (wlow_zero (n := N) k).2 h
  have hd := Nat.pos_of_ne_zero hk
  have hN : N = 18446744073709551616 ^ k * (N / 18446744073709551616 ^ k) := by have := Nat.div_add_mod N (18446744073709551616 ^ k); omega
  obtain ⟨o1, o2⟩ := od_tz hd
  have hq : N / 18446744073709551616 ^ k = 18446744073709551616 * (N / 18446744073709551616 ^ k / 18446744073709551616) + wdg N k := by
    unfold wdg; exact (Nat.div_add_mod _ _).symm
  have ht : tz (wdg N k) < 64 := by have := tz_le hd; have := bl_le64 (wdg_lt N k); omega
  obtain ⟨Y, hY⟩ : ∃ Y, Y = N / 18446744073709551616 ^ k / 18446744073709551616 := ⟨_, rfl⟩
  rw [← hY] at hq
  have e : (18446744073709551616 : Nat) = 2 ^ (63 - tz (wdg N k)) * 2 * 2 ^ tz (wdg N k) := by
    rw [← Nat.pow_succ, ← Nat.pow_add, show 63 - tz (wdg N k) + 1 + tz (wdg N k) = 64 by omega]
  have h2 : N / 18446744073709551616 ^ k = (2 * (2 ^ (63 - tz (wdg N k)) * Y) + od (wdg N k)) * 2 ^ tz (wdg N k) := by
    rw [hq, Nat.add_mul, ← o1]
    congr 1
    conv => lhs; rw [e]
    simp only [Nat.mul_comm, Nat.mul_left_comm]
  refine (od_of (n := N) (o := 2 * (2 ^ (63 - tz (wdg N k)) * Y) + od (wdg N k)) (t := 64 * k + tz (wdg N k)) ?_ (by omega)).2
  conv => lhs; rw [hN, h2, w_two]
  rw [Nat.mul_comm (2 ^ (64 * k)), Nat.mul_assoc, ← Nat.pow_add, Nat.add_comm (tz _)]
set_option maxRecDepth 100000 in
set_option maxHeartbeats 800000 in
theorem tzb_any (v : Value) (ws : List Nat) (w : World) (hv : RW w v ws) (h0 : 0 < wv ws) (hl : ws.length ≤ 1000000000) (hT : TabW w) :
    Calls Tryz.prog 130 #[v] w fun e w' => e = .returned (.int .u64 (tz (wv ws) : Nat)) ∧ w = w' := by
  have hS := hv.isS
  have hL : sLen v = ws.length := hv.len
  have hget : ∀ j, ws.getD j 0 = wdg (wv ws) j := fun j => by rw [wv_dig hv.lt]
  have hne : 0 < ws.length := by
    rcases Nat.eq_zero_or_pos ws.length with h | h
    · have := List.eq_nil_of_length_eq_zero h; subst this; simp [wv] at h0
    · exact h
  obtain ⟨L, hLw⟩ : ∃ L, L = ws.length := ⟨_, rfl⟩
  rw [← hLw] at hL hl hne
  have hNl : wv ws < 18446744073709551616 ^ L := by rw [hLw]; exact wv_lt hv.lt
  obtain ⟨N, hN⟩ : ∃ N, N = wv ws := ⟨_, rfl⟩
  rw [← hN] at h0 hget hNl ⊢
  have t0 : ((L : Int) == 0) = false := by rw [beq_eq_false_iff_ne]; omega
  have HV := Lib.hid hv
  have HG := Lib.hid hget
  have HL := Lib.hid hLw
  have HT := Lib.hid hT
  have HNL := Lib.hid hNl
  clear hv hget hLw hT hN hNl
  go_enter Tryz.func130, Tryz.ntmps130
  go_wp2
  go_loopw [3] (fun i wr => ∃ k : Nat, k < L ∧ (∀ j, j < k → wdg N j = 0) ∧ i = .int .u64 k ∧ w = wr) (fun i _ => L - (intOf i).toNat)
  case atStart => exact ⟨0, hne, fun j hj => absurd hj (by omega), rfl, rfl⟩
  case round =>
    obtain ⟨k, hk, hz, rfl, rfl⟩ := hrel
    have c := HV.out.cell k (by rw [← HL.out]; exact hk)
    rw [HG.out] at c
    have HZ := Lib.hid hz
    have hdl := wdg_lt N k
    obtain ⟨d, hd⟩ : ∃ d, d = wdg N k := ⟨_, rfl⟩
    rw [← hd] at c hdl
    have HD := Lib.hid hd
    clear hz hd
    by_cases hd0 : d = 0
    · subst hd0
      have hk1 : k + 1 < L := by
        refine Nat.lt_of_not_le fun hc => ?_
        have : N % 18446744073709551616 ^ L = 0 := (wlow_zero (n := N) L).2 fun j hj => by
          by_cases hjk : j < k
          · exact HZ.out j hjk
          · rw [show j = k by omega]; exact HD.out.symm
        rw [Nat.mod_eq_of_lt HNL.out] at this
        omega
      go_wp2
      refine ⟨⟨k + 1, hk1, fun j hj => ?_, by simp, trivial⟩, by simp [intOf]; omega⟩
      by_cases hjk : j < k
      · exact HZ.out j hjk
      · rw [show j = k by omega]; exact HD.out.symm
    · have t1 : ((d : Int) == 0) = false := by rw [beq_eq_false_iff_ne]; omega
      have hdp : 0 < d := by omega
      have ht := tz_words HZ.out (by rw [← HD.out]; exact hd0)
      rw [← HD.out] at ht
      have htl : tz d < 64 := by have := tz_le hdp; have := bl_le64 hdl; omega
      have HTD := Lib.hid ht
      clear ht hd0
      go_wp2_with fail
      refine (tzc_any d w hdp hdl HT.out).mono ?_
      rintro _ _ ⟨rfl, rfl⟩
      obtain ⟨q, hq⟩ : ∃ q, q = tz d := ⟨_, rfl⟩
      rw [← hq] at htl HTD ⊢
      clear hq
      go_wp2
      go_ret
      rw [HTD.out]
      exact ⟨ret_u64 (by push_cast; omega), rfl⟩
set_option maxRecDepth 100000 in
set_option maxHeartbeats 1600000 in
theorem rsh_nil (v : Value) (ws : List Nat) (s : Nat) (w : World) (hv : RW w v ws) (hl : ws.length ≤ 1000000) (hs0 : 0 < s) (hs : s < 64 * ws.length) :
    Calls Tryz.prog 136 #[.slice none 0 0, v, .int .u64 s] w fun e w' => ∃ r, e = .returned r ∧ Own w' w.heap.size 116 r (cellsW (wds (wv ws / 2 ^ s))) ∧ Below w.heap.size w w' := by
  have hS := hv.isS
  have hLv := hv.len
  obtain ⟨L, hL⟩ : ∃ L, L = ws.length := ⟨_, rfl⟩
  rw [← hL] at hLv hl hs
  have t0 : ((s : Int) == 0) = false := by rw [beq_eq_false_iff_ne]; omega
  obtain ⟨n, hn⟩ : ∃ n, n = L - s / 64 := ⟨_, rfl⟩
  obtain ⟨k, hk⟩ : ∃ k, k = s / 64 := ⟨_, rfl⟩
  obtain ⟨t, ht⟩ : ∃ t, t = s % 64 := ⟨_, rfl⟩
  have hn1 : 0 < n := by omega
  have hnl : n ≤ 1000000 := by omega
  have ek : (s : Int) / 64 = (k : Int) := by omega
  have et : (s : Int) % 64 = (t : Int) := by omega
  have en : (L : Int) - (k : Int) = (n : Int) := by omega
  have en2 : (L : Int) - (n : Int) = (k : Int) := by omega
  have hkL : k ≤ L := by omega
  have hkl2 : k < L := by omega
  have ht64 : t < 64 := by omega
  have tn : decide ((n : Int) ≤ 0) = false := decide_eq_false (by omega)
  have HD := Lib.hid (hv.dropW (k := k) (by omega))
  have hdl : (ws.drop k).length = n := by rw [List.length_drop]; omega
  have HDL := Lib.hid hdl
  have HQ : Hid (wv ws / 2 ^ s = wv (ws.drop k) / 2 ^ t) := Lib.hid (by
    rw [wv_drop hv.lt (by omega), w_two, Nat.div_div_eq_div_mul, ← Nat.pow_add]; congr 2; omega)
  have HV := Lib.hid hv
  have HLt := Lib.hid (show ∀ d ∈ ws.drop k, d < 18446744073709551616 from fun d hd => hv.lt d (List.mem_of_mem_drop hd))
  have hblk : sBlk (subS v k L) < w.heap.size := by
    rw [subS_blk hS]; exact hv.ri.lt (by rw [ints_length]; omega)
  have hLx : sLen (subS v k L) = n := by rw [subS_len hS]; omega
  have hSx : IsS (subS v k L) := subS_isS hS hkL (by have := hS.le; omega)
  have HL := Lib.hid hL
  clear hv hL hn hk ht hdl
  go_enter Tryz.func136, Tryz.ntmps136
  go_wp2_with fail
  refine (make_nil n w (by omega)).mono ?_
  rintro _ w1 ⟨z, rfl, ho, hb, hcz⟩
  have hSz := ho.isS
  have hLz : sLen z = n := by rw [ho.len]; simp
  have hcap := hcz hn1
  have hzB := (ho.lt hcap).1
  have HO := Lib.hid ho
  have HB := Lib.hid hb
  have HX := HD.out.below hb
  rw [← HL.out] at HX
  have HX1 := Lib.hid HX
  have hbz := hb.size
  clear ho hb hcz HX
  have fin : ∀ (os : List Nat) (w2 : World), Own w2 w.heap.size 116 z (cellsW os) → (∀ d ∈ os, d < 18446744073709551616) → wv os = wv ws / 2 ^ s → Own w2 w.heap.size 116 (subS z 0 (nw (wv os))) (cellsW (wds (wv ws / 2 ^ s))) :=
    fun os w2 h1 h2 h3 => by rw [← h3]; exact h1.takeW h2
  have FIN := Lib.hid fin
  clear fin
  by_cases ht0 : t = 0
  · have t1 : ((t : Int) == 0) = true := by rw [ht0]; rfl
    have HT0 := Lib.hid ht0
    clear ht0
    go_wp2_with (refine wpList_copy_O (o := ⟨some 46, _, _, _, _, _⟩) rfl (.tmp 40) (.tmp 45) 108 108 rfl 116 Tryz.underlying108 sizeW z (subS v k L) rfl (by simp [Act.eval]) w.heap.size (List.replicate n (.int .u64 0)) HO.out (cellsW (ws.drop k)) ?d1 hSx ?d2 ?d3 (cellsW_one _) ?_)
    case d1 => rw [cellsW_length, HDL.out]; simp
    case d2 => rw [cellsW_length, HDL.out]; exact hLx
    case d3 => exact HX1.out.at
    intro w2 ho2 hb2 _
    have hSz2 := ho2.isS
    have HO2 := Lib.hid ho2
    have HB2 := Lib.hid (HB.out.trans (hb2.mono (Nat.le_refl _)))
    clear ho2 hb2
    go_wp2_with fail
    refine (norm_any z (ws.drop k) w2 (HO2.out.rw' HLt.out) (by rw [HDL.out]; omega)).mono ?_
    rintro _ _ ⟨rfl, rfl⟩
    have F := Lib.hid (FIN.out (ws.drop k) w2 HO2.out HLt.out (by rw [HQ.out, HT0.out, Nat.pow_zero, Nat.div_one]))
    have hSr := F.out.isS
    go_wp2
    go_ret
    exact ⟨_, rfl, F.out, HB2.out⟩
  · have t1 : ((t : Int) == 0) = false := by rw [beq_eq_false_iff_ne]; omega
    have ht1 : 0 < t := by omega
    have HOZ : Hid (Own w1 w.heap.size 116 z (cellsW (List.replicate n 0))) := Lib.hid (by rw [← cellsW_zeros]; exact HO.out)
    clear ht0
    go_wp2_with fail
    refine (rshVU_any z (subS v k L) (List.replicate n 0) (ws.drop k) (wv (ws.drop k)) t w.heap.size w1 HOZ.out (fun d hd => by rw [List.eq_of_mem_replicate hd]; decide) HX1.out rfl (by rw [HDL.out]; simp) (fun h => by omega) (by rw [HDL.out]; exact hn1) (by rw [HDL.out]; omega) ht1 ht64).mono ?_
    rintro _ w2 ⟨c, rfl, ho2, hb2, _⟩
    rw [HDL.out] at ho2
    have hwv : wv (wdsN (wv (ws.drop k) / 2 ^ t) n) = wv (ws.drop k) / 2 ^ t := by
      rw [wdsN_wv]
      refine Nat.mod_eq_of_lt (Nat.lt_of_le_of_lt (Nat.div_le_self _ _) ?_)
      have := wv_lt HLt.out
      rw [HDL.out] at this; exact this
    have HWV := Lib.hid hwv
    have HO2 := Lib.hid ho2
    have HB2 := Lib.hid (HB.out.trans (hb2.mono (Nat.le_refl _)))
    clear ho2 hb2 hwv
    go_wp2_with fail
    refine (norm_any z (wdsN (wv (ws.drop k) / 2 ^ t) n) w2 (HO2.out.rw' wdsN_lt) (by rw [wdsN_length]; omega)).mono ?_
    rintro _ _ ⟨rfl, rfl⟩
    have F := Lib.hid (FIN.out _ w2 HO2.out wdsN_lt (by rw [HWV.out, HQ.out]))
    have hSr := F.out.isS
    go_wp2
    go_ret
    exact ⟨_, rfl, F.out, HB2.out⟩
end Go.Proofs.YtllhnjpnkmjopaaGreatDoor
