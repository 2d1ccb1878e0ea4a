/-
Texts of this proof, joined: FlO RnE RnF. No condition.
-/
import Derived.Test.YtdepidpgbgfjlaaGreatDoorK07
import Derived.Test.YtdepidpgbgfjlaaGreatDoorK11
import Derived.Test.YtdepidpgbgfjlaaGreatDoorK28
import Derived.Test.YtdepidpgbgfjlaaGreatDoorK29
import Derived.Deep.DeepCutAuto
import Derived.Deep.CutBlock
namespace Go.Proofs.YtdepidpgbgfjlaaGreatDoor
open Go.RowKit

theorem Own.only {w w' : World} {B g : Nat} {v : Value} {xs : List Value} {p m f : Nat} {a e : Int} {neg : Bool} {u : Value} (h : Own w B 164 v xs) (hr : FltR w g p m a f neg u e) (ho : Only g w w') : Own w' B 164 v xs :=
  h.same fun hc => ho _ (h.lt hc).2 (h.ne_row hr (by decide) hc)
theorem keep_row' {B k : Nat} {w w' : World} {o : Obj} (hb : Below B w w') (h : w.heap[k]? = some o) (hk : k < B) : w'.heap[k]? = some o := (hb.block k hk).trans h
def FloatAt (w : World) (B g p m f : Nat) (neg : Bool) (M : Nat) (e : Int) : Prop :=
  B ≤ g ∧ ∃ r x, FltR w g p m 0 f neg r x ∧ (f = 1 → x = (bl M : Nat) + e ∧ Own w B 164 r (cellsW (topN M)))
set_option maxRecDepth 100000 in
set_option maxHeartbeats 1600000 in
theorem float_zero (p m : Nat) (neg : Bool) (v : Value) (e : Int) (M : Nat) (w : World) (_hS : IsS v) (hp0 : 0 < p) (hp : p ≤ 64000000) (hm : m ≤ 255) :
    Calls Tryz.prog 80 #[.agg #[.int .u64 p, .int .i64 m, .int .i64 0, .bool neg, v, .int .i64 e]] w fun e' w' => ∃ g, e' = .returned (.pointer (some ⟨g, 0, none⟩)) ∧ FloatAt w' w.heap.size g p m 0 neg M e ∧ Below w.heap.size w w' := by
  have hab := (Below.refl w.heap.size w).alloc (Nat.le_refl _) (.cells #[.int .u64 p, .int .i64 m, .int .i64 0, .bool neg, v, .int .i64 e] 39)
  obtain ⟨W, hW⟩ : ∃ W, W = w.alloc (.cells #[.int .u64 p, .int .i64 m, .int .i64 0, .bool neg, v, .int .i64 e] 39) := ⟨_, rfl⟩
  have hrow : W.heap[w.heap.size]? = some (.cells #[.int .u64 p, .int .i64 m, .int .i64 0, .bool neg, v, .int .i64 e] 39 (0, 0)) := by rw [hW]; exact box_row (Below.refl _ _)
  rw [← hW] at hab
  have hWs := hab.size
  have k0 := (row_at (i := 0) hrow rfl).1
  have k1 := (row_at (i := 1) hrow rfl).1
  have HR := Lib.hid hrow
  clear hrow
  go_enter Tryz.func80, Tryz.ntmps80
  go_upto_region 1 with fail
  rw [← hW]
  clear hW
  go_wp2_with fail
  refine (fresh_any p m W hp0 hp hm).mono ?_
  rintro _ w1 ⟨rfl, h1, hb1⟩
  obtain ⟨g, hg⟩ : ∃ g, g = W.heap.size := ⟨_, rfl⟩
  rw [← hg] at h1 ⊢
  have hgB : w.heap.size ≤ g := by omega
  have k2 := (row_at (i := 2) (keep_row hb1 HR.out) rfl).1
  have k3 := (row_at (i := 3) (keep_row hb1 HR.out) rfl).1
  have H1 := Lib.hid h1
  have B1 := Lib.hid (hab.trans (hb1.mono hWs))
  clear h1 hb1 hg
  cases neg with
  | false =>
    go_wp2
    go_ret
    exact ⟨g, rfl, ⟨hgB, _, _, H1.out, by intro h; omega⟩, B1.out⟩
  | true =>
    go_wp2_with fail
    refine (negF_same g w.heap.size p m 0 0 0 false _ w1 H1.out hgB).mono ?_
    rintro _ w2 ⟨rfl, h2, hb2, ho2⟩
    have H2 := Lib.hid h2
    have B2 := Lib.hid (B1.out.trans hb2)
    clear h2 hb2 ho2
    go_wp2
    go_ret
    exact ⟨g, rfl, ⟨hgB, _, _, H2.out, by intro h; omega⟩, B2.out⟩
set_option maxRecDepth 100000 in
set_option maxHeartbeats 1600000 in
theorem float_inf (p m : Nat) (neg : Bool) (v : Value) (e : Int) (M : Nat) (w : World) (_hS : IsS v) (hp0 : 0 < p) (hp : p ≤ 64000000) (hm : m ≤ 255) :
    Calls Tryz.prog 80 #[.agg #[.int .u64 p, .int .i64 m, .int .i64 2, .bool neg, v, .int .i64 e]] w fun e' w' => ∃ g, e' = .returned (.pointer (some ⟨g, 0, none⟩)) ∧ FloatAt w' w.heap.size g p m 2 neg M e ∧ Below w.heap.size w w' := by
  have hab := (Below.refl w.heap.size w).alloc (Nat.le_refl _) (.cells #[.int .u64 p, .int .i64 m, .int .i64 2, .bool neg, v, .int .i64 e] 39)
  obtain ⟨W, hW⟩ : ∃ W, W = w.alloc (.cells #[.int .u64 p, .int .i64 m, .int .i64 2, .bool neg, v, .int .i64 e] 39) := ⟨_, rfl⟩
  have hrow : W.heap[w.heap.size]? = some (.cells #[.int .u64 p, .int .i64 m, .int .i64 2, .bool neg, v, .int .i64 e] 39 (0, 0)) := by rw [hW]; exact box_row (Below.refl _ _)
  rw [← hW] at hab
  have hWs := hab.size
  have k0 := (row_at (i := 0) hrow rfl).1
  have k1 := (row_at (i := 1) hrow rfl).1
  have HR := Lib.hid hrow
  clear hrow
  go_enter Tryz.func80, Tryz.ntmps80
  go_upto_region 1 with fail
  rw [← hW]
  clear hW
  go_wp2_with fail
  refine (fresh_any p m W hp0 hp hm).mono ?_
  rintro _ w1 ⟨rfl, h1, hb1⟩
  obtain ⟨g, hg⟩ : ∃ g, g = W.heap.size := ⟨_, rfl⟩
  rw [← hg] at h1 ⊢
  have hgB : w.heap.size ≤ g := by omega
  have k2 := (row_at (i := 2) (keep_row hb1 HR.out) rfl).1
  have k3 := (row_at (i := 3) (keep_row hb1 HR.out) rfl).1
  have H1 := Lib.hid h1
  have B1 := Lib.hid (hab.trans (hb1.mono hWs))
  clear h1 hb1 hg
  go_wp2_with fail
  refine (setInf_any g w.heap.size p m 0 0 0 false neg _ w1 H1.out hgB).mono ?_
  rintro _ w2 ⟨rfl, h2, hb2⟩
  have H2 := Lib.hid h2
  have B2 := Lib.hid (B1.out.trans hb2)
  clear h2 hb2
  go_wp2
  go_ret
  exact ⟨g, rfl, ⟨hgB, _, _, H2.out, by intro h; omega⟩, B2.out⟩
set_option maxRecDepth 100000 in
set_option maxHeartbeats 3200000 in
theorem float_one (p m : Nat) (neg : Bool) (v : Value) (e : Int) (ws : List Nat) (w : World) (hv : RW w v ws) (hl : ws.length ≤ 1000000) (h0 : 0 < wv ws) (hM : bl (wv ws) ≤ p) (hp : p ≤ 64000000) (hm : m ≤ 255) (he1 : -1050000000 ≤ e) (he2 : e ≤ 1050000000) :
    Calls Tryz.prog 80 #[.agg #[.int .u64 p, .int .i64 m, .int .i64 1, .bool neg, v, .int .i64 e]] w fun e' w' => ∃ g, e' = .returned (.pointer (some ⟨g, 0, none⟩)) ∧ FloatAt w' w.heap.size g p m 1 neg (wv ws) e ∧ Below w.heap.size w w' := by
  have hS := hv.isS
  have hab := (Below.refl w.heap.size w).alloc (Nat.le_refl _) (.cells #[.int .u64 p, .int .i64 m, .int .i64 1, .bool neg, v, .int .i64 e] 39)
  obtain ⟨W, hW⟩ : ∃ W, W = w.alloc (.cells #[.int .u64 p, .int .i64 m, .int .i64 1, .bool neg, v, .int .i64 e] 39) := ⟨_, rfl⟩
  have hrow : W.heap[w.heap.size]? = some (.cells #[.int .u64 p, .int .i64 m, .int .i64 1, .bool neg, v, .int .i64 e] 39 (0, 0)) := by rw [hW]; exact box_row (Below.refl _ _)
  rw [← hW] at hab
  have hWs := hab.size
  have hbp := bl_pos h0
  have hp0 : 0 < p := by omega
  have k0 := (row_at (i := 0) hrow rfl).1
  have k1 := (row_at (i := 1) hrow rfl).1
  have HR := Lib.hid hrow
  have HT := Lib.hid (topN_fits h0 hM)
  have HTl : Hid ((topN (wv ws)).length ≤ 1000000) := Lib.hid (by rw [topN_length]; have := nw_le (wv_lt hv.lt); omega)
  have HT0 : Hid (0 < (topN (wv ws)).length) := Lib.hid (by rw [topN_length]; exact nw_pos h0)
  have HTd : Hid (∀ d ∈ topN (wv ws), d < 18446744073709551616) := Lib.hid (wdsN_lt)
  obtain ⟨M, hMM⟩ : ∃ M, M = wv ws := ⟨_, rfl⟩
  rw [← hMM] at hM h0 hbp HT HTl HT0 HTd ⊢
  have HM := Lib.hid hMM
  have HV := Lib.hid (hv.below hab)
  have Hbl := Lib.hid hM
  have Hbp := Lib.hid hbp
  clear hrow hMM hv hM hbp
  go_enter Tryz.func80, Tryz.ntmps80
  go_upto_region 1 with fail
  rw [← hW]
  clear hW
  go_wp2_with fail
  refine (fresh_any p m W hp0 hp hm).mono ?_
  rintro _ w1 ⟨rfl, h1, hb1⟩
  obtain ⟨g, hg⟩ : ∃ g, g = W.heap.size := ⟨_, rfl⟩
  have hb1' : Below w.heap.size W w1 := hb1.mono hWs
  have k2 := (row_at (i := 2) (keep_row hb1 HR.out) rfl).1
  have k4 := (row_at (i := 4) (keep_row hb1 HR.out) rfl).1
  have HR1 := Lib.hid (keep_row hb1 HR.out)
  have HV1 := Lib.hid (HV.out.below hb1)
  rw [← hg] at h1 ⊢
  have hgB : w.heap.size ≤ g := by omega
  have hbg : ¬ w.heap.size = g := by
    have := get_lt HR.out
    omega
  have H1 := Lib.hid h1
  have B1 := Lib.hid (hab.trans hb1')
  have hgl := h1.lt
  clear h1 hb1 hb1' hg
  go_wp2_with fail
  refine (of_any false v ws w1 HV1.out (by omega)).mono ?_
  rintro _ w2 ⟨c, rfl, hI, hb2⟩
  rw [Bool.false_and, ← HM.out] at hI
  have hgc : g ≠ c := by obtain ⟨_, h, _⟩ := hI; omega
  have HI := Lib.hid hI
  have H2 := Lib.hid (H1.out.below hb2)
  have B2 := Lib.hid (B1.out.trans (hb2.mono (B1.out.size)))
  have HR2 := Lib.hid (keep_row hb2 HR1.out)
  clear hI hb2
  go_wp2_with fail
  refine (setInt_exact g g c w1.heap.size p m M 0 0 false w2 H2.out (Nat.le_refl _) HI.out hgc h0 Hbl.out hp).mono ?_
  rintro _ w3 ⟨rfl, vz, h3, ho3, hb3⟩
  have hr3 := keep_row' hb3 HR2.out (by omega)
  have k3 := (row_at (i := 3) hr3 rfl).1
  have H3 := Lib.hid h3
  have O3 := Lib.hid ho3
  have HR3 := Lib.hid hr3
  have B3 := Lib.hid (B2.out.trans (hb3.mono hgB))
  clear h3 ho3 hb3 hr3 k2 k4
  cases neg with
  | false =>
    have hr4 := keep_row (fbone (W := w3) newF) HR3.out
    have k5 := (row_at (i := 5) hr4 rfl).1
    unfold newF at k5
    have B4 := Lib.hid (B3.out.trans ((fbone (W := w3) newF).mono B3.out.size))
    have hs3 := B3.out.size
    have hlt := H3.out.lt
    clear hr4
    go_wp2_with fail
    refine (setMantExp_exact w3.heap.size w.heap.size g 0 0 0 p m 0 0 0 (bl M : Nat) e false false vz (topN M) _ (newF_row w3) hs3 (H3.out.below (fbone (W := w3) newF)) (by omega) (O3.out.below (fbone (W := w3) newF)) HTd.out HT.out HT0.out HTl.out hp0 hp (by omega) (by have := Hbl.out; omega) he1 he2).mono ?_
    rintro _ w5 ⟨rfl, r, r1, r2, r3⟩
    have Q := Lib.hid (⟨⟨hs3, r, _, r1, fun _ => ⟨rfl, r2⟩⟩, B4.out.trans r3⟩ : FloatAt w5 w.heap.size w3.heap.size p m 1 false M e ∧ Below w.heap.size w w5)
    clear r1 r2 r3
    go_wp2
    go_ret
    exact ⟨_, rfl, Q.out⟩
  | true =>
    go_wp2_with fail
    refine (negF_same g g p m 1 0 (bl M : Nat) false vz w3 H3.out (Nat.le_refl _)).mono ?_
    rintro _ w4 ⟨rfl, h4, hb4, hon⟩
    have O4 := Lib.hid (O3.out.only H3.out hon)
    have hr4 := keep_row' hb4 HR3.out (by omega)
    have hr5 := keep_row (fbone (W := w4) newF) hr4
    have k5 := (row_at (i := 5) hr5 rfl).1
    unfold newF at k5
    have B5 := B3.out.trans (hb4.mono hgB)
    have B6 := Lib.hid (B5.trans ((fbone (W := w4) newF).mono B5.size))
    have hs3 := B5.size
    have hlt := h4.lt
    have H4 := Lib.hid h4
    clear hr4 hr5 B5 h4 hb4 hon k3
    go_wp2_with fail
    refine (setMantExp_exact w4.heap.size w.heap.size g 0 0 0 p m 0 0 0 (bl M : Nat) e false true vz (topN M) _ (newF_row w4) hs3 (H4.out.below (fbone (W := w4) newF)) (by omega) (O4.out.below (fbone (W := w4) newF)) HTd.out HT.out HT0.out HTl.out hp0 hp (by omega) (by have := Hbl.out; omega) he1 he2).mono ?_
    rintro _ w5 ⟨rfl, r, r1, r2, r3⟩
    have Q := Lib.hid (⟨⟨hs3, r, _, r1, fun _ => ⟨rfl, r2⟩⟩, B6.out.trans r3⟩ : FloatAt w5 w.heap.size w4.heap.size p m 1 true M e ∧ Below w.heap.size w w5)
    clear r1 r2 r3
    go_wp2
    go_ret
    exact ⟨_, rfl, Q.out⟩
theorem cellsW_drop (ws : List Nat) (k : Nat) : (cellsW ws).drop k = cellsW (ws.drop k) := by unfold cellsW; rw [List.map_drop]
theorem Own.dropW {w : World} {B e L k : Nat} {v : Value} {ws : List Nat} (h : Own w B e v (cellsW ws)) (hL : L = ws.length) (hk : k ≤ L) : Own w B e (subS v k L) (cellsW (ws.drop k)) := by
  have := h.sub (l := k) (n := L) hk (by rw [cellsW_length]; omega)
  rw [List.take_of_length_le (by rw [cellsW_length]; omega), cellsW_drop] at this
  exact this
set_option maxRecDepth 100000 in
theorem makeAcc_any (x : Bool) (w : World) : Calls Tryz.prog 136 #[.bool x] w fun e w' => e = .returned (.int .i8 (if x then 1 else -1)) ∧ w = w' := by
  cases x <;> go_enter Tryz.func136, Tryz.ntmps136 <;> go_wp2 <;> go_ret <;> exact ⟨rfl, rfl⟩
def RndQ (u B b p m : Nat) (neg : Bool) (s N : Nat) (X : Int) (w w' : World) : Prop :=
  ∃ v ws e, FltR w' b p m (rA p m neg s N) 1 neg v e ∧ Own w' B 164 v (cellsW ws) ∧ Good ws p ∧ deq (wv ws) (e - 64 * (ws.length : Int)) (rQ p m neg s N) (X + rk p N) ∧ sBlk v = u ∧ Bel b u w w'
def RndP (B b p m : Nat) (neg : Bool) (s N : Nat) (X : Int) (w w' : World) : Prop :=
  ∃ v ws e, FltR w' b p m (rA p m neg s N) 1 neg v e ∧ Own w' B 164 v (cellsW ws) ∧ Good ws p ∧ deq (wv ws) (e - 64 * (ws.length : Int)) (rQ p m neg s N) (X + rk p N) ∧ Below B w w'
end Go.Proofs.YtdepidpgbgfjlaaGreatDoor
