/-
Texts of this proof, joined: IfK IfL IfM RoC. No condition.
-/
import Derived.Test.YtjapoobegjoblaaDoorK03
import Derived.Test.YtjapoobegjoblaaDoorK06
import Derived.Test.YtjapoobegjoblaaDoorK18
import Derived.Test.YtjapoobegjoblaaDoorK21
import Derived.Test.YtjapoobegjoblaaDoorK22
import Derived.Test.YtjapoobegjoblaaDoorK24
/-
Floats: SetInt of a new receiver of any precision, by values. No condition.
-/
namespace Go.Proofs.YtjapoobegjoblaaDoor
open Go.RowKit

theorem bl_nw (M : Nat) : bl M ≤ 64 * nw M := by
  rcases Nat.eq_zero_or_pos M with h | h
  · rw [h, bl_zero]; omega
  · have := nw_bl h; omega
set_option maxRecDepth 100000 in
set_option maxHeartbeats 3200000 in
theorem setIntF_val (b B c Bc p m f M : Nat) (a e : Int) (neg0 sg : Bool) (w : World) (h : FltR w b p m a f neg0 (.slice none 0 0) e) (hB : B ≤ b) (hx : IntP w Bc c sg M) (hbc : b ≠ c) (hp : p ≤ 64000000) (hm : m ≤ 5) (hM : nw M ≤ 1000000) :
    Calls Tryd.prog 62 #[.pointer (some ⟨b, 0, none⟩), .pointer (some ⟨c, 0, none⟩)] w fun e' w' => e' = .returned (.pointer (some ⟨b, 0, none⟩)) ∧
      FVal w' B b (pD p (max (bl M) 64)) m (sbA (pD p (max (bl M) 64)) m sg M) (fO M) sg (rQ (pD p (max (bl M) 64)) m sg 0 M) (0 + rk (pD p (max (bl M) 64)) M) ∧ Below B w w' := by
  obtain ⟨vx, hcB, hrc, hox⟩ := hx
  have hblt := h.lt
  have hlb := bl_nw M
  have hqb : (pD p (max (bl M) 64)) ≤ 64000000 := pD_le hp (by omega)
  have hq0 : 0 < (pD p (max (bl M) 64)) := pD_pos (by omega)
  obtain ⟨c0, c1, c2, c3, c4, c5, c6⟩ := h.cells
  obtain ⟨f0, f1, f2, f3, f4, f5, f6⟩ := h.free
  have d0 : w.cell? ⟨c, 0, none⟩ = some (.bool sg) := (row_at (i := 0) hrc rfl).1
  have d1 : w.cell? ⟨c, 1, none⟩ = some vx := (row_at (i := 1) hrc rfl).1
  have hS := hox.isS
  have hLx : sLen vx = nw M := by rw [hox.len, cellsW_length, wds_length]
  have hbc1 : ¬ b = c := hbc
  have hbc2 : ¬ c = b := fun h => hbc h.symm
  have VX := Lib.hid (hox.rw' (wds_all M))
  obtain ⟨q, hq⟩ : ∃ q, q = (pD p (max (bl M) 64)) := ⟨_, rfl⟩
  rw [← hq] at hqb hq0 ⊢
  obtain ⟨l, hl⟩ : ∃ l, l = bl M := ⟨_, rfl⟩
  rw [← hl] at hq hlb
  have Hl := Lib.hid hl
  have HBL := Lib.hid (intBitLen c 0 vx M w d1 VX.out (by omega))
  rw [← hl] at HBL
  by_cases hm0 : M = 0
  · by_cases hp0 : p = 0
    · have t0 : ((p : Int) == 0) = true := by rw [hp0]; rfl
      have em : max (l : Int) 64 = (q : Int) := by rw [hq]; unfold pD; rw [if_pos hp0]; omega
      have R4 := Lib.hid (((h.s0 q).s2 0).s4 sg)
      have B4 := Lib.hid (bset (i := 4) (u := .bool sg) (bset (i := 2) (u := .int .i8 0) (bset (i := 0) (u := .int .u32 (q : Int)) (Below.refl B w) hB) hB) hB)
      have V4 := Lib.hid ((((h.s0 q).s2 0).own ((h.s0 q).own (h.own hox 0 (.int .u32 (q : Int))) 2 (.int .i8 0)) 4 (.bool sg)).rw' (wds_all M))
      clear hq
      have R5 := Lib.hid (R4.out.s3 0)
      have B5 := Lib.hid (bset (i := 3) (u := .int .u8 (0 : Int)) B4.out hB)
      have HF : Hid (∀ w' v e', FltR w' b q m 0 0 sg v e' → FVal w' B b q m (sbA q m sg M) (fO M) sg (rQ q m sg 0 M) (0 + rk q M)) := Lib.hid (fun w' v e' hw => by
        unfold sbA fO; rw [if_pos hm0, if_pos hm0]; exact ⟨_, _, hw, fun hc => absurd hc (by decide)⟩)
      have hLx0 : sLen vx = 0 := by rw [hLx, hm0]; rfl
      clear h hrc hox hLx hm0 hl
      go_enter Tryd.func62, Tryd.ntmps62
      go_wp2_with fail
      refine HBL.out.mono ?_
      rintro _ _ ⟨rfl, rfl⟩
      go_wp2
      go_ret
      exact ⟨rfl, HF.out _ _ _ R5.out, B5.out⟩
    · have t0 : ((p : Int) == 0) = false := by rw [beq_eq_false_iff_ne]; omega
      obtain rfl : q = p := by rw [hq]; unfold pD; rw [if_neg hp0]
      have R4 := Lib.hid ((h.s2 0).s4 sg)
      have B4 := Lib.hid (bset (i := 4) (u := .bool sg) (bset (i := 2) (u := .int .i8 0) (Below.refl B w) hB) hB)
      have V4 := Lib.hid (((h.s2 0).own (h.own hox 2 (.int .i8 0)) 4 (.bool sg)).rw' (wds_all M))
      clear hq
      have R5 := Lib.hid (R4.out.s3 0)
      have B5 := Lib.hid (bset (i := 3) (u := .int .u8 (0 : Int)) B4.out hB)
      have HF : Hid (∀ w' v e', FltR w' b q m 0 0 sg v e' → FVal w' B b q m (sbA q m sg M) (fO M) sg (rQ q m sg 0 M) (0 + rk q M)) := Lib.hid (fun w' v e' hw => by
        unfold sbA fO; rw [if_pos hm0, if_pos hm0]; exact ⟨_, _, hw, fun hc => absurd hc (by decide)⟩)
      have hLx0 : sLen vx = 0 := by rw [hLx, hm0]; rfl
      clear h hrc hox hLx hm0 hl
      go_enter Tryd.func62, Tryd.ntmps62
      go_wp2_with fail
      refine HBL.out.mono ?_
      rintro _ _ ⟨rfl, rfl⟩
      go_wp2
      go_ret
      exact ⟨rfl, HF.out _ _ _ R5.out, B5.out⟩
  · by_cases hp0 : p = 0
    · have t0 : ((p : Int) == 0) = true := by rw [hp0]; rfl
      have em : max (l : Int) 64 = (q : Int) := by rw [hq]; unfold pD; rw [if_pos hp0]; omega
      have R4 := Lib.hid (((h.s0 q).s2 0).s4 sg)
      have B4 := Lib.hid (bset (i := 4) (u := .bool sg) (bset (i := 2) (u := .int .i8 0) (bset (i := 0) (u := .int .u32 (q : Int)) (Below.refl B w) hB) hB) hB)
      have V4 := Lib.hid ((((h.s0 q).s2 0).own ((h.s0 q).own (h.own hox 0 (.int .u32 (q : Int))) 2 (.int .i8 0)) 4 (.bool sg)).rw' (wds_all M))
      clear hq
      have h0 : 0 < M := by omega
      have hnp := nw_pos h0
      have tl : ((nw M : Int) == 0) = false := by rw [beq_eq_false_iff_ne]; omega
      have H0 := Lib.hid h0
      have hTW := topN_wv h0
      have HTW := Lib.hid hTW
      have HDQ : Hid (deq (M * 2 ^ (64 * nw M - bl M)) ((bl M : Int) - 64 * (nw M : Int)) M 0) := Lib.hid ⟨0, 64 * nw M - bl M, by simp, by have := bl_nw M; omega⟩
      have HTOP : Hid (2 ^ (64 * nw M - 1) ≤ M * 2 ^ (64 * nw M - bl M)) := Lib.hid (by
        have h1 := bl_ge h0
        have h2 := bl_pos h0
        have h3 := bl_nw M
        refine Nat.le_trans ?_ (Nat.mul_le_mul_right _ h1)
        rw [← Nat.pow_add]; exact Nat.pow_le_pow_right (by decide) (by omega))
      obtain ⟨L, hL⟩ : ∃ L, L = nw M := ⟨_, rfl⟩
      rw [← hL] at hLx tl hnp hlb hM HTOP HDQ
      rw [← hl] at HDQ
      have HL := Lib.hid hL
      have HF : Hid (∀ w', FVal w' B b q m (rA q m sg 0 (wv (topN M))) 1 sg (rQ q m sg 0 (wv (topN M))) ((l : Int) - 64 * (L : Int) + rk q (wv (topN M))) → FVal w' B b q m (sbA q m sg M) (fO M) sg (rQ q m sg 0 M) (0 + rk q M)) := Lib.hid (fun w' hw => by
        unfold sbA fO; rw [if_neg hm0, if_neg hm0]
        refine fval_trans hw (by rw [hTW]; exact Nat.mul_pos h0 (Nat.two_pow_pos _)) ?_
        rw [hTW, ← hL, ← hl]
        exact HDQ.out)
      clear h hrc hox h0 hl hTW hm0 hL
      go_enter Tryd.func62, Tryd.ntmps62
      go_wp2_with fail
      refine HBL.out.mono ?_
      rintro _ _ ⟨rfl, rfl⟩
      go_wp2
      (refine wp_region_hoist 9 (by kernel_rfl) (by kernel_rfl) ⟨fun _ _ _ h => (by first | exact (hQp _ _ _ h).elim | cases h.2.1 | (obtain ⟨_, h3, _⟩ := h.2; cases h3)), fun _ _ h => (by first | exact (hQo _ _ h).elim | cases h.1 | (obtain ⟨_, h3, _⟩ := h; cases h3))⟩ ?_; simp only [List.take_succ_cons, List.take_zero, List.drop_succ_cons, List.drop_zero]; (repeat (go_big_quiet_step (fail))); refine wpQuiet_nil ?_; rintro _ ⟨nq, rfl⟩)
      go_wp2_with fail
      refine (set_nil vx (wds M) _ (V4.out.drewN _) (by rw [wds_length, ← HL.out]; omega)).mono ?_
      rintro _ w5 ⟨r, rfl, ho, hb⟩
      have hSr := ho.isS
      have hb' := undrewN hb
      have R5 := R4.out.below hb'
      have B5 := B4.out.trans (hb'.mono (by simp; omega))
      have O5 : Own w5 B 138 r (cellsW (wds M)) := ho.mono (show B ≤ _ by simp; omega)
      obtain ⟨g0, g1, g2, g3, g4, g5, g6⟩ := R5.cells
      obtain ⟨k0, k1, k2, k3, k4, k5, k6⟩ := R5.free
      have R6 := Lib.hid (R5.s5 r)
      have O6 := Lib.hid (R5.own O5 5 r)
      have B6 := Lib.hid (bset (i := 5) (u := r) B5 hB)
      clear ho hb hb' R5 B5 O5 c0 c1 c2 c3 c4 c5 c6 f0 f1 f2 f3 f4 f5 f6
      go_wp2_with fail
      refine (fnorm_val r M B _ O6.out H0.out (by rw [← HL.out]; omega)).mono ?_
      rintro _ w7 ⟨rfl, ho7, hb7, hon7⟩
      have hcap : 0 < sCap r := by
        have h1 := hSr.le
        have h2 : sLen r = nw M := by rw [O6.out.len, cellsW_length, wds_length]
        have := HL.out
        omega
      have hrb := O6.out.ne_row R6.out (by decide) hcap
      have R7 : FltR w7 b q m 0 f sg r e := (hon7 b R6.out.lt hrb.symm).trans R6.out
      have HR7 := Lib.hid R7
      have HO7 := Lib.hid ho7
      have B7 := Lib.hid (B6.out.trans hb7)
      clear R7 ho7 hb7 hon7 hrb g0 g1 g2 g3 g4 g5 g6 k0 k1 k2 k3 k4 k5 k6
      have HSE := Lib.hid (setExp_any b B q m f 0 0 e (l : Int) sg r (topN M) w7 HR7.out hB HO7.out wdsN_lt (by rw [topN_length, ← HL.out]; exact hnp) (by rw [topN_length, HTW.out, ← HL.out]; exact HTOP.out) (by rw [topN_length, ← HL.out]; exact hM) hq0 hqb hm (by decide) (.inl rfl) (by omega) (by omega))
      rw [show ((0 : Nat) : Int) = 0 from rfl] at HSE
      go_wp2_with fail
      refine HSE.out.mono ?_
      rintro _ w8 ⟨rfl, hR⟩
      have hQ : 0 < rQ q m sg 0 (wv (topN M)) := rQ_pos sg 0 hq0 (by rw [HTW.out]; exact Nat.mul_pos H0.out (Nat.two_pow_pos _))
      have F8 := hR.val hQ
      obtain ⟨_, _, _, -, -, -, -, hb8⟩ := hR
      rw [topN_length, ← HL.out] at F8
      have F9 := Lib.hid (HF.out _ F8)
      have B8 := Lib.hid (B7.out.trans hb8)
      clear F8 hb8 hQ HSE
      go_wp2
      go_ret
      exact ⟨rfl, F9.out, B8.out⟩
    · have t0 : ((p : Int) == 0) = false := by rw [beq_eq_false_iff_ne]; omega
      obtain rfl : q = p := by rw [hq]; unfold pD; rw [if_neg hp0]
      have R4 := Lib.hid ((h.s2 0).s4 sg)
      have B4 := Lib.hid (bset (i := 4) (u := .bool sg) (bset (i := 2) (u := .int .i8 0) (Below.refl B w) hB) hB)
      have V4 := Lib.hid (((h.s2 0).own (h.own hox 2 (.int .i8 0)) 4 (.bool sg)).rw' (wds_all M))
      clear hq
      have h0 : 0 < M := by omega
      have hnp := nw_pos h0
      have tl : ((nw M : Int) == 0) = false := by rw [beq_eq_false_iff_ne]; omega
      have H0 := Lib.hid h0
      have hTW := topN_wv h0
      have HTW := Lib.hid hTW
      have HDQ : Hid (deq (M * 2 ^ (64 * nw M - bl M)) ((bl M : Int) - 64 * (nw M : Int)) M 0) := Lib.hid ⟨0, 64 * nw M - bl M, by simp, by have := bl_nw M; omega⟩
      have HTOP : Hid (2 ^ (64 * nw M - 1) ≤ M * 2 ^ (64 * nw M - bl M)) := Lib.hid (by
        have h1 := bl_ge h0
        have h2 := bl_pos h0
        have h3 := bl_nw M
        refine Nat.le_trans ?_ (Nat.mul_le_mul_right _ h1)
        rw [← Nat.pow_add]; exact Nat.pow_le_pow_right (by decide) (by omega))
      obtain ⟨L, hL⟩ : ∃ L, L = nw M := ⟨_, rfl⟩
      rw [← hL] at hLx tl hnp hlb hM HTOP HDQ
      rw [← hl] at HDQ
      have HL := Lib.hid hL
      have HF : Hid (∀ w', FVal w' B b q m (rA q m sg 0 (wv (topN M))) 1 sg (rQ q m sg 0 (wv (topN M))) ((l : Int) - 64 * (L : Int) + rk q (wv (topN M))) → FVal w' B b q m (sbA q m sg M) (fO M) sg (rQ q m sg 0 M) (0 + rk q M)) := Lib.hid (fun w' hw => by
        unfold sbA fO; rw [if_neg hm0, if_neg hm0]
        refine fval_trans hw (by rw [hTW]; exact Nat.mul_pos h0 (Nat.two_pow_pos _)) ?_
        rw [hTW, ← hL, ← hl]
        exact HDQ.out)
      clear h hrc hox h0 hl hTW hm0 hL
      go_enter Tryd.func62, Tryd.ntmps62
      go_wp2_with fail
      refine HBL.out.mono ?_
      rintro _ _ ⟨rfl, rfl⟩
      go_wp2
      (refine wp_region_hoist 9 (by kernel_rfl) (by kernel_rfl) ⟨fun _ _ _ h => (by first | exact (hQp _ _ _ h).elim | cases h.2.1 | (obtain ⟨_, h3, _⟩ := h.2; cases h3)), fun _ _ h => (by first | exact (hQo _ _ h).elim | cases h.1 | (obtain ⟨_, h3, _⟩ := h; cases h3))⟩ ?_; simp only [List.take_succ_cons, List.take_zero, List.drop_succ_cons, List.drop_zero]; (repeat (go_big_quiet_step (fail))); refine wpQuiet_nil ?_; rintro _ ⟨nq, rfl⟩)
      go_wp2_with fail
      refine (set_nil vx (wds M) _ (V4.out.drewN _) (by rw [wds_length, ← HL.out]; omega)).mono ?_
      rintro _ w5 ⟨r, rfl, ho, hb⟩
      have hSr := ho.isS
      have hb' := undrewN hb
      have R5 := R4.out.below hb'
      have B5 := B4.out.trans (hb'.mono (by simp; omega))
      have O5 : Own w5 B 138 r (cellsW (wds M)) := ho.mono (show B ≤ _ by simp; omega)
      obtain ⟨g0, g1, g2, g3, g4, g5, g6⟩ := R5.cells
      obtain ⟨k0, k1, k2, k3, k4, k5, k6⟩ := R5.free
      have R6 := Lib.hid (R5.s5 r)
      have O6 := Lib.hid (R5.own O5 5 r)
      have B6 := Lib.hid (bset (i := 5) (u := r) B5 hB)
      clear ho hb hb' R5 B5 O5 c0 c1 c2 c3 c4 c5 c6 f0 f1 f2 f3 f4 f5 f6
      go_wp2_with fail
      refine (fnorm_val r M B _ O6.out H0.out (by rw [← HL.out]; omega)).mono ?_
      rintro _ w7 ⟨rfl, ho7, hb7, hon7⟩
      have hcap : 0 < sCap r := by
        have h1 := hSr.le
        have h2 : sLen r = nw M := by rw [O6.out.len, cellsW_length, wds_length]
        have := HL.out
        omega
      have hrb := O6.out.ne_row R6.out (by decide) hcap
      have R7 : FltR w7 b q m 0 f sg r e := (hon7 b R6.out.lt hrb.symm).trans R6.out
      have HR7 := Lib.hid R7
      have HO7 := Lib.hid ho7
      have B7 := Lib.hid (B6.out.trans hb7)
      clear R7 ho7 hb7 hon7 hrb g0 g1 g2 g3 g4 g5 g6 k0 k1 k2 k3 k4 k5 k6
      have HSE := Lib.hid (setExp_any b B q m f 0 0 e (l : Int) sg r (topN M) w7 HR7.out hB HO7.out wdsN_lt (by rw [topN_length, ← HL.out]; exact hnp) (by rw [topN_length, HTW.out, ← HL.out]; exact HTOP.out) (by rw [topN_length, ← HL.out]; exact hM) hq0 hqb hm (by decide) (.inl rfl) (by omega) (by omega))
      rw [show ((0 : Nat) : Int) = 0 from rfl] at HSE
      go_wp2_with fail
      refine HSE.out.mono ?_
      rintro _ w8 ⟨rfl, hR⟩
      have hQ : 0 < rQ q m sg 0 (wv (topN M)) := rQ_pos sg 0 hq0 (by rw [HTW.out]; exact Nat.mul_pos H0.out (Nat.two_pow_pos _))
      have F8 := hR.val hQ
      obtain ⟨_, _, _, -, -, -, -, hb8⟩ := hR
      rw [topN_length, ← HL.out] at F8
      have F9 := Lib.hid (HF.out _ F8)
      have B8 := Lib.hid (B7.out.trans hb8)
      clear F8 hb8 hQ HSE
      go_wp2
      go_ret
      exact ⟨rfl, F9.out, B8.out⟩
end Go.Proofs.YtjapoobegjoblaaDoor

/-
The thin package's SetInt. No condition.
-/
namespace Go.Proofs.YtjapoobegjoblaaDoor
open Go.RowKit

theorem ksN2 {W X : World} {k : Nat} {a b : Value} {T : TypeId} (hr : W.heap[k]? = some (.cells #[a, b] T (0, 0))) (h : Below W.heap.size W X) :
    X.cell? ⟨k, 0, none⟩ = some a ∧ X.cell? ⟨k, 1, none⟩ = some b := ⟨(row_at (i := 0) (keep_row h hr) rfl).1, (row_at (i := 1) (keep_row h hr) rfl).1⟩
theorem ksN2R {X : World} {k t i : Nat} {a b u : Value} (hk : t ≠ k) (h : X.cell? ⟨k, 0, none⟩ = some a ∧ X.cell? ⟨k, 1, none⟩ = some b) :
    (X.setCell ⟨t, i, none⟩ u).cell? ⟨k, 0, none⟩ = some a ∧ (X.setCell ⟨t, i, none⟩ u).cell? ⟨k, 1, none⟩ = some b := by
  have hk' : ∀ j, (X.setCell ⟨t, i, none⟩ u).cell? ⟨k, j, none⟩ = X.cell? ⟨k, j, none⟩ := fun j => cell_other (by simpa using hk)
  simp only [hk']; exact h
set_option maxRecDepth 100000 in
set_option maxHeartbeats 3200000 in
theorem impSetInt (q k : Nat) (n : Bool) (v : Value) (xs : List Nat) (w : World) (hv : RW w v xs) (hl : xs.length ≤ 10000) (hq : q ≤ 1000000) (hk : k ≤ 5) (hT : TabW w) :
    Calls Tryd.prog 33 #[.int .u64 q, .int .i64 k, .agg #[.bool n, v]] w fun e' w' => ∃ z, e' = .returned (.tuple #[z, .int .i64 (sbA (pD q (max (bl (wv xs)) 64)) k (n && decide (0 < wv xs)) (wv xs))]) ∧ RealV w' z (pD q (max (bl (wv xs)) 64)) k (fO (wv xs)) (n && decide (0 < wv xs)) (rQ (pD q (max (bl (wv xs)) 64)) k (n && decide (0 < wv xs)) 0 (wv xs)) (0 + rk (pD q (max (bl (wv xs)) 64)) (wv xs)) ∧ Below w.heap.size w w' := by
  have hS := hv.isS
  have hab := (Below.refl w.heap.size w).alloc (Nat.le_refl _) (.cells #[.bool n, v] 49)
  have hac := hab.alloc hab.size (.cells #[.int .u64 0, .int .i64 0, .int .i64 0, .bool false, .slice none 0 0, .int .i64 0] 25)
  obtain ⟨X, hX⟩ : ∃ X, X = (w.alloc (.cells #[.bool n, v] 49)).alloc (.cells #[.int .u64 0, .int .i64 0, .int .i64 0, .bool false, .slice none 0 0, .int .i64 0] 25) := ⟨_, rfl⟩
  have hr1 : X.heap[w.heap.size]? = some (.cells #[.bool n, v] 49 (0, 0)) := by
    rw [hX]; exact row_chain21
  have hr2 : X.heap[w.heap.size + 1]? = some (.cells #[.int .u64 0, .int .i64 0, .int .i64 0, .bool false, .slice none 0 0, .int .i64 0] 25 (0, 0)) := by
    rw [hX]; exact row_chain22
  rw [← hX] at hac
  have HV := Lib.hid (hv.below hac)
  have HT := Lib.hid (hT.below hac)
  have HR1 := Lib.hid hr1
  have HR2 := Lib.hid hr2
  have hwX := Lib.hid hac
  have hcc := Below.refl X.heap.size X
  have hXs := hac.size
  have hN := Lib.hid (show w.heap.size + 1 ≠ w.heap.size by omega)
  have hX2 : w.heap.size + 2 ≤ X.heap.size := by rw [hX]; simp
  have hnw : nw (wv xs) ≤ xs.length := nw_le (wv_lt hv.lt)
  have HNW : Hid (nw (wv xs) ≤ 1000000) := Lib.hid (by omega)
  have hbM : bl (wv xs) ≤ 640000 := by have := bl_nw (wv xs); omega
  have hpo : pD q (max (bl (wv xs)) 64) ≤ 1000000 ∧ 0 < pD q (max (bl (wv xs)) 64) := ⟨pD_le hq (by omega), pD_pos (by omega)⟩
  obtain ⟨sg, hsg⟩ : ∃ sg, sg = (n && decide (0 < wv xs)) := ⟨_, rfl⟩
  rw [← hsg]
  have HF := Lib.hid (fun (g c Bc : Nat) (W : World) (h : FltR W g q k 0 0 false (.slice none 0 0) 0) (hg : X.heap.size ≤ g) (hx : IntP W Bc c sg (wv xs)) (hbc : g ≠ c) => setIntF_val g X.heap.size c Bc q k 0 (wv xs) 0 0 false sg W h hg hx hbc (by omega) hk HNW.out)
  have HOF := Lib.hid (fun (W : World) (h : RW W v xs) => of_any n v xs W h (by omega))
  rw [← hsg] at HOF
  obtain ⟨A, hA⟩ : ∃ A, A = sbA (pD q (max (bl (wv xs)) 64)) k sg (wv xs) := ⟨_, rfl⟩
  have hAb : -1 ≤ A ∧ A ≤ 1 := by rw [hA]; exact sbA_bd _ _ _ _
  rw [← hA] at HF ⊢
  obtain ⟨Z, hZ⟩ : ∃ Z, Z = pD q (max (bl (wv xs)) 64) := ⟨_, rfl⟩
  rw [← hZ] at HF hpo ⊢
  have HPO := Lib.hid hpo
  have HRG := Lib.hid (rQ_rng Z k (wv xs) sg (by omega))
  obtain ⟨f, hf⟩ : ∃ f, f = fO (wv xs) := ⟨_, rfl⟩
  have hf2 : f ≤ 2 := by rw [hf]; exact fO_le _
  rw [← hf] at HF ⊢
  clear hv hab hac hr1 hr2 hT hpo hA hZ hsg hf hnw hbM
  go_enter Tryd.func33, Tryd.ntmps33
  go_upto_region 1 with fail
  rw [← hX]
  clear hX
  first
    | (go_region_held3 (fun w' => w'.cell? ⟨w.heap.size, 0, none⟩ = some (.bool n) ∧ w'.cell? ⟨w.heap.size, 1, none⟩ = some v)
        ((first | (refine ksN2 HR1.out ?_; with_reducible first | assumption | exact Below.drew hcc) | with_reducible exact ksN2R hN.out (ksN2R hN.out (ksN2R hN.out (ksN2R hN.out (ksN2R hN.out (ksN2R hN.out (ksN2 HR1.out hb6))))))))
        (first
          | (go_at_call 63; refine (HOF.out _ (HV.out.below hb3)).mono ?_; rintro _ w4 ⟨g2, rfl, hI, hb4⟩; have G1 := Lib.hid (hF1.below hb4); have G2 := Lib.hid hI; have hne := Lib.hid (show g1 ≠ g2 by have := hF1.lt; obtain ⟨_, hle, _⟩ := hI; omega); clear hF1 hI; have hb4 := bthen hb3 hb4)
          | (go_at_call 61; refine (fresh_all q k _ (by omega) (by omega)).mono ?_; rintro _ w3 ⟨g1, rfl, ⟨hg1, hF1⟩, hb3⟩; have hg1X : X.heap.size ≤ g1 := (by rw [hg1]; exact Nat.le_refl _); clear hg1; have hb3 : Below X.heap.size X w3 := bthen (Below.drew hcc) hb3)
          | (go_at_call 62; refine (HF.out g1 g2 _ _ G1.out hg1X G2.out hne.out).mono ?_; rintro _ w5 ⟨rfl, hF5, hb5⟩; have F5 := Lib.hid hF5; clear hF5; have hb5 := bthenX hb4 hb5)
          | (go_at_call 60; refine (implBoth _ g1 Z k f A _ _ _ _ F5.out hf2 (by have := HPO.out; omega) (by omega) (fun _ => HPO.out.2) (fun _ => HRG.out) (HT.out.below hb5) hAb).mono ?_; rintro _ w6 ⟨z, rfl, hz, hb6⟩; have hb6 := bthen hb5 hb6; have hq2 := keep_row hb6 HR2.out; obtain ⟨vz, Ez, zs, Bz, rfl, hz2, hzd, hz3, hz4⟩ := hz; have hSz := hz2.isS; obtain ⟨⟨y0, y1, y2, y3, y4, y5⟩, s0, s1, s2, s3, s4, s5⟩ := row6 hq2; have H2 := Lib.hid hz2; have H34 := Lib.hid (And.intro hzd (And.intro hz3 hz4)); have HQ2 := Lib.hid hq2; clear hz2 hzd hz3 hz4 hq2)))
    | fail
  all_goals go_wp2_with fail
  all_goals
    have HS := row6_set (x := .int .u64 (Z : Int)) (y := .int .i64 (k : Int)) (z := .int .i64 (f : Int)) (x' := .bool sg) (y' := vz) (z' := .int .i64 Ez) HQ2.out
    have HB := bset6 (x := .int .u64 (Z : Int)) (y := .int .i64 (k : Int)) (z := .int .i64 (f : Int)) (x' := .bool sg) (y' := vz) (z' := .int .i64 Ez) (hwX.out.trans (hb6.mono hXs)) (Nat.le_succ _)
    obtain ⟨⟨a0, a1, a2, a3, a4, a5⟩, -⟩ := row6 HS
    refine bodyPost_ret (v := .tuple #[.agg #[.int .u64 Z, .int .i64 k, .int .i64 f, .bool sg, vz, .int .i64 Ez], .int .i64 A]) ?_ rfl ⟨_, rfl, ⟨_, _, _, Bz, rfl, ?_, H34.out.1, H34.out.2⟩, HB⟩
    · simp [results, Tryd.results33, go_sem, a0, a1, a2, a3, a4, a5]
    · exact H2.out.same fun hc => by
        have hne : sBlk vz ≠ w.heap.size + 1 := H2.out.ne_row HQ2.out (by decide) hc
        exact heap6_other hne
end Go.Proofs.YtjapoobegjoblaaDoor

/-
The statement on SetInt. No condition.
-/
namespace Go.Proofs.YtjapoobegjoblaaDoor
open Go.RowKit

theorem told_sg {w : World} {z : Value} {p m M : Nat} {nb : Bool} {e : Int} (hz : RealV w z p m (fO M) (nb && decide (0 < M)) (rQ p m (nb && decide (0 < M)) 0 M) (e + (rk p M : Nat))) (hp : 0 < p) :
    Told w z p m nb (rQ p m nb 0 M) (e + (rk p M : Nat)) ∧ sbA p m (nb && decide (0 < M)) M = rA p m nb 0 M := by
  rcases Nat.eq_zero_or_pos M with h | h
  · subst h
    rw [(rQ0 p m nb).2.1, sbA_eq, (rQ0 p m _).2.2, (rQ0 p m _).2.2]
    exact ⟨hz.told0, rfl⟩
  · rw [decide_eq_true h, Bool.and_true] at hz ⊢
    rw [sbA_eq]
    exact ⟨told_fO hz hp, rfl⟩
set_option maxRecDepth 100000 in
set_option maxHeartbeats 3200000 in
theorem lawSetInt (a0 a1 : Int) (nb : Bool) (v : Value) (xs : List Nat) (w : World) (hT : TabW w) (l0 : 0 ≤ a0) (h0 : a0 ≤ 65535) (l1 : 0 ≤ a1) (h1 : a1 ≤ 255) (hv : RW w v xs) :
    Calls Tryd.prog 6 #[.int .u16 a0, .int .u8 a1, .agg #[.bool nb, v]] w fun e' w' => e' = .returned (.bool true) ∧ Below w.heap.size w w' := by
  obtain ⟨b0, rfl⟩ := Int.eq_ofNat_of_zero_le l0
  have ib0 : b0 ≤ 65535 := by omega
  obtain ⟨b1, rfl⟩ := Int.eq_ofNat_of_zero_le l1
  have ib1 : b1 ≤ 255 := by omega
  have hS := hv.isS
  have hab := (Below.refl w.heap.size w).alloc (Nat.le_refl _) (.cells #[.bool nb, v] 49)
  obtain ⟨X, hX⟩ : ∃ X, X = w.alloc (.cells #[.bool nb, v] 49) := ⟨_, rfl⟩
  have hr1 : X.heap[w.heap.size]? = some (.cells #[.bool nb, v] 49 (0, 0)) := by rw [hX]; exact row_chain11
  rw [← hX] at hab
  obtain ⟨c0, c1⟩ := ksN2 hr1 (Below.refl _ _)
  have HR1 := Lib.hid hr1
  have V1 := Lib.hid (hv.below hab)
  have hXs := hab.size
  have HW := Lib.hid hab
  have T0 := Lib.hid (hT.below hab)
  clear hT hr1 hv hab l0 h0 l1 h1
  go_enter Tryd.func6, Tryd.ntmps6
  go_upto_region 1 with fail
  rw [← hX]
  clear hX
  go_wp2_with fail
  refine (zzFits2_any nb v xs X V1.out).mono ?_
  rintro _ w1 ⟨rfl, hb1⟩
  obtain ⟨fits, hfits⟩ : ∃ f, f = decide (xs.length ≤ 2147483647) := ⟨_, rfl⟩
  rw [← hfits]
  clear c0 c1 hfits
  obtain ⟨c0, c1⟩ := ksN2 HR1.out hb1
  have HB := Lib.hid hb1
  clear hb1
  cases fits with
  | false =>
    go_wp2
    go_ret
    exact ⟨rfl, HW.out.trans (HB.out.mono hXs)⟩
  | true =>
  go_wp2_with fail
  refine (long_any v xs 10 w1 (V1.out.below HB.out)).mono ?_
  rintro _ _ ⟨rfl, rfl⟩
  by_cases hlg : 10 < xs.length
  · have hd : decide (10 < xs.length) = true := decide_eq_true hlg
    rw [hd]
    clear hlg hd
    go_wp2
    go_ret
    exact ⟨rfl, HW.out.trans (HB.out.mono hXs)⟩
  have hd : decide (10 < xs.length) = false := decide_eq_false hlg
  rw [hd]
  have hLN := Lib.hid (show xs.length ≤ 10 by omega)
  clear hd hlg
  have hWW := HW.out.trans (HB.out.mono hXs)
  have hV1 := V1.out.below HB.out
  have hr1 := keep_row HB.out HR1.out
  have hT0 := T0.out.below HB.out
  clear HW HB hXs V1 HR1 T0
  have HW := Lib.hid hWW
  have V1 := Lib.hid hV1
  have HR1 := Lib.hid hr1
  have T0 := Lib.hid hT0
  have hWs := HW.out.size
  clear hWW hV1 hr1 hT0
  go_wp2_with fail
  refine (target_any b0 b1 w1 ib0 ib1).mono ?_
  rintro _ _ ⟨rfl, rfl⟩
  have hqb : b0 % 301 ≤ 300 := by omega
  have hkb : b1 % 6 ≤ 5 := by omega
  obtain ⟨q, hq⟩ : ∃ q, q = b0 % 301 := ⟨_, rfl⟩
  obtain ⟨k, hk⟩ : ∃ k, k = b1 % 6 := ⟨_, rfl⟩
  rw [← hq] at hqb ⊢
  rw [← hk] at hkb ⊢
  clear hq hk ib0 ib1
  go_wp2_with fail
  refine (impSetInt q k nb v xs w1 V1.out (by have := hLN.out; omega) (by omega) hkb T0.out).mono ?_
  rintro _ wN ⟨z, rfl, hz, hb1⟩
  obtain ⟨M, hM⟩ : ∃ M, M = wv xs := ⟨_, rfl⟩
  have hMl : M < 18446744073709551616 ^ 10 := by rw [hM]; exact Nat.lt_of_lt_of_le (wv_lt V1.out.lt) (Nat.pow_le_pow_right (by decide) hLN.out)
  have hbM : bl M ≤ 640 := by have h1 := nw_le hMl; have h2 := bl_nw M; omega
  have HM := Lib.hid hM
  rw [← hM] at hz ⊢
  have hZp : 0 < pD q (max (bl M) 64) := pD_pos (by omega)
  have hZ2 : pD q (max (bl M) 64) ≤ 640 := pD_le (by omega) (by omega)
  obtain ⟨htd, hAe⟩ := told_sg hz hZp
  obtain ⟨Z, hZ⟩ : ∃ Z, Z = pD q (max (bl M) 64) := ⟨_, rfl⟩
  rw [← hZ] at hz htd hAe hZp hZ2 ⊢
  obtain ⟨sg, hsg⟩ : ∃ sg, sg = (nb && decide (0 < M)) := ⟨_, rfl⟩
  rw [← hsg] at hz hAe ⊢
  obtain ⟨A, hA⟩ : ∃ A, A = sbA Z k sg M := ⟨_, rfl⟩
  rw [← hA] at hAe ⊢
  obtain ⟨f, hf⟩ : ∃ f, f = fO M := ⟨_, rfl⟩
  rw [← hf] at hz
  have HAE := Lib.hid hAe
  have HTD0 := Lib.hid htd
  have HZ0 := Lib.hid hZ
  obtain ⟨l, hl⟩ : ∃ l, l = bl M := ⟨_, rfl⟩
  have HL := Lib.hid hl
  rw [← hl] at hbM
  clear hsg hA hf hZ hAe htd hM hMl hl
  obtain ⟨vz, Ez, rfl, hSz⟩ := hz.formW
  obtain ⟨Y, hY⟩ : ∃ Y, Y = wN.alloc (.cells #[.int .u64 (Z : Int), .int .i64 (k : Int), .int .i64 (f : Int), .bool sg, vz, .int .i64 Ez] 25) := ⟨_, rfl⟩
  have hbY : Below wN.heap.size wN Y := by rw [hY]; exact fbone _
  have hrz : Y.heap[wN.heap.size]? = some (.cells #[.int .u64 (Z : Int), .int .i64 (k : Int), .int .i64 (f : Int), .bool sg, vz, .int .i64 Ez] 25 (0, 0)) := by rw [hY]; exact row_chain11
  have hbX := bthen hb1 hbY
  have HRz := Lib.hid hrz
  have HZ := Lib.hid (hz.below hbY)
  have HWY := Lib.hid (HW.out.trans (hbX.mono hWs))
  have TY := Lib.hid (T0.out.below hbX)
  have hYs := HWY.out.size
  have hcc := Below.refl Y.heap.size Y
  have HRx1 := Lib.hid (keep_row hbX HR1.out)
  have VY1 := Lib.hid (V1.out.below hbX)
  have HTD := Lib.hid (HTD0.out.below hbY)
  clear hb1 hbY hrz hbX hz c0 c1 HW hWs T0 HR1 V1 HTD0 
  have HBB : Hid (Below Y.heap.size Y (Y.alloc (.cells #[.bool false, .slice none 0 0, .int .i64 0] 33))) := Lib.hid (hcc.alloc (Nat.le_refl _) _)
  have HBA : Hid (Below Y.heap.size Y (Y.alloc (.cells #[.bool false, .slice none 0 0, .int .i64 0] 33)).drew) := Lib.hid (Below.drew HBB.out)
  have HRA : Hid ((Y.alloc (.cells #[.bool false, .slice none 0 0, .int .i64 0] 33)).drew.heap[Y.heap.size]? = some (.cells #[.bool false, .slice none 0 0, .int .i64 0] 33 (0, 0))) := Lib.hid (keep_row (Below.drew (Below.refl _ _)) row_chain11)
  go_upto_region 7 with fail
  rw [← hY]
  clear hY
  first
    | (go_region_held3 (fun w' => Below Y.heap.size Y w' ∧ (w'.cell? ⟨w.heap.size, 0, none⟩ = some (.bool nb) ∧ w'.cell? ⟨w.heap.size, 1, none⟩ = some v))
        (((refine ⟨?_, ksN2 HRx1.out ?_⟩ <;> with_reducible first | assumption | exact Below.drew hcc | exact bthen hb8 (fbone _) | exact HBA.out | exact HBB.out | exact bset hb8 (Nat.le_refl _) | exact bset (bset hb8 (Nat.le_refl _)) (Nat.le_refl _) | exact bset (bset (bset hb8 (Nat.le_refl _)) (Nat.le_refl _)) (Nat.le_refl _))))
        (first
          | (go_at_call 26; refine (spOf v xs _ (VY1.out.below HBA.out) (by have := hLN.out; omega)).mono ?_; rintro _ w8 ⟨b, rfl, hd1, hb8⟩; rw [← HM.out] at hd1; have hT1 := hd1.isS; have HRq := Lib.hid (keep_row hb8 HRA.out); obtain ⟨d0, d1, d2, d3, d4, d5⟩ := row3 HRq.out; have hb8 := bthen HBA.out hb8; have D1 := Lib.hid hd1; clear hd1)
          | (go_at_call 26; refine (spOf v xs _ (VY1.out.below (And.left (by assumption))) (by have := hLN.out; omega)).mono ?_; rintro _ w8 ⟨b, rfl, hd1, hb8⟩; rw [← HM.out] at hd1; have hT1 := hd1.isS; have hb8 := bthenL hb8 (by assumption); have D1 := Lib.hid hd1; clear hd1)))
    | fail
  all_goals
    first
    | (obtain ⟨U, hU⟩ : ∃ U, U = ((w8.setCell ⟨Y.heap.size, 0, none⟩ (.bool nb)).setCell ⟨Y.heap.size, 1, none⟩ b).setCell ⟨Y.heap.size, 2, none⟩ (.int .i64 0) := ⟨_, rfl⟩
       have hb9 : Below Y.heap.size Y U := by rw [hU]; exact bset (bset (bset hb8 (Nat.le_refl _)) (Nat.le_refl _)) (Nat.le_refl _)
       have hrU : U.heap[Y.heap.size]? = some (.cells #[.bool nb, b, .int .i64 0] 33 (0, 0)) := by rw [hU]; exact rowset (i := 2) (.int .i64 0) (rowset (i := 1) b (rowset (i := 0) (.bool nb) HRq.out))
       have D2 : Hid (NatV U b M) := Lib.hid (by rw [hU]; exact natv_dyad (x := .bool nb) (y := b) (z := .int .i64 0) IsS.nil D1.out HRq.out)
       have HTD2 := Lib.hid (HTD.out.below hb9)
       have HRz2 := Lib.hid (keep_row hb9 HRz.out)
       have HWU := Lib.hid (HWY.out.trans (hb9.mono hYs))
       have hUs := HWU.out.size
       have hnlb : nl M ≤ 1000000000 := nl_of_bl (by have := HL.out; omega)
       have HNL := Lib.hid hnlb
       clear d0 d1 d2 d3 d4 d5
       obtain ⟨d0, d1, d2, -, -, -⟩ := row3 hrU
       obtain ⟨⟨z0, z1, z2, z3, z4, z5⟩, -⟩ := row6 HRz2.out
       clear hrU hb8 hb9 hnlb
       go_upto_region 8 with fail
       rw [← hU]
       clear hU)
    | (obtain ⟨U, hU⟩ : ∃ U, U = w8.alloc (.cells #[.bool nb, b, .int .i64 0] 33) := ⟨_, rfl⟩
       have hbU : Below w8.heap.size w8 U := by rw [hU]; exact fbone _
       have hrU : U.heap[w8.heap.size]? = some (.cells #[.bool nb, b, .int .i64 0] 33 (0, 0)) := by rw [hU]; exact row_chain11
       have hb9 := bthen hb8 hbU
       have D2 := Lib.hid (D1.out.below hbU)
       have HTD2 := Lib.hid (HTD.out.below hb9)
       have HRz2 := Lib.hid (keep_row hb9 HRz.out)
       have HWU := Lib.hid (HWY.out.trans (hb9.mono hYs))
       have hUs := HWU.out.size
       have hnlb : nl M ≤ 1000000000 := nl_of_bl (by have := HL.out; omega)
       have HNL := Lib.hid hnlb
       obtain ⟨d0, d1, d2, -, -, -⟩ := row3 hrU
       obtain ⟨⟨z0, z1, z2, z3, z4, z5⟩, -⟩ := row6 HRz2.out
       clear hbU hrU hb8 hb9 hnlb
       go_upto_region 8 with fail
       rw [← hU]
       clear hU)
    by_cases hq0 : q = 0
    · have t : ((q : Int) == 0) = true := by rw [hq0]; rfl
      have em : max (64 : Int) (l : Int) = (Z : Int) := by
        have h1 := HZ0.out
        unfold pD at h1
        rw [if_pos hq0, ← HL.out] at h1
        omega
      clear hq0
      go_wp2_with fail
      refine (spLen b M U D2.out HNL.out).mono ?_
      rintro _ _ ⟨rfl, rfl⟩
      rw [← HL.out]
      go_wp2_with fail
      refine (rounds_any _ A nb b M 0 Z k U HTD2.out HAE.out D2.out (by have := HL.out; omega) (by omega) hkb (by decide) (by decide)).mono ?_
      rintro _ w10 ⟨rfl, hb10⟩
      have B10 := Lib.hid (HWU.out.trans (hb10.mono hUs))
      clear hb10
      go_wp2
      go_ret
      exact ⟨rfl, B10.out⟩
    · have t : ((q : Int) == 0) = false := by rw [beq_eq_false_iff_ne]; omega
      have hZq : Z = q := by
        have h1 := HZ0.out
        unfold pD at h1
        rw [if_neg hq0] at h1
        exact h1
      clear hq0 HZ0
      subst hZq
      go_wp2_with fail
      refine (rounds_any _ A nb b M 0 Z k U HTD2.out HAE.out D2.out (by have := HL.out; omega) (by omega) hkb (by decide) (by decide)).mono ?_
      rintro _ w10 ⟨rfl, hb10⟩
      have B10 := Lib.hid (HWU.out.trans (hb10.mono hUs))
      clear hb10
      go_wp2
      go_ret
      exact ⟨rfl, B10.out⟩
end Go.Proofs.YtjapoobegjoblaaDoor

/-
A statement's argument that is a Number: what it reads as. No condition.
-/
namespace Go.Proofs.YtjapoobegjoblaaDoor
open Go.ChangeShapes Go.WideShapes Go.ChangeAt Go.RowKit

section
variable {H : Type} {enc : TypeId × Value → H} {P : Program} {w : World} {base : Nat} {spare : Nat → Bool} {held : Bool}
theorem trod_struct2 {t : TypeId} {f0 f1 : Field} {fuel : Nat} {cs : List Value} {x : DataW H × List MemPlace} (ht : P.underlying t = some (.struct #[f0, f1])) (h : DataW.trod enc P w base spare held fuel t cs = some x) :
    ∃ y0 y1 n, cs.length = P.cellsOf t ∧ DataW.trod enc P w base spare held n f0.type ((cs.drop f0.offset).take (P.cellsOf f0.type)) = some y0 ∧
      DataW.trod enc P w base spare held n f1.type ((cs.drop f1.offset).take (P.cellsOf f1.type)) = some y1 := by
  obtain ⟨xs, n, _, rfl, hl, hlen, hf⟩ := DataW.trod_struct ht h
  match xs, hlen with
  | [y0, y1], _ => exact ⟨y0, y1, n, hl, by simpa using hf 0 f0 rfl, by simpa using hf 1 f1 rfl⟩
end
section
variable {H : Type} {enc : TypeId × Value → H} {W : World} {base : Nat} {held : Bool}
set_option maxRecDepth 100000 in
theorem open_num {v : Value} {r : Reach} {b0 : Nat} {d : DataW H} {p : List MemPlace} (hval : Value.okWide Tryd.prog W r b0 49 v) (h : DataW.Trod enc Tryd.prog W base (fun _ => true) held 49 v d p) :
    ∃ (n : Bool) (x : Value) (ws : List Nat), v = .agg #[.bool n, x] ∧ RW W x ws := by
  obtain ⟨cs, rfl, hsz⟩ := okWide_struct Tryd.underlying49 hval
  have hc : Tryd.prog.cellsOf 49 = 2 := by kernel_rfl
  rw [hc] at hsz
  obtain ⟨fuel, hf⟩ := h
  obtain ⟨y0, y1, n, hl, h0, h1⟩ := trod_struct2 Tryd.underlying49 hf
  match cs, hsz with
  | ⟨[c0, c1]⟩, _ =>
    have hcb : Tryd.prog.cellsOf 4 = 1 := by kernel_rfl
    have hcs : Tryd.prog.cellsOf 23 = 1 := by kernel_rfl
    obtain ⟨b, hb, _⟩ := DataW.trod_bool Tryd.underlying4 h0
    have e0 : c0 = .bool b := by simpa [hcb, Value.cells] using hb
    subst e0
    obtain ⟨ws, hw⟩ := open_words (v := c1) (by simpa [hcs, Value.cells] using h1)
    exact ⟨b, c1, ws, rfl, hw⟩
end
end Go.Proofs.YtjapoobegjoblaaDoor
