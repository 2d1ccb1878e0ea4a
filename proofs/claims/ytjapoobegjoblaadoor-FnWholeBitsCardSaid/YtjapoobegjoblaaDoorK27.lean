/-
Texts of this proof, joined: IfE IfS. No condition.
-/
import Derived.Test.YtjapoobegjoblaaDoorK06
import Derived.Test.YtjapoobegjoblaaDoorK14
import Derived.Test.YtjapoobegjoblaaDoorK24
import Derived.Test.YtjapoobegjoblaaDoorK26
/-
A number of 64 bits as a float, at its place. No condition.
-/
namespace Go.Proofs.YtjapoobegjoblaaDoor
open Go.RowKit

theorem topN_word {M : Nat} (h : 0 < M) (hM : M < 18446744073709551616) : topN M = [M * 2 ^ (64 - bl M)] := by
  have hb : bl M ≤ 64 := bl_le (k := 64) hM
  have hp := bl_pos h
  have hn : nw M = 1 := by have := nw_bl h; omega
  have hl : M * 2 ^ (64 - bl M) < 18446744073709551616 := by
    have h1 : M * 2 ^ (64 - bl M) < 2 ^ bl M * 2 ^ (64 - bl M) := Nat.mul_lt_mul_of_pos_right (lt_bl M) (Nat.two_pow_pos _)
    rw [← Nat.pow_add, show bl M + (64 - bl M) = 64 by omega] at h1
    exact h1
  unfold topN wdsN
  rw [hn, Nat.mul_one]
  simp only [List.range_succ, List.range_zero, List.nil_append, List.map_cons, List.map_nil]
  unfold wdg
  rw [Nat.pow_zero, Nat.div_one, Nat.mod_eq_of_lt hl]
theorem SIV.at {w : World} {B b m : Nat} {x : Int} (h : SIV w B b m x) (hB : B ≤ b) (h1 : -9223372036854775808 ≤ x) (h2 : x ≤ 9223372036854775807) : FloatAt w B b 64 m (fO x.natAbs) (decide (x < 0)) x.natAbs 0 := by
  rcases h with ⟨rfl, v, e, hF⟩ | ⟨h0, v, hF, ho⟩
  · exact ⟨hB, v, e, hF, fun hc => absurd hc (by decide)⟩
  · have hf : fO x.natAbs = 1 := if_neg (by omega)
    rw [hf]
    refine ⟨hB, v, _, hF, fun _ => ⟨by omega, ?_⟩⟩
    rw [topN_word (by omega) (by omega)]
    exact ho
theorem dy_fO (n : Bool) (M : Nat) : sI (dyN (fO M) n) (lo (dyM (fO M) M) (dyE (fO M) 0) 0) = sI n M := by
  by_cases h : M = 0
  · subst h; cases n <;> rfl
  · rw [show fO M = 1 from if_neg h]
    show sI n (lo M 0 0) = sI n M
    rw [lo_self]
end Go.Proofs.YtjapoobegjoblaaDoor

/-
The statement on a number of 64 bits times a power of 2. No condition.
-/
namespace Go.Proofs.YtjapoobegjoblaaDoor
open Go.RowKit

set_option maxRecDepth 100000 in
set_option maxHeartbeats 1600000 in
theorem impScaleInt (x k : Int) (w : World) (hx1 : -9223372036854775808 ≤ x) (hx2 : x ≤ 9223372036854775807) (hk1 : -100000 ≤ k) (hk2 : k ≤ 100000) (hT : TabW w) :
    Calls Tryd.prog 38 #[.int .i64 x, .int .i64 k] w fun e' w' => e' = .returned (.tuple #[.int .i64 (i64V (decide (x < 0)) x.natAbs k), .int .i64 (i64A (decide (x < 0)) x.natAbs k)]) ∧ Below w.heap.size w w' := by
  have hbx : bl x.natAbs ≤ 64 := bl_le (k := 64) (by omega)
  have hnx : nw x.natAbs ≤ 1000000 := Nat.le_trans (nw_of_bl (k := 1) hbx) (by decide)
  have hfx : fO x.natAbs ≤ 1 := by unfold fO; split <;> omega
  have hfp : fO x.natAbs = 1 → 0 < x.natAbs := fun h => by unfold fO at h; split at h <;> omega
  have HSM := Lib.hid (fun (W : World) (b B c Bx : Nat) (h : FltR W b 0 0 0 0 false (.slice none 0 0) 0) (hB : B ≤ b) (hx : FloatAt W Bx c 64 0 (fO x.natAbs) (decide (x < 0)) x.natAbs 0) (hbc : b ≠ c) =>
    setMantExp_val b B c Bx 0 0 0 64 0 (fO x.natAbs) 0 0 0 false (decide (x < 0)) x.natAbs 0 k W h hB (hx.val (fun h => ⟨hfp h, hbx, hnx⟩)) hbc (by omega) (fun _ => by decide) (by decide) (fun _ => by omega) (by omega) (by omega))
  rw [Int.zero_add] at HSM
  have HI := Lib.hid (fun (W : World) (B g : Nat) (a : Int) (h : FVal W B g 64 0 a (fO x.natAbs) (decide (x < 0)) x.natAbs k) (hT : TabW W) => int64_val g B 64 0 (fO x.natAbs) a _ _ _ W h hfx (fun _ => by omega) hT)
  have hE : i64V (decide (x < 0)) (dyM (fO x.natAbs) x.natAbs) (dyE (fO x.natAbs) k) = i64V (decide (x < 0)) x.natAbs k ∧ i64A (decide (x < 0)) (dyM (fO x.natAbs) x.natAbs) (dyE (fO x.natAbs) k) = i64A (decide (x < 0)) x.natAbs k := by
    by_cases h : x.natAbs = 0
    · rw [h, show dyM (fO 0) 0 = 0 from rfl]
      rw [(i64_zero _ _).1, (i64_zero _ _).2, (i64_zero _ _).1, (i64_zero _ _).2]; exact ⟨rfl, rfl⟩
    · rw [show fO x.natAbs = 1 from if_neg h]; exact ⟨rfl, rfl⟩
  rw [hE.1, hE.2] at HI
  obtain ⟨hbv, hba⟩ := i64_bd (decide (x < 0)) x.natAbs k
  obtain ⟨N, hN⟩ : ∃ N, N = i64V (decide (x < 0)) x.natAbs k := ⟨_, rfl⟩
  obtain ⟨A, hA⟩ : ∃ A, A = i64A (decide (x < 0)) x.natAbs k := ⟨_, rfl⟩
  rw [← hN, ← hA] at HI
  rw [← hN, ← hA]
  rw [← hN] at hbv
  rw [← hA] at hba
  have HT := Lib.hid hT
  clear hN hA hT hbx hnx hfx hfp hE
  have HR2 : Hid (FltR ((w.alloc newF).alloc newF) (w.heap.size + 1) 0 0 0 0 false (.slice none 0 0) 0) := Lib.hid (by
    have := newF_row (w.alloc newF)
    simpa using this)
  have HR1 : Hid (FltR ((w.alloc newF).alloc newF) w.heap.size 0 0 0 0 false (.slice none 0 0) 0) := Lib.hid ((newF_row w).below (fbone newF))
  have HBA : Hid (Below w.heap.size w ((w.alloc newF).alloc newF)) := Lib.hid (bthen (fbone newF) (fbone newF))
  go_enter Tryd.func38, Tryd.ntmps38
  go_wp2_with fail
  refine (setInt64_0 (w.heap.size + 1) (w.heap.size + 1) _ _ _ _ _ x _ HR2.out (Nat.le_refl _) hx1 hx2).mono ?_
  rintro _ w2 ⟨rfl, hS1, hb2⟩
  have GX := Lib.hid (hS1.at (Nat.le_refl _) hx1 hx2)
  have G0 : Hid (FltR w2 w.heap.size 0 0 0 0 false (.slice none 0 0) 0) := Lib.hid (keep_row' hb2 HR1.out (Nat.lt_succ_self _))
  have B2 := Lib.hid (HBA.out.trans (hb2.mono (Nat.le_succ _)))
  have hgx : Hid (w.heap.size ≠ w.heap.size + 1) := Lib.hid (by omega)
  clear hS1 hb2
  go_wp2_with fail
  refine (HSM.out w2 w.heap.size w.heap.size _ _ G0.out (Nat.le_refl _) GX.out hgx.out).mono ?_
  rintro _ w3 ⟨rfl, hv, hb3⟩
  have F3 := Lib.hid hv
  have B3 := Lib.hid (B2.out.trans hb3)
  have T3 := Lib.hid (HT.out.below B3.out)
  clear hv hb3
  go_wp2_with fail
  refine (HI.out w3 _ _ _ F3.out T3.out).mono ?_
  rintro _ _ ⟨rfl, n1, rfl⟩
  have B5 := Lib.hid (undrewN' (n := n1) B3.out)
  go_wp2
  go_ret2
  exact ⟨rfl, B5.out⟩
theorem natv_set2 {w Y : World} {a u : Value} {n i : Nat} {o : Obj} (h : NatV w a n) (hY : Y = w.alloc o) : NatV (Y.setCell ⟨w.heap.size, i, none⟩ u) a n := by
  subst hY
  refine ⟨h.isS, h.len, fun j hj => ?_⟩
  have hc := h.cell j hj
  have hlt : sBlk a < w.heap.size := World.block_lt_of_cell? w _ hc
  have hne : sBlk a ≠ w.heap.size := by omega
  have hh : ((w.alloc o).setCell ⟨w.heap.size, i, none⟩ u).heap[sBlk a]? = w.heap[sBlk a]? := by
    rw [heap_setCell_other _ _ _ _ (by simpa using hne)]
    exact (fbone (W := w) o).block _ hlt
  exact (World.cell?_of_block hh).trans hc
set_option maxRecDepth 100000 in
set_option maxHeartbeats 1600000 in
theorem lawScaleInt (a0 a1 : Int) (w : World) (hT : TabW w) (l0 : -9223372036854775808 ≤ a0) (h0 : a0 ≤ 9223372036854775807) (l1 : -32768 ≤ a1) (h1 : a1 ≤ 32767) :
    Calls Tryd.prog 8 #[.int .i64 a0, .int .i16 a1] w fun e' w' => e' = .returned (.bool true) ∧ Below w.heap.size w w' := by
  obtain ⟨k, hk⟩ : ∃ k : Int, k = a1.tmod 501 := ⟨_, rfl⟩
  have hkb : -501 < k ∧ k < 501 := by
    have h1 := Int.natAbs_tmod a1 501
    have h2 := Nat.mod_lt a1.natAbs (show 0 < (501 : Int).natAbs by decide)
    rw [← h1, ← hk] at h2
    have h3 : (501 : Int).natAbs = 501 := rfl
    omega
  have hk' : a1.tmod 501 = k := hk.symm
  have HI := Lib.hid (impScaleInt a0 k w l0 h0 (by omega) (by omega) hT)
  have HSP := Lib.hid (fun (W : World) (a : Value) (h : NatV W a a0.natAbs) => spInt64 (decide (a0 < 0)) a k a0.natAbs W h (Nat.le_trans (bl_le (k := 64) (by omega)) (by decide)) (by omega))
  obtain ⟨hbv, hba⟩ := i64_bd (decide (a0 < 0)) a0.natAbs k
  obtain ⟨N, hN⟩ : ∃ N, N = i64V (decide (a0 < 0)) a0.natAbs k := ⟨_, rfl⟩
  obtain ⟨A, hA⟩ : ∃ A, A = i64A (decide (a0 < 0)) a0.natAbs k := ⟨_, rfl⟩
  rw [← hN, ← hA] at HI HSP
  rw [← hN] at hbv
  rw [← hA] at hba
  clear hN hA hT hk
  obtain ⟨hk1, hk2⟩ := hkb
  go_enter Tryd.func8, Tryd.ntmps8
  go_wp2_with fail
  refine HI.out.mono ?_
  rintro _ w1 ⟨rfl, hb1⟩
  have HB1 := Lib.hid hb1
  have h1s := HB1.out.size
  clear hb1
  go_wp2_with fail
  refine (whole_any a0 w1 l0 h0).mono ?_
  rintro _ w2 ⟨_, rfl, ⟨a, rfl, hd⟩, hb⟩
  have hTa := hd.isS
  obtain ⟨ng, hng⟩ : ∃ ng, ng = decide (a0 < 0) := ⟨_, rfl⟩
  rw [← hng] at HSP ⊢
  obtain ⟨Y, hY⟩ : ∃ Y, Y = w2.alloc (.cells #[.bool ng, a, .int .i64 0] 33) := ⟨_, rfl⟩
  have hbY : Below w2.heap.size w2 Y := by rw [hY]; exact fbone _
  have hrY : Y.heap[w2.heap.size]? = some (.cells #[.bool ng, a, .int .i64 0] 33 (0, 0)) := by rw [hY]; exact row_chain11
  have HC := Lib.hid (hd.below hbY)
  have hrY2 := (rowset (i := 2) (.int .i64 k) hrY : (Y.setCell ⟨w2.heap.size, 2, none⟩ (.int .i64 k)).heap[w2.heap.size]? = some (.cells #[.bool ng, a, .int .i64 k] 33 (0, 0)))
  have HC2 : Hid (NatV (Y.setCell ⟨w2.heap.size, 2, none⟩ (.int .i64 k)) a a0.natAbs) := Lib.hid (natv_set2 hd hY)
  have hw2 : w.heap.size ≤ w2.heap.size := Nat.le_trans h1s hb.size
  have HBY : Hid (Below w.heap.size w (Y.setCell ⟨w2.heap.size, 2, none⟩ (.int .i64 k))) := Lib.hid (bset (i := 2) (u := .int .i64 k) (HB1.out.trans ((bthen hb hbY).mono h1s)) hw2)
  have hYs := HBY.out.size
  obtain ⟨x0, x1, x2, f0, f1, f2⟩ := row3 hrY
  obtain ⟨y0, y1, y2, -, -, -⟩ := row3 hrY2
  clear hd hb hng hbY hrY hrY2
  go_upto_region 4 with fail
  rw [← hY]
  clear hY
  go_wp2_with fail
  refine (HSP.out _ a HC2.out).mono ?_
  rintro _ w6 ⟨rfl, hb6⟩
  have HB6 := Lib.hid (HBY.out.trans (hb6.mono hYs))
  clear hb6
  go_wp2
  go_ret
  exact ⟨rfl, HB6.out⟩
end Go.Proofs.YtjapoobegjoblaaDoor
