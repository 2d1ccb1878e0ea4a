/-
What calls Inv and tells of a panic: RatInv's closures, guarded, answered. No condition.
-/
import Derived.Test.YtedmkbpfmddafaaInP
namespace Go.Proofs.Ytedmkbpfmddafaa
open Go.RowKit

set_option maxRecDepth 100000 in
set_option maxHeartbeats 800000 in
theorem invC_zero (k : Nat) (b : Bool) (v1 v2 : Value) (ns ds : List Nat) (w : World) (hk : w.heap[k]? = some (.cells #[.bool b, v1, v2] 55 (0, 0))) (h1 : RW w v1 ns) (h2 : RW w v2 ds) (hl1 : ns.length ≤ 100000) (hl2 : ds.length ≤ 100000) (h0 : wv ns = 0) :
    Calls Try.prog 64 #[.pointer (some ⟨k, 0, none⟩)] w fun e w' => e = .panicked divZero ∧ Below w.heap.size w w' := by
  have hS1 := h1.isS
  have hS2 := h2.isS
  obtain ⟨x0, x1, x2, -, -, -⟩ := row3 hk
  have hklt : k < w.heap.size := (heap_alloc_lt (o := .cells #[] 0) hk).2
  have ha1 := (Below.refl w.heap.size w).alloc (Nat.le_refl _) (.cells #[.bool false, .slice none 0 0, .bool false, .slice none 0 0] 92)
  have H1 := Lib.hid h1
  have H2 := Lib.hid h2
  have H0 := Lib.hid h0
  clear h1 h2 hk h0
  go_enter Try.func64, Try.ntmps64
  go_wp2_with fail
  refine (rat_any b v1 v2 ns ds _ (H1.out.below ha1) (H2.out.below ha1) hl1 hl2).mono ?_
  rintro _ w1 ⟨c, rfl, hR, hb1⟩
  rw [H0.out] at hR
  have HR := Lib.hid hR
  have bb := bthen ha1 hb1
  clear hR hb1
  go_wp2_with fail
  refine (ratInv_zero w.heap.size c _ _ _ w1 HR.out).mono ?_
  rintro _ _ ⟨rfl, rfl⟩
  go_wp2
  exact ⟨rfl, rfl, bb⟩
set_option maxRecDepth 100000 in
set_option maxHeartbeats 800000 in
theorem invC_ok (k : Nat) (b : Bool) (v1 v2 : Value) (ns ds : List Nat) (w : World) (hk : w.heap[k]? = some (.cells #[.bool b, v1, v2] 55 (0, 0))) (h1 : RW w v1 ns) (h2 : RW w v2 ds) (hl1 : ns.length ≤ 100000) (hl2 : ds.length ≤ 100000) (h0 : 0 < wv ns) (hd0 : 0 < wv ds) :
    Calls Try.prog 64 #[.pointer (some ⟨k, 0, none⟩)] w fun e w' => e = .returned (.pointer (some ⟨w.heap.size, 0, none⟩)) ∧ RatP w' w.heap.size w.heap.size b (wv ds) (wv ns) ∧ Below w.heap.size w w' := by
  have hS1 := h1.isS
  have hS2 := h2.isS
  have hna : nw (wv ns) ≤ 100000000 := Nat.le_trans (nw_le (wv_lt h1.lt)) (by omega)
  have hda : nw (wv ds) ≤ 100000000 := Nat.le_trans (nw_le (wv_lt h2.lt)) (by omega)
  obtain ⟨x0, x1, x2, -, -, -⟩ := row3 hk
  have hklt : k < w.heap.size := (heap_alloc_lt (o := .cells #[] 0) hk).2
  have ha1 := (Below.refl w.heap.size w).alloc (Nat.le_refl _) (.cells #[.bool false, .slice none 0 0, .bool false, .slice none 0 0] 92)
  have HZ := Lib.hid (box_row (Below.refl _ (w.alloc (.cells #[.bool false, .slice none 0 0, .bool false, .slice none 0 0] 92))))
  have H1 := Lib.hid h1
  have H2 := Lib.hid h2
  have H0 := Lib.hid h0
  have HD0 := Lib.hid hd0
  clear h1 h2 hk h0 hd0
  go_enter Try.func64, Try.ntmps64
  go_wp2_with fail
  refine (rat_any b v1 v2 ns ds _ (H1.out.below ha1) (H2.out.below ha1) hl1 hl2).mono ?_
  rintro _ w1 ⟨c, rfl, hR, hb1⟩
  have hcW : w.heap.size ≠ c := by
    obtain ⟨_, _, hc, _, _⟩ := hR
    have : w.heap.size < (w.alloc (.cells #[.bool false, .slice none 0 0, .bool false, .slice none 0 0] 92)).heap.size := by simp
    omega
  rw [decide_eq_true H0.out, Bool.and_true] at hR
  have HR := Lib.hid hR
  have HZ1 := Lib.hid (keep_row hb1 HZ.out)
  have bb := bthen ha1 hb1
  clear hR hb1
  go_wp2_with fail
  refine (ratInv w.heap.size c w.heap.size _ _ _ _ w1 HZ1.out HR.out hcW hna hda HD0.out H0.out (Nat.le_refl _)).mono ?_
  rintro _ w2 ⟨rfl, hR2, hb2⟩
  have HR2 := Lib.hid hR2
  have B2 := Lib.hid (bb.trans hb2)
  clear hR2 hb2
  go_wp2
  go_ret
  exact ⟨rfl, HR2.out, B2.out⟩
/-- A box of a closure. -/
theorem rowF {w : World} {k T : Nat} {a : Value} (h : w.heap[k]? = some (.cells #[a] T (0, 0))) : w.cell? ⟨k, 0, none⟩ = some a ∧ w.frozen? ⟨k, 0, none⟩ = false :=
  ⟨by rw [cell_of_row w k 0 _ _ _ h]; rfl, frozen_of_row w k 0 _ _ h⟩
set_option maxRecDepth 100000 in
set_option maxHeartbeats 800000 in
theorem ansC_zero (k k1 k4 : Nat) (b : Bool) (v1 v2 : Value) (ns ds : List Nat) (w : World) (hk : w.heap[k]? = some (.cells #[.bool b, v1, v2] 55 (0, 0))) (hk1 : w.heap[k1]? = some (.cells #[.func (.func 64) #[] #[.pointer (some ⟨k, 0, none⟩)]] 95 (0, 0)))
    (h1 : RW w v1 ns) (h2 : RW w v2 ds) (hl1 : ns.length ≤ 100000) (hl2 : ds.length ≤ 100000) (h0 : wv ns = 0) :
    Calls Try.prog 87 #[.pointer (some ⟨k1, 0, none⟩), .pointer (some ⟨k4, 0, none⟩)] w fun e w' => e = .panicked divZero ∧ Below w.heap.size w w' := by
  obtain ⟨c1, -⟩ := rowF hk1
  have HK := Lib.hid hk
  clear hk hk1
  go_enter Try.func87, Try.ntmps87
  go_wp2_with fail
  refine (invC_zero k b v1 v2 ns ds w HK.out h1 h2 hl1 hl2 h0).mono ?_
  rintro _ w1 ⟨rfl, hb1⟩
  go_wp2
  exact ⟨rfl, rfl, hb1⟩
set_option maxRecDepth 100000 in
set_option maxHeartbeats 800000 in
theorem ansC_ok (k k1 k4 B : Nat) (b : Bool) (v1 v2 : Value) (ns ds : List Nat) (w : World) (hk : w.heap[k]? = some (.cells #[.bool b, v1, v2] 55 (0, 0))) (hk1 : w.heap[k1]? = some (.cells #[.func (.func 64) #[] #[.pointer (some ⟨k, 0, none⟩)]] 95 (0, 0)))
    (hk4 : w.heap[k4]? = some (.cells #[.bool false, .slice none 0 0, .slice none 0 0] 55 (0, 0))) (hB : B ≤ k4)
    (h1 : RW w v1 ns) (h2 : RW w v2 ds) (hl1 : ns.length ≤ 100000) (hl2 : ds.length ≤ 100000) (h0 : 0 < wv ns) (hd0 : 0 < wv ds) :
    Calls Try.prog 87 #[.pointer (some ⟨k1, 0, none⟩), .pointer (some ⟨k4, 0, none⟩)] w fun e w' => e = .returned (.tuple #[]) ∧ ∃ r1 r2, w'.heap[k4]? = some (.cells #[.bool (b && decide (0 < wv ds)), r1, r2] 55 (0, 0)) ∧ IsS r1 ∧ IsS r2 ∧ RW w' r1 (wds (wv ds)) ∧ RW w' r2 (wds (wv ns)) ∧ Below B w w' ∧ Only k4 w w' := by
  have hna : nw (wv ns) ≤ 100000000 := Nat.le_trans (nw_le (wv_lt h1.lt)) (by omega)
  have hda : nw (wv ds) ≤ 100000000 := Nat.le_trans (nw_le (wv_lt h2.lt)) (by omega)
  obtain ⟨c1, -⟩ := rowF hk1
  have hk4lt : k4 < w.heap.size := (heap_alloc_lt (o := .cells #[] 0) hk4).2
  have HK := Lib.hid hk
  have HK4 := Lib.hid hk4
  clear hk hk1 hk4
  go_enter Try.func87, Try.ntmps87
  go_wp2_with fail
  refine (invC_ok k b v1 v2 ns ds w HK.out h1 h2 hl1 hl2 h0 hd0).mono ?_
  rintro _ w1 ⟨rfl, hR, hb1⟩
  have HR := Lib.hid hR
  have HB1 := Lib.hid hb1
  clear hR hb1
  go_wp2_with fail
  refine (frac_any w.heap.size w.heap.size _ _ _ w1 HR.out h0 hda hna).mono ?_
  rintro _ w2 ⟨r1, r2, rfl, hr1, hr2, hb2⟩
  have hSr1 := hr1.isS
  have hSr2 := hr2.isS
  have hbb := bthen HB1.out hb2
  have hrw := keep_row hbb HK4.out
  obtain ⟨k0, k1', k2, f0, f1, f2⟩ := row3 hrw
  obtain ⟨x, hx⟩ : ∃ x, x = (b && decide (0 < wv ds)) := ⟨_, rfl⟩
  rw [← hx]
  have q3 := row3_set (x := .bool x) (y := r1) (z := r2) hrw
  have a1 := rw_row3 (x := .bool x) (y := r1) (z := r2) hr1 IsS.nil IsS.nil hrw
  have a2 := rw_row3 (x := .bool x) (y := r1) (z := r2) hr2 IsS.nil IsS.nil hrw
  have on : Only k4 w (((w2.setCell ⟨k4, 0, none⟩ (.bool x)).setCell ⟨k4, 1, none⟩ r1).setCell ⟨k4, 2, none⟩ r2) := fun j hj hne => by
    rw [heap_setCell_other _ _ _ _ (by simpa using hne), heap_setCell_other _ _ _ _ (by simpa using hne), heap_setCell_other _ _ _ _ (by simpa using hne)]
    exact hbb.block j hj
  have ON := Lib.hid on
  have Q3 := Lib.hid q3
  have A1 := Lib.hid a1
  have A2 := Lib.hid a2
  have HX := Lib.hid hx
  have HBB := Lib.hid (bset (i := 2) (u := r2) (bset (i := 1) (u := r1) (bset (i := 0) (u := .bool x) (hbb.mono (show B ≤ w.heap.size by omega)) hB) hB) hB)
  clear hr1 hr2 hb2 hbb hrw q3 a1 a2 on hx
  go_wp2
  go_end0
  refine ⟨rfl, r1, r2, ?_, hSr1, hSr2, A1.out, A2.out, HBB.out, ON.out⟩
  rw [← HX.out]; exact Q3.out
end Go.Proofs.Ytedmkbpfmddafaa
