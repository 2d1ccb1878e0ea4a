/-
RatInv, Upside, the statement on one over a fraction. No condition.
-/
import Derived.Test.YtedmkbpfmddafaaInS
namespace Go.Proofs.Ytedmkbpfmddafaa
open Go.RowKit

/-- The memory that RatInv has made when it calls. -/
def InvW (b : Bool) (v1 v2 : Value) (w W : World) : Prop :=
  W = (w.alloc (.cells #[.bool b, v1, v2] 55)).alloc (.cells #[.bool false, .slice none 0 0, .slice none 0 0] 55)
theorem InvW.facts {b : Bool} {v1 v2 : Value} {w W : World} (h : InvW b v1 v2 w W) : Below w.heap.size w W ∧ W.heap.size = w.heap.size + 2 ∧
    W.heap[w.heap.size]? = some (.cells #[.bool b, v1, v2] 55 (0, 0)) ∧ W.heap[w.heap.size + 1]? = some (.cells #[.bool false, .slice none 0 0, .slice none 0 0] 55 (0, 0)) := by
  unfold InvW at h
  subst h
  exact ⟨bthen (bone _) (bone _), by simp, heap_new0 w (bone _) rfl, heap_new0 _ (Below.refl _ _) (by simp)⟩
set_option maxRecDepth 100000 in
set_option maxHeartbeats 800000 in
theorem impInv_zero (b : Bool) (v1 v2 : Value) (ns ds : List Nat) (w : World) (h1 : RW w v1 ns) (h2 : RW w v2 ds) (hl1 : ns.length ≤ 100000) (hl2 : ds.length ≤ 100000) (h0 : wv ns = 0) :
    Calls Try.prog 38 #[.agg #[.bool b, v1, v2]] w fun e w' => e = .returned (.tuple #[.agg #[.bool false, .slice none 0 0, .slice none 0 0], .int .i64 2]) ∧ Below w.heap.size w w' := by
  have hmf : ∀ (fn : Fn) (first cap : Array Value) (w : World), (Instr.makeFunc fn first cap).run Try.prog w = .ok (.func fn first cap) w := fun _ _ _ _ => rfl
  have hS1 := h1.isS
  have hS2 := h2.isS
  obtain ⟨W, hW⟩ : ∃ W, InvW b v1 v2 w W := ⟨_, rfl⟩
  obtain ⟨hab, hsz, hr0, hr1⟩ := hW.facts
  have H1 := Lib.hid (h1.below hab)
  have H2 := Lib.hid (h2.below hab)
  have HR0 := Lib.hid hr0
  have HR1 := Lib.hid hr1
  clear h1 h2 hr0 hr1 hsz
  unfold InvW at hW
  go_enter Try.func38, Try.ntmps38
  go_wp2_with fail
  rw [← hW]
  clear hW
  refine (answered_zero w.heap.size b v1 v2 ns ds W HR0.out H1.out H2.out hl1 hl2 h0).mono ?_
  rintro _ w1 ⟨rfl, hb1⟩
  have hrow := keep_row hb1 HR1.out
  obtain ⟨c0, c1, c2, f0, f1, f2⟩ := row3 hrow
  obtain ⟨e0, e1, e2, -, -, -⟩ := row3 (row3_set (x := .bool false) (y := .slice none 0 0) (z := .slice none 0 0) hrow)
  have bb := bset3 (a := .bool false) (b := .slice none 0 0) (c := .slice none 0 0) (bthen hab hb1) (show w.heap.size ≤ w.heap.size + 1 by omega)
  clear hrow
  go_wp2
  refine bodyPost_ret (v := .tuple #[.agg #[.bool false, .slice none 0 0, .slice none 0 0], .int .i64 2]) ?_ rfl ⟨rfl, bb⟩
  simp [results, Try.results38, go_sem, e0, e1, e2]
set_option maxRecDepth 100000 in
set_option maxHeartbeats 800000 in
theorem impInv_ok (b : Bool) (v1 v2 : Value) (ns ds : List Nat) (w : World) (h1 : RW w v1 ns) (h2 : RW w v2 ds) (hl1 : ns.length ≤ 100000) (hl2 : ds.length ≤ 100000) (h0 : 0 < wv ns) (hd0 : 0 < wv ds) :
    Calls Try.prog 38 #[.agg #[.bool b, v1, v2]] w fun e w' => ∃ r1 r2, e = .returned (.tuple #[.agg #[.bool (b && decide (0 < wv ds)), r1, r2], .int .i64 0]) ∧ RW w' r1 (wds (wv ds)) ∧ RW w' r2 (wds (wv ns)) ∧ Below w.heap.size w w' := by
  have hmf : ∀ (fn : Fn) (first cap : Array Value) (w : World), (Instr.makeFunc fn first cap).run Try.prog w = .ok (.func fn first cap) w := fun _ _ _ _ => rfl
  have hS1 := h1.isS
  have hS2 := h2.isS
  obtain ⟨W, hW⟩ : ∃ W, InvW b v1 v2 w W := ⟨_, rfl⟩
  obtain ⟨hab, hsz, hr0, hr1⟩ := hW.facts
  have H1 := Lib.hid (h1.below hab)
  have H2 := Lib.hid (h2.below hab)
  have HR0 := Lib.hid hr0
  have HR1 := Lib.hid hr1
  obtain ⟨x, hx⟩ : ∃ x, x = (b && decide (0 < wv ds)) := ⟨_, rfl⟩
  rw [← hx]
  have HX := Lib.hid hx
  clear h1 h2 hr0 hr1 hsz hx
  unfold InvW at hW
  go_enter Try.func38, Try.ntmps38
  go_wp2_with fail
  rw [← hW]
  clear hW
  refine (answered_ok w.heap.size b v1 v2 ns ds W HR0.out H1.out H2.out hl1 hl2 h0 hd0).mono ?_
  rintro _ w1 ⟨r1, r2, rfl, hq1, hq2, hb1⟩
  rw [← HX.out]
  have hSr1 := hq1.isS
  have hSr2 := hq2.isS
  have hrow := keep_row hb1 HR1.out
  obtain ⟨c0, c1, c2, f0, f1, f2⟩ := row3 hrow
  obtain ⟨e0, e1, e2, -, -, -⟩ := row3 (row3_set (x := .bool x) (y := r1) (z := r2) hrow)
  have bb := bset3 (a := .bool x) (b := r1) (c := r2) (bthen hab hb1) (show w.heap.size ≤ w.heap.size + 1 by omega)
  have A1 := Lib.hid (rw_row3 (x := .bool x) (y := r1) (z := r2) hq1 IsS.nil IsS.nil hrow)
  have A2 := Lib.hid (rw_row3 (x := .bool x) (y := r1) (z := r2) hq2 IsS.nil IsS.nil hrow)
  clear hrow hq1 hq2
  go_wp2
  refine bodyPost_ret (v := .tuple #[.agg #[.bool x, r1, r2], .int .i64 0]) ?_ rfl ⟨r1, r2, rfl, A1.out, A2.out, bb⟩
  simp [results, Try.results38, go_sem, e0, e1, e2]
set_option maxRecDepth 100000 in
theorem upside_any (neg : Bool) (a1 a2 : Value) (w : World) (hS1 : IsS a1) (hS2 : IsS a2) :
    Calls Try.prog 39 #[.agg #[.bool neg, a1, a2]] w fun e w' => e = .returned (.agg #[.bool neg, a2, a1]) ∧ Below w.heap.size w w' := by
  have hab := ((Below.refl w.heap.size w).alloc (Nat.le_refl _) (.cells #[.bool neg, a1, a2] 58)).alloc ((Below.refl w.heap.size w).alloc (Nat.le_refl _) (.cells #[.bool neg, a1, a2] 58)).size (.cells #[.bool false, .slice none 0 0, .slice none 0 0] 58)
  obtain ⟨W, hW⟩ : ∃ W, W = (w.alloc (.cells #[.bool neg, a1, a2] 58)).alloc (.cells #[.bool false, .slice none 0 0, .slice none 0 0] 58) := ⟨_, rfl⟩
  have hrow0 : W.heap[w.heap.size]? = some (.cells #[.bool neg, a1, a2] 58 (0, 0)) := by rw [hW]; exact box_row (bone _)
  have hrow1 : W.heap[w.heap.size + 1]? = some (.cells #[.bool false, .slice none 0 0, .slice none 0 0] 58 (0, 0)) := by
    rw [hW]; exact heap_new0 _ (Below.refl _ _) (by simp)
  rw [← hW] at hab
  obtain ⟨x0, x1, x2, -, -, -⟩ := row3 hrow0
  obtain ⟨k0, k1, k2, f0, f1, f2⟩ := row3 hrow1
  obtain ⟨e0, e1, e2, -, -, -⟩ := row3 (row3_set (x := .bool neg) (y := a2) (z := a1) hrow1)
  have HB := Lib.hid (bset3 (a := .bool neg) (b := a2) (c := a1) hab (show w.heap.size ≤ w.heap.size + 1 by omega))
  clear hrow0 hrow1
  go_enter Try.func39, Try.ntmps39
  go_upto_region 1 with fail
  rw [← hW]
  clear hW
  go_wp2
  refine bodyPost_ret (v := .agg #[.bool neg, a2, a1]) ?_ rfl ⟨rfl, HB.out⟩
  simp [results, Try.results39, go_sem, e0, e1, e2]
end Go.Proofs.Ytedmkbpfmddafaa
