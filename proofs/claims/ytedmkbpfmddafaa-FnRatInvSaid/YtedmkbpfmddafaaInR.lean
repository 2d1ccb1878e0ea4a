/-
guarded, answered. No condition.
-/
import Derived.Test.YtedmkbpfmddafaaInQ
namespace Go.Proofs.Ytedmkbpfmddafaa
open Go.RowKit

/-- Words are as they were where a box of one Bool is written. -/
theorem RW.awayB {w : World} {g T : Nat} {v : Value} {ds : List Nat} {a : Bool} {u : Value} (hv : RW w v ds) (h : w.heap[g]? = some (.cells #[.bool a] T (0, 0))) : RW (w.setCell ⟨g, 0, none⟩ u) v ds := by
  refine ⟨⟨hv.ri.isS, hv.ri.len, fun i hi => ?_⟩, hv.lt⟩
  have hcell := hv.ri.cell i hi
  have hne : sBlk v ≠ g := by
    intro he
    rw [he, cell_of_row w g _ _ _ _ h] at hcell
    rcases Nat.lt_or_ge (sOff v + i) 1 with h3 | h3
    · rw [show sOff v + i = 0 by omega] at hcell; simp at hcell
    · rw [Array.getElem?_eq_none (by simpa using h3)] at hcell; cases hcell
  exact (World.cell?_of_block (heap_setCell_other _ _ _ _ (by simpa using hne))).trans hcell
theorem catch_panicking (p : Addr) (x : Bool) (u : TypeId) (pv : Value) (older : List PanicEntry) (w : World) (hc : w.cell? p = some (.bool x)) (hz : w.frozen? p = false) :
    CallsD Try.prog 104 #[.pointer (some p)] (.panicking ({ v := .iface u pv, recovered := false } :: older)) w fun e u' w' =>
      e = .returned (.tuple #[]) ∧ u' = .panicking ({ v := .iface u pv, recovered := true } :: older) ∧ w' = w.setCell p (.bool true) := by
  refine callsD_of_wpS Try.func104 rfl fun c₀ cs hu => ?_
  apply wpS_region
  simp [wpOpsS, go_sem, recoverD, hu, Try.ntmps104, Exit.thenS, hc, hz, bodyPostS, results, Try.results104]
theorem catch_idle (p : Addr) (x : Bool) (w : World) (hc : w.cell? p = some (.bool x)) (hz : w.frozen? p = false) :
    CallsD Try.prog 104 #[.pointer (some p)] .returning w fun e u' w' => e = .returned (.tuple #[]) ∧ u' = .returning ∧ w' = w.setCell p (.bool false) := by
  refine callsD_of_wpS Try.func104 rfl fun c₀ cs hu => ?_
  apply wpS_region
  simp [wpOpsS, go_sem, recoverD, hu, Try.ntmps104, Exit.thenS, hc, hz]
  cases c₀
  simp_all [bodyPostS, results, Try.results104]
set_option maxRecDepth 100000 in
set_option maxHeartbeats 800000 in
theorem guarded_zero (k k1 k4 : Nat) (b : Bool) (v1 v2 : Value) (ns ds : List Nat) (w : World) (hk : w.heap[k]? = some (.cells #[.bool b, v1, v2] 55 (0, 0))) (hk1 : w.heap[k1]? = some (.cells #[.func (.func 64) #[] #[.pointer (some ⟨k, 0, none⟩)]] 95 (0, 0)))
    (h1 : RW w v1 ns) (h2 : RW w v2 ds) (hl1 : ns.length ≤ 100000) (hl2 : ds.length ≤ 100000) (h0 : wv ns = 0) :
    Calls Try.prog 86 #[.func (.func 87) #[] #[.pointer (some ⟨k1, 0, none⟩), .pointer (some ⟨k4, 0, none⟩)]] w fun e w' => e = .returned (.bool true) ∧ Below w.heap.size w w' := by
  have hmf : ∀ (fn : Fn) (first cap : Array Value) (w : World), (Instr.makeFunc fn first cap).run Try.prog w = .ok (.func fn first cap) w := fun _ _ _ _ => rfl
  have hab := (Below.refl w.heap.size w).alloc (Nat.le_refl _) (.cells #[.bool false] 4)
  have HA := Lib.hid (box_row (Below.refl _ (w.alloc (.cells #[.bool false] 4))))
  have HK := Lib.hid (keep_row hab hk)
  have HK1 := Lib.hid (keep_row hab hk1)
  have H1 := Lib.hid (h1.below hab)
  have H2 := Lib.hid (h2.below hab)
  clear hk hk1 h1 h2
  go_enter_defers Try.func86, Try.ntmps86
  go_wp2_with fail
  refine (ansC_zero k k1 k4 b v1 v2 ns ds _ HK.out HK1.out H1.out H2.out hl1 hl2 h0).mono ?_
  rintro _ w1 ⟨rfl, hb1⟩
  obtain ⟨c0, f0⟩ := rowF (keep_row hb1 HA.out)
  have bb := bthen hab hb1
  go_wp2
  refine leaves_cons (f := 104) (args := #[.pointer (some ⟨w.heap.size, 0, none⟩)]) (by simp) (by simp [go_sem]) ?_
  refine (catch_panicking ⟨w.heap.size, 0, none⟩ false _ _ [] _ c0 f0).mono ?_
  rintro e u' w'' ⟨rfl, rfl, rfl⟩
  simp [Leaves, settle, results, Try.results86, go_sem, c0]
  exact bset bb (Nat.le_refl _)
set_option maxRecDepth 100000 in
set_option maxHeartbeats 800000 in
theorem guarded_ok (k k1 k4 B : Nat) (b : Bool) (v1 v2 : Value) (ns ds : List Nat) (w : World) (hk : w.heap[k]? = some (.cells #[.bool b, v1, v2] 55 (0, 0))) (hk1 : w.heap[k1]? = some (.cells #[.func (.func 64) #[] #[.pointer (some ⟨k, 0, none⟩)]] 95 (0, 0)))
    (hk4 : w.heap[k4]? = some (.cells #[.bool false, .slice none 0 0, .slice none 0 0] 55 (0, 0))) (hB : B ≤ k4)
    (h1 : RW w v1 ns) (h2 : RW w v2 ds) (hl1 : ns.length ≤ 100000) (hl2 : ds.length ≤ 100000) (h0 : 0 < wv ns) (hd0 : 0 < wv ds) :
    Calls Try.prog 86 #[.func (.func 87) #[] #[.pointer (some ⟨k1, 0, none⟩), .pointer (some ⟨k4, 0, none⟩)]] w fun e w' => e = .returned (.bool false) ∧ ∃ r1 r2, w'.heap[k4]? = some (.cells #[.bool (b && decide (0 < wv ds)), r1, r2] 55 (0, 0)) ∧ IsS r1 ∧ IsS r2 ∧ RW w' r1 (wds (wv ds)) ∧ RW w' r2 (wds (wv ns)) ∧ Below B w w' ∧ Only k4 w w' := by
  have hmf : ∀ (fn : Fn) (first cap : Array Value) (w : World), (Instr.makeFunc fn first cap).run Try.prog w = .ok (.func fn first cap) w := fun _ _ _ _ => rfl
  have hk4lt : k4 < w.heap.size := (heap_alloc_lt (o := .cells #[] 0) hk4).2
  have hab := (Below.refl w.heap.size w).alloc (Nat.le_refl _) (.cells #[.bool false] 4)
  have HA := Lib.hid (box_row (Below.refl _ (w.alloc (.cells #[.bool false] 4))))
  have HK := Lib.hid (keep_row hab hk)
  have HK1 := Lib.hid (keep_row hab hk1)
  have HK4 := Lib.hid (keep_row hab hk4)
  have H1 := Lib.hid (h1.below hab)
  have H2 := Lib.hid (h2.below hab)
  have hsz : k4 < w.heap.size := hk4lt
  clear hk hk1 hk4 h1 h2
  obtain ⟨W, hW⟩ : ∃ W, W = w.alloc (.cells #[.bool false] 4) := ⟨_, rfl⟩
  rw [← hW] at hab HA HK HK1 HK4 H1 H2
  go_enter_defers Try.func86, Try.ntmps86
  go_wp2_with fail
  rw [← hW]
  clear hW
  refine (ansC_ok k k1 k4 B b v1 v2 ns ds W HK.out HK1.out HK4.out hB H1.out H2.out hl1 hl2 h0 hd0).mono ?_
  rintro _ w1 ⟨rfl, r1, r2, hr, hS1, hS2, hr1, hr2, hb1, hon⟩
  have hWs := hab.size
  have hglt : w.heap.size < W.heap.size := (heap_alloc_lt (o := .cells #[] 0) HA.out).2
  have hrg := (hon _ hglt (by omega)).trans HA.out
  obtain ⟨c0, f0⟩ := rowF hrg
  have hrg1 := rowset (i := 0) (.bool false) hrg
  obtain ⟨c1, f1⟩ := rowF hrg1
  have hrg2 := rowset (i := 0) (.bool false) hrg1
  obtain ⟨c2, f2⟩ := rowF hrg2
  have fin : ∃ r1 r2, ((w1.setCell ⟨w.heap.size, 0, none⟩ (.bool false)).setCell ⟨w.heap.size, 0, none⟩ (.bool false)).heap[k4]? = some (.cells #[.bool (b && decide (0 < wv ds)), r1, r2] 55 (0, 0)) ∧ IsS r1 ∧ IsS r2 ∧ RW ((w1.setCell ⟨w.heap.size, 0, none⟩ (.bool false)).setCell ⟨w.heap.size, 0, none⟩ (.bool false)) r1 (wds (wv ds)) ∧ RW ((w1.setCell ⟨w.heap.size, 0, none⟩ (.bool false)).setCell ⟨w.heap.size, 0, none⟩ (.bool false)) r2 (wds (wv ns)) ∧ Below B w ((w1.setCell ⟨w.heap.size, 0, none⟩ (.bool false)).setCell ⟨w.heap.size, 0, none⟩ (.bool false)) ∧ Only k4 w ((w1.setCell ⟨w.heap.size, 0, none⟩ (.bool false)).setCell ⟨w.heap.size, 0, none⟩ (.bool false)) := by
    refine ⟨r1, r2, rowoth _ (rowoth _ hr (by omega)) (by omega), hS1, hS2, (hr1.awayB hrg).awayB hrg1, (hr2.awayB hrg).awayB hrg1, bset (bset ((hab.mono (show B ≤ w.heap.size by omega)).trans hb1) (by omega)) (by omega), fun j hj hne => ?_⟩
    rw [heap_setCell_other _ _ _ _ (by simp only; omega), heap_setCell_other _ _ _ _ (by simp only; omega)]
    exact (hon j (by omega) hne).trans (hab.block j hj)
  have Fin := Lib.hid fin
  clear fin hr hr1 hr2 hb1 hon hrg hrg1 hrg2
  go_wp2
  refine leaves_cons (f := 104) (args := #[.pointer (some ⟨w.heap.size, 0, none⟩)]) (by simp) (by simp [go_sem]) ?_
  refine (catch_idle ⟨w.heap.size, 0, none⟩ false _ c1 f1).mono ?_
  rintro e u' w'' ⟨rfl, rfl, rfl⟩
  simp [Leaves, settle, results, Try.results86, go_sem, c2]
  exact Fin.out
end Go.Proofs.Ytedmkbpfmddafaa
