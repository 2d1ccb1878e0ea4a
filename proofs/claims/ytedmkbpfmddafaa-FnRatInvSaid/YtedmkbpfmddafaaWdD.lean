/-
Words: HasWords; the sizes of the statements' structs. No condition.
-/
import Derived.Test.YtedmkbpfmddafaaWdC

import Derived.Test.YtedmkbpfmddafaaCmA
namespace Go.Proofs.Ytedmkbpfmddafaa
open Go.RowKit

theorem ret_boolE {a b : Bool} (h : a = b) : Ending.returned (.bool a) = Ending.returned (.bool b) := by rw [h]
set_option maxRecDepth 100000 in
set_option maxHeartbeats 800000 in
theorem spHasWords (v a : Value) (ws : List Nat) (x : Nat) (w : World) (hv : RW w v ws) (ha : NatV w a x) (hl : ws.length ≤ 1000000000) (hx : nl x ≤ 1000000000) :
    Calls Try.prog 27 #[v, a] w fun e w' => e = .returned (.bool (decide (ws = wds x))) ∧ Below w.heap.size w w' := by
  have hSv := hv.isS
  have hLv := hv.len
  have hSa := ha.isS
  obtain ⟨lv, hlv⟩ : ∃ lv, lv = ws.length := ⟨_, rfl⟩
  rw [← hlv] at hLv hl
  have Hlv := Lib.hid hlv
  have Hv := Lib.hid hv
  have Ha := Lib.hid ha
  clear hv ha hlv
  go_enter Try.func27, Try.ntmps27
  go_wp2_with fail
  refine (spWords a x w Ha.out hx).mono ?_
  rintro _ w1 ⟨r, rfl, hr, hb1⟩
  have hSr := hr.isS
  have hLr := hr.len
  rw [wds_length] at hLr
  have hnb : nw x ≤ nl x := by unfold nw; omega
  obtain ⟨lr, hlr⟩ : ∃ lr, lr = nw x := ⟨_, rfl⟩
  rw [← hlr] at hLr hnb
  have Hlr := Lib.hid hlr
  have Hr := Lib.hid hr
  clear hr hlr
  by_cases hne : lv = lr
  · have t1 : ((lv : Int) == lr) = true := by rw [beq_iff_eq]; omega
    have t1' : ((lv : Int) != lr) = false := by simp; omega
    have hlv2 : lv ≤ lr := by omega
    have Hne := Lib.hid hne
    clear hne
    go_wp2
    go_loopw [16] (fun i wr => ∃ k : Nat, k ≤ lr ∧ i = .int .i64 k ∧ (∀ j, j < k → ws.getD j 0 = wdg x j) ∧ Below w.heap.size w wr ∧ Below w1.heap.size w1 wr) (fun i _ => lr - (intOf i).toNat)
    case atStart => exact ⟨0, Nat.zero_le _, rfl, fun j hj => by omega, hb1, Below.refl _ _⟩
    case round =>
      obtain ⟨k, hk, rfl, he, hbl, hbl1⟩ := hrel
      have He := Lib.hid he
      clear he
      by_cases hkr : k < lr
      · have hkv : k < lv := by have := Hne.out; omega
        have cv := (Hv.out.below hbl).cell k (by rw [← Hlv.out]; exact hkv)
        have cr := (Hr.out.below hbl1).cell k (by rw [wds_length, ← Hlr.out]; exact hkr)
        rw [wds_getD] at cr
        obtain ⟨p, hp⟩ : ∃ p, p = ws.getD k 0 := ⟨_, rfl⟩
        obtain ⟨q, hq⟩ : ∃ q, q = wdg x k := ⟨_, rfl⟩
        rw [← hp] at cv
        rw [← hq] at cr
        have Hp := Lib.hid hp
        have Hq := Lib.hid hq
        clear hp hq
        by_cases hpq : p = q
        · have t2 : ((p : Int) == q) = true := by rw [beq_iff_eq]; omega
          have Hpq := Lib.hid hpq
          clear hpq
          go_wp2
          go_quiet (fail)
          go_wp2
          refine ⟨⟨k + 1, by omega, by go_num, ?_, undrewN' hbl, undrewN' hbl1⟩, by simp [intOf]; omega⟩
          intro j hj
          rcases (by omega : j < k ∨ j = k) with h | h
          · exact He.out j h
          · rw [h, ← Hp.out, ← Hq.out]; exact Hpq.out
        · have t2 : ((p : Int) == q) = false := by rw [beq_eq_false_iff_ne]; omega
          go_wp2
          go_quiet (fail)
          go_wp2
          go_ret
          refine ⟨ret_boolE ?_, undrewN' hbl⟩
          symm
          rw [decide_eq_false_iff_not]
          intro h
          apply hpq
          rw [Hp.out, Hq.out, h, wds_getD]
      · have hkl : k = lr := by omega
        have Hkl := Lib.hid hkl
        clear hkl
        go_wp2
        go_ret
        refine ⟨ret_boolE ?_, hbl⟩
        symm
        rw [decide_eq_true_iff]
        refine list_ext_getD (by rw [wds_length, ← Hlv.out, ← Hlr.out]; exact Hne.out) fun i => ?_
        rw [wds_getD]
        by_cases hi : i < lr
        · exact He.out i (by rw [Hkl.out]; exact hi)
        · rw [wdg_ge (by rw [← Hlr.out]; omega), List.getD_eq_getElem?_getD, List.getElem?_eq_none (by rw [← Hlv.out]; have := Hne.out; omega)]; rfl
  · have t1 : ((lv : Int) == lr) = false := by rw [beq_eq_false_iff_ne]; omega
    go_wp2
    go_ret
    refine ⟨ret_boolE ?_, hb1⟩
    symm
    rw [decide_eq_false_iff_not]
    intro h
    apply hne
    rw [Hlv.out, Hlr.out, h, wds_length]

set_option maxRecDepth 100000 in
theorem long_any (v : Value) (ws : List Nat) (n : Nat) (w : World) (hv : RW w v ws) :
    Calls Try.prog 23 #[v, .int .i64 n] w fun e w' => e = .returned (.bool (decide (n < ws.length))) ∧ w = w' := by
  have hSv := hv.isS
  have hLv := hv.len
  go_enter Try.func23, Try.ntmps23
  go_wp2
  go_ret
  exact ⟨rfl, rfl⟩
/-- A cell of a box, behind whatever leaves the old memory as it was. -/
theorem box_cell {w w1 : World} {cs : Array Value} {T : TypeId} (hb : Below (w.alloc (.cells cs T)).heap.size (w.alloc (.cells cs T)) w1) {i : Nat} {v : Value} (h : cs[i]? = some v) : w1.cell? ⟨w.heap.size, i, none⟩ = some v := by
  have h1 : (w.alloc (.cells cs T)).heap[w.heap.size]? = some (.cells cs T) := heap_alloc_new w _
  have h2 := (heap_alloc_lt (o := .cells #[] 0) h1).2
  refine (hb.cell (p := ⟨w.heap.size, i, none⟩) h2).trans ?_
  rw [cell_of_row _ _ i _ _ _ h1]
  exact h
set_option maxRecDepth 100000 in
theorem zzFits2_any (b : Bool) (v : Value) (ws : List Nat) (w : World) (hv : RW w v ws) :
    Calls Try.prog 54 #[.agg #[.bool b, v]] w fun e w' => e = .returned (.bool (decide (ws.length ≤ 2147483647))) ∧ Below w.heap.size w w' := by
  have hSv := hv.isS
  have hLv := hv.len
  by_cases h : ws.length ≤ 2147483647
  · have t1 : decide ((2147483647 : Int) < ws.length) = false := by rw [decide_eq_false_iff_not]; omega
    have Hh := Lib.hid h
    clear h
    go_enter Try.func54, Try.ntmps54
    go_wp2
    go_ret
    exact ⟨ret_boolE (by symm; rw [decide_eq_true_iff]; exact Hh.out), (Below.refl _ _).alloc (Nat.le_refl _) _⟩
  · have t1 : decide ((2147483647 : Int) < ws.length) = true := by rw [decide_eq_true_iff]; omega
    have Hh := Lib.hid h
    clear h
    go_enter Try.func54, Try.ntmps54
    go_wp2
    go_ret
    exact ⟨ret_boolE (by symm; rw [decide_eq_false_iff_not]; exact Hh.out), (Below.refl _ _).alloc (Nat.le_refl _) _⟩
set_option maxRecDepth 100000 in
theorem zzFits3_any (b : Bool) (v d : Value) (ns ds : List Nat) (w : World) (hv : RW w v ns) (hd : RW w d ds) :
    Calls Try.prog 29 #[.agg #[.bool b, v, d]] w fun e w' => e = .returned (.bool (decide (ns.length ≤ 2147483647) && decide (ds.length ≤ 2147483647))) ∧ Below w.heap.size w w' := by
  have hSv := hv.isS
  have hSd := hd.isS
  have hLd := hd.len
  have Hv := Lib.hid hv
  have Hd := Lib.hid hd
  clear hv hd
  go_enter Try.func29, Try.ntmps29
  go_wp2_with fail
  refine (zzFits2_any b v ns _ (Hv.out.below ((Below.refl _ _).alloc (Nat.le_refl _) _))).mono ?_
  rintro _ w1 ⟨rfl, hb1⟩
  have hc := box_cell (i := 2) (v := d) hb1 rfl
  have hbb := ((Below.refl w.heap.size w).alloc (Nat.le_refl _) (.cells #[.bool b, v, d] 55)).trans (hb1.mono (by have := ((Below.refl w.heap.size w).alloc (Nat.le_refl _) (.cells #[.bool b, v, d] 55)).size; omega))
  by_cases h1 : ns.length ≤ 2147483647
  · have u1 : decide (ns.length ≤ 2147483647) = true := decide_eq_true h1
    rw [u1]
    have U1 := Lib.hid u1
    clear u1 h1
    by_cases h : ds.length ≤ 2147483647
    · have t1 : decide ((2147483647 : Int) < ds.length) = false := by rw [decide_eq_false_iff_not]; omega
      have Hh := Lib.hid h
      clear h
      go_wp2
      go_ret
      exact ⟨ret_boolE (by symm; rw [U1.out, Bool.true_and, decide_eq_true_iff]; exact Hh.out), hbb⟩
    · have t1 : decide ((2147483647 : Int) < ds.length) = true := by rw [decide_eq_true_iff]; omega
      have Hh := Lib.hid h
      clear h
      go_wp2
      go_ret
      exact ⟨ret_boolE (by symm; rw [U1.out, Bool.true_and, decide_eq_false_iff_not]; exact Hh.out), hbb⟩
  · have u1 : decide (ns.length ≤ 2147483647) = false := decide_eq_false h1
    rw [u1]
    have U1 := Lib.hid u1
    clear u1 h1
    go_wp2
    go_ret
    exact ⟨ret_boolE (by rw [U1.out]; rfl), hbb⟩
end Go.Proofs.Ytedmkbpfmddafaa
