/-
Fractions of the statements: fraction. No condition.
-/
import Derived.Test.YtedmkbpfmddafaaWdF
namespace Go.Proofs.Ytedmkbpfmddafaa
open Go.RowKit

/-- What fraction answers. -/
def FrPost (n : Nat) (b : Bool) (ns ds : List Nat) (w : World) (v : Value) (w' : World) : Prop :=
  ∃ bb a1 a2 ok, v = .tuple #[.agg #[.bool bb, a1, a2], .bool ok] ∧ IsS a1 ∧ IsS a2 ∧ Below w.heap.size w w' ∧
    (ok = true → bb = b ∧ ns.length ≤ n ∧ ds.length ≤ n ∧ 0 < wv ds ∧ isFrac b ns ds b (wv ns) (wv ds) = true ∧ Nat.gcd (wv ns) (wv ds) = 1 ∧ NatV w' a1 (wv ns) ∧ NatV w' a2 (wv ds))
set_option maxRecDepth 100000 in
set_option maxHeartbeats 800000 in
theorem fraction_any (b : Bool) (v1 v2 : Value) (n : Nat) (ns ds : List Nat) (w : World) (h1 : RW w v1 ns) (h2 : RW w v2 ds) (hn : n ≤ 100000) :
    Calls Try.prog 30 #[.agg #[.bool b, v1, v2], .int .i64 n] w fun e w' => ∃ v, e = .returned v ∧ FrPost n b ns ds w v w' := by
  have hS1 := h1.isS
  have hS2 := h2.isS
  have H1 := Lib.hid h1
  have H2 := Lib.hid h2
  clear h1 h2
  have hab := ((Below.refl w.heap.size w).alloc (Nat.le_refl _) (.cells #[.bool b, v1, v2] 55))
  have hac := hab.alloc hab.size (.cells #[.bool false, .slice none 0 0, .slice none 0 0] 58)
  obtain ⟨W, hW⟩ : ∃ W, W = (w.alloc (.cells #[.bool b, v1, v2] 55)).alloc (.cells #[.bool false, .slice none 0 0, .slice none 0 0] 58) := ⟨_, rfl⟩
  rw [← hW] at hac
  have c0 : W.cell? ⟨w.heap.size, 0, none⟩ = some (.bool b) := by
    rw [hW]; exact box_cell (w := w) (cs := #[.bool b, v1, v2]) ((Below.refl _ _).alloc (Nat.le_refl _) _) rfl
  have c1 : W.cell? ⟨w.heap.size, 1, none⟩ = some v1 := by
    rw [hW]; exact box_cell (w := w) (cs := #[.bool b, v1, v2]) ((Below.refl _ _).alloc (Nat.le_refl _) _) rfl
  have c2 : W.cell? ⟨w.heap.size, 2, none⟩ = some v2 := by
    rw [hW]; exact box_cell (w := w) (cs := #[.bool b, v1, v2]) ((Below.refl _ _).alloc (Nat.le_refl _) _) rfl
  have HWs := Lib.hid (show W.heap.size = w.heap.size + 2 by rw [hW]; simp)
  have hrw : W.heap[w.heap.size + 1]? = some (.cells #[.bool false, .slice none 0 0, .slice none 0 0] 58 (0, 0)) := by
    rw [hW]
    have := box_row (Below.refl _ ((w.alloc (.cells #[.bool b, v1, v2] 55)).alloc (.cells #[.bool false, .slice none 0 0, .slice none 0 0] 58)))
    simpa using this
  have HR := Lib.hid hrw
  have R1 := Lib.hid (H1.out.below hac)
  have R2 := Lib.hid (H2.out.below hac)
  have r3 := row3 hrw
  obtain ⟨x0, x1, x2, y0, y1, y2⟩ := r3
  have HW := Lib.hid hW
  clear hrw
  go_enter Try.func30, Try.ntmps30
  go_upto_region 1 with fail
  rw [← hW]
  clear hW
  by_cases hl1 : n < ns.length
  · have t1 : decide (n < ns.length) = true := decide_eq_true hl1
    go_wp2_with fail
    refine (long_any v1 ns n W R1.out).mono ?_
    rintro _ _ ⟨rfl, rfl⟩
    rw [t1]
    go_wp2
    obtain ⟨hx0, hx1, hx2, -, -, -⟩ := row3 (row3_set (x := .bool false) (y := .slice none 0 0) (z := .slice none 0 0) (HR.out))
    have hbY := bset (i := 2) (u := .slice none 0 0) (bset (i := 1) (u := .slice none 0 0) (bset (i := 0) (u := .bool false) (hac) (Nat.le_succ _)) (Nat.le_succ _)) (Nat.le_succ _)
    refine bodyPost_ret (v := .tuple #[.agg #[.bool false, .slice none 0 0, .slice none 0 0], .bool false]) ?_ rfl ⟨_, rfl, false, .slice none 0 0, .slice none 0 0, false, rfl, IsS.nil, IsS.nil, hbY, by simp⟩
    simp [results, Try.results30, go_sem, hx0, hx1, hx2]
  · have t1 : decide (n < ns.length) = false := decide_eq_false hl1
    go_wp2_with fail
    refine (long_any v1 ns n W R1.out).mono ?_
    rintro _ _ ⟨rfl, rfl⟩
    rw [t1]
    by_cases hl2 : n < ds.length
    · have t2 : decide (n < ds.length) = true := decide_eq_true hl2
      go_wp2_with fail
      refine (long_any v2 ds n W R2.out).mono ?_
      rintro _ _ ⟨rfl, rfl⟩
      rw [t2]
      go_wp2
      obtain ⟨hx0, hx1, hx2, -, -, -⟩ := row3 (row3_set (x := .bool false) (y := .slice none 0 0) (z := .slice none 0 0) (HR.out))
      have hbY := bset (i := 2) (u := .slice none 0 0) (bset (i := 1) (u := .slice none 0 0) (bset (i := 0) (u := .bool false) (hac) (Nat.le_succ _)) (Nat.le_succ _)) (Nat.le_succ _)
      refine bodyPost_ret (v := .tuple #[.agg #[.bool false, .slice none 0 0, .slice none 0 0], .bool false]) ?_ rfl ⟨_, rfl, false, .slice none 0 0, .slice none 0 0, false, rfl, IsS.nil, IsS.nil, hbY, by simp⟩
      simp [results, Try.results30, go_sem, hx0, hx1, hx2]
    · have t2 : decide (n < ds.length) = false := decide_eq_false hl2
      go_wp2_with fail
      refine (long_any v2 ds n W R2.out).mono ?_
      rintro _ _ ⟨rfl, rfl⟩
      rw [t2]
      go_wp2_with fail
      refine (spOf v2 ds W R2.out (by omega)).mono ?_
      rintro _ w1 ⟨dv, rfl, hdv, hb1⟩
      have hSd := hdv.isS
      have hLd := hdv.len
      have HR1 := Lib.hid (keep_row hb1 HR.out)
      obtain ⟨z0, z1, z2, q0, q1, q2⟩ := row3 HR1.out
      obtain ⟨-, e0, e1, e2⟩ := ks3 c0 c1 c2 hb1
      have hbX : Below w.heap.size w w1 := hac.trans (hb1.mono hac.size)
      by_cases hd0 : wv ds = 0
      · have t3 : sLen dv = 0 := by rw [hLd, hd0]; rfl
        clear hLd
        go_wp2
        obtain ⟨hx0, hx1, hx2, -, -, -⟩ := row3 (row3_set (x := .bool false) (y := .slice none 0 0) (z := .slice none 0 0) (HR1.out))
        have hbY := bset (i := 2) (u := .slice none 0 0) (bset (i := 1) (u := .slice none 0 0) (bset (i := 0) (u := .bool false) (hbX) (Nat.le_succ _)) (Nat.le_succ _)) (Nat.le_succ _)
        refine bodyPost_ret (v := .tuple #[.agg #[.bool false, .slice none 0 0, .slice none 0 0], .bool false]) ?_ rfl ⟨_, rfl, false, .slice none 0 0, .slice none 0 0, false, rfl, IsS.nil, IsS.nil, hbY, by simp⟩
        simp [results, Try.results30, go_sem, hx0, hx1, hx2]
      · have hp := nl_pos (show 0 < wv ds by omega)
        have t3 : ((nl (wv ds) : Int) == 0) = false := by rw [beq_eq_false_iff_ne]; omega
        go_wp2_with fail
        refine (ofFraction_any b v1 v2 ns ds w1 (H1.out.below hbX) (H2.out.below hbX) (by omega) (by omega)).mono ?_
        rintro _ w2 ⟨_, rfl, a1, a2, rfl, hn1, hn2, hb2⟩
        have hSa1 := hn1.isS
        have hSa2 := hn2.isS
        have HR2 := Lib.hid (keep_row hb2 HR1.out)
        obtain ⟨m0, m1, m2, p0, p1, p2⟩ := row3 HR2.out
        obtain ⟨ok, hok⟩ : ∃ ok, ok = (isFrac b ns ds b (wv ns) (wv ds) && decide (Nat.gcd (wv ns) (wv ds) = 1)) := ⟨_, rfl⟩
        rw [← hok]
        have Hok := Lib.hid hok
        clear hok
        go_wp2
        have hbX2 := bthen hbX hb2
        obtain ⟨hx0, hx1, hx2, -, -, -⟩ := row3 (row3_set (x := .bool b) (y := a1) (z := a2) HR2.out)
        have hn1' := natv_row3 (x := .bool b) (y := a1) (z := a2) IsS.nil IsS.nil hn1 HR2.out
        have hn2' := natv_row3 (x := .bool b) (y := a1) (z := a2) IsS.nil IsS.nil hn2 HR2.out
        have hbY := bset (i := 2) (u := a2) (bset (i := 1) (u := a1) (bset (i := 0) (u := .bool b) hbX2 (Nat.le_succ _)) (Nat.le_succ _)) (Nat.le_succ _)
        refine bodyPost_ret (v := .tuple #[.agg #[.bool b, a1, a2], .bool ok]) ?_ rfl ⟨_, rfl, b, a1, a2, ok, rfl, hSa1, hSa2, hbY, fun h => ?_⟩
        · simp [results, Try.results30, go_sem, hx0, hx1, hx2]
        · rw [Hok.out, Bool.and_eq_true, decide_eq_true_iff] at h
          exact ⟨rfl, by omega, by omega, by omega, h.1, h.2, hn1', hn2'⟩
end Go.Proofs.Ytedmkbpfmddafaa
