/-
The package's fractions: Set, Abs, Neg; the thin package's RatAbs, RatNeg. No condition.
-/
import Derived.Test.YtedmkbpfmddafaaInM
namespace Go.Proofs.Ytedmkbpfmddafaa
open Go.RowKit

theorem rowoth {w : World} {g b i : Nat} {o : Obj} (u : Value) (h : w.heap[g]? = some o) (hne : g ≠ b) : (w.setCell ⟨b, i, none⟩ u).heap[g]? = some o := (heap_setCell_other w ⟨b, i, none⟩ g u (by simpa using hne)).trans h
set_option maxRecDepth 100000 in
set_option maxHeartbeats 800000 in
theorem ratSet (b c B B' : Nat) (neg : Bool) (n d : Nat) (w : World) (hz : w.heap[b]? = some (.cells #[.bool false, .slice none 0 0, .bool false, .slice none 0 0] 92 (0, 0)))
    (hx : RatP w B' c neg n d) (hbc : b ≠ c) (hn : nw n ≤ 100000000) (hd : nw d ≤ 100000000) (hd0 : 0 < d) (hB : B ≤ b) :
    Calls Try.prog 85 #[.pointer (some ⟨b, 0, none⟩), .pointer (some ⟨c, 0, none⟩)] w fun e w' => e = .returned (.pointer (some ⟨b, 0, none⟩)) ∧ RatP w' B b neg n d ∧ Below B w w' := by
  obtain ⟨v1, v2, hc1, hrc, ho1, ho2⟩ := hx
  have hbs : b < w.heap.size := (heap_alloc_lt (o := .cells #[] 0) hz).2
  have hcmp := neqR w (o := 0) (q := 0) hbc hz hrc
  have hcb : c ≠ b := fun h => hbc h.symm
  have HZ := Lib.hid hz
  have HC := Lib.hid hrc
  have V1 := Lib.hid (ho1.rw' (wds_all n))
  have O2 := Lib.hid ho2
  clear hz hrc ho1 ho2
  go_enter Try.func85, Try.ntmps85
  go_wp2
  (refine wp_region_hoist 6 (by kernel_rfl) (by kernel_rfl) ⟨fun _ _ _ h => (by first | cases h.2.1 | (obtain ⟨_, h3, _⟩ := h.2; cases h3)), fun _ _ h => (by first | cases h.1 | (obtain ⟨_, h3, _⟩ := h; cases h3))⟩ ?_; simp only [List.take_succ_cons, List.take_zero, List.drop_succ_cons, List.drop_zero]; (repeat (go_big_quiet_step (fail))); refine wpQuiet_nil ?_; rintro _ ⟨nq, rfl⟩)
  go_wp2_with fail
  refine (intSet b 0 c 0 (.bool false) v1 neg _ _ _ _ (wds n) (w.drewN nq) hbc HZ.out HC.out rfl rfl rfl rfl (V1.out.drewN _) (by rw [wds_length]; omega)).mono ?_
  rintro _ w2 ⟨rfl, r, w1, hw2, hq1, hb1'⟩
  have hb1 : Below w.heap.size w w1 := undrewN hb1'
  have p0 := keep_row hb1 HZ.out
  have p1 := rowset (i := 0 + 1) r p0
  have p2 := rowset (i := 0) (.bool neg) p1
  have c2 := rowoth (i := 0) (.bool neg) (rowoth (i := 0 + 1) r (keep_row hb1 HC.out) hcb) hcb
  have hq1 : Own w1 w.heap.size 74 r (cellsW (wds n)) := hq1
  have o1 := ((hq1.away p0 (by decide) (0 + 1) r).away p1 (by decide) 0 (.bool neg)).mono (show B ≤ w.heap.size by omega)
  have o2 := ((O2.out.below hb1).away p0 (by decide) (0 + 1) r).away p1 (by decide) 0 (.bool neg)
  have bb := bset (i := 0) (u := .bool neg) (bset (i := 0 + 1) (u := r) (hb1.mono (show B ≤ w.heap.size by omega)) hB) hB
  rw [← hw2] at p2 c2 o1 o2 bb
  have P2 := Lib.hid p2
  have C2 := Lib.hid c2
  have Q1 := Lib.hid o1
  have Q2 := Lib.hid (o2.rw' (wds_all d))
  have BB := Lib.hid bb
  have hbs2 : b < w2.heap.size := (heap_alloc_lt (o := .cells #[] 0) p2).2
  clear hw2 p0 p1 p2 c2 o1 o2 bb hq1 hb1 hb1'
  go_wp2
  (refine wp_region_hoist 6 (by kernel_rfl) (by kernel_rfl) ⟨fun _ _ _ h => (by first | cases h.2.1 | (obtain ⟨_, h3, _⟩ := h.2; cases h3)), fun _ _ h => (by first | cases h.1 | (obtain ⟨_, h3, _⟩ := h; cases h3))⟩ ?_; simp only [List.take_succ_cons, List.take_zero, List.drop_succ_cons, List.drop_zero]; (repeat (go_big_quiet_step (fail))); refine wpQuiet_nil ?_; rintro _ ⟨nq, rfl⟩)
  go_wp2_with fail
  refine (intSet b 2 c 2 (.bool false) v2 false _ _ _ _ (wds d) (w2.drewN nq) hbc P2.out C2.out rfl rfl rfl rfl (Q2.out.drewN _) (by rw [wds_length]; omega)).mono ?_
  rintro _ w4 ⟨rfl, r2, w3, hw4, hq3, hb3'⟩
  have hb3 : Below w2.heap.size w2 w3 := undrewN hb3'
  have hq3 : Own w3 w2.heap.size 74 r2 (cellsW (wds d)) := hq3
  have hSr := hq3.isS
  have hLr : 0 < sLen r2 := by rw [hq3.len, cellsW_length, wds_length]; exact nw_pos hd0
  have p0 := keep_row hb3 P2.out
  have p1 := rowset (i := 2 + 1) r2 p0
  have p2 := rowset (i := 2) (.bool false) p1
  have o1 := (((Q1.out.below hb3).away p0 (by decide) (2 + 1) r2).away p1 (by decide) 2 (.bool false))
  have o2 := ((hq3.away p0 (by decide) (2 + 1) r2).away p1 (by decide) 2 (.bool false)).mono (show B ≤ w2.heap.size by omega)
  have bb := bset (i := 2) (u := .bool false) (bset (i := 2 + 1) (u := r2) (BB.out.trans (hb3.mono (show B ≤ w2.heap.size by omega))) hB) hB
  rw [← hw4] at p2 o1 o2 bb
  have k3 : w4.cell? ⟨b, 3, none⟩ = some r2 := (row_at (i := 3) p2 rfl).1
  have F := Lib.hid (show RatP w4 B b neg n d from ⟨r, r2, hB, p2, o1, o2⟩)
  have B4 := Lib.hid bb
  obtain ⟨l, hl⟩ : ∃ l, sLen r2 = l := ⟨_, rfl⟩
  rw [hl] at hLr
  have t1 : ((l : Int) == 0) = false := by rw [beq_eq_false_iff_ne]; omega
  clear hw4 p0 p1 p2 o1 o2 bb hq3 hb3 hb3'
  go_wp2
  go_ret
  exact ⟨rfl, F.out, B4.out⟩
theorem RatP.setNeg {w : World} {B b n d : Nat} {neg : Bool} (h : RatP w B b neg n d) (x : Bool) : RatP (w.setCell ⟨b, 0, none⟩ (.bool x)) B b x n d := by
  obtain ⟨v1, v2, h1, h2, h3, h4⟩ := h
  exact ⟨v1, v2, h1, rowset (i := 0) (.bool x) h2, h3.away h2 (by decide) 0 _, h4.away h2 (by decide) 0 _⟩
set_option maxRecDepth 100000 in
theorem ratAbs (b c B B' : Nat) (neg : Bool) (n d : Nat) (w : World) (hz : w.heap[b]? = some (.cells #[.bool false, .slice none 0 0, .bool false, .slice none 0 0] 92 (0, 0)))
    (hx : RatP w B' c neg n d) (hbc : b ≠ c) (hn : nw n ≤ 100000000) (hd : nw d ≤ 100000000) (hd0 : 0 < d) (hB : B ≤ b) :
    Calls Try.prog 61 #[.pointer (some ⟨b, 0, none⟩), .pointer (some ⟨c, 0, none⟩)] w fun e w' => e = .returned (.pointer (some ⟨b, 0, none⟩)) ∧ RatP w' B b false n d ∧ Below B w w' := by
  go_enter Try.func61, Try.ntmps61
  go_wp2_with fail
  refine (ratSet b c B B' neg n d w hz hx hbc hn hd hd0 hB).mono ?_
  rintro _ w1 ⟨rfl, hR, hb1⟩
  have HF := Lib.hid (hR.setNeg false)
  have HB := Lib.hid (bset (i := 0) (u := .bool false) hb1 hB)
  obtain ⟨v1, v2, -, h2, -, -⟩ := hR
  obtain ⟨k0, k1⟩ := row_at (i := 0) h2 rfl
  clear h2 hz hx hb1
  go_wp2
  go_ret
  exact ⟨rfl, HF.out, HB.out⟩
set_option maxRecDepth 100000 in
theorem ratNeg (b c B B' : Nat) (neg : Bool) (n d : Nat) (w : World) (hz : w.heap[b]? = some (.cells #[.bool false, .slice none 0 0, .bool false, .slice none 0 0] 92 (0, 0)))
    (hx : RatP w B' c neg n d) (hbc : b ≠ c) (hn : nw n ≤ 100000000) (hd : nw d ≤ 100000000) (hd0 : 0 < d) (hB : B ≤ b) :
    Calls Try.prog 62 #[.pointer (some ⟨b, 0, none⟩), .pointer (some ⟨c, 0, none⟩)] w fun e w' => e = .returned (.pointer (some ⟨b, 0, none⟩)) ∧ RatP w' B b (decide (0 < nw n) && !neg) n d ∧ Below B w w' := by
  obtain ⟨l, hl⟩ : ∃ l, l = nw n := ⟨_, rfl⟩
  rw [← hl]
  have HL := Lib.hid hl
  clear hl
  have hcs : decide (0 < l) = true ∨ decide (0 < l) = false := by cases decide (0 < l) <;> simp
  rcases hcs with t1 | t1
  all_goals
    rw [t1]
    go_enter Try.func62, Try.ntmps62
    go_wp2_with fail
    refine (ratSet b c B B' neg n d w hz hx hbc hn hd hd0 hB).mono ?_
    rintro _ w1 ⟨rfl, hR, hb1⟩
    have HF := Lib.hid (fun x => hR.setNeg x)
    have HB := Lib.hid (fun x => bset (i := 0) (u := .bool x) hb1 hB)
    obtain ⟨v1, v2, -, h2, h3, -⟩ := hR
    have k0 : w1.cell? ⟨b, 0, none⟩ = some (.bool neg) := (row_at (i := 0) h2 rfl).1
    have f0 := (row_at (i := 0) h2 rfl).2
    have k1 : w1.cell? ⟨b, 1, none⟩ = some v1 := (row_at (i := 1) h2 rfl).1
    have hS1 := h3.isS
    have hL1 : sLen v1 = l := by rw [h3.len, cellsW_length, wds_length]; exact HL.out.symm
    clear h2 h3 hz hx hb1
    go_wp2
    go_ret
    exact ⟨rfl, HF.out _, HB.out _⟩
theorem rw_row3 {w : World} {k T : Nat} {a : Bool} {b c x y z v : Value} {ds : List Nat} (hv : RW w v ds) (hb : IsS b) (hc : IsS c) (h : w.heap[k]? = some (.cells #[.bool a, b, c] T (0, 0))) :
    RW (((w.setCell ⟨k, 0, none⟩ x).setCell ⟨k, 1, none⟩ y).setCell ⟨k, 2, none⟩ z) v ds := by
  refine ⟨⟨hv.ri.isS, hv.ri.len, fun i hi => ?_⟩, hv.lt⟩
  have hcell := hv.ri.cell i hi
  have hne : sBlk v ≠ k := by
    intro he
    rw [he, cell_of_row w k _ _ _ _ h] at hcell
    obtain ⟨b1, b2, b3, rfl⟩ := hb.form
    obtain ⟨c1, c2, c3, rfl⟩ := hc.form
    rcases Nat.lt_or_ge (sOff v + i) 3 with h3 | h3
    · rcases (by omega : sOff v + i = 0 ∨ sOff v + i = 1 ∨ sOff v + i = 2) with e | e | e <;> rw [e] at hcell <;> simp at hcell
    · rw [Array.getElem?_eq_none (by simpa using h3)] at hcell; cases hcell
  have hh : (((w.setCell ⟨k, 0, none⟩ x).setCell ⟨k, 1, none⟩ y).setCell ⟨k, 2, none⟩ z).heap[sBlk v]? = w.heap[sBlk v]? := by
    rw [heap_setCell_other _ _ _ _ (by simpa using hne), heap_setCell_other _ _ _ _ (by simpa using hne), heap_setCell_other _ _ _ _ (by simpa using hne)]
  exact (World.cell?_of_block hh).trans hcell
theorem neg_bool (b : Bool) (n : Nat) : ((decide (0 < nw n) && !(b && decide (0 < n))) && decide (0 < n)) = (!b && decide (0 < n)) := by
  rcases Nat.eq_zero_or_pos n with h | h
  · subst h; simp
  · rw [decide_eq_true h, decide_eq_true (nw_pos h)]; simp
set_option maxRecDepth 100000 in
set_option maxHeartbeats 800000 in
theorem impAbs (b : Bool) (v1 v2 : Value) (ns ds : List Nat) (w : World) (h1 : RW w v1 ns) (h2 : RW w v2 ds) (hl1 : ns.length ≤ 100000) (hl2 : ds.length ≤ 100000) (hd0 : 0 < wv ds) :
    Calls Try.prog 35 #[.agg #[.bool b, v1, v2]] w fun e w' => ∃ r1 r2, e = .returned (.agg #[.bool false, r1, r2]) ∧ RW w' r1 (wds (wv ns)) ∧ RW w' r2 (wds (wv ds)) ∧ Below w.heap.size w w' := by
  have hS1 := h1.isS
  have hS2 := h2.isS
  have hna : nw (wv ns) ≤ 100000000 := Nat.le_trans (nw_le (wv_lt h1.lt)) (by omega)
  have hda : nw (wv ds) ≤ 100000000 := Nat.le_trans (nw_le (wv_lt h2.lt)) (by omega)
  have hab := ((Below.refl w.heap.size w).alloc (Nat.le_refl _) (.cells #[.bool b, v1, v2] 55)).alloc ((Below.refl w.heap.size w).alloc (Nat.le_refl _) (.cells #[.bool b, v1, v2] 55)).size (.cells #[.bool false, .slice none 0 0, .slice none 0 0] 55)
  obtain ⟨W, hW⟩ : ∃ W, W = (w.alloc (.cells #[.bool b, v1, v2] 55)).alloc (.cells #[.bool false, .slice none 0 0, .slice none 0 0] 55) := ⟨_, rfl⟩
  have hrow0 : W.heap[w.heap.size]? = some (.cells #[.bool b, v1, v2] 55 (0, 0)) := by rw [hW]; exact box_row ((Below.refl _ _).alloc (Nat.le_refl _) _)
  have hrow1 : W.heap[w.heap.size + 1]? = some (.cells #[.bool false, .slice none 0 0, .slice none 0 0] 55 (0, 0)) := by
    rw [hW]
    have := box_row (Below.refl _ ((w.alloc (.cells #[.bool b, v1, v2] 55)).alloc (.cells #[.bool false, .slice none 0 0, .slice none 0 0] 55)))
    simpa using this
  rw [← hW] at hab
  have hWs := hab.size
  obtain ⟨x0, x1, x2, -, -, -⟩ := row3 hrow0
  have hWlt : w.heap.size < W.heap.size := (heap_alloc_lt (o := .cells #[] 0) hrow0).2
  have R1 := Lib.hid (h1.below hab)
  have R2 := Lib.hid (h2.below hab)
  have H1 := Lib.hid hrow1
  have ha1 := (Below.refl W.heap.size W).alloc (Nat.le_refl _) (.cells #[.bool false, .slice none 0 0, .bool false, .slice none 0 0] 92)
  have HZ := Lib.hid (box_row (Below.refl _ (W.alloc (.cells #[.bool false, .slice none 0 0, .bool false, .slice none 0 0] 92))))
  clear hrow0 hrow1 h1 h2
  go_enter Try.func35, Try.ntmps35
  go_upto_region 1 with fail
  rw [← hW]
  clear hW
  go_wp2_with fail
  refine (rat_any b v1 v2 ns ds _ (R1.out.below ha1) (R2.out.below ha1) hl1 hl2).mono ?_
  rintro _ w1 ⟨c, rfl, hR, hb1⟩
  have hcW : W.heap.size ≠ c := by
    obtain ⟨_, _, hc, _, _⟩ := hR
    have : W.heap.size < (W.alloc (.cells #[.bool false, .slice none 0 0, .bool false, .slice none 0 0] 92)).heap.size := by simp
    omega
  have HR := Lib.hid hR
  have HZ1 := Lib.hid (keep_row hb1 HZ.out)
  have HB1 := Lib.hid (bthen ha1 hb1)
  clear hR hb1 x0 x1 x2
  go_wp2_with fail
  refine (ratAbs W.heap.size c W.heap.size _ _ _ _ w1 HZ1.out HR.out hcW hna hda hd0 (Nat.le_refl _)).mono ?_
  rintro _ w2 ⟨rfl, hR2, hb2⟩
  have HR2 := Lib.hid hR2
  have HB2 := Lib.hid (HB1.out.trans hb2)
  clear hR2 hb2
  go_wp2_with fail
  refine (frac_any W.heap.size W.heap.size _ _ _ w2 HR2.out hd0 hna hda).mono ?_
  rintro _ w3 ⟨r1, r2, rfl, hr1, hr2, hb3⟩
  have hSr1 := hr1.isS
  have hSr2 := hr2.isS
  have hb23 := bthen HB2.out hb3
  have hrw := keep_row hb23 H1.out
  obtain ⟨k0, k1, k2, f0, f1, f2⟩ := row3 hrw
  obtain ⟨x, hx⟩ : ∃ x, x = (false && decide (0 < wv ns)) := ⟨_, rfl⟩
  rw [← hx]
  have q3 := row3_set (x := .bool x) (y := r1) (z := r2) hrw
  obtain ⟨e0, e1, e2, -, -, -⟩ := row3 q3
  have a1 := rw_row3 (x := .bool x) (y := r1) (z := r2) hr1 IsS.nil IsS.nil hrw
  have a2 := rw_row3 (x := .bool x) (y := r1) (z := r2) hr2 IsS.nil IsS.nil hrw
  have b1 := bset3 (a := .bool x) (b := r1) (c := r2) (hab.trans (hb23.mono hWs)) (show w.heap.size ≤ w.heap.size + 1 by omega)
  have A1 := Lib.hid a1
  have A2 := Lib.hid a2
  have B1 := Lib.hid b1
  have HX := Lib.hid hx
  clear hr1 hr2 hb3 hb23 hrw q3 a1 a2 b1 hx
  go_wp2
  refine bodyPost_ret (v := .agg #[.bool x, r1, r2]) ?_ rfl ⟨r1, r2, ?_, A1.out, A2.out, B1.out⟩
  · simp [results, Try.results35, go_sem, e0, e1, e2]
  · rw [HX.out]; rfl
set_option maxRecDepth 100000 in
set_option maxHeartbeats 800000 in
theorem impNeg (b : Bool) (v1 v2 : Value) (ns ds : List Nat) (w : World) (h1 : RW w v1 ns) (h2 : RW w v2 ds) (hl1 : ns.length ≤ 100000) (hl2 : ds.length ≤ 100000) (hd0 : 0 < wv ds) :
    Calls Try.prog 36 #[.agg #[.bool b, v1, v2]] w fun e w' => ∃ r1 r2, e = .returned (.agg #[.bool (!b && decide (0 < wv ns)), r1, r2]) ∧ RW w' r1 (wds (wv ns)) ∧ RW w' r2 (wds (wv ds)) ∧ Below w.heap.size w w' := by
  have hS1 := h1.isS
  have hS2 := h2.isS
  have hna : nw (wv ns) ≤ 100000000 := Nat.le_trans (nw_le (wv_lt h1.lt)) (by omega)
  have hda : nw (wv ds) ≤ 100000000 := Nat.le_trans (nw_le (wv_lt h2.lt)) (by omega)
  have hab := ((Below.refl w.heap.size w).alloc (Nat.le_refl _) (.cells #[.bool b, v1, v2] 55)).alloc ((Below.refl w.heap.size w).alloc (Nat.le_refl _) (.cells #[.bool b, v1, v2] 55)).size (.cells #[.bool false, .slice none 0 0, .slice none 0 0] 55)
  obtain ⟨W, hW⟩ : ∃ W, W = (w.alloc (.cells #[.bool b, v1, v2] 55)).alloc (.cells #[.bool false, .slice none 0 0, .slice none 0 0] 55) := ⟨_, rfl⟩
  have hrow0 : W.heap[w.heap.size]? = some (.cells #[.bool b, v1, v2] 55 (0, 0)) := by rw [hW]; exact box_row ((Below.refl _ _).alloc (Nat.le_refl _) _)
  have hrow1 : W.heap[w.heap.size + 1]? = some (.cells #[.bool false, .slice none 0 0, .slice none 0 0] 55 (0, 0)) := by
    rw [hW]
    have := box_row (Below.refl _ ((w.alloc (.cells #[.bool b, v1, v2] 55)).alloc (.cells #[.bool false, .slice none 0 0, .slice none 0 0] 55)))
    simpa using this
  rw [← hW] at hab
  have hWs := hab.size
  obtain ⟨x0, x1, x2, -, -, -⟩ := row3 hrow0
  have hWlt : w.heap.size < W.heap.size := (heap_alloc_lt (o := .cells #[] 0) hrow0).2
  have R1 := Lib.hid (h1.below hab)
  have R2 := Lib.hid (h2.below hab)
  have H1 := Lib.hid hrow1
  have ha1 := (Below.refl W.heap.size W).alloc (Nat.le_refl _) (.cells #[.bool false, .slice none 0 0, .bool false, .slice none 0 0] 92)
  have HZ := Lib.hid (box_row (Below.refl _ (W.alloc (.cells #[.bool false, .slice none 0 0, .bool false, .slice none 0 0] 92))))
  clear hrow0 hrow1 h1 h2
  go_enter Try.func36, Try.ntmps36
  go_upto_region 1 with fail
  rw [← hW]
  clear hW
  go_wp2_with fail
  refine (rat_any b v1 v2 ns ds _ (R1.out.below ha1) (R2.out.below ha1) hl1 hl2).mono ?_
  rintro _ w1 ⟨c, rfl, hR, hb1⟩
  have hcW : W.heap.size ≠ c := by
    obtain ⟨_, _, hc, _, _⟩ := hR
    have : W.heap.size < (W.alloc (.cells #[.bool false, .slice none 0 0, .bool false, .slice none 0 0] 92)).heap.size := by simp
    omega
  have HR := Lib.hid hR
  have HZ1 := Lib.hid (keep_row hb1 HZ.out)
  have HB1 := Lib.hid (bthen ha1 hb1)
  clear hR hb1 x0 x1 x2
  go_wp2_with fail
  refine (ratNeg W.heap.size c W.heap.size _ _ _ _ w1 HZ1.out HR.out hcW hna hda hd0 (Nat.le_refl _)).mono ?_
  rintro _ w2 ⟨rfl, hR2, hb2⟩
  have HR2 := Lib.hid hR2
  have HB2 := Lib.hid (HB1.out.trans hb2)
  clear hR2 hb2
  go_wp2_with fail
  refine (frac_any W.heap.size W.heap.size _ _ _ w2 HR2.out hd0 hna hda).mono ?_
  rintro _ w3 ⟨r1, r2, rfl, hr1, hr2, hb3⟩
  have hSr1 := hr1.isS
  have hSr2 := hr2.isS
  have hb23 := bthen HB2.out hb3
  have hrw := keep_row hb23 H1.out
  obtain ⟨k0, k1, k2, f0, f1, f2⟩ := row3 hrw
  obtain ⟨x, hx⟩ : ∃ x, x = ((decide (0 < nw (wv ns)) && !(b && decide (0 < wv ns))) && decide (0 < wv ns)) := ⟨_, rfl⟩
  rw [← hx]
  have q3 := row3_set (x := .bool x) (y := r1) (z := r2) hrw
  obtain ⟨e0, e1, e2, -, -, -⟩ := row3 q3
  have a1 := rw_row3 (x := .bool x) (y := r1) (z := r2) hr1 IsS.nil IsS.nil hrw
  have a2 := rw_row3 (x := .bool x) (y := r1) (z := r2) hr2 IsS.nil IsS.nil hrw
  have b1 := bset3 (a := .bool x) (b := r1) (c := r2) (hab.trans (hb23.mono hWs)) (show w.heap.size ≤ w.heap.size + 1 by omega)
  have A1 := Lib.hid a1
  have A2 := Lib.hid a2
  have B1 := Lib.hid b1
  have HX := Lib.hid hx
  clear hr1 hr2 hb3 hb23 hrw q3 a1 a2 b1 hx
  go_wp2
  refine bodyPost_ret (v := .agg #[.bool x, r1, r2]) ?_ rfl ⟨r1, r2, ?_, A1.out, A2.out, B1.out⟩
  · simp [results, Try.results36, go_sem, e0, e1, e2]
  · rw [HX.out]; rw [neg_bool]
end Go.Proofs.Ytedmkbpfmddafaa
