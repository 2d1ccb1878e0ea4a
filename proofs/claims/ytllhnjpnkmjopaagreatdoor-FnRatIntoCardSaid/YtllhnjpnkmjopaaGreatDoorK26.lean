/-
Texts of this proof, joined: GcG. No condition.
-/
import Derived.Test.YtllhnjpnkmjopaaGreatDoorK21
import Derived.Test.YtllhnjpnkmjopaaGreatDoorK24
import Derived.RegionTactic
import Derived.BigRegion
namespace Go.Proofs.YtllhnjpnkmjopaaGreatDoor
open Go.RowKit

theorem Quad.quo {w w1 : World} {B a b q r X Y : Nat} {ma mb mq mr : Bool} {va vb vq vr q' r' : Value} {za zb zq zr : List Value} (h : Quad w B a b q r ma mb mq mr va vb vq vr za zb zq zr) (p : NdP vq vr q' r' X Y B w w1) :
    (w1.heap[a]? = some (.cells #[.bool ma, va] 110 (0, 0)) ∧ w1.heap[b]? = some (.cells #[.bool mb, vb] 110 (0, 0)) ∧ w1.heap[q]? = some (.cells #[.bool mq, vq] 110 (0, 0)) ∧ w1.heap[r]? = some (.cells #[.bool mr, vr] 110 (0, 0))) ∧
    Quad ((((w1.setCell ⟨q, 1, none⟩ q').setCell ⟨r, 1, none⟩ r').setCell ⟨q, 0, none⟩ (.bool false)).setCell ⟨r, 0, none⟩ (.bool false)) B a b q r ma mb false false va vb q' r' za zb (cellsW (wds (X / Y))) (cellsW (wds (X % Y))) ∧
    Below B w ((((w1.setCell ⟨q, 1, none⟩ q').setCell ⟨r, 1, none⟩ r').setCell ⟨q, 0, none⟩ (.bool false)).setCell ⟨r, 0, none⟩ (.bool false)) := by
  have keepRow : ∀ {c : Nat} {m : Bool} {v : Value} {zs : List Value}, Bx w B c m v zs → w1.heap[c]? = some (.cells #[.bool m, v] 110 (0, 0)) := fun hc =>
    (p.fr _ (get_lt hc.row) (fun hz => h.bq.own.neRow hc.row (by decide) hz) (fun hz => h.br.own.neRow hc.row (by decide) hz)).trans hc.row
  have ra := keepRow h.ba
  have rb := keepRow h.bb
  have rq := keepRow h.bq
  have rr := keepRow h.br
  refine ⟨⟨ra, rb, rq, rr⟩, ?_⟩
  have q1 := rowset (i := 1) q' rq
  have r0 : (w1.setCell ⟨q, 1, none⟩ q').heap[r]? = some (.cells #[.bool mr, vr] 110 (0, 0)) := (heap_setCell_other _ _ _ _ (by simpa using h.nqr.symm)).trans rr
  have r1 := rowset (i := 1) r' r0
  have q2 : ((w1.setCell ⟨q, 1, none⟩ q').setCell ⟨r, 1, none⟩ r').heap[q]? = some (.cells #[.bool mq, q'] 110 (0, 0)) := (heap_setCell_other _ _ _ _ (by simpa using h.nqr)).trans q1
  have q3 := rowset (i := 0) (.bool false) q2
  have r2 : (((w1.setCell ⟨q, 1, none⟩ q').setCell ⟨r, 1, none⟩ r').setCell ⟨q, 0, none⟩ (.bool false)).heap[r]? = some (.cells #[.bool mr, r'] 110 (0, 0)) := (heap_setCell_other _ _ _ _ (by simpa using h.nqr.symm)).trans r1
  have r3 := rowset (i := 0) (.bool false) r2
  have q4 : ((((w1.setCell ⟨q, 1, none⟩ q').setCell ⟨r, 1, none⟩ r').setCell ⟨q, 0, none⟩ (.bool false)).setCell ⟨r, 0, none⟩ (.bool false)).heap[q]? = some (.cells #[.bool false, q'] 110 (0, 0)) := (heap_setCell_other _ _ _ _ (by simpa using h.nqr)).trans q3
  have hoth : ∀ {c : Nat}, c ≠ q → c ≠ r → ((((w1.setCell ⟨q, 1, none⟩ q').setCell ⟨r, 1, none⟩ r').setCell ⟨q, 0, none⟩ (.bool false)).setCell ⟨r, 0, none⟩ (.bool false)).heap[c]? = w1.heap[c]? := fun h1 h2 => by
    rw [heap_setCell_other _ _ _ _ (by simpa using h2), heap_setCell_other _ _ _ _ (by simpa using h1), heap_setCell_other _ _ _ _ (by simpa using h2), heap_setCell_other _ _ _ _ (by simpa using h1)]
  have hown : ∀ {v : Value} {zs : List Value}, Own w1 B 116 v zs → Own ((((w1.setCell ⟨q, 1, none⟩ q').setCell ⟨r, 1, none⟩ r').setCell ⟨q, 0, none⟩ (.bool false)).setCell ⟨r, 0, none⟩ (.bool false)) B 116 v zs := fun ho =>
    ho.same fun hc => hoth (fun he => ho.neRow rq (by decide) hc he.symm) (fun he => ho.neRow rr (by decide) hc he.symm)
  have hkeep : ∀ {c : Nat} {m : Bool} {v : Value} {zs : List Value}, Bx w B c m v zs → Sep v vq → Sep v vr → Own w1 B 116 v zs := fun hc s1 s2 =>
    hc.own.same fun hv => p.fr _ (hc.own.lt hv).2 (fun hz => s1 hv hz) (fun hz => s2 hv hz)
  have hsq : ∀ {c : Nat} {m : Bool} {v : Value} {zs : List Value}, Bx w B c m v zs → Sep v vq → Sep v q' := fun hc s1 hv hq he => by
    rcases p.atq hq with ⟨a1, a2⟩ | a1
    · exact s1 hv a1 (he.trans a2)
    · have := (hc.own.lt hv).2; omega
  have hsr : ∀ {c : Nat} {m : Bool} {v : Value} {zs : List Value}, Bx w B c m v zs → Sep v vr → Sep v r' := fun hc s1 hv hq he => by
    rcases p.atr hq with ⟨a1, a2⟩ | a1
    · exact s1 hv a1 (he.trans a2)
    · have := (hc.own.lt hv).2; omega
  refine ⟨⟨⟨h.ba.le, (hoth h.naq h.nar).trans ra, hown (hkeep h.ba h.saq h.sar)⟩, ⟨h.bb.le, (hoth h.nbq h.nbr).trans rb, hown (hkeep h.bb h.sbq h.sbr)⟩, ⟨h.bq.le, q4, hown p.oq⟩, ⟨h.br.le, r3, hown p.or_⟩,
    h.sab, hsq h.ba h.saq, hsr h.ba h.sar, hsq h.bb h.sbq, hsr h.bb h.sbr, p.ne, h.nab, h.naq, h.nar, h.nbq, h.nbr, h.nqr⟩, bset (bset (bset (bset p.below h.bq.le) h.br.le) h.bq.le) h.br.le⟩
theorem Bx.drew {w : World} {B c : Nat} {m : Bool} {v : Value} {zs : List Value} (h : Bx w B c m v zs) : Bx w.drew B c m v zs := ⟨h.le, h.row, h.own.drew⟩
theorem Quad.drew {w : World} {B a b q r : Nat} {ma mb mq mr : Bool} {va vb vq vr : Value} {za zb zq zr : List Value} (h : Quad w B a b q r ma mb mq mr va vb vq vr za zb zq zr) : Quad w.drew B a b q r ma mb mq mr va vb vq vr za zb zq zr :=
  { h with ba := h.ba.drew, bb := h.bb.drew, bq := h.bq.drew, br := h.br.drew }
theorem undrewO {B : Nat} {w w' : World} (h : Below B w w') : Below B w w'.drew := ⟨h.os, h.tape, h.output, h.size, h.block⟩
set_option maxRecDepth 100000 in
set_option maxHeartbeats 3200000 in
theorem quoRem_any (a b q r B X Y : Nat) (mq mr : Bool) (va vb vq vr : Value) (zq zr : List Value) (w : World) (h : Quad w B a b q r false false mq mr va vb vq vr (cellsW (wds X)) (cellsW (wds Y)) zq zr)
    (hX0 : 0 < X) (hY0 : 0 < Y) (hX : nw X ≤ 1000) (hY : nw Y < 40) (hT : DivW w) (hg : 4 < B) :
    Calls Tryz.prog 217 #[.pointer (some ⟨q, 0, none⟩), .pointer (some ⟨a, 0, none⟩), .pointer (some ⟨b, 0, none⟩), .pointer (some ⟨r, 0, none⟩)] w
      fun e w' => e = .returned (.tuple #[.pointer (some ⟨q, 0, none⟩), .pointer (some ⟨r, 0, none⟩)]) ∧ (∃ vq' vr', Quad w' B a b q r false false false false va vb vq' vr' (cellsW (wds X)) (cellsW (wds Y)) (cellsW (wds (X / Y))) (cellsW (wds (X % Y)))) ∧ Below B w w' := by
  have hSa := h.ba.own.isS
  have hSb := h.bb.own.isS
  have hSq := h.bq.own.isS
  have hSr := h.br.own.isS
  have hla : 0 < sLen va := by rw [h.ba.own.len, cellsW_length, wds_length]; exact nw_pos hX0
  have hlb : 0 < sLen vb := by rw [h.bb.own.len, cellsW_length, wds_length]; exact nw_pos hY0
  have a1 : w.cell? ⟨a, 1, none⟩ = some va := (row_at (i := 1) h.ba.row rfl).1
  have b1 : w.cell? ⟨b, 1, none⟩ = some vb := (row_at (i := 1) h.bb.row rfl).1
  have q1 : w.cell? ⟨q, 1, none⟩ = some vq := (row_at (i := 1) h.bq.row rfl).1
  have r1 : w.cell? ⟨r, 1, none⟩ = some vr := (row_at (i := 1) h.br.row rfl).1
  have hBw : B ≤ w.heap.size := Nat.le_trans h.ba.le (Nat.le_of_lt (get_lt h.ba.row))
  have hcap : ∀ {v : Value}, IsS v → 0 < sLen v → 0 < sCap v := fun hS hl => by have := hS.le; omega
  have HD : Hid (∀ W, (∃ k, W = w.drewN k) → Calls Tryz.prog 165 #[vq, .pointer none, vr, va, vb] W fun e w1 => ∃ q' r', e = .returned (.tuple #[q', r']) ∧ NdP vq vr q' r' X Y B w w1) := Lib.hid (by
    rintro _ ⟨k, rfl⟩
    refine (div_nil vq vr va vb zq zr X Y B (w.drewN k) (h.bq.own.drewN k) (h.br.own.drewN k) (h.ba.ro.below (undrewN' (Below.refl _ _))) (h.bb.ro.below (undrewN' (Below.refl _ _))) (h.saq.symm.al hSa hla) hY0 hY (by omega) h.sqr (fun hc => h.sar (hcap hSa hla) hc) (fun hc => h.sbr (hcap hSb hlb) hc) hBw (hT.drewN k) hg).mono ?_
    rintro _ w1 ⟨q', r', rfl, p⟩
    exact ⟨q', r', rfl, p.oq, p.or_, p.atq, p.atr, p.ne, undrewN p.below, fun t ht x y => p.fr t ht x y⟩)
  have HQ := Lib.hid (fun q' r' w1 (p : NdP vq vr q' r' X Y B w w1) => h.quo p)
  have hqr : ¬ q = r := h.nqr
  have hrq : ¬ r = q := fun he => h.nqr he.symm
  have haq : ¬ a = q := h.naq
  have har : ¬ a = r := h.nar
  have hbq : ¬ b = q := h.nbq
  have hbr : ¬ b = r := h.nbr
  clear h hX0 hY0 hX hY hT hg hla hlb hBw hcap
  go_enter Tryz.func217, Tryz.ntmps217
  go_wp2_with fail
  (refine wp_region_hoist 18 (by kernel_rfl) (by kernel_rfl) ⟨fun _ _ _ h => (by first | exact (hQp _ _ _ h).elim | cases h.2.1 | (obtain ⟨_, h3, _⟩ := h.2; cases h3)), fun _ _ h => (by first | exact (hQo _ _ h).elim | cases h.1 | (obtain ⟨_, h3, _⟩ := h; cases h3))⟩ ?_; simp only [List.take_succ_cons, List.take_zero, List.drop_succ_cons, List.drop_zero]; (repeat (go_big_quiet_step (fail))); refine wpQuiet_nil ?_; rintro _ ⟨nq, rfl⟩)
  go_wp2_with fail
  refine (HD.out _ (by first | exact ⟨_, rfl⟩ | exact ⟨_, World.drewN_drewN _ _ _⟩)).mono ?_
  rintro _ w1 ⟨q', r', rfl, p⟩
  obtain ⟨⟨ga, gb, gq, gr⟩, hquad, hbb⟩ := HQ.out q' r' w1 p
  have hSq' := p.oq.isS
  have hSr' := p.or_.isS
  obtain ⟨lq, hlq⟩ : ∃ l, l = nw (X / Y) := ⟨_, rfl⟩
  obtain ⟨lr, hlr⟩ : ∃ l, l = nw (X % Y) := ⟨_, rfl⟩
  have hLq : sLen q' = lq := by rw [p.oq.len, cellsW_length, wds_length, hlq]
  have hLr : sLen r' = lr := by rw [p.or_.len, cellsW_length, wds_length, hlr]
  have x0 : w1.cell? ⟨a, 0, none⟩ = some (.bool false) := (row_at (i := 0) ga rfl).1
  have y0 : w1.cell? ⟨b, 0, none⟩ = some (.bool false) := (row_at (i := 0) gb rfl).1
  obtain ⟨q0, fq0⟩ : w1.cell? ⟨q, 0, none⟩ = some (.bool mq) ∧ w1.frozen? ⟨q, 0, none⟩ = false := ⟨(row_at (i := 0) gq rfl).1, (row_at (i := 0) gq rfl).2⟩
  obtain ⟨q1', fq1⟩ : w1.cell? ⟨q, 1, none⟩ = some vq ∧ w1.frozen? ⟨q, 1, none⟩ = false := ⟨(row_at (i := 1) gq rfl).1, (row_at (i := 1) gq rfl).2⟩
  obtain ⟨r0, fr0⟩ : w1.cell? ⟨r, 0, none⟩ = some (.bool mr) ∧ w1.frozen? ⟨r, 0, none⟩ = false := ⟨(row_at (i := 0) gr rfl).1, (row_at (i := 0) gr rfl).2⟩
  obtain ⟨r1', fr1⟩ : w1.cell? ⟨r, 1, none⟩ = some vr ∧ w1.frozen? ⟨r, 1, none⟩ = false := ⟨(row_at (i := 1) gr rfl).1, (row_at (i := 1) gr rfl).2⟩
  have Q1 := Lib.hid hquad
  have Q2 := Lib.hid hbb
  clear p ga gb gq gr hquad hbb hlq hlr a1 b1 q1 r1 HD HQ
  go_upto_region 2 with fail
  obtain ⟨dq, hdq⟩ : ∃ x, x = decide (0 < lq) := ⟨_, rfl⟩
  obtain ⟨dr, hdr⟩ : ∃ x, x = decide (0 < lr) := ⟨_, rfl⟩
  have kq : decide ((0 : Int) < (lq : Int)) = dq := by rw [hdq]; exact decide_eq_decide.mpr (by omega)
  have kr : decide ((0 : Int) < (lr : Int)) = dr := by rw [hdr]; exact decide_eq_decide.mpr (by omega)
  have kq2 := hdq.symm
  have kr2 := hdr.symm
  clear hdq hdr
  cases dq <;> cases dr
  all_goals (go_region; go_wp2; go_ret2)
  all_goals first | exact ⟨rfl, ⟨_, _, Q1.out.drew⟩, undrewO Q2.out⟩ | exact ⟨rfl, ⟨_, _, Q1.out⟩, Q2.out⟩
end Go.Proofs.YtllhnjpnkmjopaaGreatDoor
