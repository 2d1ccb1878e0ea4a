/-
Texts of this proof, joined: GcG. No condition.
-/
import Derived.Test.YtoddjkpckpekcaaGreatDoorK01
import Derived.Test.YtoddjkpckpekcaaGreatDoorK02
import Derived.Test.YtoddjkpckpekcaaGreatDoorK03
import Derived.Test.YtoddjkpckpekcaaGreatDoorK04
import Derived.Test.YtoddjkpckpekcaaGreatDoorK05
import Derived.Test.YtoddjkpckpekcaaGreatDoorK06
import Derived.Test.YtoddjkpckpekcaaGreatDoorK07
import Derived.Test.YtoddjkpckpekcaaGreatDoorK08
import Derived.Test.YtoddjkpckpekcaaGreatDoorK09
import Derived.Test.YtoddjkpckpekcaaGreatDoorK10
import Derived.Test.YtoddjkpckpekcaaGreatDoorK11
import Derived.Test.YtoddjkpckpekcaaGreatDoorK12
import Derived.Test.YtoddjkpckpekcaaGreatDoorK13
import Derived.Test.YtoddjkpckpekcaaGreatDoorK14
import Derived.Test.YtoddjkpckpekcaaGreatDoorK15
import Derived.Test.YtoddjkpckpekcaaGreatDoorK16
import Derived.Test.YtoddjkpckpekcaaGreatDoorK17
import Derived.Test.YtoddjkpckpekcaaGreatDoorK18
import Derived.Test.YtoddjkpckpekcaaGreatDoorK19
import Derived.Test.YtoddjkpckpekcaaGreatDoorK20
import Derived.Test.YtoddjkpckpekcaaGreatDoorK21
import Derived.Test.YtoddjkpckpekcaaGreatDoorK22
import Derived.Test.YtoddjkpckpekcaaGreatDoorK23
import Derived.Test.YtoddjkpckpekcaaGreatDoorK24
import Derived.Test.YtoddjkpckpekcaaGreatDoorK25
import Derived.Test.YtoddjkpckpekcaaGreatDoorK26
import Derived.Test.YtoddjkpckpekcaaGreatDoorK30
import Derived.Test.YtoddjkpckpekcaaGreatDoorK33
import Derived.RegionTactic
import Derived.BigRegion
namespace Go.Proofs.YtoddjkpckpekcaaGreatDoor
open Go.RowKit

theorem undrewO {B : Nat} {w w' : World} (h : Below B w w') : Below B w w'.drew := ⟨h.os, h.tape, h.output, h.size, h.block⟩
set_option maxRecDepth 100000 in
set_option maxHeartbeats 3200000 in
theorem quoRem_any (a b q r B X Y : Nat) (mq mr : Bool) (va vb vq vr : Value) (zq zr : List Value) (w : World) (h : Quad w B a b q r false false mq mr va vb vq vr (cellsW (wds X)) (cellsW (wds Y)) zq zr)
    (hX0 : 0 < X) (hY0 : 0 < Y) (hX : nw X ≤ 1000) (hY : nw Y < 40) (hT : DivW w) (hg : 3 < B) :
    Calls Tryz.prog 181 #[.pointer (some ⟨q, 0, none⟩), .pointer (some ⟨a, 0, none⟩), .pointer (some ⟨b, 0, none⟩), .pointer (some ⟨r, 0, none⟩)] w
      fun e w' => e = .returned (.tuple #[.pointer (some ⟨q, 0, none⟩), .pointer (some ⟨r, 0, none⟩)]) ∧ (∃ vq' vr', Quad w' B a b q r false false false false va vb vq' vr' (cellsW (wds X)) (cellsW (wds Y)) (cellsW (wds (X / Y))) (cellsW (wds (X % Y)))) ∧ Below B w w' := by
  have hSa := h.ba.own.isS
  have hSb := h.bb.own.isS
  have hSq := h.bq.own.isS
  have hSr := h.br.own.isS
  have hla : 0 < sLen va := by rw [h.ba.own.len, cellsW_length, wds_length]; exact nw_pos hX0
  have hlb : 0 < sLen vb := by rw [h.bb.own.len, cellsW_length, wds_length]; exact nw_pos hY0
  have a1 : w.cell? ⟨a, 1, none⟩ = some va := (row_at (i := 1) h.ba.row rfl).1
  have b1 : w.cell? ⟨b, 1, none⟩ = some vb := (row_at (i := 1) h.bb.row rfl).1
  have q1 : w.cell? ⟨q, 1, none⟩ = some vq := (row_at (i := 1) h.bq.row rfl).1
  have r1 : w.cell? ⟨r, 1, none⟩ = some vr := (row_at (i := 1) h.br.row rfl).1
  have hBw : B ≤ w.heap.size := Nat.le_trans h.ba.le (Nat.le_of_lt (get_lt h.ba.row))
  have hcap : ∀ {v : Value}, IsS v → 0 < sLen v → 0 < sCap v := fun hS hl => by have := hS.le; omega
  have HD : Hid (∀ W, (∃ k, W = w.drewN k) → Calls Tryz.prog 61 #[vq, .pointer none, vr, va, vb] W fun e w1 => ∃ q' r', e = .returned (.tuple #[q', r']) ∧ NdP vq vr q' r' X Y B w w1) := Lib.hid (by
    rintro _ ⟨k, rfl⟩
    refine (div_nil vq vr va vb zq zr X Y B (w.drewN k) (h.bq.own.drewN k) (h.br.own.drewN k) (h.ba.ro.below (undrewN' (Below.refl _ _))) (h.bb.ro.below (undrewN' (Below.refl _ _))) (h.saq.symm.al hSa hla) hY0 hY (by omega) h.sqr (fun hc => h.sar (hcap hSa hla) hc) (fun hc => h.sbr (hcap hSb hlb) hc) hBw (hT.drewN k) hg).mono ?_
    rintro _ w1 ⟨q', r', rfl, p⟩
    exact ⟨q', r', rfl, p.oq, p.or_, p.atq, p.atr, p.ne, undrewN p.below, fun t ht x y => p.fr t ht x y⟩)
  have HQ := Lib.hid (fun q' r' w1 (p : NdP vq vr q' r' X Y B w w1) => h.quo p)
  have hqr : ¬ q = r := h.nqr
  have hrq : ¬ r = q := fun he => h.nqr he.symm
  have haq : ¬ a = q := h.naq
  have har : ¬ a = r := h.nar
  have hbq : ¬ b = q := h.nbq
  have hbr : ¬ b = r := h.nbr
  clear h hX0 hY0 hX hY hT hg hla hlb hBw hcap
  go_enter Tryz.func181, Tryz.ntmps181
  go_wp2_with fail
  (refine wp_region_hoist 18 (by kernel_rfl) (by kernel_rfl) ⟨fun _ _ _ h => (by first | exact (hQp _ _ _ h).elim | cases h.2.1 | (obtain ⟨_, h3, _⟩ := h.2; cases h3)), fun _ _ h => (by first | exact (hQo _ _ h).elim | cases h.1 | (obtain ⟨_, h3, _⟩ := h; cases h3))⟩ ?_; simp only [List.take_succ_cons, List.take_zero, List.drop_succ_cons, List.drop_zero]; (repeat (go_big_quiet_step (fail))); refine wpQuiet_nil ?_; rintro _ ⟨nq, rfl⟩)
  go_wp2_with fail
  refine (HD.out _ (by first | exact ⟨_, rfl⟩ | exact ⟨_, World.drewN_drewN _ _ _⟩)).mono ?_
  rintro _ w1 ⟨q', r', rfl, p⟩
  obtain ⟨⟨ga, gb, gq, gr⟩, hquad, hbb⟩ := HQ.out q' r' w1 p
  have hSq' := p.oq.isS
  have hSr' := p.or_.isS
  obtain ⟨lq, hlq⟩ : ∃ l, l = nw (X / Y) := ⟨_, rfl⟩
  obtain ⟨lr, hlr⟩ : ∃ l, l = nw (X % Y) := ⟨_, rfl⟩
  have hLq : sLen q' = lq := by rw [p.oq.len, cellsW_length, wds_length, hlq]
  have hLr : sLen r' = lr := by rw [p.or_.len, cellsW_length, wds_length, hlr]
  have x0 : w1.cell? ⟨a, 0, none⟩ = some (.bool false) := (row_at (i := 0) ga rfl).1
  have y0 : w1.cell? ⟨b, 0, none⟩ = some (.bool false) := (row_at (i := 0) gb rfl).1
  obtain ⟨q0, fq0⟩ : w1.cell? ⟨q, 0, none⟩ = some (.bool mq) ∧ w1.frozen? ⟨q, 0, none⟩ = false := ⟨(row_at (i := 0) gq rfl).1, (row_at (i := 0) gq rfl).2⟩
  obtain ⟨q1', fq1⟩ : w1.cell? ⟨q, 1, none⟩ = some vq ∧ w1.frozen? ⟨q, 1, none⟩ = false := ⟨(row_at (i := 1) gq rfl).1, (row_at (i := 1) gq rfl).2⟩
  obtain ⟨r0, fr0⟩ : w1.cell? ⟨r, 0, none⟩ = some (.bool mr) ∧ w1.frozen? ⟨r, 0, none⟩ = false := ⟨(row_at (i := 0) gr rfl).1, (row_at (i := 0) gr rfl).2⟩
  obtain ⟨r1', fr1⟩ : w1.cell? ⟨r, 1, none⟩ = some vr ∧ w1.frozen? ⟨r, 1, none⟩ = false := ⟨(row_at (i := 1) gr rfl).1, (row_at (i := 1) gr rfl).2⟩
  have Q1 := Lib.hid hquad
  have Q2 := Lib.hid hbb
  clear p ga gb gq gr hquad hbb hlq hlr a1 b1 q1 r1 HD HQ
  go_upto_region 2 with fail
  obtain ⟨dq, hdq⟩ : ∃ x, x = decide (0 < lq) := ⟨_, rfl⟩
  obtain ⟨dr, hdr⟩ : ∃ x, x = decide (0 < lr) := ⟨_, rfl⟩
  have kq : decide ((0 : Int) < (lq : Int)) = dq := by rw [hdq]; exact decide_eq_decide.mpr (by omega)
  have kr : decide ((0 : Int) < (lr : Int)) = dr := by rw [hdr]; exact decide_eq_decide.mpr (by omega)
  have kq2 := hdq.symm
  have kr2 := hdr.symm
  clear hdq hdr
  cases dq <;> cases dr
  all_goals (go_region; go_wp2; go_ret2)
  all_goals first | exact ⟨rfl, ⟨_, _, Q1.out.drew⟩, undrewO Q2.out⟩ | exact ⟨rfl, ⟨_, _, Q1.out⟩, Q2.out⟩
end Go.Proofs.YtoddjkpckpekcaaGreatDoor
