/-
Texts of this proof, joined: GcG. No condition.
-/
import Derived.Test.YtoddjkpckpekcaaGreatDoorK19
import Derived.Test.YtoddjkpckpekcaaGreatDoorK22
import Derived.RegionTactic
import Derived.BigRegion
namespace Go.Proofs.YtoddjkpckpekcaaGreatDoor
open Go.RowKit

theorem Quad.quo {w w1 : World} {B a b q r X Y : Nat} {ma mb mq mr : Bool} {va vb vq vr q' r' : Value} {za zb zq zr : List Value} (h : Quad w B a b q r ma mb mq mr va vb vq vr za zb zq zr) (p : NdP vq vr q' r' X Y B w w1) :
    (w1.heap[a]? = some (.cells #[.bool ma, va] 87 (0, 0)) ∧ w1.heap[b]? = some (.cells #[.bool mb, vb] 87 (0, 0)) ∧ w1.heap[q]? = some (.cells #[.bool mq, vq] 87 (0, 0)) ∧ w1.heap[r]? = some (.cells #[.bool mr, vr] 87 (0, 0))) ∧
    Quad ((((w1.setCell ⟨q, 1, none⟩ q').setCell ⟨r, 1, none⟩ r').setCell ⟨q, 0, none⟩ (.bool false)).setCell ⟨r, 0, none⟩ (.bool false)) B a b q r ma mb false false va vb q' r' za zb (cellsW (wds (X / Y))) (cellsW (wds (X % Y))) ∧
    Below B w ((((w1.setCell ⟨q, 1, none⟩ q').setCell ⟨r, 1, none⟩ r').setCell ⟨q, 0, none⟩ (.bool false)).setCell ⟨r, 0, none⟩ (.bool false)) := by
  have keepRow : ∀ {c : Nat} {m : Bool} {v : Value} {zs : List Value}, Bx w B c m v zs → w1.heap[c]? = some (.cells #[.bool m, v] 87 (0, 0)) := fun hc =>
    (p.fr _ (get_lt hc.row) (fun hz => h.bq.own.neRow hc.row (by decide) hz) (fun hz => h.br.own.neRow hc.row (by decide) hz)).trans hc.row
  have ra := keepRow h.ba
  have rb := keepRow h.bb
  have rq := keepRow h.bq
  have rr := keepRow h.br
  refine ⟨⟨ra, rb, rq, rr⟩, ?_⟩
  have q1 := rowset (i := 1) q' rq
  have r0 : (w1.setCell ⟨q, 1, none⟩ q').heap[r]? = some (.cells #[.bool mr, vr] 87 (0, 0)) := (heap_setCell_other _ _ _ _ (by simpa using h.nqr.symm)).trans rr
  have r1 := rowset (i := 1) r' r0
  have q2 : ((w1.setCell ⟨q, 1, none⟩ q').setCell ⟨r, 1, none⟩ r').heap[q]? = some (.cells #[.bool mq, q'] 87 (0, 0)) := (heap_setCell_other _ _ _ _ (by simpa using h.nqr)).trans q1
  have q3 := rowset (i := 0) (.bool false) q2
  have r2 : (((w1.setCell ⟨q, 1, none⟩ q').setCell ⟨r, 1, none⟩ r').setCell ⟨q, 0, none⟩ (.bool false)).heap[r]? = some (.cells #[.bool mr, r'] 87 (0, 0)) := (heap_setCell_other _ _ _ _ (by simpa using h.nqr.symm)).trans r1
  have r3 := rowset (i := 0) (.bool false) r2
  have q4 : ((((w1.setCell ⟨q, 1, none⟩ q').setCell ⟨r, 1, none⟩ r').setCell ⟨q, 0, none⟩ (.bool false)).setCell ⟨r, 0, none⟩ (.bool false)).heap[q]? = some (.cells #[.bool false, q'] 87 (0, 0)) := (heap_setCell_other _ _ _ _ (by simpa using h.nqr)).trans q3
  have hoth : ∀ {c : Nat}, c ≠ q → c ≠ r → ((((w1.setCell ⟨q, 1, none⟩ q').setCell ⟨r, 1, none⟩ r').setCell ⟨q, 0, none⟩ (.bool false)).setCell ⟨r, 0, none⟩ (.bool false)).heap[c]? = w1.heap[c]? := fun h1 h2 => by
    rw [heap_setCell_other _ _ _ _ (by simpa using h2), heap_setCell_other _ _ _ _ (by simpa using h1), heap_setCell_other _ _ _ _ (by simpa using h2), heap_setCell_other _ _ _ _ (by simpa using h1)]
  have hown : ∀ {v : Value} {zs : List Value}, Own w1 B 98 v zs → Own ((((w1.setCell ⟨q, 1, none⟩ q').setCell ⟨r, 1, none⟩ r').setCell ⟨q, 0, none⟩ (.bool false)).setCell ⟨r, 0, none⟩ (.bool false)) B 98 v zs := fun ho =>
    ho.same fun hc => hoth (fun he => ho.neRow rq (by decide) hc he.symm) (fun he => ho.neRow rr (by decide) hc he.symm)
  have hkeep : ∀ {c : Nat} {m : Bool} {v : Value} {zs : List Value}, Bx w B c m v zs → Sep v vq → Sep v vr → Own w1 B 98 v zs := fun hc s1 s2 =>
    hc.own.same fun hv => p.fr _ (hc.own.lt hv).2 (fun hz => s1 hv hz) (fun hz => s2 hv hz)
  have hsq : ∀ {c : Nat} {m : Bool} {v : Value} {zs : List Value}, Bx w B c m v zs → Sep v vq → Sep v q' := fun hc s1 hv hq he => by
    rcases p.atq hq with ⟨a1, a2⟩ | a1
    · exact s1 hv a1 (he.trans a2)
    · have := (hc.own.lt hv).2; omega
  have hsr : ∀ {c : Nat} {m : Bool} {v : Value} {zs : List Value}, Bx w B c m v zs → Sep v vr → Sep v r' := fun hc s1 hv hq he => by
    rcases p.atr hq with ⟨a1, a2⟩ | a1
    · exact s1 hv a1 (he.trans a2)
    · have := (hc.own.lt hv).2; omega
  refine ⟨⟨⟨h.ba.le, (hoth h.naq h.nar).trans ra, hown (hkeep h.ba h.saq h.sar)⟩, ⟨h.bb.le, (hoth h.nbq h.nbr).trans rb, hown (hkeep h.bb h.sbq h.sbr)⟩, ⟨h.bq.le, q4, hown p.oq⟩, ⟨h.br.le, r3, hown p.or_⟩,
    h.sab, hsq h.ba h.saq, hsr h.ba h.sar, hsq h.bb h.sbq, hsr h.bb h.sbr, p.ne, h.nab, h.naq, h.nar, h.nbq, h.nbr, h.nqr⟩, bset (bset (bset (bset p.below h.bq.le) h.br.le) h.bq.le) h.br.le⟩
theorem Bx.drew {w : World} {B c : Nat} {m : Bool} {v : Value} {zs : List Value} (h : Bx w B c m v zs) : Bx w.drew B c m v zs := ⟨h.le, h.row, h.own.drew⟩
theorem Quad.drew {w : World} {B a b q r : Nat} {ma mb mq mr : Bool} {va vb vq vr : Value} {za zb zq zr : List Value} (h : Quad w B a b q r ma mb mq mr va vb vq vr za zb zq zr) : Quad w.drew B a b q r ma mb mq mr va vb vq vr za zb zq zr :=
  { h with ba := h.ba.drew, bb := h.bb.drew, bq := h.bq.drew, br := h.br.drew }
end Go.Proofs.YtoddjkpckpekcaaGreatDoor
