/-
Texts of this proof, joined: DlD. No condition.
-/
import Derived.Test.YtllhnjpnkmjopaaGreatDoorK24
import Derived.Test.YtllhnjpnkmjopaaGreatDoorK28
import Derived.Test.YtllhnjpnkmjopaaGreatDoorK29
namespace Go.Proofs.YtllhnjpnkmjopaaGreatDoor
open Go.RowKit

structure NdP (z z2 q r : Value) (N D B : Nat) (w w' : World) : Prop where
  oq : Own w' B 116 q (cellsW (wds (N / D)))
  or_ : Own w' B 116 r (cellsW (wds (N % D)))
  atq : 0 < sCap q → (0 < sCap z ∧ sBlk q = sBlk z) ∨ w.heap.size ≤ sBlk q
  atr : 0 < sCap r → (0 < sCap z2 ∧ sBlk r = sBlk z2) ∨ w.heap.size ≤ sBlk r
  ne : 0 < sCap q → 0 < sCap r → sBlk q ≠ sBlk r
  below : Below B w w'
  fr : ∀ k, k < w.heap.size → (0 < sCap z → k ≠ sBlk z) → (0 < sCap z2 → k ≠ sBlk z2) → w'.heap[k]? = w.heap[k]?
theorem NdP.of {z z2 q r : Value} {zs z2s : List Value} {N D B : Nat} {w w1 w2 : World} (_hz : Own w B 116 z zs) (hz2 : Own w B 116 z2 z2s) (hzz : 0 < sCap z → 0 < sCap z2 → sBlk z ≠ sBlk z2) (h1 : NatR z q (N / D) B w w1) (h2 : NatR z2 r (N % D) B w1 w2) : NdP z z2 q r N D B w w2 := by
  have hs := h1.below.size
  have hat2 : 0 < sCap r → (0 < sCap z2 ∧ sBlk r = sBlk z2) ∨ w1.heap.size ≤ sBlk r := h2.at'
  have hne2 : 0 < sCap q → 0 < sCap z2 → sBlk q ≠ sBlk z2 := fun hq hz2c he => by
    rcases h1.at' hq with ⟨a, b⟩ | a
    · exact hzz a hz2c (b.symm.trans he)
    · have := (hz2.lt hz2c).2; omega
  refine ⟨h1.own.frz h2.fr hne2, h2.own, h1.at', fun hc => ?_, fun hq hr he => ?_, h1.below.trans h2.below, fun k hk a b => (h2.fr k (by omega) b).trans (h1.fr k hk a)⟩
  · rcases hat2 hc with a | a
    · exact .inl a
    · exact .inr (by omega)
  · rcases hat2 hr with ⟨a, b⟩ | a
    · exact hne2 hq a (he.trans b)
    · have := (h1.own.lt hq).2; omega
theorem NdP.set {z z2 q r u : Value} {N D B b i T : Nat} {cs : Array Value} {w w' : World} (h : NdP z z2 q r N D B w w') (hr : w'.heap[b]? = some (.cells cs T (0, 0))) (hT : T ≠ 116) (hb : w.heap.size ≤ b) (hB : B ≤ w.heap.size) : NdP z z2 q r N D B w (w'.setCell ⟨b, i, none⟩ u) :=
  ⟨h.oq.away hr hT i u, h.or_.away hr hT i u, h.atq, h.atr, h.ne, bset h.below (by omega), fun k hk a b' => by rw [heap_setCell_other _ _ _ _ (by simp only; omega)]; exact h.fr k hk a b'⟩
end Go.Proofs.YtllhnjpnkmjopaaGreatDoor
