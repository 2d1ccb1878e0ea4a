/-
Texts of this proof, joined: WdF. No condition.
-/
import Derived.Test.YtgbmlaffilccnaaGreatDoorK03
import Derived.Deep.RegionHeld3
import Derived.Deep.DeepCutAuto
import Derived.Deep.CutRange
/-
Fractions of the statements: OfFraction. No condition.
-/
namespace Go.Proofs.YtgbmlaffilccnaaGreatDoor
open Go.RowKit

section
variable {P : Program} {ops : Array Oper} {Q : Exit → Act → World → Prop} {md : Region.Mode} {S : World → Prop}
theorem wpAnyH_takeD {i : Nat} {dd : Option Nat} {v : Value} {fuel : Nat} {listed : Array Bool} {a : Act} {w : World} (hi : (ops[i]?).map (·.dst) = some dd)
    (hs : Region.noSelect ops = true) (hf : Region.free md ops listed i = true) (hr : (Region.ready md ops listed).contains i = true)
    (hQ : ∀ c a w, Q (.panic c) (a.put dd v) w → Q (.panic c) a w) (hy : ∀ oi, ops[i]? = some oi → YieldsIf P ops S oi v a) (hS : S w)
    (h : wpAnyH P md ops Q S fuel (listed.setIfInBounds i true) (a.put dd v) w) : wpAnyH P md ops Q S (fuel + 1) listed a w := by
  cases ho : ops[i]? with
  | none => rw [ho] at hi; cases hi
  | some oi =>
    rw [ho] at hi
    simp only [Option.map_some, Option.some.injEq] at hi
    subst hi
    exact wpAnyH_take ho hs hf hr hQ (hy oi ho) hS h
theorem wpAnyH_skip {i : Nat} {dd : Option Nat} {fuel : Nat} {listed : Array Bool} {a : Act} {w : World} (hi : (ops[i]?).map (fun o => (o.dst, Region.wanted o (yielded ops a.tmps))) = some (dd, false))
    (hs : Region.noSelect ops = true) (hf : Region.free md ops listed i = true) (hr : (Region.ready md ops listed).contains i = true)
    (hQ : ∀ c a w, Q (.panic c) (a.put dd undef) w → Q (.panic c) a w) (hS : S w)
    (h : wpAnyH P md ops Q S fuel (listed.setIfInBounds i true) (a.put dd undef) w) : wpAnyH P md ops Q S (fuel + 1) listed a w := by
  cases ho : ops[i]? with
  | none => rw [ho] at hi; cases hi
  | some oi =>
    rw [ho] at hi
    simp only [Option.map_some, Option.some.injEq, Prod.mk.injEq] at hi
    obtain ⟨rfl, hw⟩ := hi
    exact wpAnyH_take ho hs hf hr hQ (Or.inr ⟨hw, rfl⟩) hS h
end
theorem ballc {W w' : World} (h : Below W.heap.size W w') (o : Obj) : Below W.heap.size W (w'.alloc o) := h.alloc h.size o
theorem ks3 {W X : World} {k : Nat} {a b c : Value} (c0 : W.cell? ⟨k, 0, none⟩ = some a) (c1 : W.cell? ⟨k, 1, none⟩ = some b) (c2 : W.cell? ⟨k, 2, none⟩ = some c) (h : Below W.heap.size W X) :
    Below W.heap.size W X ∧ X.cell? ⟨k, 0, none⟩ = some a ∧ X.cell? ⟨k, 1, none⟩ = some b ∧ X.cell? ⟨k, 2, none⟩ = some c :=
  ⟨h, (h.cell (p := ⟨k, 0, none⟩) (World.block_lt_of_cell? W _ c0)).trans c0, (h.cell (p := ⟨k, 1, none⟩) (World.block_lt_of_cell? W _ c1)).trans c1, (h.cell (p := ⟨k, 2, none⟩) (World.block_lt_of_cell? W _ c2)).trans c2⟩
theorem bthenL {a b c : World} {p : Prop} (k : Below b.heap.size b c) (h : Below a.heap.size a b ∧ p) : Below a.heap.size a c := bthen h.1 k
theorem ballcL {W w' : World} {p : Prop} (o : Obj) (h : Below W.heap.size W w' ∧ p) : Below W.heap.size W (w'.alloc o) := ballc h.1 o
theorem box_row {w w1 : World} {cs : Array Value} {T : TypeId} (hb : Below (w.alloc (.cells cs T)).heap.size (w.alloc (.cells cs T)) w1) : w1.heap[w.heap.size]? = some (.cells cs T (0, 0)) := by
  have h1 : (w.alloc (.cells cs T)).heap[w.heap.size]? = some (.cells cs T) := heap_alloc_new w _
  exact (hb.block _ (heap_alloc_lt (o := .cells #[] 0) h1).2).trans h1
theorem box_rowD {w w1 : World} {cs : Array Value} {T : TypeId} (hb : Below (w.alloc (.cells cs T)).drew.heap.size (w.alloc (.cells cs T)).drew w1) : w1.heap[w.heap.size]? = some (.cells cs T (0, 0)) := by
  have h1 : (w.alloc (.cells cs T)).heap[w.heap.size]? = some (.cells cs T) := heap_alloc_new w _
  exact (hb.block _ (heap_alloc_lt (o := .cells #[] 0) h1).2).trans h1
theorem keep_row {w w1 : World} {k : Nat} {o : Obj} (hb : Below w.heap.size w w1) (h : w.heap[k]? = some o) : w1.heap[k]? = some o := (hb.block _ (heap_alloc_lt (o := .cells #[] 0) h).2).trans h
theorem row3 {w : World} {k T : Nat} {a b c : Value} (h : w.heap[k]? = some (.cells #[a, b, c] T (0, 0))) :
    w.cell? ⟨k, 0, none⟩ = some a ∧ w.cell? ⟨k, 1, none⟩ = some b ∧ w.cell? ⟨k, 2, none⟩ = some c ∧ w.frozen? ⟨k, 0, none⟩ = false ∧ w.frozen? ⟨k, 1, none⟩ = false ∧ w.frozen? ⟨k, 2, none⟩ = false :=
  ⟨by rw [cell_of_row w k 0 _ _ _ h]; rfl, by rw [cell_of_row w k 1 _ _ _ h]; rfl, by rw [cell_of_row w k 2 _ _ _ h]; rfl, frozen_of_row w k 0 _ _ h, frozen_of_row w k 1 _ _ h, frozen_of_row w k 2 _ _ h⟩
theorem bset3 {W w : World} {g : Nat} {a b c : Value} (h : Below W.heap.size W w) (hg : W.heap.size ≤ g) : Below W.heap.size W (((w.setCell ⟨g, 0, none⟩ a).setCell ⟨g, 1, none⟩ b).setCell ⟨g, 2, none⟩ c) := bset (bset (bset h hg) hg) hg
theorem row3_set {w : World} {k T : Nat} {a b c x y z : Value} (h : w.heap[k]? = some (.cells #[a, b, c] T (0, 0))) :
    (((w.setCell ⟨k, 0, none⟩ x).setCell ⟨k, 1, none⟩ y).setCell ⟨k, 2, none⟩ z).heap[k]? = some (.cells #[x, y, z] T (0, 0)) := by
  have h1 := heap_setCell_same w k 0 _ _ x h
  have h2 := heap_setCell_same _ k 1 _ _ y h1
  have h3 := heap_setCell_same _ k 2 _ _ z h2
  rw [h3]; rfl
theorem natv_row3 {w : World} {k T n : Nat} {a : Bool} {b c x y z v : Value} (hb : IsS b) (hc : IsS c) (hv : NatV w v n) (h : w.heap[k]? = some (.cells #[.bool a, b, c] T (0, 0))) :
    NatV (((w.setCell ⟨k, 0, none⟩ x).setCell ⟨k, 1, none⟩ y).setCell ⟨k, 2, none⟩ z) v n := by
  refine ⟨hv.isS, hv.len, fun i hi => ?_⟩
  have hcell := hv.cell i hi
  have hne : sBlk v ≠ k := by
    intro he
    rw [he, cell_of_row w k _ _ _ _ h] at hcell
    obtain ⟨b1, b2, b3, rfl⟩ := hb.form
    obtain ⟨c1, c2, c3, rfl⟩ := hc.form
    rcases Nat.lt_or_ge (sOff v + i) 3 with h3 | h3
    · rcases (by omega : sOff v + i = 0 ∨ sOff v + i = 1 ∨ sOff v + i = 2) with e | e | e <;> rw [e] at hcell <;> simp at hcell
    · rw [Array.getElem?_eq_none (by simpa using h3)] at hcell; cases hcell
  have hh : (((w.setCell ⟨k, 0, none⟩ x).setCell ⟨k, 1, none⟩ y).setCell ⟨k, 2, none⟩ z).heap[sBlk v]? = w.heap[sBlk v]? := by
    rw [heap_setCell_other _ _ _ _ (by simpa using hne), heap_setCell_other _ _ _ _ (by simpa using hne), heap_setCell_other _ _ _ _ (by simpa using hne)]
  exact (World.cell?_of_block hh).trans hcell
theorem ks6 {W X : World} {k g : Nat} {a b c d e f : Value} (c0 : W.cell? ⟨k, 0, none⟩ = some a) (c1 : W.cell? ⟨k, 1, none⟩ = some b) (c2 : W.cell? ⟨k, 2, none⟩ = some c)
    (d0 : W.cell? ⟨g, 0, none⟩ = some d) (d1 : W.cell? ⟨g, 1, none⟩ = some e) (d2 : W.cell? ⟨g, 2, none⟩ = some f) (h : Below W.heap.size W X) :
    X.cell? ⟨k, 0, none⟩ = some a ∧ X.cell? ⟨k, 1, none⟩ = some b ∧ X.cell? ⟨k, 2, none⟩ = some c ∧ X.cell? ⟨g, 0, none⟩ = some d ∧ X.cell? ⟨g, 1, none⟩ = some e ∧ X.cell? ⟨g, 2, none⟩ = some f :=
  ⟨(ks3 c0 c1 c2 h).2.1, (ks3 c0 c1 c2 h).2.2.1, (ks3 c0 c1 c2 h).2.2.2, (ks3 d0 d1 d2 h).2.1, (ks3 d0 d1 d2 h).2.2.1, (ks3 d0 d1 d2 h).2.2.2⟩
theorem ks6_set {X : World} {k g t i : Nat} {a b c d e f u : Value} (hk : t ≠ k) (hg : t ≠ g)
    (h : X.cell? ⟨k, 0, none⟩ = some a ∧ X.cell? ⟨k, 1, none⟩ = some b ∧ X.cell? ⟨k, 2, none⟩ = some c ∧ X.cell? ⟨g, 0, none⟩ = some d ∧ X.cell? ⟨g, 1, none⟩ = some e ∧ X.cell? ⟨g, 2, none⟩ = some f) :
    (X.setCell ⟨t, i, none⟩ u).cell? ⟨k, 0, none⟩ = some a ∧ (X.setCell ⟨t, i, none⟩ u).cell? ⟨k, 1, none⟩ = some b ∧ (X.setCell ⟨t, i, none⟩ u).cell? ⟨k, 2, none⟩ = some c ∧ (X.setCell ⟨t, i, none⟩ u).cell? ⟨g, 0, none⟩ = some d ∧ (X.setCell ⟨t, i, none⟩ u).cell? ⟨g, 1, none⟩ = some e ∧ (X.setCell ⟨t, i, none⟩ u).cell? ⟨g, 2, none⟩ = some f := by
  have hk' : ∀ j, (X.setCell ⟨t, i, none⟩ u).cell? ⟨k, j, none⟩ = X.cell? ⟨k, j, none⟩ := fun j => cell_other (by simpa using hk)
  have hg' : ∀ j, (X.setCell ⟨t, i, none⟩ u).cell? ⟨g, j, none⟩ = X.cell? ⟨g, j, none⟩ := fun j => cell_other (by simpa using hg)
  simp only [hk', hg']; exact h
/-- What OfFraction answers: the numbers, and whether the fraction is in lowest terms. -/
def OfPost (b : Bool) (ns ds : List Nat) (ok : Bool) (w : World) (v : Value) (w' : World) : Prop :=
  ∃ a1 a2, v = .tuple #[.agg #[.bool b, a1, a2], .bool ok] ∧ NatV w' a1 (wv ns) ∧ NatV w' a2 (wv ds) ∧ Below w.heap.size w w'
end Go.Proofs.YtgbmlaffilccnaaGreatDoor
