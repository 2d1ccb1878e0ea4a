/-
Texts of this proof, joined: WdF. No condition.
-/
import Derived.Test.YtllhnjpnkmjopaaGreatDoorK04
import Derived.Deep.RegionHeld3
import Derived.Deep.DeepCutAuto
import Derived.Deep.CutRange
namespace Go.Proofs.YtllhnjpnkmjopaaGreatDoor
open Go.RowKit

section
variable {P : Program} {ops : Array Oper} {Q : Exit → Act → World → Prop} {md : Region.Mode} {S : World → Prop}
theorem wpAnyH_takeD {i : Nat} {dd : Option Nat} {v : Value} {fuel : Nat} {listed : Array Bool} {a : Act} {w : World} (hi : (ops[i]?).map (·.dst) = some dd)
    (hs : Region.noSelect ops = true) (hf : Region.free md ops listed i = true) (hr : (Region.ready md ops listed).contains i = true)
    (hQ : ∀ c a w, Q (.panic c) (a.put dd v) w → Q (.panic c) a w) (hy : ∀ oi, ops[i]? = some oi → YieldsIf P ops S oi v a) (hS : S w)
    (h : wpAnyH P md ops Q S fuel (listed.setIfInBounds i true) (a.put dd v) w) : wpAnyH P md ops Q S (fuel + 1) listed a w := by
  cases ho : ops[i]? with
  | none => rw [ho] at hi; cases hi
  | some oi =>
    rw [ho] at hi
    simp only [Option.map_some, Option.some.injEq] at hi
    subst hi
    exact wpAnyH_take ho hs hf hr hQ (hy oi ho) hS h
theorem wpAnyH_skip {i : Nat} {dd : Option Nat} {fuel : Nat} {listed : Array Bool} {a : Act} {w : World} (hi : (ops[i]?).map (fun o => (o.dst, Region.wanted o (yielded ops a.tmps))) = some (dd, false))
    (hs : Region.noSelect ops = true) (hf : Region.free md ops listed i = true) (hr : (Region.ready md ops listed).contains i = true)
    (hQ : ∀ c a w, Q (.panic c) (a.put dd undef) w → Q (.panic c) a w) (hS : S w)
    (h : wpAnyH P md ops Q S fuel (listed.setIfInBounds i true) (a.put dd undef) w) : wpAnyH P md ops Q S (fuel + 1) listed a w := by
  cases ho : ops[i]? with
  | none => rw [ho] at hi; cases hi
  | some oi =>
    rw [ho] at hi
    simp only [Option.map_some, Option.some.injEq, Prod.mk.injEq] at hi
    obtain ⟨rfl, hw⟩ := hi
    exact wpAnyH_take ho hs hf hr hQ (Or.inr ⟨hw, rfl⟩) hS h
end
theorem ballc {W w' : World} (h : Below W.heap.size W w') (o : Obj) : Below W.heap.size W (w'.alloc o) := h.alloc h.size o
theorem ks3 {W X : World} {k : Nat} {a b c : Value} (c0 : W.cell? ⟨k, 0, none⟩ = some a) (c1 : W.cell? ⟨k, 1, none⟩ = some b) (c2 : W.cell? ⟨k, 2, none⟩ = some c) (h : Below W.heap.size W X) :
    Below W.heap.size W X ∧ X.cell? ⟨k, 0, none⟩ = some a ∧ X.cell? ⟨k, 1, none⟩ = some b ∧ X.cell? ⟨k, 2, none⟩ = some c :=
  ⟨h, (h.cell (p := ⟨k, 0, none⟩) (World.block_lt_of_cell? W _ c0)).trans c0, (h.cell (p := ⟨k, 1, none⟩) (World.block_lt_of_cell? W _ c1)).trans c1, (h.cell (p := ⟨k, 2, none⟩) (World.block_lt_of_cell? W _ c2)).trans c2⟩
theorem bthenL {a b c : World} {p : Prop} (k : Below b.heap.size b c) (h : Below a.heap.size a b ∧ p) : Below a.heap.size a c := bthen h.1 k
theorem ballcL {W w' : World} {p : Prop} (o : Obj) (h : Below W.heap.size W w' ∧ p) : Below W.heap.size W (w'.alloc o) := ballc h.1 o
theorem box_row {w w1 : World} {cs : Array Value} {T : TypeId} (hb : Below (w.alloc (.cells cs T)).heap.size (w.alloc (.cells cs T)) w1) : w1.heap[w.heap.size]? = some (.cells cs T (0, 0)) := by
  have h1 : (w.alloc (.cells cs T)).heap[w.heap.size]? = some (.cells cs T) := heap_alloc_new w _
  exact (hb.block _ (heap_alloc_lt (o := .cells #[] 0) h1).2).trans h1
theorem box_rowD {w w1 : World} {cs : Array Value} {T : TypeId} (hb : Below (w.alloc (.cells cs T)).drew.heap.size (w.alloc (.cells cs T)).drew w1) : w1.heap[w.heap.size]? = some (.cells cs T (0, 0)) := by
  have h1 : (w.alloc (.cells cs T)).heap[w.heap.size]? = some (.cells cs T) := heap_alloc_new w _
  exact (hb.block _ (heap_alloc_lt (o := .cells #[] 0) h1).2).trans h1
theorem keep_row {w w1 : World} {k : Nat} {o : Obj} (hb : Below w.heap.size w w1) (h : w.heap[k]? = some o) : w1.heap[k]? = some o := (hb.block _ (heap_alloc_lt (o := .cells #[] 0) h).2).trans h
theorem row3 {w : World} {k T : Nat} {a b c : Value} (h : w.heap[k]? = some (.cells #[a, b, c] T (0, 0))) :
    w.cell? ⟨k, 0, none⟩ = some a ∧ w.cell? ⟨k, 1, none⟩ = some b ∧ w.cell? ⟨k, 2, none⟩ = some c ∧ w.frozen? ⟨k, 0, none⟩ = false ∧ w.frozen? ⟨k, 1, none⟩ = false ∧ w.frozen? ⟨k, 2, none⟩ = false :=
  ⟨by rw [cell_of_row w k 0 _ _ _ h]; rfl, by rw [cell_of_row w k 1 _ _ _ h]; rfl, by rw [cell_of_row w k 2 _ _ _ h]; rfl, frozen_of_row w k 0 _ _ h, frozen_of_row w k 1 _ _ h, frozen_of_row w k 2 _ _ h⟩
theorem bset3 {W w : World} {g : Nat} {a b c : Value} (h : Below W.heap.size W w) (hg : W.heap.size ≤ g) : Below W.heap.size W (((w.setCell ⟨g, 0, none⟩ a).setCell ⟨g, 1, none⟩ b).setCell ⟨g, 2, none⟩ c) := bset (bset (bset h hg) hg) hg
theorem row3_set {w : World} {k T : Nat} {a b c x y z : Value} (h : w.heap[k]? = some (.cells #[a, b, c] T (0, 0))) :
    (((w.setCell ⟨k, 0, none⟩ x).setCell ⟨k, 1, none⟩ y).setCell ⟨k, 2, none⟩ z).heap[k]? = some (.cells #[x, y, z] T (0, 0)) := by
  have h1 := heap_setCell_same w k 0 _ _ x h
  have h2 := heap_setCell_same _ k 1 _ _ y h1
  have h3 := heap_setCell_same _ k 2 _ _ z h2
  rw [h3]; rfl
theorem natv_row3 {w : World} {k T n : Nat} {a : Bool} {b c x y z v : Value} (hb : IsS b) (hc : IsS c) (hv : NatV w v n) (h : w.heap[k]? = some (.cells #[.bool a, b, c] T (0, 0))) :
    NatV (((w.setCell ⟨k, 0, none⟩ x).setCell ⟨k, 1, none⟩ y).setCell ⟨k, 2, none⟩ z) v n := by
  refine ⟨hv.isS, hv.len, fun i hi => ?_⟩
  have hcell := hv.cell i hi
  have hne : sBlk v ≠ k := by
    intro he
    rw [he, cell_of_row w k _ _ _ _ h] at hcell
    obtain ⟨b1, b2, b3, rfl⟩ := hb.form
    obtain ⟨c1, c2, c3, rfl⟩ := hc.form
    rcases Nat.lt_or_ge (sOff v + i) 3 with h3 | h3
    · rcases (by omega : sOff v + i = 0 ∨ sOff v + i = 1 ∨ sOff v + i = 2) with e | e | e <;> rw [e] at hcell <;> simp at hcell
    · rw [Array.getElem?_eq_none (by simpa using h3)] at hcell; cases hcell
  have hh : (((w.setCell ⟨k, 0, none⟩ x).setCell ⟨k, 1, none⟩ y).setCell ⟨k, 2, none⟩ z).heap[sBlk v]? = w.heap[sBlk v]? := by
    rw [heap_setCell_other _ _ _ _ (by simpa using hne), heap_setCell_other _ _ _ _ (by simpa using hne), heap_setCell_other _ _ _ _ (by simpa using hne)]
  exact (World.cell?_of_block hh).trans hcell
theorem ks6 {W X : World} {k g : Nat} {a b c d e f : Value} (c0 : W.cell? ⟨k, 0, none⟩ = some a) (c1 : W.cell? ⟨k, 1, none⟩ = some b) (c2 : W.cell? ⟨k, 2, none⟩ = some c)
    (d0 : W.cell? ⟨g, 0, none⟩ = some d) (d1 : W.cell? ⟨g, 1, none⟩ = some e) (d2 : W.cell? ⟨g, 2, none⟩ = some f) (h : Below W.heap.size W X) :
    X.cell? ⟨k, 0, none⟩ = some a ∧ X.cell? ⟨k, 1, none⟩ = some b ∧ X.cell? ⟨k, 2, none⟩ = some c ∧ X.cell? ⟨g, 0, none⟩ = some d ∧ X.cell? ⟨g, 1, none⟩ = some e ∧ X.cell? ⟨g, 2, none⟩ = some f :=
  ⟨(ks3 c0 c1 c2 h).2.1, (ks3 c0 c1 c2 h).2.2.1, (ks3 c0 c1 c2 h).2.2.2, (ks3 d0 d1 d2 h).2.1, (ks3 d0 d1 d2 h).2.2.1, (ks3 d0 d1 d2 h).2.2.2⟩
theorem ks6_set {X : World} {k g t i : Nat} {a b c d e f u : Value} (hk : t ≠ k) (hg : t ≠ g)
    (h : X.cell? ⟨k, 0, none⟩ = some a ∧ X.cell? ⟨k, 1, none⟩ = some b ∧ X.cell? ⟨k, 2, none⟩ = some c ∧ X.cell? ⟨g, 0, none⟩ = some d ∧ X.cell? ⟨g, 1, none⟩ = some e ∧ X.cell? ⟨g, 2, none⟩ = some f) :
    (X.setCell ⟨t, i, none⟩ u).cell? ⟨k, 0, none⟩ = some a ∧ (X.setCell ⟨t, i, none⟩ u).cell? ⟨k, 1, none⟩ = some b ∧ (X.setCell ⟨t, i, none⟩ u).cell? ⟨k, 2, none⟩ = some c ∧ (X.setCell ⟨t, i, none⟩ u).cell? ⟨g, 0, none⟩ = some d ∧ (X.setCell ⟨t, i, none⟩ u).cell? ⟨g, 1, none⟩ = some e ∧ (X.setCell ⟨t, i, none⟩ u).cell? ⟨g, 2, none⟩ = some f := by
  have hk' : ∀ j, (X.setCell ⟨t, i, none⟩ u).cell? ⟨k, j, none⟩ = X.cell? ⟨k, j, none⟩ := fun j => cell_other (by simpa using hk)
  have hg' : ∀ j, (X.setCell ⟨t, i, none⟩ u).cell? ⟨g, j, none⟩ = X.cell? ⟨g, j, none⟩ := fun j => cell_other (by simpa using hg)
  simp only [hk', hg']; exact h
def OfPost (b : Bool) (ns ds : List Nat) (ok : Bool) (w : World) (v : Value) (w' : World) : Prop :=
  ∃ a1 a2, v = .tuple #[.agg #[.bool b, a1, a2], .bool ok] ∧ NatV w' a1 (wv ns) ∧ NatV w' a2 (wv ds) ∧ Below w.heap.size w w'
set_option maxRecDepth 100000 in
set_option maxHeartbeats 1600000 in
theorem ofFraction_any (b : Bool) (v1 v2 : Value) (ns ds : List Nat) (w : World) (h1 : RW w v1 ns) (h2 : RW w v2 ds) (hl1 : ns.length ≤ 100000) (hl2 : ds.length ≤ 100000) :
    Calls Tryz.prog 67 #[.agg #[.bool b, v1, v2]] w fun e w' => ∃ v, e = .returned v ∧ OfPost b ns ds (isFrac b ns ds b (wv ns) (wv ds) && decide (Nat.gcd (wv ns) (wv ds) = 1)) w v w' := by
  have hS1 := h1.isS
  have hS2 := h2.isS
  have H1 := Lib.hid h1
  have H2 := Lib.hid h2
  clear h1 h2
  have hab := ((Below.refl w.heap.size w).alloc (Nat.le_refl _) (.cells #[.bool b, v1, v2] 26))
  have hac := hab.alloc hab.size (.cells #[.bool false, .slice none 0 0, .slice none 0 0] 31)
  obtain ⟨W, hW⟩ : ∃ W, W = (w.alloc (.cells #[.bool b, v1, v2] 26)).alloc (.cells #[.bool false, .slice none 0 0, .slice none 0 0] 31) := ⟨_, rfl⟩
  rw [← hW] at hac
  have c0 : W.cell? ⟨w.heap.size, 0, none⟩ = some (.bool b) := by
    rw [hW]; exact box_cell (w := w) (cs := #[.bool b, v1, v2]) ((Below.refl _ _).alloc (Nat.le_refl _) _) rfl
  have c1 : W.cell? ⟨w.heap.size, 1, none⟩ = some v1 := by
    rw [hW]; exact box_cell (w := w) (cs := #[.bool b, v1, v2]) ((Below.refl _ _).alloc (Nat.le_refl _) _) rfl
  have c2 : W.cell? ⟨w.heap.size, 2, none⟩ = some v2 := by
    rw [hW]; exact box_cell (w := w) (cs := #[.bool b, v1, v2]) ((Below.refl _ _).alloc (Nat.le_refl _) _) rfl
  have HWs := Lib.hid (show W.heap.size = w.heap.size + 2 by rw [hW]; simp)
  have hrw : W.heap[w.heap.size + 1]? = some (.cells #[.bool false, .slice none 0 0, .slice none 0 0] 31 (0, 0)) := by
    rw [hW]
    have := box_row (Below.refl _ ((w.alloc (.cells #[.bool b, v1, v2] 26)).alloc (.cells #[.bool false, .slice none 0 0, .slice none 0 0] 31)))
    simpa using this
  have HR := Lib.hid hrw
  clear hrw
  have R1 := Lib.hid (H1.out.below hac)
  have R2 := Lib.hid (H2.out.below hac)
  have HW := Lib.hid hW
  go_enter Tryz.func67, Tryz.ntmps67
  go_upto_region 1 with fail
  rw [← hW]
  clear hW
  have hWW := Below.refl W.heap.size W
  go_cut [4] (fun s4 wx => ∃ (g : Nat) (r1 r2 : Value), s4 = .pointer (some ⟨g, 0, none⟩) ∧ W.heap.size ≤ g ∧ wx.heap[g]? = some (.cells #[.bool b, r1, r2] 31 (0, 0)) ∧ NatV wx r1 (wv ns) ∧ NatV wx r2 (wv ds) ∧ Below W.heap.size W wx)
  case rest =>
    obtain ⟨g, r1, r2, rfl, hg, hrow, hn1, hn2, hbW⟩ := hcut
    have hSr1 := hn1.isS
    have hSr2 := hn2.isS
    have d3 := row3 hrow
    obtain ⟨d0, d1, d2, -, -, -⟩ := d3
    have ee := ks3 c0 c1 c2 hbW
    obtain ⟨-, e0, e1, e2⟩ := ee
    have hlN := nl_wv R1.out.lt
    have hlD := nl_wv R2.out.lt
    have R1' := Lib.hid (R1.out.below hbW)
    have R2' := Lib.hid (R2.out.below hbW)
    have N1 := Lib.hid hn1
    have N2 := Lib.hid hn2
    have Hrow := Lib.hid hrow
    have Hg := Lib.hid hg
    clear hn1 hn2 hrow hg
    have hcc := Below.refl wc.heap.size wc
    obtain ⟨F, hF⟩ : ∃ F, F = isFrac b ns ds b (wv ns) (wv ds) := ⟨_, rfl⟩
    have hcallF : ∀ w', Below wc.heap.size wc w' → Calls Tryz.prog 15 #[.agg #[.bool b, v1, v2], .agg #[.bool b, r1, r2]] w' fun e w'' => e = .returned (.bool F) ∧ Below wc.heap.size wc w'' := fun w' hw => by
      rw [hF]
      refine (isFraction_any b b v1 v2 r1 r2 ns ds _ _ w' (R1'.out.below hw) (R2'.out.below hw) (N1.out.below hw) (N2.out.below hw) (by omega) (by omega) (by omega) (by omega)).mono ?_
      rintro _ w2 ⟨rfl, hb2⟩
      exact ⟨rfl, bthen hw hb2⟩
    have HcF := Lib.hid hcallF
    have HF := Lib.hid hF
    clear hcallF hF
    cases F with
    | false =>
      go_upto_region 2 with fail
      have hN1 := Lib.hid (show w.heap.size + 1 ≠ w.heap.size by omega)
      have hN2 := Lib.hid (show w.heap.size + 1 ≠ g by have := Hg.out; have := HWs.out; omega)
      have HRc := Lib.hid (keep_row hbW HR.out)
      refine wp_region_held_drew (S := fun w' => w'.cell? ⟨w.heap.size, 0, none⟩ = some (.bool b) ∧ w'.cell? ⟨w.heap.size, 1, none⟩ = some v1 ∧ w'.cell? ⟨w.heap.size, 2, none⟩ = some v2 ∧ w'.cell? ⟨g, 0, none⟩ = some (.bool b) ∧ w'.cell? ⟨g, 1, none⟩ = some r1 ∧ w'.cell? ⟨g, 2, none⟩ = some r2) (by kernel_rfl) (ks6 e0 e1 e2 d0 d1 d2 (Below.drew hcc)) (fun hHeld => ?_)
      refine wpAnyH_takeD (i := 0) (dd := some 16) (v := .agg #[.bool b, r1, r2]) (by kernel_rfl) (by kernel_rfl) (by kernel_rfl) (by kernel_rfl) (fun _ _ _ h => h) (fun oi h => ?_) (by assumption) ?_
      · cases h; exact Or.inl ⟨by rfl, by intro w hSw; go_simp⟩
      try simp only [Act.put, List.setIfInBounds_toArray, List.set_cons_zero, List.set_cons_succ]
      refine wpAnyH_takeD (i := 1) (dd := some 17) (v := .agg #[.bool b, v1, v2]) (by kernel_rfl) (by kernel_rfl) (by kernel_rfl) (by kernel_rfl) (fun _ _ _ h => h) (fun oi h => ?_) (by assumption) ?_
      · cases h; exact Or.inl ⟨by rfl, by intro w hSw; go_simp⟩
      try simp only [Act.put, List.setIfInBounds_toArray, List.set_cons_zero, List.set_cons_succ]
      refine wpAnyH_takeD (i := 2) (dd := some 18) (v := .agg #[.bool b, r1, r2]) (by kernel_rfl) (by kernel_rfl) (by kernel_rfl) (by kernel_rfl) (fun _ _ _ h => h) (fun oi h => ?_) (by assumption) ?_
      · cases h; exact Or.inl ⟨by rfl, by intro w hSw; go_simp⟩
      try simp only [Act.put, List.setIfInBounds_toArray, List.set_cons_zero, List.set_cons_succ]
      refine wpAnyH_ready (rs := [3]) (by kernel_rfl) (by simp) (AllReadyH.cons rfl (fun K hK => ?_) AllReadyH.nil)
      go_simp
      go_at_call 15
      refine (HcF.out _ (Below.drew hcc)).mono ?_
      rintro _ w2 ⟨rfl, hbF⟩
      have hvr := keep_row hbF HRc.out
      obtain ⟨hv0, hv1, hv2, hf0, hf1, hf2⟩ := row3 hvr
      refine hK.out _ _ (ks6 e0 e1 e2 d0 d1 d2 hbF) (fun hHeld => ?_)
      clear hK K
      try simp only [Act.put, List.setIfInBounds_toArray, List.set_cons_zero, List.set_cons_succ]
      refine wpAnyH_takeD (i := 4) (dd := some 20) (v := .bool false) (by kernel_rfl) (by kernel_rfl) (by kernel_rfl) (by kernel_rfl) (fun _ _ _ h => h) (fun oi h => ?_) (by assumption) ?_
      · cases h; exact Or.inl ⟨by rfl, by intro w hSw; go_simp⟩
      try simp only [Act.put, List.setIfInBounds_toArray, List.set_cons_zero, List.set_cons_succ]
      refine wpAnyH_skip (i := 5) (dd := some 21) (by kernel_rfl) (by kernel_rfl) (by kernel_rfl) (by kernel_rfl) (fun _ _ _ h => h) (by assumption) ?_
      try simp only [Act.put, List.setIfInBounds_toArray, List.set_cons_zero, List.set_cons_succ]
      refine wpAnyH_skip (i := 6) (dd := some 22) (by kernel_rfl) (by kernel_rfl) (by kernel_rfl) (by kernel_rfl) (fun _ _ _ h => h) (by assumption) ?_
      try simp only [Act.put, List.setIfInBounds_toArray, List.set_cons_zero, List.set_cons_succ]
      refine wpAnyH_skip (i := 7) (dd := some 23) (by kernel_rfl) (by kernel_rfl) (by kernel_rfl) (by kernel_rfl) (fun _ _ _ h => h) (by assumption) ?_
      try simp only [Act.put, List.setIfInBounds_toArray, List.set_cons_zero, List.set_cons_succ]
      refine wpAnyH_skip (i := 8) (dd := some 24) (by kernel_rfl) (by kernel_rfl) (by kernel_rfl) (by kernel_rfl) (fun _ _ _ h => h) (by assumption) ?_
      try simp only [Act.put, List.setIfInBounds_toArray, List.set_cons_zero, List.set_cons_succ]
      refine wpAnyH_skip (i := 9) (dd := some 25) (by kernel_rfl) (by kernel_rfl) (by kernel_rfl) (by kernel_rfl) (fun _ _ _ h => h) (by assumption) ?_
      try simp only [Act.put, List.setIfInBounds_toArray, List.set_cons_zero, List.set_cons_succ]
      refine wpAnyH_skip (i := 10) (dd := some 26) (by kernel_rfl) (by kernel_rfl) (by kernel_rfl) (by kernel_rfl) (fun _ _ _ h => h) (by assumption) ?_
      try simp only [Act.put, List.setIfInBounds_toArray, List.set_cons_zero, List.set_cons_succ]
      refine wpAnyH_skip (i := 11) (dd := some 27) (by kernel_rfl) (by kernel_rfl) (by kernel_rfl) (by kernel_rfl) (fun _ _ _ h => h) (by assumption) ?_
      try simp only [Act.put, List.setIfInBounds_toArray, List.set_cons_zero, List.set_cons_succ]
      refine wpAnyH_skip (i := 12) (dd := some 28) (by kernel_rfl) (by kernel_rfl) (by kernel_rfl) (by kernel_rfl) (fun _ _ _ h => h) (by assumption) ?_
      try simp only [Act.put, List.setIfInBounds_toArray, List.set_cons_zero, List.set_cons_succ]
      refine wpAnyH_takeD (i := 13) (dd := some 29) (v := .bool false) (by kernel_rfl) (by kernel_rfl) (by kernel_rfl) (by kernel_rfl) (fun _ _ _ h => h) (fun oi h => ?_) (by assumption) ?_
      · cases h; exact Or.inl ⟨by rfl, by intro w hSw; go_simp⟩
      try simp only [Act.put, List.setIfInBounds_toArray, List.set_cons_zero, List.set_cons_succ]
      refine wpAnyH_ready (rs := [14]) (by kernel_rfl) (by simp) (AllReadyH.cons rfl (fun K hK => ?_) AllReadyH.nil)
      go_simp
      refine hK.out _ _ (ks6_set hN1.out hN2.out (ks6_set hN1.out hN2.out (ks6_set hN1.out hN2.out (ks6 e0 e1 e2 d0 d1 d2 hbF)))) (fun hHeld => ?_)
      clear hK K
      try simp only [Act.put, List.setIfInBounds_toArray, List.set_cons_zero, List.set_cons_succ]
      refine wpAnyH_takeD (i := 15) (dd := some 3) (v := .bool false) (by kernel_rfl) (by kernel_rfl) (by kernel_rfl) (by kernel_rfl) (fun _ _ _ h => h) (fun oi h => ?_) (by assumption) ?_
      · cases h; exact Or.inl ⟨by rfl, by intro w hSw; go_simp⟩
      try simp only [Act.put, List.setIfInBounds_toArray, List.set_cons_zero, List.set_cons_succ]
      refine wpAnyH_done (by kernel_rfl) ?_ _
      all_goals go_wp2
      all_goals
        have hbX : Below w.heap.size w w2 := (hac.trans ((bthen hbW hbF).mono hac.size))
        have hx := row3 (row3_set (x := .bool b) (y := r1) (z := r2) hvr)
        obtain ⟨hx0, hx1, hx2, -, -, -⟩ := hx
        have hN1 := natv_row3 (x := .bool b) (y := r1) (z := r2) IsS.nil IsS.nil (N1.out.below hbF) hvr
        have hN2 := natv_row3 (x := .bool b) (y := r1) (z := r2) IsS.nil IsS.nil (N2.out.below hbF) hvr
        have hbY := bset (i := 2) (u := r2) (bset (i := 1) (u := r1) (bset (i := 0) (u := .bool b) hbX (Nat.le_succ _)) (Nat.le_succ _)) (Nat.le_succ _)
        refine bodyPost_ret (v := .tuple #[.agg #[.bool b, r1, r2], .bool false]) ?_ rfl ⟨_, rfl, r1, r2, ?_, hN1, hN2, hbY⟩
        · simp [results, Tryz.results67, go_sem, hx0, hx1, hx2]
        · rw [← HF.out]; rfl
    | true =>
      go_upto_region 2 with fail
      have hN1 := Lib.hid (show w.heap.size + 1 ≠ w.heap.size by omega)
      have hN2 := Lib.hid (show w.heap.size + 1 ≠ g by have := Hg.out; have := HWs.out; omega)
      have HRc := Lib.hid (keep_row hbW HR.out)
      have hgb : nl (Nat.gcd (wv ns) (wv ds)) ≤ 400000 := by
        rcases Nat.eq_zero_or_pos (wv ns) with h | h
        · rw [h, Nat.gcd_zero_left]; omega
        · have := nl_mono (Nat.gcd_le_left (wv ds) h); omega
      have h1b : nl 1 ≤ 4 := nl_le4 (by decide)
      obtain ⟨c, hc⟩ : ∃ c, c = decide (Nat.gcd (wv ns) (wv ds) = 1) := ⟨_, rfl⟩
      have tc : (cmpN (Nat.gcd (wv ns) (wv ds)) 1 == 0) = c := by
        rw [hc]
        by_cases hh : Nat.gcd (wv ns) (wv ds) = 1
        · rw [decide_eq_true hh, beq_iff_eq, hh, cmpN_eq]
        · rw [decide_eq_false hh, beq_eq_false_iff_ne]
          exact fun h => hh ((cmpN_zero _ _).1 h)
      have Hcd := Lib.hid hc
      clear hc
      obtain ⟨cm, hcm⟩ : ∃ cm, cm = cmpN (Nat.gcd (wv ns) (wv ds)) 1 := ⟨_, rfl⟩
      rw [← hcm] at tc
      have Hcm := Lib.hid hcm
      clear hcm
      first
        | (go_region_held3 (fun w' => w'.cell? ⟨w.heap.size, 0, none⟩ = some (.bool b) ∧ w'.cell? ⟨w.heap.size, 1, none⟩ = some v1 ∧ w'.cell? ⟨w.heap.size, 2, none⟩ = some v2 ∧ w'.cell? ⟨g, 0, none⟩ = some (.bool b) ∧ w'.cell? ⟨g, 1, none⟩ = some r1 ∧ w'.cell? ⟨g, 2, none⟩ = some r2)
            ((first | (refine ks6 e0 e1 e2 d0 d1 d2 ?_; first | assumption | exact Below.drew hcc) | exact ks6_set hN1.out hN2.out (ks6_set hN1.out hN2.out (ks6_set hN1.out hN2.out (ks6 e0 e1 e2 d0 d1 d2 (by assumption))))))
            (first
              | (go_at_call 15; refine (HcF.out _ (Below.drew hcc)).mono ?_; rintro _ w2 ⟨rfl, hbF⟩)
              | (go_at_call 68; refine (spGcd r1 r2 _ _ _ (N1.out.below (by assumption)) (N2.out.below (by assumption)) (by omega) (by omega)).mono ?_; rintro _ w3 ⟨gv, rfl, hgv, hbG⟩; have hSg := hgv.isS; have hbG2 : Below wc.heap.size wc w3 := bthen (by assumption) hbG)
              | (go_at_call 25; refine (spSmall 1 _ (by decide)).mono ?_; rintro _ w4 ⟨ov, rfl, hov, hbS⟩; have hSo := hov.isS; have hbS2 : Below wc.heap.size wc w4 := bthen hbG2 hbS; have hgv4 := hgv.below hbS)
              | (go_at_call 39; refine (spCmp _ _ _ _ _ hgv4 hov (by omega) (by omega)).mono ?_; rintro _ w5 ⟨rfl, hbC⟩; rw [← Hcm.out]; have hbC2 : Below wc.heap.size wc w5 := bthen hbS2 hbC; have hvr := keep_row hbC2 HRc.out; obtain ⟨hv0, hv1, hv2, hf0, hf1, hf2⟩ := row3 hvr)))
        | fail
      all_goals go_wp2
      all_goals
        have hbX : Below w.heap.size w w5 := (hac.trans ((bthen hbW hbC2).mono hac.size))
        have hx := row3 (row3_set (x := .bool b) (y := r1) (z := r2) hvr)
        obtain ⟨hx0, hx1, hx2, -, -, -⟩ := hx
        have hn1 := natv_row3 (x := .bool b) (y := r1) (z := r2) IsS.nil IsS.nil (N1.out.below hbC2) hvr
        have hn2 := natv_row3 (x := .bool b) (y := r1) (z := r2) IsS.nil IsS.nil (N2.out.below hbC2) hvr
        have hbY := bset (i := 2) (u := r2) (bset (i := 1) (u := r1) (bset (i := 0) (u := .bool b) hbX (Nat.le_succ _)) (Nat.le_succ _)) (Nat.le_succ _)
        refine bodyPost_ret (v := .tuple #[.agg #[.bool b, r1, r2], .bool c]) ?_ rfl ⟨_, rfl, r1, r2, ?_, hn1, hn2, hbY⟩
        · simp [results, Tryz.results67, go_sem, hx0, hx1, hx2]
        · rw [← HF.out, ← Hcd.out]; rfl
  go_region_held3 (fun w' => Below W.heap.size W w' ∧ w'.cell? ⟨w.heap.size, 0, none⟩ = some (.bool b) ∧ w'.cell? ⟨w.heap.size, 1, none⟩ = some v1 ∧ w'.cell? ⟨w.heap.size, 2, none⟩ = some v2)
    ((refine ks3 c0 c1 c2 ?_; first | assumption | exact Below.drew hWW | exact bthenL (by assumption) (by assumption) | exact ballcL _ (by assumption) | exact ballc (by assumption) _ | exact bset3 (by assumption) (Below.size (by assumption)) | exact bset3 (by assumption) (Nat.le_refl _)))
    (first
      | (go_at_call_of 45 v1; refine (spOf v1 ns _ (R1.out.below (And.left (by assumption))) (by omega)).mono ?_; rintro _ w2 ⟨r, rfl, hr, hb⟩; have hSra := hr.isS; have hbwa : Below W.heap.size W w2 := bthenL hb (by assumption); (first | (have hvr := box_row hb; obtain ⟨hv0, hv1, hv2, hf0, hf1, hf2⟩ := row3 hvr) | (have hvr := box_rowD hb; obtain ⟨hv0, hv1, hv2, hf0, hf1, hf2⟩ := row3 hvr) | (have hvr := keep_row hb (by assumption); obtain ⟨hv0, hv1, hv2, hf0, hf1, hf2⟩ := row3 hvr) | skip); have hra := hr; have hba := hb)
      | (go_at_call_of 45 v2; refine (spOf v2 ds _ (R2.out.below (And.left (by assumption))) (by omega)).mono ?_; rintro _ w2 ⟨r, rfl, hr, hb⟩; have hSrb := hr.isS; have hbwb : Below W.heap.size W w2 := bthenL hb (by assumption); (first | (have hvr := box_row hb; obtain ⟨hv0, hv1, hv2, hf0, hf1, hf2⟩ := row3 hvr) | (have hvr := box_rowD hb; obtain ⟨hv0, hv1, hv2, hf0, hf1, hf2⟩ := row3 hvr) | (have hvr := keep_row hb (by assumption); obtain ⟨hv0, hv1, hv2, hf0, hf1, hf2⟩ := row3 hvr) | skip); have hrb := hr; have hbb := hb))
  · have hn1 := hra.below hbb
    have ha := (Below.refl w2.heap.size w2).alloc (Nat.le_refl _)
    go_wp2_with fail
    go_meet
    exact ⟨_, _, _, rfl, hbwb.size, heap_alloc_new w2 _, hn1.below (ha _), hrb.below (ha _), ballc hbwb _⟩
  · have hn1 := (hra.below ((Below.refl _ _).alloc (Nat.le_refl _) _)).below hbb
    go_wp2_with fail
    go_meet
    exact ⟨_, _, _, rfl, hbwa.size, row3_set hvr, natv_row3 IsS.nil IsS.nil hn1 hvr, natv_row3 IsS.nil IsS.nil hrb hvr, bset3 hbwb hbwa.size⟩
  · have hn1 := hra.below hbb
    go_wp2_with fail
    go_meet
    exact ⟨_, _, _, rfl, Nat.le_refl _, row3_set hvr, natv_row3 IsS.nil IsS.nil hn1 hvr, natv_row3 IsS.nil IsS.nil hrb hvr, bset3 hbwb (Nat.le_refl _)⟩
end Go.Proofs.YtllhnjpnkmjopaaGreatDoor
