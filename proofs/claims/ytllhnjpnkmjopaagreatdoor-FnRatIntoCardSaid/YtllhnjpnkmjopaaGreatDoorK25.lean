/-
Texts of this proof, joined: NmE. No condition.
-/
import Derived.Test.YtllhnjpnkmjopaaGreatDoorK13
import Derived.Test.YtllhnjpnkmjopaaGreatDoorK24
namespace Go.Proofs.YtllhnjpnkmjopaaGreatDoor
open Go.RowKit

theorem StO.nrow {w : World} {B s L k T : Nat} {o : Option (Nat × Value)} {cs : Array Value} (h : StO w B s L o) (hr : w.heap[k]? = some (.cells cs T (0, 0))) (h1 : T ≠ 182) (h2 : T ≠ 204) (h3 : T ≠ 116) : ¬ SBk s o k := by
  intro hk
  match o, h with
  | none, ⟨_, g1, _⟩ =>
    rcases hk with rfl | ⟨_, h, _⟩
    · rw [hr] at g1; injection g1 with g1; injection g1 with _ g1; exact h1 g1
    · cases h
  | some qv, ⟨_, _, g2, g3, xs, g4, _⟩ =>
    rcases hk with rfl | ⟨_, h, h6 | ⟨h6, h7⟩⟩
    · rw [hr] at g2; injection g2 with g2; injection g2 with _ g2; exact h1 g2
    · cases h; rw [h6] at hr; rw [hr] at g3; injection g3 with g3; injection g3 with _ g3; exact h2 g3
    · cases h; exact g4.neRow hr h3 h6 h7
def NmF (g : Nat) (va vb : Value) (w w' : World) : Prop := ∀ k, k < w.heap.size → k ≠ g → (0 < sCap va → k ≠ sBlk va) → (0 < sCap vb → k ≠ sBlk vb) → w'.heap[k]? = w.heap[k]?
structure NmW (w0 : World) (va0 vb0 : Value) (g f s B N D G : Nat) (o : Option (Nat × Value)) (n m : Bool) (va vb rv : Value) (w : World) : Prop where
  row : w.heap[g]? = some (.cells #[.bool n, va, .bool m, vb] 112 (0, 0))
  rf : w.heap[f]? = some (.cells #[.bool false, rv] 110 (0, 0))
  oa : Own w B 116 va (cellsW (wds N))
  ob : Own w B 116 vb (cellsW (wds D))
  og : Own w B 116 rv (cellsW (wds G))
  ab : 0 < sCap va → 0 < sCap vb → sBlk va ≠ sBlk vb
  ag : 0 < sCap va → 0 < sCap rv → sBlk va ≠ sBlk rv
  bg : 0 < sCap vb → 0 < sCap rv → sBlk vb ≠ sBlk rv
  st : StO w B s 0 o
  na : 0 < sCap va → ¬ SBk s o (sBlk va)
  nb : 0 < sCap vb → ¬ SBk s o (sBlk vb)
  ng : 0 < sCap rv → ¬ SBk s o (sBlk rv)
  hg : B ≤ g
  tw : DivW w
  dg : 4 < B
  bl : Below B w0 w
  fr : NmF g va0 vb0 w0 w
  sw : ∀ k, SBk s o k → w0.heap.size ≤ k
  wa : 0 < sCap va → (0 < sCap va0 ∧ sBlk va = sBlk va0) ∨ w0.heap.size ≤ sBlk va
  wb : 0 < sCap vb → (0 < sCap vb0 ∧ sBlk vb = sBlk vb0) ∨ w0.heap.size ≤ sBlk vb
section
variable {w0 : World} {va0 vb0 : Value} {g f s B N D G : Nat} {o : Option (Nat × Value)} {n m : Bool} {va vb rv : Value} {w : World}
theorem NmW.below {w' : World} (h : NmW w0 va0 vb0 g f s B N D G o n m va vb rv w) (hb : Below w.heap.size w w') : NmW w0 va0 vb0 g f s B N D G o n m va vb rv w' :=
  ⟨keep_row hb h.row, keep_row hb h.rf, h.oa.below hb, h.ob.below hb, h.og.below hb, h.ab, h.ag, h.bg, h.st.below hb, h.na, h.nb, h.ng, h.hg, h.tw.below hb, h.dg, h.bl.trans (hb.mono (Nat.le_trans h.hg (Nat.le_of_lt (get_lt h.row)))), fun k hk a b c => (hb.block k (Nat.lt_of_lt_of_le hk h.bl.size)).trans (h.fr k hk a b c), h.sw, h.wa, h.wb⟩
theorem NmW.drewN (h : NmW w0 va0 vb0 g f s B N D G o n m va vb rv w) (k : Nat) : NmW w0 va0 vb0 g f s B N D G o n m va vb rv (w.drewN k) := h.below (undrewN' (Below.refl _ _))
theorem NmW.neRat {T : Nat} (h : NmW w0 va0 vb0 g f s B N D G o n m va vb rv w) {k : Nat} {cs : Array Value} (hr : w.heap[k]? = some (.cells cs T (0, 0))) (hT : T ≠ 112) : k ≠ g := fun he => by
  have := h.row
  rw [← he, hr] at this
  injection this with h1; injection h1 with _ h2; exact hT h2
theorem NmW.put {i : Nat} {u : Value} {n' m' : Bool} (h : NmW w0 va0 vb0 g f s B N D G o n m va vb rv w) (he : (#[.bool n, va, .bool m, vb] : Array Value).setIfInBounds i u = #[.bool n', va, .bool m', vb]) : NmW w0 va0 vb0 g f s B N D G o n' m' va vb rv (w.setCell ⟨g, i, none⟩ u) := by
  have h1 := rowset (i := i) u h.row
  rw [he] at h1
  have hns : ¬ SBk s o g := h.st.nrow h.row (by decide) (by decide) (by decide)
  refine ⟨h1, ?_, h.oa.away h.row (by decide) i u, h.ob.away h.row (by decide) i u, h.og.away h.row (by decide) i u, h.ab, h.ag, h.bg, h.st.keep fun k hk => ?_, h.na, h.nb, h.ng, h.hg, ?_, h.dg, bset h.bl h.hg, fun k hk a b c => (heap_setCell_other _ _ _ _ (by simpa using a)).trans (h.fr k hk a b c), h.sw, h.wa, h.wb⟩
  · rw [heap_setCell_other _ _ _ _ (by simpa using h.neRat h.rf (by decide))]; exact h.rf
  · exact heap_setCell_other _ _ _ _ (by simp only; intro he2; exact hns (he2 ▸ hk))
  · exact h.tw.belowB (bset (Below.refl B w) h.hg) h.dg
theorem NmW.divA {q : Value} {o' : Option (Nat × Value)} {w' : World} (h : NmW w0 va0 vb0 g f s B N D G o n m va vb rv w) (d : DvS va q (N / G) B s o o' w w') :
    w'.heap[g]? = some (.cells #[.bool n, va, .bool m, vb] 112 (0, 0)) ∧ NmW w0 va0 vb0 g f s B (N / G) D G o' n m q vb rv (w'.setCell ⟨g, 1, none⟩ q) := by
  have hz := d.below.size
  have hns : ¬ SBk s o g := h.st.nrow h.row (by decide) (by decide) (by decide)
  have hnf : ¬ SBk s o f := h.st.nrow h.rf (by decide) (by decide) (by decide)
  have r1 : w'.heap[g]? = some (.cells #[.bool n, va, .bool m, vb] 112 (0, 0)) := (d.fr g (get_lt h.row) hns (fun hc => h.oa.neRow h.row (by decide) hc)).trans h.row
  have r2 : w'.heap[f]? = some (.cells #[.bool false, rv] 110 (0, 0)) := (d.fr f (get_lt h.rf) hnf (fun hc => h.oa.neRow h.rf (by decide) hc)).trans h.rf
  have ob' : Own w' B 116 vb (cellsW (wds D)) := h.ob.same fun hc => d.fr _ (h.ob.lt hc).2 (h.nb hc) (fun ha => (h.ab ha hc).symm)
  have og' : Own w' B 116 rv (cellsW (wds G)) := h.og.same fun hc => d.fr _ (h.og.lt hc).2 (h.ng hc) (fun ha => (h.ag ha hc).symm)
  have hq : ∀ {v : Value} {xs : List Value}, Own w B 116 v xs → (0 < sCap va → 0 < sCap v → sBlk va ≠ sBlk v) → 0 < sCap q → 0 < sCap v → sBlk q ≠ sBlk v := fun {v xs} ho hv hc hcv he => by
    rcases d.at' hc with ⟨a, b⟩ | a
    · exact hv a hcv (b.symm.trans he)
    · have := (ho.lt hcv).2; omega
  have hs' : ∀ {v : Value} {xs : List Value}, Own w B 116 v xs → (0 < sCap v → ¬ SBk s o (sBlk v)) → 0 < sCap v → ¬ SBk s o' (sBlk v) := fun {v xs} ho hv hc hk => by
    rcases d.sb _ hk with a | a
    · exact hv hc a
    · have := (ho.lt hc).2; omega
  have hbz := h.bl.size
  have hsw : ∀ k, SBk s o' k → w0.heap.size ≤ k := fun k hk => by
    rcases d.sb k hk with a | a
    · exact h.sw k a
    · omega
  have hwq : 0 < sCap q → (0 < sCap va0 ∧ sBlk q = sBlk va0) ∨ w0.heap.size ≤ sBlk q := fun hc => by
    rcases d.at' hc with ⟨a, b⟩ | a
    · rcases h.wa a with ⟨x, y⟩ | x
      · exact .inl ⟨x, b.trans y⟩
      · exact .inr (by omega)
    · exact .inr (by omega)
  have hfr : ∀ k, k < w0.heap.size → k ≠ g → (0 < sCap va0 → k ≠ sBlk va0) → (0 < sCap vb0 → k ≠ sBlk vb0) → w'.heap[k]? = w0.heap[k]? := fun k hk a b c => by
    refine (d.fr k (by omega) (fun hs => by have := h.sw k hs; omega) (fun hc he => ?_)).trans (h.fr k hk a b c)
    rcases h.wa hc with ⟨x, y⟩ | x
    · exact b x (he.trans y)
    · omega
  have h1 := rowset (i := 1) q r1
  have hns' : ¬ SBk s o' g := d.st.nrow r1 (by decide) (by decide) (by decide)
  refine ⟨r1, h1, ?_, d.own.away r1 (by decide) 1 q, ob'.away r1 (by decide) 1 q, og'.away r1 (by decide) 1 q, hq h.ob h.ab, hq h.og h.ag, h.bg, d.st.keep fun k hk => ?_, d.nsq, hs' h.ob h.nb, hs' h.og h.ng, h.hg, ?_, h.dg, bset (h.bl.trans d.below) h.hg, fun k hk a b c => ?_, hsw, hwq, h.wb⟩
  · rw [heap_setCell_other _ _ _ _ (by simpa using h.neRat h.rf (by decide))]; exact r2
  · exact heap_setCell_other _ _ _ _ (by simp only; intro he2; exact hns' (he2 ▸ hk))
  · exact (h.tw.belowB d.below h.dg).belowB (bset (Below.refl B w') h.hg) h.dg
  · exact (heap_setCell_other _ _ _ _ (by simpa using a)).trans (hfr k hk a b c)
theorem NmW.divB {q : Value} {o' : Option (Nat × Value)} {w' : World} (h : NmW w0 va0 vb0 g f s B N D G o n m va vb rv w) (d : DvS vb q (D / G) B s o o' w w') :
    w'.heap[g]? = some (.cells #[.bool n, va, .bool m, vb] 112 (0, 0)) ∧ NmW w0 va0 vb0 g f s B N (D / G) G o' n m va q rv (w'.setCell ⟨g, 3, none⟩ q) := by
  have hz := d.below.size
  have hns : ¬ SBk s o g := h.st.nrow h.row (by decide) (by decide) (by decide)
  have hnf : ¬ SBk s o f := h.st.nrow h.rf (by decide) (by decide) (by decide)
  have r1 : w'.heap[g]? = some (.cells #[.bool n, va, .bool m, vb] 112 (0, 0)) := (d.fr g (get_lt h.row) hns (fun hc => h.ob.neRow h.row (by decide) hc)).trans h.row
  have r2 : w'.heap[f]? = some (.cells #[.bool false, rv] 110 (0, 0)) := (d.fr f (get_lt h.rf) hnf (fun hc => h.ob.neRow h.rf (by decide) hc)).trans h.rf
  have oa' : Own w' B 116 va (cellsW (wds N)) := h.oa.same fun hc => d.fr _ (h.oa.lt hc).2 (h.na hc) (fun hb => h.ab hc hb)
  have og' : Own w' B 116 rv (cellsW (wds G)) := h.og.same fun hc => d.fr _ (h.og.lt hc).2 (h.ng hc) (fun hb => (h.bg hb hc).symm)
  have hq : ∀ {v : Value} {xs : List Value}, Own w B 116 v xs → (0 < sCap vb → 0 < sCap v → sBlk vb ≠ sBlk v) → 0 < sCap q → 0 < sCap v → sBlk q ≠ sBlk v := fun {v xs} ho hv hc hcv he => by
    rcases d.at' hc with ⟨a, b⟩ | a
    · exact hv a hcv (b.symm.trans he)
    · have := (ho.lt hcv).2; omega
  have hs' : ∀ {v : Value} {xs : List Value}, Own w B 116 v xs → (0 < sCap v → ¬ SBk s o (sBlk v)) → 0 < sCap v → ¬ SBk s o' (sBlk v) := fun {v xs} ho hv hc hk => by
    rcases d.sb _ hk with a | a
    · exact hv hc a
    · have := (ho.lt hc).2; omega
  have hbz := h.bl.size
  have hsw : ∀ k, SBk s o' k → w0.heap.size ≤ k := fun k hk => by
    rcases d.sb k hk with a | a
    · exact h.sw k a
    · omega
  have hwq : 0 < sCap q → (0 < sCap vb0 ∧ sBlk q = sBlk vb0) ∨ w0.heap.size ≤ sBlk q := fun hc => by
    rcases d.at' hc with ⟨a, b⟩ | a
    · rcases h.wb a with ⟨x, y⟩ | x
      · exact .inl ⟨x, b.trans y⟩
      · exact .inr (by omega)
    · exact .inr (by omega)
  have hfr : ∀ k, k < w0.heap.size → k ≠ g → (0 < sCap va0 → k ≠ sBlk va0) → (0 < sCap vb0 → k ≠ sBlk vb0) → w'.heap[k]? = w0.heap[k]? := fun k hk a b c => by
    refine (d.fr k (by omega) (fun hs => by have := h.sw k hs; omega) (fun hc he => ?_)).trans (h.fr k hk a b c)
    rcases h.wb hc with ⟨x, y⟩ | x
    · exact c x (he.trans y)
    · omega
  have h1 := rowset (i := 3) q r1
  have hns' : ¬ SBk s o' g := d.st.nrow r1 (by decide) (by decide) (by decide)
  refine ⟨r1, h1, ?_, oa'.away r1 (by decide) 3 q, d.own.away r1 (by decide) 3 q, og'.away r1 (by decide) 3 q, fun ha hc => (hq h.oa (fun x y => (h.ab y x).symm) hc ha).symm, h.ag, hq h.og h.bg, d.st.keep fun k hk => ?_, hs' h.oa h.na, d.nsq, hs' h.og h.ng, h.hg, ?_, h.dg, bset (h.bl.trans d.below) h.hg, fun k hk a b c => ?_, hsw, h.wa, hwq⟩
  · rw [heap_setCell_other _ _ _ _ (by simpa using h.neRat h.rf (by decide))]; exact r2
  · exact heap_setCell_other _ _ _ _ (by simp only; intro he2; exact hns' (he2 ▸ hk))
  · exact (h.tw.belowB d.below h.dg).belowB (bset (Below.refl B w') h.hg) h.dg
  · exact (heap_setCell_other _ _ _ _ (by simpa using a)).trans (hfr k hk a b c)
theorem NmW.callA (h : NmW w0 va0 vb0 g f s B N D G o n m va vb rv w) (hG : 0 < G) (hN : 0 < N) (hg40 : nw G < 40) (hn : nw N ≤ 90000) : Calls Tryz.prog 165 #[va, .pointer (some ⟨s, 0, none⟩), .slice none 0 0, va, rv] w fun e w' => ∃ q r, e = .returned (.tuple #[q, r]) ∧ IsS q ∧ IsS r ∧ ∃ o', DvS va q (N / G) B s o o' w w' := by
  have hca : 0 < sCap va := by have h1 := h.oa.len; have h2 := h.oa.isS.le; rw [cellsW_length, wds_length] at h1; have := nw_pos hN; omega
  have hcg : 0 < sCap rv := by have h1 := h.og.len; have h2 := h.og.isS.le; rw [cellsW_length, wds_length] at h1; have := nw_pos hG; omega
  refine (div_to va va rv _ N G B s o w h.st h.oa h.na (h.oa.ro (fun d hd => wds_lt hd)) (Al.self _) (h.na hca) (h.og.ro (fun d hd => wds_lt hd)) (h.ng hcg) hG hg40 hn (Nat.le_trans h.hg (Nat.le_of_lt (get_lt h.row))) h.tw h.dg).mono ?_
  rintro e w' ⟨q, r, h1, o', h2, h3, -⟩
  exact ⟨q, r, h1, h2.own.isS, h3.isS, o', h2⟩
theorem NmW.callB (h : NmW w0 va0 vb0 g f s B N D G o n m va vb rv w) (hG : 0 < G) (hD : 0 < D) (hg40 : nw G < 40) (hn : nw D ≤ 90000) : Calls Tryz.prog 165 #[vb, .pointer (some ⟨s, 0, none⟩), .slice none 0 0, vb, rv] w fun e w' => ∃ q r, e = .returned (.tuple #[q, r]) ∧ IsS q ∧ IsS r ∧ ∃ o', DvS vb q (D / G) B s o o' w w' := by
  have hca : 0 < sCap vb := by have h1 := h.ob.len; have h2 := h.ob.isS.le; rw [cellsW_length, wds_length] at h1; have := nw_pos hD; omega
  have hcg : 0 < sCap rv := by have h1 := h.og.len; have h2 := h.og.isS.le; rw [cellsW_length, wds_length] at h1; have := nw_pos hG; omega
  refine (div_to vb vb rv _ D G B s o w h.st h.ob h.nb (h.ob.ro (fun d hd => wds_lt hd)) (Al.self _) (h.nb hca) (h.og.ro (fun d hd => wds_lt hd)) (h.ng hcg) hG hg40 hn (Nat.le_trans h.hg (Nat.le_of_lt (get_lt h.row))) h.tw h.dg).mono ?_
  rintro e w' ⟨q, r, h1, o', h2, h3, -⟩
  exact ⟨q, r, h1, h2.own.isS, h3.isS, o', h2⟩
structure NmP (g B N D : Nat) (n : Bool) (va vb : Value) (w w' : World) : Prop where
  rat : RatP w' B g n N D
  bl : Below B w w'
  fr : NmF g va vb w w'
theorem NmW.fin {q0 : Nat} {v0 : Value} (h : NmW w0 va0 vb0 g f s B N D G (some (q0, v0)) n false va vb rv w) : w.heap[s]? = some (.cells #[.pointer (some ⟨q0, 0, none⟩)] 182 (0, 0)) ∧ w.heap[q0]? = some (.cells #[v0] 204 (0, 0)) ∧ IsS v0 ∧ NmP g B N D n va0 vb0 w0 (w.setCell ⟨q0, 0, none⟩ (subS v0 0 0)) := by
  obtain ⟨_, h1, h2, h3, xs, h4, _⟩ := h.st
  simp only at h1 h2 h3 h4
  have hq := h.sw q0 (.inr ⟨_, rfl, .inl rfl⟩)
  refine ⟨h2, h3, h4.isS, ⟨va, vb, h.hg, ?_, h.oa.away h3 (by decide) 0 _, h.ob.away h3 (by decide) 0 _⟩, bset h.bl h1, fun k hk a b c => (heap_setCell_other _ _ _ _ (by simp only; omega)).trans (h.fr k hk a b c)⟩
  rw [heap_setCell_other _ _ _ _ (by simpa using (h.neRat h3 (by decide)).symm)]; exact h.row
theorem NmW.fin0 (h : NmW w0 va0 vb0 g f s B N D G none n false va vb rv w) : w.cell? ⟨s, 0, none⟩ = some (.pointer none) ∧ NmP g B N D n va0 vb0 w0 w := by
  obtain ⟨_, h1, _⟩ := h.st
  exact ⟨(row_at (i := 0) h1 rfl).1, ⟨va, vb, h.hg, h.row, h.oa, h.ob⟩, h.bl, h.fr⟩
end
end Go.Proofs.YtllhnjpnkmjopaaGreatDoor
