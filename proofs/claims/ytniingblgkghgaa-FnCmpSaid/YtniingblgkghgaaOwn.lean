/-
Slices that a call owns: what append, make and stores do to them. No condition.
-/
import Derived.Test.YtniingblgkghgaaBase
import Derived.Deep.AppendSrc
namespace Go.Proofs.Ytniingblgkghgaa
open Go.RowKit

/-- v is a slice of elements of one cell, in a block from B on (or without room), whose elements are xs. -/
structure Own (w : World) (B : Nat) (e : TypeId) (v : Value) (xs : List Value) : Prop where
  isS : IsS v
  len : sLen v = xs.length
  cap : sCap v ≤ maxLen
  row : sCap v = 0 ∨ (B ≤ sBlk v ∧ ∃ cur, w.heap[sBlk v]? = some (.cells cur e (0, 0)) ∧ sOff v + sCap v ≤ cur.size ∧ (cur.toList.drop (sOff v)).take xs.length = xs)

/-- Nothing but block b has turned of what was there. -/
def Only (b : Nat) (w w' : World) : Prop := ∀ k, k < w.heap.size → k ≠ b → w'.heap[k]? = w.heap[k]?

/-- The facts of an element type of one cell. -/
structure ElemT (P : Program) (t e : TypeId) (bytes : Nat) (z : Value) : Prop where
  ht : P.underlying t = some (.slice e)
  info : ∃ i, P.info? e = some i ∧ i.zero = some z ∧ i.size = 1 ∧ i.bytes = bytes ∧ z.cells = #[z]

theorem Own.nil (w : World) (B : Nat) (e : TypeId) : Own w B e (.slice none 0 0) [] := ⟨.nil, rfl, Nat.zero_le _, .inl rfl⟩
theorem Own.zero (w : World) (B : Nat) (e : TypeId) (b o : Nat) : Own w B e (.slice (some ⟨b, o, none⟩) 0 0) [] := ⟨IsS.mk (Nat.le_refl _), rfl, Nat.zero_le _, .inl rfl⟩
theorem Own.lt {w : World} {B : Nat} {e : TypeId} {v : Value} {xs : List Value} (h : Own w B e v xs) (hc : 0 < sCap v) : B ≤ sBlk v ∧ sBlk v < w.heap.size := by
  rcases h.row with h0 | ⟨hb, cur, hg, _⟩
  · omega
  · exact ⟨hb, (Array.getElem?_eq_some_iff.1 hg).1⟩
theorem Own.same {w w' : World} {B : Nat} {e : TypeId} {v : Value} {xs : List Value} (h : Own w B e v xs) (hs : 0 < sCap v → w'.heap[sBlk v]? = w.heap[sBlk v]?) : Own w' B e v xs := by
  refine ⟨h.isS, h.len, h.cap, ?_⟩
  rcases h.row with h0 | ⟨hb, cur, hg, r⟩
  · exact .inl h0
  · by_cases hc : sCap v = 0
    · exact .inl hc
    · exact .inr ⟨hb, cur, by rw [hs (by omega)]; exact hg, r⟩
theorem Own.mono {w : World} {B B' : Nat} {e : TypeId} {v : Value} {xs : List Value} (h : Own w B e v xs) (hB : B' ≤ B) : Own w B' e v xs :=
  ⟨h.isS, h.len, h.cap, h.row.imp id fun ⟨hb, r⟩ => ⟨Nat.le_trans hB hb, r⟩⟩
theorem Own.alloc {w : World} {B : Nat} {e : TypeId} {v : Value} {xs : List Value} (h : Own w B e v xs) (o : Obj) : Own (w.alloc o) B e v xs :=
  h.same fun hc => heap_alloc_old w o (h := (h.lt hc).2)
theorem Own.drew {w : World} {B : Nat} {e : TypeId} {v : Value} {xs : List Value} (h : Own w B e v xs) : Own w.drew B e v xs :=
  h.same fun _ => rfl
theorem Own.drewN {w : World} {B : Nat} {e : TypeId} {v : Value} {xs : List Value} (h : Own w B e v xs) (n : Nat) : Own (w.drewN n) B e v xs :=
  h.same fun _ => rfl
/-- What is owned reads. -/
theorem Own.cell {w : World} {B : Nat} {e : TypeId} {v : Value} {xs : List Value} (h : Own w B e v xs) {i : Nat} {u : Value} (hi : xs[i]? = some u) : w.cell? ⟨sBlk v, sOff v + i, none⟩ = some u := by
  have hl := h.len
  have hcap := h.isS.le
  have hlt : i < xs.length := (List.getElem?_eq_some_iff.1 hi).1
  rcases h.row with h0 | ⟨hb, cur, hg, hsz, ht⟩
  · omega
  · rw [cell_of_row w _ _ cur e (0, 0) hg]
    rw [← ht, List.getElem?_take, if_pos hlt, List.getElem?_drop] at hi
    simpa using hi
theorem Own.rd {w : World} {B : Nat} {e : TypeId} {v : Value} {k : IntKind} {xs : List Int} (h : Own w B e v (xs.map (Value.int k))) : RI k w v xs := by
  refine ⟨h.isS, by simpa using h.len, fun i hi => h.cell ?_⟩
  simp [List.getD_eq_getElem?_getD, List.getElem?_eq_getElem hi]
theorem Own.frozen {w : World} {B : Nat} {e : TypeId} {v : Value} {xs : List Value} (h : Own w B e v xs) (hc : 0 < sCap v) (i : Nat) : w.frozen? ⟨sBlk v, i, none⟩ = false := by
  rcases h.row with h0 | ⟨hb, cur, hg, hsz, ht⟩
  · omega
  · exact frozen_of_row w _ _ cur e hg
theorem Own.sub {w : World} {B : Nat} {e : TypeId} {v : Value} {xs : List Value} (h : Own w B e v xs) {l n : Nat} (h1 : l ≤ n) (h2 : n ≤ xs.length) :
    Own w B e (subS v l n) ((xs.take n).drop l) := by
  have hl := h.len
  have hcap := h.isS.le
  have hc2 := h.cap
  refine ⟨subS_isS h.isS h1 (by omega), by rw [subS_len h.isS]; simp; omega, by rw [subS_cap h.isS]; omega, ?_⟩
  rw [subS_cap h.isS, subS_blk h.isS]
  rcases h.row with h0 | ⟨hb, cur, hg, hsz, ht⟩
  · left; omega
  · by_cases hlc : sCap v = l
    · left; omega
    · right
      refine ⟨hb, cur, hg, ?_, ?_⟩
      · rw [subS_off h.isS (by omega)]; omega
      · rw [subS_off h.isS (by omega)]
        have e1 : ((xs.take n).drop l).length = n - l := by simp; omega
        rw [e1]
        conv => rhs; rw [← ht]
        rw [List.take_take, List.drop_take, List.drop_drop, show min n xs.length = n by omega]
/-- An element is stored. -/
theorem Own.set {w : World} {B : Nat} {e : TypeId} {v : Value} {xs : List Value} (h : Own w B e v xs) {i : Nat} (_hi : i < xs.length) (u : Value) :
    Own (w.setCell ⟨sBlk v, sOff v + i, none⟩ u) B e v (xs.set i u) := by
  have hl := h.len
  have hcap := h.isS.le
  refine ⟨h.isS, by simpa using h.len, h.cap, ?_⟩
  rcases h.row with h0 | ⟨hb, cur, hg, hsz, ht⟩
  · exact .inl h0
  · refine .inr ⟨hb, _, heap_setCell_same w _ _ _ _ _ hg, by simpa using hsz, ?_⟩
    rw [Array.toList_setIfInBounds, List.length_set]
    rw [List.drop_set, if_neg (by omega), Nat.add_sub_cancel_left, List.take_set, ht]
theorem Only.trans {b : Nat} {w1 w2 w3 : World} (h : Only b w1 w2) (hz : w1.heap.size ≤ w2.heap.size) (h' : Only b w2 w3) : Only b w1 w3 :=
  fun k hk hb => (h' k (by omega) hb).trans (h k hk hb)
theorem Only.refl (b : Nat) (w : World) : Only b w w := fun _ _ _ => rfl

/-- A list of values laid into a row from place o on. -/
def laid (cur : List Value) (o : Nat) (vs : List Value) : List Value := cur.take o ++ vs ++ cur.drop (o + vs.length)
theorem laid_length {cur : List Value} {o : Nat} {vs : List Value} (h : o + vs.length ≤ cur.length) : (laid cur o vs).length = cur.length := by
  simp [laid]; omega
theorem setCells_row (b : Nat) (e : TypeId) (fr : Nat × Nat) : ∀ (vs : List Value) (o : Nat) (w : World) (cur : Array Value), w.heap[b]? = some (.cells cur e fr) → o + vs.length ≤ cur.size →
    (w.setCells b o vs).heap[b]? = some (.cells (laid cur.toList o vs).toArray e fr)
  | [], o, w, cur, h, _ => by simp [World.setCells, laid, h]
  | v :: vs, o, w, cur, h, hl => by
    simp only [World.setCells]
    have h1 : (w.setCell ⟨b, o, none⟩ v).heap[b]? = some (.cells (cur.setIfInBounds o v) e fr) := by
      simp [World.setCell, Array.getElem?_modify, h]
    have hl' : o + 1 + vs.length ≤ (cur.setIfInBounds o v).size := by simp at hl ⊢; omega
    rw [setCells_row b e fr vs (o + 1) _ _ h1 hl']
    congr 2
    simp only [List.length_cons] at hl
    have ho : o < cur.toList.length := by simp; omega
    simp only [laid, Array.toList_setIfInBounds]
    rw [List.take_set, List.take_succ_eq_append_getElem ho, List.drop_set_of_lt (by omega)]
    simp [List.set_append, Nat.add_assoc, Nat.add_comm 1]
    rw [if_neg (by omega)]
    have : o - min o cur.size = 0 := by omega
    rw [this]; simp
theorem setCells_other (b : Nat) : ∀ (vs : List Value) (o : Nat) (w : World) (k : Nat), k ≠ b → (w.setCells b o vs).heap[k]? = w.heap[k]?
  | [], _, _, _, _ => rfl
  | v :: vs, o, w, k, h => by
    simp only [World.setCells]
    rw [setCells_other b vs (o + 1) _ k h, heap_setCell_other w ⟨b, o, none⟩ k v h]
theorem setCells_size (b : Nat) : ∀ (vs : List Value) (o : Nat) (w : World), (w.setCells b o vs).heap.size = w.heap.size
  | [], _, _ => rfl
  | v :: vs, o, w => by simp only [World.setCells]; rw [setCells_size b vs]; simp [World.setCell]
theorem setCells_rest (b : Nat) : ∀ (vs : List Value) (o : Nat) (w : World), (w.setCells b o vs).os = w.os ∧ (w.setCells b o vs).tape = w.tape ∧ (w.setCells b o vs).output = w.output
  | [], _, _ => ⟨rfl, rfl, rfl⟩
  | v :: vs, o, w => by simp only [World.setCells]; exact setCells_rest b vs (o + 1) _
theorem setCells_below {b B o : Nat} {vs : List Value} {w : World} (hB : B ≤ b) : Below B w (w.setCells b o vs) :=
  ⟨(setCells_rest b vs o w).1, (setCells_rest b vs o w).2.1, (setCells_rest b vs o w).2.2, by rw [setCells_size]; exact Nat.le_refl _, fun k hk => setCells_other b vs o w k (by omega)⟩

theorem bset {B b i : Nat} {a w : World} {u : Value} (h : Below B a w) (hb : B ≤ b) : Below B a (w.setCell ⟨b, i, none⟩ u) := h.setCell (p := ⟨b, i, none⟩) hb u
theorem undrewN {B n : Nat} {w w' : World} (h : Below B (w.drewN n) w') : Below B w w' := ⟨h.os, h.tape, h.output, h.size, h.block⟩
theorem undrewN' {B n : Nat} {w w' : World} (h : Below B w w') : Below B w (w'.drewN n) := ⟨h.os, h.tape, h.output, h.size, h.block⟩
theorem undrew {B : Nat} {w w' : World} (h : Below B w.drew w') : Below B w w' := ⟨h.os, h.tape, h.output, h.size, h.block⟩
/-- append onto what is owned. -/
theorem run_append_Own {P : Program} {t tx e : TypeId} {bytes : Nat} {z : Value} (E : ElemT P t e bytes z) (ty : TypeId) {w : World} {B : Nat} {v : Value} {xs : List Value} (h : Own w B e v xs)
    {x : Value} {n : Nat} {news : List Value} (hs : Src P 1 tx x n news w) (h63 : xs.length + n ≤ maxLen) (hby : (xs.length + n) * bytes ≤ 140737488355328) (hB : B ≤ w.heap.size) :
    ∃ v' w', (Builtin.append_ #[t, tx] ty #[v, x]).run P w = .ok v' w' ∧ Own w' B e v' (xs ++ news) ∧ Below B w w' ∧ Only (sBlk v) w w' ∧ (sBlk v' = sBlk v ∨ w.heap.size ≤ sBlk v') ∧ (0 < xs.length + n → 0 < sCap v') := by
  obtain ⟨i, hi, hz, hsz, hb, hzc0⟩ := E.info
  have hzc : z.cells.size = 1 := by rw [hzc0]; rfl
  have ht := E.ht
  have hnl : news.length = n := by simpa using hs.newsLen
  have hl := h.len
  have hcap := h.isS.le
  have h63' : xs.length + n ≤ 9223372036854775807 := by simp only [maxLen] at h63; omega
  have hs' : Src P i.size tx x n news w := by rw [hsz]; exact hs
  subst hb
  by_cases hroom : xs.length + n ≤ sCap v
  · by_cases hc0 : sCap v = 0
    · obtain ⟨a, rfl⟩ := h.isS.out0 hc0
      have hn0 : n = 0 := by omega
      subst hn0
      have hx0 : xs = [] := List.eq_nil_of_length_eq_zero (by omega)
      have hw0 : news = [] := List.eq_nil_of_length_eq_zero (by omega)
      subst hx0; subst hw0
      refine ⟨.slice a 0 0, w, ?_, by simpa using h, Below.refl _ _, Only.refl _ _, .inl rfl, by simp⟩
      rcases hs.kind with ⟨e', hk⟩ | hk <;> cases a <;> simp [Builtin.append_, run_underlying ht, run_underlying hk, sizeOf, typeInfo, hi, hs'.len, hs'.cells, storeCells]
    · obtain ⟨hBb, cur, hg, hsz2, htk⟩ := h.row.resolve_left hc0
      have hv := h.isS.out (by omega)
      have hr := run_append_room_src (P := P) w t tx ty e i ht hi (sBlk v) (sOff v) (sLen v) (sCap v) x n news hs' (by omega)
        (fun j hj => by rw [cell_of_row w _ _ cur e (0, 0) hg, Array.getElem?_eq_getElem (by rw [hsz]; omega)]; rfl) (fun j hj => frozen_of_row w _ _ cur e hg)
      rw [← hv] at hr
      rw [hsz, Nat.mul_one] at hr
      have hin : sOff v + sLen v + news.length ≤ cur.size := by omega
      refine ⟨_, _, hr, ⟨IsS.mk (by omega), by rw [sLen_mk]; simp; omega, h.cap, .inr ⟨hBb, _, setCells_row _ _ _ _ _ _ _ hg hin, ?_, ?_⟩⟩, setCells_below hBb, fun k _ hk => setCells_other _ _ _ _ k hk, .inl rfl, fun _ => by rw [sCap_mk]; omega⟩
      · rw [sOff_mk, sCap_mk, List.size_toArray, laid_length (by simpa using hin)]; simpa using hsz2
      · simp only [sOff_mk, laid]
        rw [List.append_assoc, List.drop_append_of_le_length (by simp; omega), List.drop_take, Nat.add_sub_cancel_left, hl, htk]
        rw [← List.append_assoc, List.take_left]
  · have hcl : sCap v < sLen v + n := by omega
    have hold : (Builtin.firstCells i.size (sLen v) v).run P w.drew = .ok xs.toArray w.drew := by
      by_cases hc0 : sCap v = 0
      · obtain ⟨a, rfl⟩ := h.isS.out0 hc0
        have hx0 : xs = [] := List.eq_nil_of_length_eq_zero (by rw [← hl]; rfl)
        subst hx0
        cases a <;> simp [Builtin.firstCells, sLen, loadCells, loadCellsFrom]
      · have hv := h.isS.out (by omega)
        conv => lhs; rw [hv]
        rw [hsz, hl]
        exact run_firstCells_some w.drew 1 xs.length _ _ _ xs (by simp) (fun j u hj => by rw [Addr.add_mk]; exact h.cell hj)
    have hvv : ∃ a, v = .slice a (sLen v) (sCap v) := by
      match v, h.isS with
      | .slice a n c, _ => exact ⟨a, rfl⟩
    obtain ⟨a, hv⟩ := hvv
    rw [hv] at hold
    have hge := grownCap_ge w (xs.length + n) (sCap v) e
    have hcm := grownCap_le_maxLen w (xs.length + n) (sCap v) e h63
    have hr := run_append_grow_src (P := P) w t tx ty e i z ht hi hz a (sLen v) (sCap v) xs hold x n news hs' hcl (by omega) (growslice_fits hcl (by rw [hl]; exact hby))
    rw [← hv, hl] at hr
    refine ⟨_, _, hr, ⟨IsS.mk hge, by rw [sLen_mk]; simp; omega, hcm, .inr ⟨hB, _, heap_alloc_new w.drew _, ?_, ?_⟩⟩, (Below.refl _ _).drew.alloc (by simpa using hB) _, fun k hk _ => heap_alloc_old w.drew _ hk, .inr (Nat.le_refl _), fun hp => by rw [sCap_mk]; omega⟩
    · simp only [sOff_mk, sCap_mk, Array.size_append, List.size_toArray, size_zeroCells, hzc, List.length_append]; omega
    · simp only [sOff_mk, Array.toList_append, List.drop_zero]; exact List.take_left
/-- append at an operation of the walk. -/
theorem wpList_append_O {P : Program} {ops : Array Oper} {rest : List Oper} {o : Oper} {a : Act} {Q : Exit → Act → World → Prop} {w : World} (hgd : o.guard = none) (s x : Operand) (t tx : TypeId)
    (ho : o.op = .call { callee := .builtin .append, args := #[s, x], argTypes := #[t, tx] }) {e : TypeId} {bytes : Nat} {z : Value} (E : ElemT P t e bytes z)
    (B : Nat) (v : Value) (xs : List Value) (hs : a.eval s = v) (hown : Own w B e v xs) (vx : Value) (hx : a.eval x = vx) (n : Nat) (news : List Value) (hsrc : Src P 1 tx vx n news w)
    (h63 : xs.length + n ≤ maxLen) (hbytes : (xs.length + n) * bytes ≤ 140737488355328) (hbase : B ≤ w.heap.size)
    (h : ∀ v' w', Own w' B e v' (xs ++ news) → Below B w w' → Only (sBlk v) w w' → (sBlk v' = sBlk v ∨ w.heap.size ≤ sBlk v') → (0 < xs.length + n → 0 < sCap v') → wpList P ops Q rest (a.put o.dst v') w') : wpList P ops Q (o :: rest) a w := by
  obtain ⟨v', w', hr, h1, h2, h3, h4, h5⟩ := run_append_Own E o.type hown hsrc h63 hbytes hbase
  refine wpList_plain hgd fun K hK => ?_
  unfold Oper.wp execOp
  simp only [ho, resolve, invoke, builtin, Sem.run_bind, Sem.run_pure, Result.andThen_ok, List.map_toArray, List.map_cons, List.map_nil, hs, hx, hr]
  exact hK _ _ (h v' w' h1 h2 h3 h4 h5)

theorem madeCells_one (z : Value) (n : Nat) : (madeCells #[z] n).toList = List.replicate n z := by
  apply List.ext_getElem
  · simp [madeCells]
  · intro i h1 h2
    simp [madeCells, Nat.mod_one]
/-- make at an operation of the walk. -/
theorem wpList_make_O {P : Program} {ops : Array Oper} {rest : List Oper} {o : Oper} {a : Act} {Q : Exit → Act → World → Prop} {w : World} (hgd : o.guard = none) (lo co : Operand) (t : TypeId)
    (ho : o.op = .makeSlice t lo co) {e : TypeId} {bytes : Nat} {z : Value} (E : ElemT P t e bytes z) (kl kc : IntKind) (l c : Int) (hl : a.eval lo = .int kl l) (hc : a.eval co = .int kc c)
    (B : Nat) (h0 : 0 ≤ l) (hlc : l ≤ c) (hb : (bytes : Int) * c ≤ 281474976710656) (h63 : c ≤ 9223372036854775807) (hB : B ≤ w.heap.size)
    (h : ∀ v w', v = .slice (some ⟨w.heap.size, 0, none⟩) l.toNat c.toNat → Own w' B e v (List.replicate l.toNat z) → Below w.heap.size w w' → w.heap.size < w'.heap.size → wpList P ops Q rest (a.put o.dst v) w') : wpList P ops Q (o :: rest) a w := by
  obtain ⟨i, hi, hz, hsz, hbb, hzc⟩ := E.info
  subst hbb
  have hr := run_make (P := P) w t e i z E.ht hi hz kl kc l c h0 hlc hb h63
  rw [hsz, Nat.mul_one, hzc] at hr
  have hlt : l.toNat ≤ c.toNat := by omega
  refine wpList_plain hgd fun K hK => ?_
  unfold Oper.wp execOp
  simp only [ho, Sem.run_bind, Sem.run_pure, Result.andThen_ok, hl, hc, hr]
  refine hK _ _ (h _ _ rfl ⟨IsS.mk hlt, by simp, by rw [sCap_mk]; unfold maxLen; omega, .inr ⟨hB, _, heap_alloc_new w _, by simp [size_madeCells], ?_⟩⟩ ((Below.refl _ _).alloc (Nat.le_refl _) _) (by simp))
  simp only [sOff_mk, List.drop_zero, madeCells_one, List.length_replicate, List.take_replicate]
  rw [show min l.toNat c.toNat = l.toNat by omega]
/-- One integer, in the box that append makes. -/
theorem srcOne {P : Program} {tx e et : TypeId} (hk : P.underlying tx = some (.slice e)) (w : World) (k : IntKind) (n : Int) :
    Src P 1 tx (.slice (some ⟨w.heap.size, 0, none⟩) 1 1) 1 [.int k n] (w.alloc (.cells #[.int k n] et)) :=
  Src.ofSlice _ hk _ _ _ _ rfl (cell_one_new _ _ _) (by simp [Value.oneCell'])
/-- A slice that reads is a source. -/
theorem RI.src {P : Program} {k : IntKind} {w : World} {v : Value} {xs : List Int} {tx e : TypeId} (h : RI k w v xs) (hk : P.underlying tx = some (.slice e)) : Src P 1 tx v xs.length (xs.map (Value.int k)) w := by
  by_cases hc : sCap v = 0
  · obtain ⟨a, rfl⟩ := h.isS.out0 hc
    have hx : xs = [] := List.eq_nil_of_length_eq_zero (by rw [← h.len]; rfl)
    subst hx
    cases a with
    | none => exact Src.ofNil w hk 0
    | some a => exact Src.ofSlice w hk a 0 0 [] (by simp) (by simp) (by simp)
  · have hv := h.isS.out (by omega)
    rw [hv, h.len]
    refine Src.ofSlice w hk _ _ _ _ (by simp) ?_ ?_
    · intro j u hj
      rw [Addr.add_mk]
      simp only [List.getElem?_map, Option.map_eq_some_iff] at hj
      obtain ⟨x, hx, rfl⟩ := hj
      have hlt : j < xs.length := (List.getElem?_eq_some_iff.1 hx).1
      rw [h.cell j hlt, List.getD_eq_getElem?_getD, hx]; rfl
    · intro u hu
      obtain ⟨_, _, rfl⟩ := List.mem_map.1 hu
      rfl
end Go.Proofs.Ytniingblgkghgaa
