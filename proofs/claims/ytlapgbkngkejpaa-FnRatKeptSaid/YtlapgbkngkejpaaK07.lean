/-
Texts of this proof, joined: VvA KpA KpB KpC KpD InF InG InH. No condition.
-/
import Derived.Test.YtlapgbkngkejpaaK04
import Derived.Test.YtlapgbkngkejpaaK06
import Derived.Laws.BitsAllLaws
/-
What is written inside a part of a row: frames; clear and copy of a part. No condition.
-/
namespace Go.Proofs.Ytlapgbkngkejpaa
open Go.RowKit

/-- Of what was there, nothing but the cells from lo on and below hi of block b has turned. -/
structure FrB (b lo hi : Nat) (w w' : World) : Prop where
  only : Only b w w'
  row : ∀ cur e fr, w.heap[b]? = some (.cells cur e fr) → ∃ cur', w'.heap[b]? = some (.cells cur' e fr) ∧ cur'.size = cur.size ∧ ∀ i, i < lo ∨ hi ≤ i → cur'[i]? = cur[i]?
theorem FrB.refl (b lo hi : Nat) (w : World) : FrB b lo hi w w := ⟨Only.refl _ _, fun cur _e _fr h => ⟨cur, h, rfl, fun _ _ => rfl⟩⟩
theorem FrB.trans {b lo hi : Nat} {w1 w2 w3 : World} (h : FrB b lo hi w1 w2) (hz : w1.heap.size ≤ w2.heap.size) (k : FrB b lo hi w2 w3) : FrB b lo hi w1 w3 := by
  refine ⟨h.only.trans hz k.only, fun cur e fr hr => ?_⟩
  obtain ⟨c1, h1, h2, h3⟩ := h.row cur e fr hr
  obtain ⟨c2, k1, k2, k3⟩ := k.row c1 e fr h1
  exact ⟨c2, k1, k2.trans h2, fun i hi => (k3 i hi).trans (h3 i hi)⟩
theorem FrB.mono {b lo hi lo' hi' : Nat} {w w' : World} (h : FrB b lo hi w w') (h1 : lo' ≤ lo) (h2 : hi ≤ hi') : FrB b lo' hi' w w' := by
  refine ⟨h.only, fun cur e fr hr => ?_⟩
  obtain ⟨c1, k1, k2, k3⟩ := h.row cur e fr hr
  exact ⟨c1, k1, k2, fun i hi => k3 i (by omega)⟩
theorem FrB.drewN {b lo hi n : Nat} {w w' : World} (h : FrB b lo hi w w') : FrB b lo hi w (w'.drewN n) := ⟨h.only, h.row⟩
theorem FrB.undrewN {b lo hi n : Nat} {w w' : World} (h : FrB b lo hi (w.drewN n) w') : FrB b lo hi w w' := ⟨h.only, h.row⟩
theorem FrB.set {b lo hi i : Nat} {w w' : World} (h : FrB b lo hi w w') (h1 : lo ≤ i) (h2 : i < hi) (u : Value) : FrB b lo hi w (w'.setCell ⟨b, i, none⟩ u) := by
  refine ⟨fun k hk hne => (heap_setCell_other _ _ _ _ (by simpa using hne)).trans (h.only k hk hne), fun cur e fr hr => ?_⟩
  obtain ⟨c1, k1, k2, k3⟩ := h.row cur e fr hr
  refine ⟨c1.setIfInBounds i u, by simp [World.setCell, Array.getElem?_modify, k1], by simpa using k2, fun j hj => ?_⟩
  rw [Array.getElem?_setIfInBounds, if_neg (by omega)]
  exact k3 j hj
theorem FrB.setRow {b lo hi : Nat} {w : World} {cur cur' : Array Value} {e : TypeId} {fr : Nat × Nat} (hr : w.heap[b]? = some (.cells cur e fr)) (hs : cur'.size = cur.size) (h : ∀ i, i < lo ∨ hi ≤ i → cur'[i]? = cur[i]?) : FrB b lo hi w (w.setRow b cur') := by
  refine ⟨fun k hk hne => setRow_other w _ k _ hne, fun c e' fr' hc => ?_⟩
  rw [hr] at hc
  cases hc
  exact ⟨cur', setRow_heap w _ _ _ _ _ hr, hs, h⟩
/-- A cell outside of the part is as it was. -/
theorem FrB.cell {b lo hi : Nat} {w w' : World} (h : FrB b lo hi w w') {k i : Nat} {u : Value} (hc : w.cell? ⟨k, i, none⟩ = some u) (hn : k = b → i < lo ∨ hi ≤ i) : w'.cell? ⟨k, i, none⟩ = some u := by
  have hlt := World.block_lt_of_cell? w _ hc
  by_cases hk : k = b
  · subst hk
    unfold World.cell? at hc ⊢
    simp only at hc hlt ⊢
    cases hr : w.heap[k]? with
    | none => rw [hr] at hc; simp at hc
    | some o =>
      rw [hr] at hc
      cases o with
      | cells cur e fr =>
        obtain ⟨c1, k1, k2, k3⟩ := h.row cur e fr hr
        rw [k1]
        simp only at hc ⊢
        rw [k3 i (hn rfl)]; exact hc
      | map es cl => simp at hc
      | _ => simp_all
  · exact (World.cell?_of_block (h.only k hlt hk)).trans hc
theorem FrB.rw {b lo hi : Nat} {w w' : World} {v : Value} {ws : List Nat} (h : FrB b lo hi w w') (hv : RW w v ws) (hn : sBlk v = b → sOff v + ws.length ≤ lo ∨ hi ≤ sOff v) : RW w' v ws :=
  ⟨⟨hv.ri.isS, hv.ri.len, fun i hi => h.cell (hv.ri.cell i hi) (fun hb => by have := hn hb; rw [ints_length] at hi; omega)⟩, hv.lt⟩
/-- A part of an owned slice was written anew. -/
theorem Own.patch {w w' : World} {B : Nat} {e : TypeId} {v : Value} {xs ys : List Value} (h : Own w B e v xs) {l n : Nat} (h1 : l ≤ n) (h2 : n ≤ xs.length) (hy : ys.length = n - l)
    (k : Own w' B e (subS v l n) ys) (f : FrB (sBlk v) (sOff v + l) (sOff v + n) w w') : Own w' B e v (xs.take l ++ (ys ++ xs.drop n)) := by
  have hl := h.len
  have hcap := h.isS.le
  refine ⟨h.isS, by simp; omega, h.cap, ?_⟩
  rcases h.row with h0 | ⟨hb, cur, hg, hsz, ht⟩
  · exact .inl h0
  · obtain ⟨c1, g1, g2, g3⟩ := f.row cur e (0, 0) hg
    refine .inr ⟨hb, c1, g1, by omega, ?_⟩
    have hlen : (xs.take l ++ (ys ++ xs.drop n)).length = xs.length := by simp; omega
    rw [hlen]
    apply List.ext_getElem?
    intro i
    rw [List.getElem?_take]
    have hx : ∀ j, j < xs.length → xs[j]? = cur[sOff v + j]? := fun j hj => by
      rw [← ht, List.getElem?_take, if_pos hj, List.getElem?_drop]; simp
    by_cases hi : i < xs.length
    · rw [if_pos hi, List.getElem?_drop]
      have e1 : c1.toList[sOff v + i]? = c1[sOff v + i]? := by simp
      rw [e1]
      by_cases hil : i < l
      · rw [g3 _ (by omega), List.getElem?_append_left (by simp; omega), List.getElem?_take, if_pos hil, hx i hi]
      · rw [List.getElem?_append_right (by simp; omega)]
        have e2 : (xs.take l).length = l := by simp; omega
        rw [e2]
        by_cases hin : i < n
        · rw [List.getElem?_append_left (by omega)]
          obtain ⟨u, hu⟩ : ∃ u, ys[i - l]? = some u := ⟨_, List.getElem?_eq_getElem (by omega)⟩
          have hc := k.cell hu
          rw [subS_blk h.isS, subS_off h.isS (by omega), show sOff v + l + (i - l) = sOff v + i by omega, cell_of_row w' _ _ c1 e (0, 0) g1] at hc
          rw [hu]; exact hc
        · rw [g3 _ (by omega), List.getElem?_append_right (by omega), hy, List.getElem?_drop, show n + (i - l - (n - l)) = i by omega, hx i hi]
    · rw [if_neg hi, List.getElem?_eq_none (by rw [hlen]; omega)]
theorem laid_get {cur cs : List Value} {o i : Nat} (h : o + cs.length ≤ cur.length) (hi : i < o ∨ o + cs.length ≤ i) : (cur.take o ++ (cs ++ cur.drop (o + cs.length)))[i]? = cur[i]? := by
  have e2 : (cur.take o).length = o := by simp; omega
  rcases hi with hi | hi
  · rw [List.getElem?_append_left (by omega), List.getElem?_take, if_pos hi]
  · rw [List.getElem?_append_right (by omega), e2, List.getElem?_append_right (by omega), List.getElem?_drop]
    congr 1; omega
/-- clear of an owned slice. -/
theorem wpList_clear_O {P : Program} {w : World} {ops : Array Oper} {rest : List Oper} {o : Oper} {a : Act} {Q : Exit → Act → World → Prop} (hgd : o.guard = none) (s : Operand) (t : TypeId)
    (ho : o.op = .call { callee := .builtin .clear, args := #[s], argTypes := #[t] }) {e : TypeId} {bytes : Nat} {z : Value} (E : ElemT P t e bytes z) (hz1 : z.oneCell' = true) (v : Value) (hs : a.eval s = v) (B : Nat) (xs : List Value) (hown : Own w B e v xs)
    (h : ∀ w', Own w' B e v (List.replicate xs.length z) → Below B w w' → FrB (sBlk v) (sOff v) (sOff v + xs.length) w w' → wpList P ops Q rest (a.put o.dst (.tuple #[])) w') : wpList P ops Q (o :: rest) a w := by
  have hL := hown.len
  have hC := hown.isS.le
  obtain ⟨i, hi, hz, hsz, hbb, hzc⟩ := E.info
  by_cases h0 : xs.length = 0
  · obtain rfl : xs = [] := List.eq_nil_of_length_eq_zero h0
    obtain ⟨p, n, c, rfl⟩ := hown.isS.form
    have hn : n = 0 := by simpa [sLen] using hL
    subst hn
    refine wpList_plain hgd fun K hK => ?_
    have hrun : (Builtin.clear_ #[t] o.type #[.slice p 0 c]).run P w = .ok (.tuple #[]) w := by
      cases p <;> simp [Builtin.clear_, run_underlying E.ht, Result.andThen]
    unfold Oper.wp
    simp [execOp, ho, resolve, invoke, builtin, hs, hrun, Result.andThen]
    exact hK _ _ (h w hown (Below.refl _ _) (FrB.refl _ _ _ _))
  · rcases hown.row with hr | ⟨hb, cur, hg, hcs, ht⟩
    · omega
    · have hv := hown.isS.out (by omega)
      refine wpList_plain hgd fun K hK => ?_
      have hzl : (Builtin.zeroCells #[z] xs.length).toList = List.replicate xs.length z := by
        apply List.ext_getElem
        · simp [Builtin.zeroCells]
        · intro j h1 h2
          simp [Builtin.zeroCells, Nat.mod_one]
      have hst := run_storeCells_at (P := P) (sBlk v) (sOff v) e (List.replicate xs.length z) 0 cur w hg (by simp; omega) (fun x hx => by rw [List.eq_of_mem_replicate hx]; exact hz1)
      have hrun : (Builtin.clear_ #[t] o.type #[v]).run P w = .ok (.tuple #[]) (w.setRow (sBlk v) (cur.toList.take (sOff v) ++ (List.replicate xs.length z ++ cur.toList.drop (sOff v + xs.length))).toArray) := by
        rw [hv, hL]
        obtain ⟨m, hm⟩ : ∃ m, xs.length = m + 1 := ⟨xs.length - 1, by omega⟩
        rw [hm] at hst hzl ⊢
        simp [Builtin.clear_, run_underlying E.ht, zeroValue, typeInfo, hi, hz, hzc, hzl, Result.andThen]
        have := hst
        simp at this
        rw [this]
      unfold Oper.wp
      simp only [execOp, ho, resolve, invoke, builtin, Sem.run_bind, Sem.run_pure, Result.andThen_ok, List.map_toArray, List.map_cons, List.map_nil, hs, hrun]
      have hsz2 : (cur.toList.take (sOff v) ++ (List.replicate xs.length z ++ cur.toList.drop (sOff v + xs.length))).toArray.size = cur.size := by simp; omega
      refine hK _ _ (h _ ⟨hown.isS, by simpa using hL, hown.cap, .inr ⟨hb, _, setRow_heap w _ _ _ _ _ hg, by rw [hsz2]; exact hcs, ?_⟩⟩ (below_setRow (Below.refl _ _) hb _) (FrB.setRow hg hsz2 fun i hi => ?_))
      · have hlt : (cur.toList.take (sOff v)).length = sOff v := by simp; omega
        simp only [List.length_replicate]
        rw [List.drop_left' hlt, List.take_left' (by simp)]
      · have := laid_get (cur := cur.toList) (cs := List.replicate xs.length z) (o := sOff v) (i := i) (by simp; omega) (by simpa using hi)
        simpa using this
/-- copy onto an owned slice, the part told. -/
theorem wpList_copy_W {P : Program} {w : World} {ops : Array Oper} {rest : List Oper} {o : Oper} {a : Act} {Q : Exit → Act → World → Prop} (hgd : o.guard = none) (d s : Operand) (dT sT : TypeId)
    (ho : o.op = .call { callee := .builtin .copy, args := #[d, s], argTypes := #[dT, sT] }) (elem : TypeId) (hu : P.underlying dT = some (.slice elem)) (hsz : (P.info? elem).map (·.size) = some 1)
    (v vx : Value) (hd : a.eval d = v) (hs : a.eval s = vx) (B : Nat) (xs : List Value) (hown : Own w B elem v xs) (cs : List Value) (hlen : cs.length = xs.length) (hsx : IsS vx) (hlx : sLen vx = cs.length)
    (hsrc : ∀ j u, cs[j]? = some u → w.cell? ⟨sBlk vx, sOff vx + j, none⟩ = some u) (h1 : ∀ v ∈ cs, v.oneCell' = true)
    (h : ∀ w', Own w' B elem v cs → Below B w w' → FrB (sBlk v) (sOff v) (sOff v + xs.length) w w' → (cs.length = 0 → w' = w) → wpList P ops Q rest (a.put o.dst (goInt cs.length)) w') : wpList P ops Q (o :: rest) a w := by
  have hL := hown.len
  have hC := hown.isS.le
  have hCx := hsx.le
  by_cases h0 : cs.length = 0
  · obtain rfl : cs = [] := List.eq_nil_of_length_eq_zero h0
    obtain rfl : xs = [] := List.eq_nil_of_length_eq_zero (by simpa using hlen.symm)
    obtain ⟨p, n, c, rfl⟩ := hown.isS.form
    obtain ⟨p', n', c', rfl⟩ := hsx.form
    have hn : n = 0 := by simpa [sLen] using hL
    subst hn
    exact wpList_copy_nothing hgd d s dT sT ho elem hu hsz p p' 0 c n' c' hd hs (by simp) (h w hown (Below.refl _ _) (FrB.refl _ _ _ _) (fun _ => rfl))
  · rcases hown.row with hr | ⟨hb, cur, hg, hcs, ht⟩
    · omega
    · have hv := hown.isS.out (by omega)
      have hvx := hsx.out (by omega)
      have hsz2 : (cur.toList.take (sOff v) ++ (cs ++ cur.toList.drop (sOff v + cs.length))).toArray.size = cur.size := by simp; omega
      refine wpList_copy_own hgd d s dT sT ho elem hu hsz (sBlk v) (sOff v) (sLen v) (sCap v) ⟨sBlk vx, sOff vx, none⟩ (sLen vx) (sCap vx) (hd.trans hv) (hs.trans hvx) cur elem hg cs (by rw [hlx, hL, hlen]; simp) (fun j u hj => by rw [add_none]; exact hsrc j u hj) (by omega) h1 ?_
      refine h _ ⟨hown.isS, by omega, hown.cap, .inr ⟨hb, _, setRow_heap w _ _ _ _ _ hg, by rw [hsz2]; exact hcs, ?_⟩⟩ (below_setRow (Below.refl _ _) hb _) (FrB.setRow hg hsz2 fun i hi => ?_) (fun hc => absurd hc h0)
      · have hlt : (cur.toList.take (sOff v)).length = sOff v := by simp; omega
        rw [List.drop_left' hlt, List.take_left' rfl]
      · have := laid_get (cur := cur.toList) (cs := cs) (o := sOff v) (i := i) (by simp; omega) (by rw [hlen]; exact hi)
        simpa using this
/-- The words behind i rounds of a loop that writes them in their order: they are Z. -/
def Vv (v : Value) (n B i Z : Nat) (w wr : World) : Prop :=
  ∃ (os : List Value) (ds : List Nat), Own wr B 66 v os ∧ os.length = n ∧ os.take i = cellsW ds ∧ ds.length = i ∧ (∀ d ∈ ds, d < 18446744073709551616) ∧ wv ds = Z ∧ Below B w wr ∧ FrB (sBlk v) (sOff v) (sOff v + i) w wr
theorem Vv.start {v : Value} {B n : Nat} {os : List Value} {w : World} (h : Own w B 66 v os) (hn : os.length = n) : Vv v n B 0 0 w w :=
  ⟨os, [], h, hn, (by simp [cellsW]), rfl, (fun d hd => by cases hd), rfl, Below.refl _ _, FrB.refl _ _ _ _⟩
theorem Vv.put {v : Value} {n B i Z : Nat} {w wr : World} (h : Vv v n B i Z w wr) (hi : i < n) (hc : B ≤ sBlk v) {d : Nat} (hd : d < 18446744073709551616) :
    Vv v n B (i + 1) (Z + 18446744073709551616 ^ i * d) w (wr.setCell ⟨sBlk v, sOff v + i, none⟩ (.int .u64 (d : Int))) := by
  obtain ⟨os, ds, h1, h2, h3, h4, h5, h6, h7, h8⟩ := h
  have ho := h1.set (i := i) (by omega) (.int .u64 (d : Int))
  refine ⟨os.set i (.int .u64 (d : Int)), ds ++ [d], ho, by simpa using h2, ?_, by simp; omega, ?_, ?_, bset h7 hc, (h8.mono (Nat.le_refl _) (by omega)).set (by omega) (by omega) _⟩
  · have e1 : (os.take i).length = i := by simp; omega
    rw [← cellsW_snoc, ← h3, List.take_set, List.take_succ_eq_append_getElem (by omega : i < os.length), List.set_append_right _ _ (by omega), e1]
    simp
  · intro x hx
    rcases List.mem_append.1 hx with h | h
    · exact h5 x h
    · rw [List.mem_singleton] at h; rw [h]; exact hd
  · rw [wv_snoc, h4, h6]
theorem Vv.drewN {v : Value} {n B i Z k : Nat} {w wr : World} (h : Vv v n B i Z w wr) : Vv v n B i Z w (wr.drewN k) := by
  obtain ⟨os, ds, h1, h2, h3, h4, h5, h6, h7, h8⟩ := h
  exact ⟨os, ds, h1.drewN _, h2, h3, h4, h5, h6, undrewN' h7, h8.drewN⟩
/-- All of the words are Z's. -/
def VvP (v : Value) (n B Z : Nat) (w w' : World) : Prop := Own w' B 66 v (cellsW (wdsN Z n)) ∧ Below B w w' ∧ FrB (sBlk v) (sOff v) (sOff v + n) w w'
theorem wdsN_eq {os : List Nat} {n Z : Nat} (hl : os.length = n) (hd : ∀ d ∈ os, d < 18446744073709551616) (h : ∃ c, Z = wv os + 18446744073709551616 ^ n * c) : os = wdsN Z n := by
  obtain ⟨c, rfl⟩ := h
  refine wv_inj hd wdsN_lt (by rw [wdsN_length, hl]) ?_
  rw [wdsN_wv, Nat.add_mul_mod_self_left, Nat.mod_eq_of_lt]
  have := wv_lt hd
  rw [hl] at this; exact this
theorem Vv.done {v : Value} {n B Z : Nat} {w wr : World} (h : Vv v n B n Z w wr) {Y : Nat} (c : Nat) (hY : Y = Z + 18446744073709551616 ^ n * c) : VvP v n B Y w wr := by
  obtain ⟨os, ds, h1, h2, h3, h4, h5, h6, h7, h8⟩ := h
  rw [List.take_of_length_le (by omega)] at h3
  rw [VvP, ← wdsN_eq h4 h5 ⟨c, by rw [h6]; exact hY⟩, ← h3]
  exact ⟨h1, h7, h8⟩
/-- A word of a source that lies elsewhere, or not ahead of what is written. -/
theorem Vv.src {v x : Value} {n B i Z : Nat} {xs : List Nat} {w wr : World} (h : Vv v n B i Z w wr) (hx : RW w x xs) (hal : sBlk x = sBlk v → sOff v ≤ sOff x) {j : Nat} (hij : i ≤ j) (hj : j < xs.length) : wr.cell? ⟨sBlk x, sOff x + j, none⟩ = some (.int .u64 ((xs.getD j 0 : Nat) : Int)) := by
  obtain ⟨os, ds, h1, h2, h3, h4, h5, h6, h7, h8⟩ := h
  exact h8.cell (hx.cell j hj) (fun hb => by have := hal hb; omega)
theorem Vv.frozen {v : Value} {n B i Z : Nat} {w wr : World} (h : Vv v n B i Z w wr) (hc : 0 < sCap v) (k : Nat) : wr.frozen? ⟨sBlk v, k, none⟩ = false := by
  obtain ⟨os, ds, h1, -⟩ := h
  exact h1.frozen hc k
/-- The cell that is to be written. -/
theorem Vv.own {v : Value} {n B i Z : Nat} {w wr : World} (h : Vv v n B i Z w wr) {k : Nat} (hk : k < n) : ∃ u : Value, wr.cell? ⟨sBlk v, sOff v + k, none⟩ = some u := by
  obtain ⟨os, ds, h1, h2, -⟩ := h
  exact ⟨_, h1.cell (List.getElem?_eq_getElem (by omega))⟩
end Go.Proofs.Ytlapgbkngkejpaa

/-
The bytes of a number, the greatest first: plain arithmetic. No condition.
-/
namespace Go.Proofs.Ytlapgbkngkejpaa
open Go.RowKit

/-- The byte with the index i. -/
def byt (n i : Nat) : Nat := n / 256 ^ i % 256
/-- L bytes of a number, the greatest first. -/
def bbs (L n : Nat) : List Nat := (List.range L).map fun p => byt n (L - 1 - p)
theorem byt_lt (n i : Nat) : byt n i < 256 := Nat.mod_lt _ (by decide)
theorem bbs_length (L n : Nat) : (bbs L n).length = L := by simp [bbs]
theorem bbs_getD {L n p : Nat} (h : p < L) : (bbs L n).getD p 0 = byt n (L - 1 - p) := by simp [bbs, List.getD_eq_getElem?_getD, h]
theorem bbs_none {L n p : Nat} (h : L ≤ p) : (bbs L n).getD p 0 = 0 := by rw [List.getD_eq_getElem?_getD, List.getElem?_eq_none (by rw [bbs_length]; exact h)]; rfl
theorem bbs_ext {L n : Nat} {a : List Nat} (hl : a.length = L) (h : ∀ p, p < L → a.getD p 0 = byt n (L - 1 - p)) : a = bbs L n := by
  refine list_ext_getD (by rw [bbs_length]; exact hl) fun p => ?_
  by_cases hp : p < L
  · rw [h p hp, bbs_getD hp]
  · rw [bbs_none (by omega), List.getD_eq_getElem?_getD, List.getElem?_eq_none (by omega)]; rfl
theorem byt_mod (n m i : Nat) : byt (n % 256 ^ m) i = if i < m then byt n i else 0 := by
  unfold byt
  split
  · rename_i h
    obtain ⟨k, rfl⟩ : ∃ k, m = i + (k + 1) := ⟨m - i - 1, by omega⟩
    rw [Nat.pow_add, Nat.mod_mul_right_div_self, Nat.pow_succ, Nat.mod_mod_of_dvd _ (Nat.dvd_mul_left _ _)]
  · rename_i h
    rw [Nat.div_eq_of_lt (Nat.lt_of_lt_of_le (Nat.mod_lt _ (Nat.pow_pos (by decide))) (Nat.pow_le_pow_right (by decide) (by omega)))]
theorem byt_div (n a i : Nat) : byt (n / 256 ^ a) i = byt n (a + i) := by
  unfold byt; rw [Nat.div_div_eq_div_mul, ← Nat.pow_add]
theorem byt_zero (i : Nat) : byt 0 i = 0 := by unfold byt; rw [Nat.zero_div]
theorem bbs_zero (L : Nat) : bbs L 0 = List.replicate L 0 := (bbs_ext (by simp) fun p hp => by rw [byt_zero]; simp [List.getD_eq_getElem?_getD, hp]).symm
theorem bbs_set {L m : Nat} (n : Nat) (h : m < L) : (bbs L (n % 256 ^ m)).set (L - 1 - m) (byt n m) = bbs L (n % 256 ^ (m + 1)) := by
  refine bbs_ext (by rw [List.length_set, bbs_length]) fun p hp => ?_
  rw [List.getD_eq_getElem?_getD, List.getElem?_set]
  by_cases he : L - 1 - m = p
  · rw [if_pos he, if_pos (by rw [bbs_length]; omega), byt_mod, if_pos (by omega), show L - 1 - p = m by omega]; rfl
  · rw [if_neg he, ← List.getD_eq_getElem?_getD, bbs_getD hp, byt_mod, byt_mod]
    by_cases hm : L - 1 - p < m
    · rw [if_pos hm, if_pos (by omega)]
    · rw [if_neg hm, if_neg (by omega)]
theorem bbs_drop {L k : Nat} (n : Nat) (h : k ≤ L) : (bbs L n).drop (L - k) = bbs k n := by
  refine bbs_ext (by rw [List.length_drop, bbs_length]; omega) fun p hp => ?_
  rw [List.getD_eq_getElem?_getD, List.getElem?_drop, ← List.getD_eq_getElem?_getD, bbs_getD (by omega), show L - 1 - (L - k + p) = k - 1 - p by omega]
theorem bbs_take {L i : Nat} (n : Nat) (h : i ≤ L) : (bbs L n).take i = bbs i (n / 256 ^ (L - i)) := by
  refine bbs_ext (by rw [List.length_take, bbs_length]; omega) fun p hp => ?_
  rw [List.getD_eq_getElem?_getD, List.getElem?_take, if_pos hp, ← List.getD_eq_getElem?_getD, bbs_getD (by omega), byt_div, show L - i + (i - 1 - p) = L - 1 - p by omega]
theorem bbs_mod (k n : Nat) : bbs k (n % 256 ^ k) = bbs k n :=
  bbs_ext (bbs_length _ _) fun p hp => by rw [bbs_getD hp, byt_mod, if_pos (by omega)]
theorem word_256 (t : Nat) : (18446744073709551616 : Nat) ^ t = 256 ^ (8 * t) := by rw [Nat.pow_mul]
theorem byt_word (n t : Nat) {j : Nat} (hj : j < 8) : byt (wdg n t) j = byt n (8 * t + j) := by
  unfold wdg
  rw [show (18446744073709551616 : Nat) = 256 ^ 8 by decide, byt_mod, if_pos hj, ← Nat.pow_mul, byt_div]
/-- The window of eight bytes that is a word. -/
theorem bbs_word {n N k : Nat} (h : 8 * (k + 1) ≤ n) : ((bbs n N).take (n - 8 * k)).drop (n - 8 * k - 8) = bbs 8 (wdg N k) := by
  rw [bbs_take N (by omega : n - 8 * k ≤ n), bbs_drop _ (by omega : 8 ≤ n - 8 * k), show n - (n - 8 * k) = 8 * k by omega, ← word_256]
  exact (bbs_mod 8 _).symm
theorem byt_eval4 (n : Nat) : byt n 3 * 16777216 + byt n 2 * 65536 + byt n 1 * 256 + byt n 0 = n % 4294967296 := by
  unfold byt
  simp only [Nat.reducePow, Nat.pow_zero, Nat.div_one, Nat.pow_one]
  omega
theorem byt_step (n m : Nat) : n % 256 ^ (m + 1) = n % 256 ^ m + byt n m * 256 ^ m := by
  rw [Nat.mod_pow_succ, Nat.mul_comm]; rfl
def cellsB (bs : List Nat) : List Value := bs.map fun (d : Nat) => Value.int .u8 (d : Int)
theorem cellsB_length (bs : List Nat) : (cellsB bs).length = bs.length := by simp [cellsB]
theorem cellsB_eq (bs : List Nat) : cellsB bs = (ints bs).map (Value.int .u8) := by simp [cellsB, ints]
theorem cellsB_set (bs : List Nat) (i d : Nat) : (cellsB bs).set i (.int .u8 (d : Int)) = cellsB (bs.set i d) := by simp [cellsB, List.map_set]
theorem cellsB_rep (n : Nat) : List.replicate n (.int .u8 0) = cellsB (bbs n 0) := by rw [bbs_zero]; simp [cellsB]
theorem cellsB_append (a b : List Nat) : cellsB a ++ cellsB b = cellsB (a ++ b) := by simp [cellsB]
theorem cellsB_at {bs : List Nat} {i : Nat} (h : i < bs.length) : (cellsB bs)[i]? = some (.int .u8 ((bs.getD i 0 : Nat) : Int)) := by
  simp [cellsB, List.getD_eq_getElem?_getD, h]
theorem bbs_cell {L n i : Nat} (h : i < L) : (cellsB (bbs L n))[i]? = some (.int .u8 ((byt n (L - 1 - i) : Nat) : Int)) := by
  rw [cellsB_at (by rw [bbs_length]; exact h), bbs_getD h]
/-- A word that is joined out of a low part and a byte shifted over it. -/
theorem or_byte {s d b : Nat} (hd : d < 2 ^ s) : d ||| (b * 2 ^ s) = d + b * 2 ^ s := by
  rw [Nat.mul_comm b, Nat.add_comm, Nat.two_pow_add_eq_or_of_lt hd, Nat.or_comm]
end Go.Proofs.Ytlapgbkngkejpaa

/-
A number's bytes: nat.bytes. No condition.
-/
namespace Go.Proofs.Ytlapgbkngkejpaa
open Go.RowKit

/-- The buffer behind m bytes, written from its end on. -/
def Bf (buf : Value) (L N B m : Nat) (w wr : World) : Prop := Own wr B 5 buf (cellsB (bbs L (N % 256 ^ m))) ∧ Below B w wr ∧ FrB (sBlk buf) (sOff buf) (sOff buf + L) w wr
theorem Bf.put {buf : Value} {L N B m : Nat} {w wr : World} (h : Bf buf L N B m w wr) (hm : m < L) (hc : 0 < sCap buf) : Bf buf L N B (m + 1) w (wr.setCell ⟨sBlk buf, sOff buf + (L - 1 - m), none⟩ (.int .u8 ((byt N m : Nat) : Int))) := by
  refine ⟨?_, bset h.2.1 (h.1.lt hc).1, h.2.2.set (by omega) (by omega) _⟩
  have := h.1.set (i := L - 1 - m) (by rw [cellsB_length, bbs_length]; omega) (.int .u8 ((byt N m : Nat) : Int))
  rw [cellsB_set, bbs_set N hm] at this
  exact this
theorem Bf.start {buf : Value} {L N B : Nat} {w : World} (h : Own w B 5 buf (cellsB (bbs L 0))) : Bf buf L N B 0 w w := by
  refine ⟨?_, Below.refl _ _, FrB.refl _ _ _ _⟩
  rw [Nat.pow_zero, Nat.mod_one]; exact h
theorem wdg_byte (N t : Nat) {j : Nat} (hj : j < 8) : wdg N t / 256 ^ j % 256 = byt N (8 * t + j) := byt_word N t hj
theorem pow_next {N c : Nat} (h : N < 256 ^ (c + 1)) (h0 : byt N c = 0) : N < 256 ^ c := by
  have := byt_step N c
  rw [Nat.mod_eq_of_lt h, h0, Nat.zero_mul, Nat.add_zero] at this
  rw [this]; exact Nat.mod_lt _ (Nat.pow_pos (by decide))
set_option maxRecDepth 100000 in
set_option maxHeartbeats 1600000 in
theorem bytes_any (x buf : Value) (xs : List Nat) (B L : Nat) (w : World) (hx : RW w x xs) (hb : Own w B 5 buf (cellsB (bbs L 0))) (hl : 8 * xs.length ≤ L) (hL : L ≤ 1000000000) (hne : 0 < xs.length → sBlk x ≠ sBlk buf) :
    Calls Try.prog 26 #[x, buf] w fun e w' => ∃ c : Nat, e = .returned (.int .i64 ((L - c : Nat) : Int)) ∧ (c ≤ 8 * xs.length ∧ wv xs < 256 ^ c) ∧ Own w' B 5 buf (cellsB (bbs L (wv xs))) ∧ Below B w w' ∧ FrB (sBlk buf) (sOff buf) (sOff buf + L) w w' := by
  have hSx := hx.isS
  have hSb := hb.isS
  have hLx := hx.len
  have hLb : sLen buf = L := by rw [hb.len, cellsB_length, bbs_length]
  have hCb := hSb.le
  obtain ⟨N, hN⟩ : ∃ N, N = wv xs := ⟨_, rfl⟩
  obtain ⟨n, hn⟩ : ∃ n, n = xs.length := ⟨_, rfl⟩
  have HW : Hid (∀ t, xs.getD t 0 = wdg N t) := Lib.hid (fun t => by rw [hN, wv_dig hx.lt])
  have HN : Hid (N < 256 ^ (8 * n)) := Lib.hid (by rw [hN, hn, ← word_256]; exact wv_lt hx.lt)
  rw [← hn] at hLx hl hne
  have HX := Lib.hid hx
  have HE := Lib.hid hne
  have Hn := Lib.hid hn
  have R0 := Lib.hid (Bf.start (N := N) hb)
  rw [← hN, ← hn]
  clear hx hb hne hn hN
  go_enter Try.func26, Try.ntmps26
  go_wp2
  go_loopw [4, 12] (fun i k wr => ∃ t I : Nat, t ≤ n ∧ I + 8 * t = L ∧ i = .int .i64 I ∧ k = .int .i64 t ∧ Bf buf L N B (8 * t) w wr) (fun _ k _ => n - (intOf k).toNat)
  case atStart => exact ⟨0, L, Nat.zero_le _, rfl, rfl, rfl, R0.out⟩
  case round =>
    obtain ⟨t, I, ht, hI, rfl, rfl, hB⟩ := hrel
    by_cases hlt : t < n
    · have t1 : decide (t < n) = true := decide_eq_true hlt
      have hBx := hB.2.2.rw HX.out (fun h => absurd h (HE.out (by omega)))
      have c0 := hBx.cell t (by rw [← Hn.out]; exact hlt)
      rw [HW.out] at c0
      obtain ⟨D, hD⟩ : ∃ D, D = wdg N t := ⟨_, rfl⟩
      have hDb := wdg_lt N t
      rw [← hD] at c0 hDb
      have HD := Lib.hid hD
      have RB := Lib.hid hB
      clear hBx hB hD
      go_wp2
      go_loopw [4, 6, 7] (fun i d j wx => ∃ j' p d' : Nat, j' ≤ 8 ∧ p + (8 * t + j') = L ∧ i = .int .i64 p ∧ j = .int .i64 j' ∧ d = .int .u64 d' ∧ d' = D / 256 ^ j' ∧ Bf buf L N B (8 * t + j') w wx) (fun _ _ j _ => 8 - (intOf j).toNat)
      case atStart => exact ⟨0, I, D, by decide, hI, rfl, rfl, rfl, by rw [Nat.pow_zero, Nat.div_one], RB.out⟩
      case round =>
        obtain ⟨j', p, d', hj, hp, rfl, rfl, rfl, hd, hB⟩ := hrel
        by_cases hj8 : j' < 8
        · obtain ⟨q, rfl⟩ : ∃ q, p = q + 1 := ⟨p - 1, by omega⟩
          have t2 : decide (j' < 8) = true := decide_eq_true hj8
          have hcap : 0 < sCap buf := by omega
          have hbt : d' % 256 = byt N (8 * t + j') := by rw [hd, HD.out]; exact wdg_byte N t hj8
          have hq : q = L - 1 - (8 * t + j') := by omega
          have hput := hB.put (by omega) hcap
          rw [← hq] at hput
          obtain ⟨bt, hbtv⟩ : ∃ bt, bt = byt N (8 * t + j') := ⟨_, rfl⟩
          rw [← hbtv] at hput hbt
          have e1 : ((d' : Int) % 256) = (bt : Int) := by omega
          have e2 : IntKind.u8.wrap (d' : Int) = (bt : Int) := by rw [IntKind.wrap_u8']; exact e1
          have fz := hB.1.frozen hcap (sOff buf + q)
          obtain ⟨u, cu⟩ : ∃ u, wr.cell? ⟨sBlk buf, sOff buf + q, none⟩ = some u := ⟨_, hB.1.cell (bbs_cell (by omega))⟩
          have hqL : q < sLen buf := by omega
          have HP := Lib.hid hput
          have Hd := Lib.hid hd
          have hdb : d' < 18446744073709551616 := by rw [hd]; exact Nat.lt_of_le_of_lt (Nat.div_le_self _ _) hDb
          clear hput hbt hbtv hB hd hq
          go_wp2
          go_roundw
          case rel => exact ⟨j' + 1, q, d' / 256, by omega, by omega, rfl, by go_num, by go_num, by rw [Hd.out, Nat.div_div_eq_div_mul, Nat.pow_succ], HP.out⟩
          case measure => simp [intOf]; omega
        · have h8 : j' = 8 := by omega
          subst h8
          have t2 : decide ((8 : Nat) < 8) = false := by decide
          have HB := Lib.hid hB
          clear hd hB
          go_wp2
          go_roundw
          case rel => exact ⟨t + 1, p, by omega, by omega, rfl, by go_num, HB.out⟩
          case measure => simp [intOf]; omega
    · have htn : t = n := by omega
      subst htn
      have hB8 := hB
      rw [Bf, Nat.mod_eq_of_lt HN.out] at hB8
      have HB := Lib.hid hB8
      have cb : Hid (∀ i, i < L → wr.cell? ⟨sBlk buf, sOff buf + i, none⟩ = some (.int .u8 ((byt N (L - 1 - i) : Nat) : Int))) := Lib.hid (fun i hi => hB8.1.cell (bbs_cell hi))
      clear hB hB8
      go_wp2
      go_loop [4] (fun i => ∃ c p : Nat, p + c = L ∧ c ≤ 8 * t ∧ N < 256 ^ c ∧ i = .int .i64 p) (fun i => L - (intOf i).toNat)
      case atStart => exact ⟨8 * t, I, hI, Nat.le_refl _, HN.out, rfl⟩
      case round =>
        obtain ⟨c, p, hp, hc, hNc, rfl⟩ := hrel
        have HC := Lib.hid hNc
        clear hNc
        have fin : Hid (∃ c' : Nat, Ending.returned (.int .i64 (p : Int)) = .returned (.int .i64 ((L - c' : Nat) : Int)) ∧ (c' ≤ 8 * t ∧ N < 256 ^ c') ∧ Own wr B 5 buf (cellsB (bbs L N)) ∧ Below B w wr ∧ FrB (sBlk buf) (sOff buf) (sOff buf + L) w wr) :=
          Lib.hid ⟨c, by rw [show L - c = p by omega], ⟨hc, HC.out⟩, HB.out⟩
        by_cases hpl : p < L
        · have t3 : decide (p < L) = true := decide_eq_true hpl
          have cc := cb.out p hpl
          obtain ⟨bt, hbt⟩ : ∃ bt, bt = byt N (L - 1 - p) := ⟨_, rfl⟩
          rw [← hbt] at cc
          have Hb := Lib.hid hbt
          clear hbt
          by_cases hz : bt = 0
          · have t4 : ((bt : Int) == 0) = true := by rw [beq_iff_eq]; omega
            have Hz := Lib.hid hz
            clear hz
            go_wp2
            go_round
            case rel =>
              refine ⟨c - 1, p + 1, by omega, by omega, ?_, by go_num⟩
              refine pow_next (c := c - 1) (by rw [show c - 1 + 1 = c by omega]; exact HC.out) ?_
              rw [show c - 1 = L - 1 - p by omega, ← Hb.out]; exact Hz.out
            case measure => simp [intOf]; omega
          · have t4 : ((bt : Int) == 0) = false := by rw [beq_eq_false_iff_ne]; omega
            go_wp2
            go_ret
            exact fin.out
        · have t3 : decide (p < L) = false := decide_eq_false hpl
          go_wp2
          go_ret
          exact fin.out
end Go.Proofs.Ytlapgbkngkejpaa

/-
Numbers out of bytes, the greatest first: beUint32, beUint64, bigEndianWord, bePutUint32. No condition.
-/
namespace Go.Proofs.Ytlapgbkngkejpaa
open Go.RowKit

theorem RI.cellB {w : World} {v : Value} {bs : List Nat} (h : RI .u8 w v (ints bs)) {i : Nat} (hi : i < bs.length) : w.cell? ⟨sBlk v, sOff v + i, none⟩ = some (.int .u8 ((bs.getD i 0 : Nat) : Int)) := by
  rw [h.cell i (by rw [ints_length]; exact hi)]
  simp [ints, List.getD_eq_getElem?_getD, List.getElem?_eq_getElem hi]
theorem or_u32 {s d b : Nat} (hd : d < 2 ^ s) (hs : d < 4294967296) (hb : b * 2 ^ s < 4294967296) : bits .or .u32 (d : Int) ((b * 2 ^ s : Nat) : Int) = ((d + b * 2 ^ s : Nat) : Int) := by
  rw [u32_or_nat _ _ hs hb, or_byte hd]
set_option maxRecDepth 100000 in
set_option maxHeartbeats 800000 in
theorem be32_any (v : Value) (bs : List Nat) (n : Nat) (w : World) (hv : RI .u8 w v (ints bs)) (h4 : 4 ≤ bs.length) (h0 : bs.getD 0 0 = byt n 3) (h1 : bs.getD 1 0 = byt n 2) (h2 : bs.getD 2 0 = byt n 1) (h3 : bs.getD 3 0 = byt n 0) :
    Calls Try.prog 29 #[v] w fun e w' => e = .returned (.int .u32 ((n % 4294967296 : Nat) : Int)) ∧ ∃ k, w' = w.drewN k := by
  have hS := hv.isS
  have hL : sLen v = bs.length := by rw [hv.len, ints_length]
  have hCv := hS.le
  have c0 := hv.cellB (i := 0) (by omega)
  have c1 := hv.cellB (i := 1) (by omega)
  have c2 := hv.cellB (i := 2) (by omega)
  have c3 := hv.cellB (i := 3) (by omega)
  rw [h0, Nat.add_zero] at c0
  rw [h1] at c1
  rw [h2] at c2
  rw [h3] at c3
  have he := byt_eval4 n
  have b0 := byt_lt n 0
  have b1 := byt_lt n 1
  have b2 := byt_lt n 2
  have b3 := byt_lt n 3
  obtain ⟨N, hN⟩ : ∃ N, N = n % 4294967296 := ⟨_, rfl⟩
  rw [← hN] at he ⊢
  generalize byt n 0 = a0 at *
  generalize byt n 1 = a1 at *
  generalize byt n 2 = a2 at *
  generalize byt n 3 = a3 at *
  have o1 : bits .or .u32 (a0 : Int) ((a1 : Int) * 256) = ((a0 + a1 * 256 : Nat) : Int) := by
    have := or_u32 (s := 8) (d := a0) (b := a1) (by omega) (by omega) (by omega)
    simpa using this
  have o2 : bits .or .u32 ((a0 + a1 * 256 : Nat) : Int) ((a2 : Int) * 65536) = ((a0 + a1 * 256 + a2 * 65536 : Nat) : Int) := by
    have := or_u32 (s := 16) (d := a0 + a1 * 256) (b := a2) (by omega) (by omega) (by omega)
    simpa using this
  have o3 : bits .or .u32 ((a0 + a1 * 256 + a2 * 65536 : Nat) : Int) ((a3 : Int) * 16777216) = (N : Int) := by
    have := or_u32 (s := 24) (d := a0 + a1 * 256 + a2 * 65536) (b := a3) (by omega) (by omega) (by omega)
    rw [show a0 + a1 * 256 + a2 * 65536 + a3 * 2 ^ 24 = N by omega] at this
    simpa using this
  obtain ⟨p, hp⟩ : ∃ p, p = a0 + a1 * 256 := ⟨_, rfl⟩
  obtain ⟨q, hq⟩ : ∃ q, q = a0 + a1 * 256 + a2 * 65536 := ⟨_, rfl⟩
  rw [← hq] at o2 o3
  rw [← hp] at o1 o2
  have L4 : 4 ≤ sLen v := by omega
  clear hv h0 h1 h2 h3 he hN hp hq hL h4
  go_enter Try.func29, Try.ntmps29
  go_wp2_with fail
  go_quiet (fail)
  go_wp2
  go_ret
  exact ⟨rfl, _, rfl⟩
theorem or_u64b {s d b : Nat} (hd : d < 2 ^ s) (hs : d < 18446744073709551616) (hb : b * 2 ^ s < 18446744073709551616) : bits .or .u64 ((b * 2 ^ s : Nat) : Int) (d : Int) = ((d + b * 2 ^ s : Nat) : Int) := by
  rw [u64_or_nat _ _ hb hs, Nat.or_comm, or_byte hd]
set_option maxRecDepth 100000 in
set_option maxHeartbeats 800000 in
theorem be64_any (v : Value) (n : Nat) (w : World) (hv : RI .u8 w v (ints (bbs 8 n))) (hn : n < 18446744073709551616) :
    Calls Try.prog 51 #[v] w fun e w' => e = .returned (.int .u64 (n : Int)) ∧ ∃ k, w' = w.drewN k := by
  have hS := hv.isS
  have hL : sLen v = 8 := by rw [hv.len, ints_length, bbs_length]
  have hCv := hS.le
  have c7 := hv.cellB (i := 7) (by rw [bbs_length]; decide)
  obtain ⟨u7, hu7⟩ : ∃ u, u = (bbs 8 n).getD 7 0 := ⟨_, rfl⟩
  rw [← hu7] at c7
  have hsub := hv.sub (l := 4) (n := 8) (by decide) (by rw [ints_length, bbs_length]; decide)
  have hlist : ((ints (bbs 8 n)).take 8).drop 4 = ints (bbs 4 n) := by
    have := bbs_drop (L := 8) (k := 4) n (by decide)
    simp only [Nat.reduceSub] at this
    rw [List.take_of_length_le (by rw [ints_length, bbs_length]; exact Nat.le_refl _), ← this]
    simp [ints]
  rw [hlist] at hsub
  have H1 : Hid (∀ k, Calls Try.prog 29 #[v] (w.drewN k) fun e w' => e = .returned (.int .u32 ((n / 4294967296 : Nat) : Int)) ∧ ∃ j, w' = (w.drewN k).drewN j) := Lib.hid (fun k => by
    have := be32_any v (bbs 8 n) (n / 256 ^ 4) (w.drewN k) ⟨hv.isS, hv.len, hv.cell⟩ (by rw [bbs_length]; decide) (by rw [bbs_getD (by decide), byt_div]) (by rw [bbs_getD (by decide), byt_div]) (by rw [bbs_getD (by decide), byt_div]) (by rw [bbs_getD (by decide), byt_div])
    rw [show n / 256 ^ 4 % 4294967296 = n / 4294967296 by simp only [Nat.reducePow]; omega] at this
    exact this)
  have H2 : Hid (∀ k, Calls Try.prog 29 #[subS v 4 8] (w.drewN k) fun e w' => e = .returned (.int .u32 ((n % 4294967296 : Nat) : Int)) ∧ ∃ j, w' = (w.drewN k).drewN j) := Lib.hid (fun k =>
    be32_any (subS v 4 8) (bbs 4 n) n (w.drewN k) ⟨hsub.isS, hsub.len, hsub.cell⟩ (by rw [bbs_length]; decide) (by rw [bbs_getD (by decide)]) (by rw [bbs_getD (by decide)]) (by rw [bbs_getD (by decide)]) (by rw [bbs_getD (by decide)]))
  obtain ⟨a, ha⟩ : ∃ a, a = n / 4294967296 := ⟨_, rfl⟩
  obtain ⟨b, hb⟩ : ∃ b, b = n % 4294967296 := ⟨_, rfl⟩
  rw [← ha] at H1
  rw [← hb] at H2
  have ha' : a < 4294967296 := by omega
  have hb' : b < 4294967296 := by omega
  have o1 : bits .or .u64 ((a : Int) * 4294967296) (b : Int) = (n : Int) := by
    have := or_u64b (s := 32) (d := b) (b := a) (by omega) (by omega) (by omega)
    rw [show b + a * 2 ^ 32 = n by omega] at this
    simpa using this
  have hSs := hsub.isS
  clear hv hu7 hsub hlist ha hb hn
  go_enter Try.func51, Try.ntmps51
  go_wp2_with fail
  go_quiet ((first
    | (go_at_call 29; (with_reducible refine (H1.out _).mono ?_); rintro _ _ ⟨rfl, n, rfl⟩; exact ⟨rfl, _, World.drewN_drewN _ _ _⟩)
    | (go_at_call 29; (with_reducible refine (H2.out _).mono ?_); rintro _ _ ⟨rfl, n, rfl⟩; exact ⟨rfl, _, World.drewN_drewN _ _ _⟩)))
  go_wp2
  go_ret
  exact ⟨rfl, _, rfl⟩
set_option maxRecDepth 100000 in
theorem beWord_any (v : Value) (n : Nat) (w : World) (hv : RI .u8 w v (ints (bbs 8 n))) (hn : n < 18446744073709551616) :
    Calls Try.prog 41 #[v] w fun e w' => e = .returned (.int .u64 (n : Int)) ∧ ∃ k, w' = w.drewN k := by
  have hS := hv.isS
  have H := Lib.hid (be64_any v n w hv hn)
  clear hv
  go_enter Try.func41, Try.ntmps41
  go_wp2_with fail
  refine H.out.mono ?_
  rintro _ _ ⟨rfl, n, rfl⟩
  go_wp2
  go_ret
  exact ⟨rfl, _, rfl⟩
set_option maxRecDepth 100000 in
set_option maxHeartbeats 800000 in
theorem put32_any (v : Value) (os : List Value) (n B : Nat) (w : World) (ho : Own w B 5 v os) (h4 : os.length = 4) (hn : n < 4294967296) :
    Calls Try.prog 28 #[v, .int .u32 (n : Int)] w fun e w' => e = .returned (.tuple #[]) ∧ Own w' B 5 v (cellsB (bbs 4 n)) ∧ Below B w w' ∧ FrB (sBlk v) (sOff v) (sOff v + 4) w w' := by
  have hS := ho.isS
  have hL : sLen v = 4 := by rw [ho.len, h4]
  have hCv := hS.le
  have hc : 0 < sCap v := by omega
  obtain ⟨o0, o1, o2, o3, rfl⟩ : ∃ a b c d, os = [a, b, c, d] := by
    match os, h4 with
    | [a, b, c, d], _ => exact ⟨a, b, c, d, rfl⟩
  have c0 := ho.cell (i := 0) (u := o0) rfl
  have c1 := ho.cell (i := 1) (u := o1) rfl
  have c2 := ho.cell (i := 2) (u := o2) rfl
  have c3 := ho.cell (i := 3) (u := o3) rfl
  rw [Nat.add_zero] at c0
  have f0 := ho.frozen hc (sOff v)
  have f1 := ho.frozen hc (sOff v + 1)
  have f2 := ho.frozen hc (sOff v + 2)
  have f3 := ho.frozen hc (sOff v + 3)
  obtain ⟨a3, h3⟩ : ∃ a, a = byt n 3 := ⟨_, rfl⟩
  obtain ⟨a2, h2⟩ : ∃ a, a = byt n 2 := ⟨_, rfl⟩
  obtain ⟨a1, h1⟩ : ∃ a, a = byt n 1 := ⟨_, rfl⟩
  obtain ⟨a0, h0⟩ : ∃ a, a = byt n 0 := ⟨_, rfl⟩
  have e3 : (n : Int) / 16777216 % 256 = (a3 : Int) := by rw [h3]; unfold byt; simp only [Nat.reducePow]; omega
  have e3' : (n : Int) / 16777216 = (a3 : Int) := by omega
  have e2 : (n : Int) / 65536 % 256 = (a2 : Int) := by rw [h2]; unfold byt; simp only [Nat.reducePow]; omega
  have e1 : (n : Int) / 256 % 256 = (a1 : Int) := by rw [h1]; unfold byt; simp only [Nat.reducePow]; omega
  have e0 : (n : Int) % 256 = (a0 : Int) := by rw [h0]; unfold byt; simp only [Nat.reducePow]; omega
  have Q : Hid (Own ((((w.setCell ⟨sBlk v, sOff v, none⟩ (.int .u8 (a3 : Int))).setCell ⟨sBlk v, sOff v + 1, none⟩ (.int .u8 (a2 : Int))).setCell ⟨sBlk v, sOff v + 2, none⟩ (.int .u8 (a1 : Int))).setCell ⟨sBlk v, sOff v + 3, none⟩ (.int .u8 (a0 : Int))) B 5 v (cellsB (bbs 4 n)) ∧
      Below B w ((((w.setCell ⟨sBlk v, sOff v, none⟩ (.int .u8 (a3 : Int))).setCell ⟨sBlk v, sOff v + 1, none⟩ (.int .u8 (a2 : Int))).setCell ⟨sBlk v, sOff v + 2, none⟩ (.int .u8 (a1 : Int))).setCell ⟨sBlk v, sOff v + 3, none⟩ (.int .u8 (a0 : Int))) ∧
      FrB (sBlk v) (sOff v) (sOff v + 4) w ((((w.setCell ⟨sBlk v, sOff v, none⟩ (.int .u8 (a3 : Int))).setCell ⟨sBlk v, sOff v + 1, none⟩ (.int .u8 (a2 : Int))).setCell ⟨sBlk v, sOff v + 2, none⟩ (.int .u8 (a1 : Int))).setCell ⟨sBlk v, sOff v + 3, none⟩ (.int .u8 (a0 : Int)))) := Lib.hid (by
    have hB := (ho.lt hc).1
    refine ⟨?_, bset (bset (bset (bset (Below.refl _ _) hB) hB) hB) hB, ((((FrB.refl _ _ _ _).set (by omega) (by omega) _).set (by omega) (by omega) _).set (by omega) (by omega) _).set (by omega) (by omega) _⟩
    have := (((ho.set (i := 0) (by simp) (.int .u8 (a3 : Int))).set (i := 1) (by simp) (.int .u8 (a2 : Int))).set (i := 2) (by simp) (.int .u8 (a1 : Int))).set (i := 3) (by simp) (.int .u8 (a0 : Int))
    rw [Nat.add_zero] at this
    have el : ((([o0, o1, o2, o3].set 0 (.int .u8 (a3 : Int))).set 1 (.int .u8 (a2 : Int))).set 2 (.int .u8 (a1 : Int))).set 3 (.int .u8 (a0 : Int)) = cellsB (bbs 4 n) := by
      rw [h0, h1, h2, h3]; rfl
    rw [el] at this
    exact this)
  clear ho h0 h1 h2 h3 h4
  go_enter Try.func28, Try.ntmps28
  go_wp2
  go_end0
  exact ⟨rfl, Q.out⟩
end Go.Proofs.Ytlapgbkngkejpaa

/-
A number out of bytes: nat.setBytes. No condition.
-/
namespace Go.Proofs.Ytlapgbkngkejpaa
open Go.RowKit

theorem RI.win {w : World} {v : Value} {n N p k : Nat} (h : RI .u8 w v (ints (bbs n N))) (hp : p + 8 * k = n) (h8 : 8 ≤ p) : RI .u8 w (subS v (p - 8) p) (ints (bbs 8 (wdg N k))) := by
  have h1 := h.sub (l := p - 8) (n := p) (by omega) (by rw [ints_length, bbs_length]; omega)
  have h2 := bbs_word (n := n) (N := N) (k := k) (by omega)
  rw [show n - 8 * k = p by omega] at h2
  rw [← h2]
  simpa [ints, List.map_take, List.map_drop] using h1
theorem part_word {N n k p : Nat} (hN : N < 256 ^ n) (hp : p + 8 * k = n) (h8 : p < 8) : wdg N k < 256 ^ p ∧ N < 18446744073709551616 ^ (k + 1) := by
  have h1 : N < 18446744073709551616 ^ k * 256 ^ p := by rw [word_256, ← Nat.pow_add, show 8 * k + p = n by omega]; exact hN
  have h2 : N / 18446744073709551616 ^ k < 256 ^ p := Nat.div_lt_of_lt_mul h1
  refine ⟨Nat.lt_of_le_of_lt (Nat.mod_le _ _) h2, ?_⟩
  rw [word_256]
  exact Nat.lt_of_lt_of_le hN (Nat.pow_le_pow_right (by decide) (by omega))
theorem byte_or {D d b j s S : Nat} (hj : j < 8) (hd : d = D % 256 ^ j) (hb : b = byt D j) (hD : D < 18446744073709551616) (hs : s = 8 * j) (hS : S = 256 ^ j) :
    (2 : Int) ^ s = (S : Int) ∧ IntKind.u64.wrap ((b : Int) * (S : Int)) = ((b * S : Nat) : Int) ∧ bits .or .u64 (d : Int) ((b * S : Nat) : Int) = ((D % 256 ^ (j + 1) : Nat) : Int) ∧ b * S < 18446744073709551616 := by
  have hb2 : b < 256 := by rw [hb]; exact byt_lt _ _
  have e1 : S = 2 ^ s := by rw [hS, hs, Nat.pow_mul]
  have h1 : D % 256 ^ (j + 1) = d + b * S := by rw [byt_step, hd, hb, hS]
  have hlt : b * S < 18446744073709551616 := by
    have h2 : b * S ≤ 255 * 256 ^ j := by rw [hS]; exact Nat.mul_le_mul_right _ (by omega)
    have h3 : 256 ^ j ≤ 256 ^ 7 := Nat.pow_le_pow_right (by decide) (by omega)
    have h4 : (256 : Nat) ^ 7 = 72057594037927936 := by decide
    omega
  have hdl : d < 2 ^ s := by rw [hd, hs, Nat.pow_mul]; exact Nat.mod_lt _ (Nat.pow_pos (by decide))
  have hd6 : d < 18446744073709551616 := by rw [hd]; exact Nat.lt_of_le_of_lt (Nat.mod_le _ _) hD
  refine ⟨by rw [e1]; push_cast; rfl, ?_, ?_, hlt⟩
  · rw [IntKind.wrap_u64, ← Int.natCast_mul]; omega
  · rw [u64_or_nat _ _ hd6 hlt, e1, or_byte hdl, h1, e1]
set_option maxRecDepth 100000 in
set_option maxHeartbeats 3200000 in
theorem setBytes_nil (buf : Value) (n N : Nat) (w : World) (hb : RI .u8 w buf (ints (bbs n N))) (hN : N < 256 ^ n) (hn : n ≤ 10000000) :
    Calls Try.prog 30 #[.slice none 0 0, buf] w fun e w' => ∃ r, e = .returned r ∧ Own w' w.heap.size 66 r (cellsW (wds N)) ∧ Below w.heap.size w w' := by
  have hS := hb.isS
  have hL : sLen buf = n := by rw [hb.len, ints_length, bbs_length]
  have hC := hS.le
  obtain ⟨m, hm⟩ : ∃ m, m = (n + 7) / 8 := ⟨_, rfl⟩
  have e1 : ((n : Int) + 8 - 1) / 8 = (m : Int) := by omega
  have e2 : ((n : Int) + 7) / 8 = (m : Int) := by omega
  have hmb : m ≤ 10000000 := by omega
  have HB := Lib.hid hb
  have HN := Lib.hid hN
  have HM := Lib.hid hm
  clear hb hN hm
  go_enter Try.func30, Try.ntmps30
  go_wp2_with fail
  refine (make_nil m w (by omega)).mono ?_
  rintro _ w1 ⟨v, rfl, ho, hb1, hcv⟩
  have hSv := ho.isS
  have hLv : sLen v = m := by rw [ho.len, List.length_replicate]
  have R0 := Lib.hid (Vv.start (n := m) ho (by simp))
  have HB1 := Lib.hid (HB.out.below hb1)
  have Hb1 := Lib.hid hb1
  have HCV := Lib.hid (fun h => (ho.lt (hcv h)).1)
  have HCC := Lib.hid hcv
  clear ho hb1 hcv e1 e2
  go_wp2
  go_loopw [5, 6] (fun i k wr => ∃ k' p : Nat, p + 8 * k' = n ∧ i = .int .i64 p ∧ k = .int .i64 k' ∧ Vv v m w.heap.size k' (N % 18446744073709551616 ^ k') w1 wr) (fun i _ _ => (intOf i).toNat)
  case atStart => exact ⟨0, n, by omega, rfl, rfl, by rw [Nat.pow_zero, Nat.mod_one]; exact R0.out⟩
  case round =>
    obtain ⟨k, p, hp, rfl, rfl, hV⟩ := hrel
    have hbw : Below w.heap.size w1 wr := by obtain ⟨_, _, _, _, _, _, _, _, h, _⟩ := hV; exact h
    by_cases h8 : 8 ≤ p
    · have t1 : decide (8 ≤ p) = true := decide_eq_true h8
      have hkm : k < m := by have := HM.out; omega
      have hcap := HCC.out (show 0 < m by omega)
      have hBv := HCV.out (show 0 < m by omega)
      have hwin := ((HB.out.below (Hb1.out.trans hbw))).win hp h8
      obtain ⟨q, rfl⟩ : ∃ q, p = q + 8 := ⟨p - 8, by omega⟩
      rw [show q + 8 - 8 = q by omega] at hwin
      have hSw := hwin.isS
      have HW := Lib.hid (beWord_any _ _ wr hwin (wdg_lt _ _))
      have hput := fun j => (hV.drewN (k := j)).put hkm hBv (wdg_lt N k)
      rw [← wmod_succ] at hput
      have HP := Lib.hid hput
      obtain ⟨D, hD⟩ : ∃ D, D = wdg N k := ⟨_, rfl⟩
      rw [← hD] at HW HP
      obtain ⟨u, cu⟩ := hV.own hkm
      have fz := hV.frozen hcap (sOff v + k)
      have hkl : k < sLen v := by omega
      clear hV hwin hput hD hbw
      go_wp2_with fail
      refine HW.out.mono ?_
      rintro _ _ ⟨rfl, j, rfl⟩
      have cu' : (wr.drewN j).cell? ⟨sBlk v, sOff v + k, none⟩ = some u := cu
      have fz' : (wr.drewN j).frozen? ⟨sBlk v, sOff v + k, none⟩ = false := fz
      go_wp2
      go_roundw
      case rel => exact ⟨k + 1, q, by omega, by go_num, by go_num, HP.out j⟩
      case measure => simp [intOf]; omega
    · have t1 : decide (8 ≤ p) = false := decide_eq_false h8
      have hp8 : p < 8 := by omega
      have HV := Lib.hid hV
      have HR := Lib.hid (HB.out.below (Hb1.out.trans hbw))
      have hfin : Hid (∀ wf, Vv v m w.heap.size m N w1 wf → Calls Try.prog 39 #[v] wf fun e w' => e = .returned (subS v 0 (nw N)) ∧ wf = w' ∧ Own wf w.heap.size 66 (subS v 0 (nw N)) (cellsW (wds N)) ∧ Below w.heap.size w wf) := Lib.hid (fun wf hv => by
        have hlt : N < 18446744073709551616 ^ m := by rw [word_256]; exact Nat.lt_of_lt_of_le HN.out (Nat.pow_le_pow_right (by decide) (by have := HM.out; omega))
        obtain ⟨g1, g2, g3⟩ := hv.done 0 (Y := N) (by rw [Nat.mul_zero, Nat.add_zero])
        have hnum : wv (wdsN N m) = N := by rw [wdsN_wv, Nat.mod_eq_of_lt hlt]
        have hNm := norm_any v _ _ (g1.rw' wdsN_lt) (by rw [wdsN_length]; omega)
        have hT := g1.takeW wdsN_lt
        rw [hnum] at hNm hT
        exact hNm.mono (fun e w' h => ⟨h.1, h.2, hT, Hb1.out.trans g2⟩))
      clear hV hbw
      by_cases hp0 : p = 0
      · subst hp0
        have hkm : k = m := by have := HM.out; omega
        have hV2 := HV.out
        rw [hkm, Nat.mod_eq_of_lt (by rw [word_256]; exact Nat.lt_of_lt_of_le HN.out (Nat.pow_le_pow_right (by decide) (by omega)))] at hV2
        have HF := Lib.hid (hfin.out wr hV2)
        clear hV2 hkm
        go_wp2_with fail
        refine HF.out.mono ?_
        rintro _ _ ⟨rfl, rfl, ho, hbf⟩
        have Q := Lib.hid (And.intro ho hbf)
        have hSq := ho.isS
        clear ho hbf
        go_wp2
        go_ret
        exact ⟨_, rfl, Q.out⟩
      · have t2 : decide (0 < p) = true := decide_eq_true (by omega)
        have hkm : m = k + 1 := by have := HM.out; omega
        obtain ⟨hD1, hN1⟩ := part_word HN.out hp hp8
        obtain ⟨D, hD⟩ : ∃ D, D = wdg N k := ⟨_, rfl⟩
        have hDl := wdg_lt N k
        rw [← hD] at hD1 hDl
        have HD := Lib.hid hD
        have HD1 := Lib.hid hD1
        have HN1 := Lib.hid hN1
        have hSlen : 0 < sCap v := HCC.out (by omega)
        clear hD hD1 hN1
        go_wp2
        go_loopw [5, 7, 8] (fun i d s wx => ∃ j q d' s' : Nat, q + j = p ∧ i = .int .i64 q ∧ d = .int .u64 d' ∧ s = .int .u64 s' ∧ d' = D % 256 ^ j ∧ s' = 8 * j ∧ wx = wr) (fun i _ _ _ => (intOf i).toNat)
        case atStart => exact ⟨0, p, 0, 0, rfl, rfl, rfl, rfl, by rw [Nat.pow_zero, Nat.mod_one], rfl, rfl⟩
        case round =>
          obtain ⟨j, q, d', s', hq, rfl, rfl, rfl, hd, hs, hwx⟩ := hrel
          subst hwx
          by_cases hq0 : q = 0
          · subst hq0
            have hjp : j = p := by omega
            have hdD : d' = D := by rw [hd, hjp]; exact Nat.mod_eq_of_lt HD1.out
            subst hdD
            have t3 : decide ((0 : Nat) < 0) = false := by decide
            have hBv := HCV.out (show 0 < m by omega)
            have hput := HV.out.put (show k < m by omega) hBv (wdg_lt N k)
            rw [← wmod_succ, Nat.mod_eq_of_lt HN1.out, ← hkm, ← HD.out] at hput
            have HF := Lib.hid (hfin.out _ hput)
            obtain ⟨u, cu⟩ := HV.out.own (show k < m by omega)
            have fz := HV.out.frozen hSlen (sOff v + k)
            have e5 : (m : Int) - 1 = (k : Int) := by omega
            have e6 : sLen v = k + 1 := by omega
            clear hput hd hs hjp
            go_wp2_with fail
            refine HF.out.mono ?_
            rintro _ _ ⟨rfl, rfl, ho, hbf⟩
            have Q := Lib.hid (And.intro ho hbf)
            have hSq := ho.isS
            clear ho hbf
            go_wp2
            go_ret
            exact ⟨_, rfl, Q.out⟩
          · obtain ⟨q, rfl⟩ : ∃ r, q = r + 1 := ⟨q - 1, by omega⟩
            have t3 : decide (0 < q + 1) = true := by simp
            have c0 := HR.out.cellB (i := q) (by rw [bbs_length]; omega)
            rw [bbs_getD (by omega), show n - 1 - q = 8 * k + j by omega, ← byt_word N k (show j < 8 by omega), ← HD.out] at c0
            obtain ⟨b, hb⟩ : ∃ b, b = byt D j := ⟨_, rfl⟩
            rw [← hb] at c0
            obtain ⟨S, hSS⟩ : ∃ S, S = 256 ^ j := ⟨_, rfl⟩
            obtain ⟨g1, g2, g3, g4⟩ := byte_or (show j < 8 by omega) hd hb hDl hs hSS
            obtain ⟨E, hE⟩ : ∃ E, E = D % 256 ^ (j + 1) := ⟨_, rfl⟩
            rw [← hE] at g3
            obtain ⟨P, hP⟩ : ∃ P, P = b * S := ⟨_, rfl⟩
            rw [← hP] at g2 g3 g4
            have hb8 := byt_lt D j
            rw [← hb] at hb8
            have hs8 : s' < 64 := by omega
            have hqL : q < sLen buf := by omega
            have Hs := Lib.hid hs
            have HE := Lib.hid hE
            clear hd hs hb hSS hE hP
            go_wp2
            go_roundw
            case rel => exact ⟨j + 1, q, E, s' + 8, by omega, by go_num, by go_num, by go_num, HE.out, by have := Hs.out; omega, by first | trivial | rfl⟩
            case measure => simp [intOf]
end Go.Proofs.Ytlapgbkngkejpaa

/-
The thin package's integers: wordsOf, told. No condition.
-/
namespace Go.Proofs.Ytlapgbkngkejpaa
open Go.RowKit

def WoU (ws : List Nat) (B k : Nat) (w : World) (v : Value) (wr : World) : Prop := Own wr B 58 v (cellsW (ws.take k)) ∧ Below B w wr
theorem WoU.step {ws : List Nat} {B k : Nat} {w w1 : World} {v1 : Value} (hk : k < ws.length) (h : Own w1 B 58 v1 (cellsW (ws.take k) ++ [.int .u64 ((ws.getD k 0 : Nat) : Int)])) (hb : Below B w w1) : WoU ws B (k + 1) w v1 w1 := by
  refine ⟨?_, hb⟩
  rw [cellsW_snoc] at h
  rw [List.take_succ_eq_append_getElem hk]
  simpa [List.getD_eq_getElem?_getD, List.getElem?_eq_getElem hk] using h
set_option maxRecDepth 100000 in
set_option maxHeartbeats 800000 in
theorem wordsOf_any (b o : Nat) (v : Value) (ws : List Nat) (w : World) (hc : w.cell? ⟨b, o + 1, none⟩ = some v) (hv : RW w v ws) (hl : ws.length ≤ 100000000) :
    Calls Try.prog 33 #[.pointer (some ⟨b, o, none⟩)] w fun e w' => ∃ r, e = .returned r ∧ Own w' w.heap.size 58 r (cellsW ws) ∧ Below w.heap.size w w' := by
  have hSv := hv.isS
  have hLv := hv.len
  obtain ⟨la, hla⟩ : ∃ la, la = ws.length := ⟨_, rfl⟩
  rw [← hla] at hLv hl
  have Hla := Lib.hid hla
  have Hv := Lib.hid hv
  clear hla hv
  go_enter Try.func33, Try.ntmps33
  go_wp2_with fail
  refine (intBits b o v w hc hSv).mono ?_
  rintro _ _ ⟨rfl, rfl⟩
  go_wp2
  go_loopw [3, 9] (fun v i wr => ∃ k : Nat, k ≤ la ∧ i = .int .i64 k ∧ WoU ws w.heap.size k w v wr) (fun _ i _ => la - (intOf i).toNat)
  case atStart => exact ⟨0, Nat.zero_le _, rfl, Own.nil _ _ _, Below.refl _ _⟩
  case round =>
    obtain ⟨i, hi, rfl, hO, hbl⟩ := hrel
    have hbz := hbl.size
    have hSo : IsS u3 := hO.isS
    have HO := Lib.hid hO
    clear hO
    by_cases hia : i < la
    · have ca := (Hv.out.below hbl).cell i (by rw [← Hla.out]; exact hia)
      obtain ⟨d, hd⟩ : ∃ d, d = ws.getD i 0 := ⟨_, rfl⟩
      rw [← hd] at ca
      have Hd := Lib.hid hd
      clear hd
      have hlk : (cellsW (ws.take i)).length = i := by rw [cellsW_length]; have := Hla.out; simp; omega
      have Hlk := Lib.hid hlk
      clear hlk
      go_wp2_with (at_builtin; refine wpList_append_O rfl _ _ _ _ rfl elemU w.heap.size _ _ rfl (HO.out.alloc _) _ rfl 1 [.int .u64 (d : Int)] (srcOne Try.underlying22 wr _ _) ?c3 ?c4 ?c5 ?_)
      case c3 => rw [Hlk.out]; unfold maxLen; omega
      case c4 => rw [Hlk.out]; omega
      case c5 => simp; omega
      rintro v1 w1 ho1 hb1 - - -
      have hs := WoU.step (by rw [← Hla.out]; exact hia) (by rw [← Hd.out]; exact ho1) ((hbl.alloc hbz _).trans hb1)
      have Hs := Lib.hid hs
      clear hs ho1
      go_wp2
      go_roundw
      case rel => exact ⟨i + 1, by omega, by go_num, Hs.out⟩
      case measure => simp [intOf]; omega
    · have hil : i = la := by omega
      subst hil
      have hfull : ws.take i = ws := List.take_of_length_le (by rw [Hla.out]; exact Nat.le_refl _)
      have ho := HO.out
      rw [hfull] at ho
      have Ho := Lib.hid ho
      clear hfull ho
      go_wp2
      go_ret
      exact ⟨_, rfl, Ho.out, hbl⟩
theorem sgn_lt (neg : Bool) (n : Nat) : decide (sgnI neg (nw n) < 0) = (neg && decide (0 < n)) := by
  rcases Nat.eq_zero_or_pos n with h | h
  · subst h; cases neg <;> rfl
  · have := nw_pos h
    unfold sgnI
    rw [if_neg (by omega)]
    cases neg
    · rfl
    · simp [h]
set_option maxRecDepth 100000 in
theorem told_any (b o : Nat) (neg : Bool) (v : Value) (n : Nat) (w : World) (h0 : w.cell? ⟨b, o, none⟩ = some (.bool neg)) (hc : w.cell? ⟨b, o + 1, none⟩ = some v) (hv : RW w v (wds n)) (hl : nw n ≤ 100000000) :
    Calls Try.prog 31 #[.pointer (some ⟨b, o, none⟩)] w fun e w' => ∃ r, e = .returned (.agg #[.bool (neg && decide (0 < n)), r]) ∧ Own w' w.heap.size 58 r (cellsW (wds n)) ∧ Below w.heap.size w w' := by
  have hSv := hv.isS
  have hLv := hv.len
  rw [wds_length] at hLv
  have hlt := World.block_lt_of_cell? w _ hc
  have Hv := Lib.hid hv
  clear hv
  have hab := (Below.refl w.heap.size w).alloc (Nat.le_refl _) (.cells #[.bool false, .slice none 0 0] 24)
  have hrow0 := box_row (Below.refl _ (w.alloc (.cells #[.bool false, .slice none 0 0] 24)))
  obtain ⟨W, hW⟩ : ∃ W, W = w.alloc (.cells #[.bool false, .slice none 0 0] 24) := ⟨_, rfl⟩
  rw [← hW] at hab hrow0
  have h0' := (hab.cell (p := ⟨b, o, none⟩) hlt).trans h0
  have hc' := (hab.cell (p := ⟨b, o + 1, none⟩) hlt).trans hc
  have HR := Lib.hid hrow0
  have hWs := hab.size
  clear hrow0
  have t1 := sgn_lt neg n
  obtain ⟨x, hx⟩ : ∃ x, x = (neg && decide (0 < n)) := ⟨_, rfl⟩
  obtain ⟨z, hz⟩ : ∃ z, z = sgnI neg (nw n) := ⟨_, rfl⟩
  rw [← hx]
  rw [← hx, ← hz] at t1
  have hzb : -1 ≤ z ∧ z ≤ 1 := by rw [hz]; unfold sgnI; split <;> (try split) <;> omega
  obtain ⟨hz1, hz2⟩ := hzb
  have HZ := Lib.hid hz
  clear hx hz
  go_enter Try.func31, Try.ntmps31
  go_upto_region 1 with fail
  rw [← hW]
  clear hW
  go_wp2_with fail
  refine (intSign b o neg v W h0' hc' hSv).mono ?_
  rintro _ _ ⟨rfl, rfl⟩
  rw [hLv]
  have Z := HZ.out
  rw [← Z]
  clear Z h0 hc h0' hLv
  go_wp2_with fail
  refine (wordsOf_any b o v (wds n) W hc' (Hv.out.below hab) (by rw [wds_length]; exact hl)).mono ?_
  rintro _ w2 ⟨r, rfl, hr, hb2⟩
  have hSr := hr.isS
  have hrow2 := keep_row hb2 HR.out
  have k0 := row_at (i := 0) hrow2 rfl
  have k1 := row_at (i := 1) hrow2 rfl
  obtain ⟨k00, k01⟩ := k0
  obtain ⟨k10, k11⟩ := k1
  have q2 := rowset (i := 1) r (rowset (i := 0) (.bool x) hrow2)
  have e0 := (row_at (i := 0) q2 rfl).1
  have e1 := (row_at (i := 1) q2 rfl).1
  have o1 := ((hr.away hrow2 (by decide) 0 (.bool x)).away (rowset (i := 0) (.bool x) hrow2) (by decide) 1 r).mono hWs
  have b1 := bset (i := 1) (u := r) (bset (i := 0) (u := .bool x) (hab.trans (hb2.mono hWs)) (Nat.le_refl _)) (Nat.le_refl _)
  have O1 := Lib.hid o1
  have B1 := Lib.hid b1
  clear hr hrow2 q2 o1 b1
  go_wp2
  refine bodyPost_ret (v := .agg #[.bool x, r]) ?_ rfl ⟨r, rfl, O1.out, B1.out⟩
  simp [results, Try.results31, go_sem, e0, e1]
end Go.Proofs.Ytlapgbkngkejpaa

/-
The package's fractions: SetInt, Num, Denom; the thin package's rat, fraction. No condition.
-/
namespace Go.Proofs.Ytlapgbkngkejpaa
open Go.RowKit

/-- A fraction at a block. -/
def RatP (w : World) (B b : Nat) (neg : Bool) (n d : Nat) : Prop :=
  ∃ v1 v2, B ≤ b ∧ w.heap[b]? = some (.cells #[.bool neg, v1, .bool false, v2] 53 (0, 0)) ∧ Own w B 66 v1 (cellsW (wds n)) ∧ Own w B 66 v2 (cellsW (wds d))
theorem RatP.below {w w' : World} {B b : Nat} {neg : Bool} {n d : Nat} (h : RatP w B b neg n d) (hb : Below w.heap.size w w') : RatP w' B b neg n d := by
  obtain ⟨v1, v2, h1, h2, h3, h4⟩ := h
  exact ⟨v1, v2, h1, keep_row hb h2, h3.below hb, h4.below hb⟩
theorem RatP.drewN {w : World} {B b : Nat} {neg : Bool} {n d : Nat} (h : RatP w B b neg n d) (k : Nat) : RatP (w.drewN k) B b neg n d := by
  obtain ⟨v1, v2, h1, h2, h3, h4⟩ := h
  exact ⟨v1, v2, h1, h2, h3.drewN k, h4.drewN k⟩
theorem RatP.mono {w : World} {B B' b n d : Nat} {neg : Bool} (h : RatP w B b neg n d) (hB : B' ≤ B) : RatP w B' b neg n d := by
  obtain ⟨v1, v2, h1, h2, h3, h4⟩ := h
  exact ⟨v1, v2, Nat.le_trans hB h1, h2, h3.mono hB, h4.mono hB⟩
theorem wds_one : wds 1 = [1] := by decide
set_option maxRecDepth 100000 in
theorem ratNum (b : Nat) (w : World) :
    Calls Try.prog 32 #[.pointer (some ⟨b, 0, none⟩)] w fun e w' => e = .returned (.pointer (some ⟨b, 0, none⟩)) ∧ w = w' := by
  go_enter Try.func32, Try.ntmps32
  go_wp2
  go_ret
  exact ⟨rfl, rfl⟩
set_option maxRecDepth 100000 in
theorem ratDenom (b : Nat) (v : Value) (w : World) (hc : w.cell? ⟨b, 3, none⟩ = some v) (hS : IsS v) (hl : 0 < sLen v) :
    Calls Try.prog 24 #[.pointer (some ⟨b, 0, none⟩)] w fun e w' => e = .returned (.pointer (some ⟨b, 2, none⟩)) ∧ w = w' := by
  obtain ⟨l, hl'⟩ : ∃ l, sLen v = l := ⟨_, rfl⟩
  rw [hl'] at hl
  have t1 : ((l : Int) == 0) = false := by rw [beq_eq_false_iff_ne]; omega
  go_enter Try.func24, Try.ntmps24
  go_wp2
  go_ret
  exact ⟨rfl, rfl⟩
theorem IntP.lt {w : World} {B b n : Nat} {neg : Bool} (h : IntP w B b neg n) : b < w.heap.size := by
  obtain ⟨v, _, h2, _⟩ := h
  exact (heap_alloc_lt (o := .cells #[] 0) h2).2
set_option maxRecDepth 100000 in
set_option maxHeartbeats 800000 in
theorem ratSetInt (b c B : Nat) (neg : Bool) (n : Nat) (w : World) (hz : w.heap[b]? = some (.cells #[.bool false, .slice none 0 0, .bool false, .slice none 0 0] 53 (0, 0)))
    (hx : IntP w B c neg n) (hbc : b ≠ c) (hn : nw n ≤ 100000000) (hB : B ≤ b) :
    Calls Try.prog 22 #[.pointer (some ⟨b, 0, none⟩), .pointer (some ⟨c, 0, none⟩)] w fun e w' => e = .returned (.pointer (some ⟨b, 0, none⟩)) ∧ RatP w' B b neg n 1 ∧ Below B w w' := by
  obtain ⟨v, hc1, hrc, hov⟩ := hx
  have HZ := Lib.hid hz
  have HC := Lib.hid hrc
  have HV := Lib.hid (hov.rw' (wds_all n))
  have hbs : b < w.heap.size := (heap_alloc_lt (o := .cells #[] 0) hz).2
  clear hz hrc hov
  go_enter Try.func22, Try.ntmps22
  go_wp2_with fail
  refine (intSet b 0 c 0 (.bool false) v neg _ _ _ _ (wds n) w hbc HZ.out HC.out rfl rfl rfl rfl HV.out (by rw [wds_length]; omega)).mono ?_
  rintro _ w2 ⟨rfl, r, w1, hw2, ho1, hb1⟩
  have q1 := rowset (i := 0 + 1) r (keep_row hb1 HZ.out)
  have q2 := rowset (i := 0) (.bool neg) q1
  have o1 := ((ho1.away (keep_row hb1 HZ.out) (by decide) (0 + 1) r).away q1 (by decide) 0 (.bool neg)).mono (show B ≤ w.heap.size by omega)
  have bb := bset (i := 0) (u := .bool neg) (bset (i := 0 + 1) (u := r) (hb1.mono (show B ≤ w.heap.size by omega)) hB) hB
  rw [← hw2] at q2 o1 bb
  have Q2 := Lib.hid q2
  have O1 := Lib.hid o1
  have BB := Lib.hid bb
  have k3 := (row_at (i := 3) q2 rfl).1
  have hbs2 : b < w2.heap.size := (heap_alloc_lt (o := .cells #[] 0) q2).2
  clear hw2 q1 q2 o1 bb ho1 hb1
  go_wp2_with fail
  refine (setWord_nil 1 _ (by decide) (by decide)).mono ?_
  rintro _ w3 ⟨r2, rfl, ho3, hb3⟩
  have hS3 := ho3.isS
  have ho3' := ho3.mono (show B ≤ w2.heap.size by omega)
  have hb3' := hb3
  have q3 := keep_row hb3' Q2.out
  have m3 := row_at (i := 3) q3 rfl
  obtain ⟨m30, m31⟩ := m3
  have q4 := rowset (i := 3) r2 q3
  have o4 := (O1.out.below hb3').away q3 (by decide) 3 r2
  have o5 := ho3'.away q3 (by decide) 3 r2
  have bb4 := bset (i := 3) (u := r2) (BB.out.trans (hb3'.mono (show B ≤ w2.heap.size by omega))) hB
  have Q4 := Lib.hid q4
  have O4 := Lib.hid o4
  have O5 := Lib.hid o5
  have B4 := Lib.hid bb4
  clear hb3 hb3' ho3 ho3' q3 q4 o4 o5 bb4 k3
  go_wp2
  go_ret
  exact ⟨rfl, ⟨r, r2, hB, Q4.out, O4.out, by rw [wds_one]; exact O5.out⟩, B4.out⟩
end Go.Proofs.Ytlapgbkngkejpaa

/-
The thin package's fractions: rat, fraction. No condition.
-/
namespace Go.Proofs.Ytlapgbkngkejpaa
open Go.RowKit

theorem RW.belowB {w w' : World} {v : Value} {ds : List Nat} {B : Nat} (h : RW w v ds) (hb : Below B w w') (hlt : 0 < ds.length → sBlk v < B) : RW w' v ds := ⟨h.ri.belowB hb (by rw [ints_length]; exact hlt), h.lt⟩
set_option maxRecDepth 100000 in
set_option maxHeartbeats 800000 in
theorem rat_any (b : Bool) (v1 v2 : Value) (ns ds : List Nat) (w : World) (h1 : RW w v1 ns) (h2 : RW w v2 ds) (hl1 : ns.length ≤ 100000) (hl2 : ds.length ≤ 100000) :
    Calls Try.prog 12 #[.agg #[.bool b, v1, v2]] w fun e w' => ∃ g, e = .returned (.pointer (some ⟨g, 0, none⟩)) ∧ RatP w' w.heap.size g (b && decide (0 < wv ns)) (wv ns) (wv ds) ∧ Below w.heap.size w w' := by
  have hS1 := h1.isS
  have hS2 := h2.isS
  have hL2 := h2.len
  obtain ⟨la, hla⟩ : ∃ la, la = ds.length := ⟨_, rfl⟩
  rw [← hla] at hL2 hl2
  have Hla := Lib.hid hla
  have H1 := Lib.hid h1
  have H2 := Lib.hid h2
  clear h1 h2 hla
  have hab := (Below.refl w.heap.size w).alloc (Nat.le_refl _) (.cells #[.bool b, v1, v2] 26)
  obtain ⟨W, hW⟩ : ∃ W, W = w.alloc (.cells #[.bool b, v1, v2] 26) := ⟨_, rfl⟩
  have hrow : W.heap[w.heap.size]? = some (.cells #[.bool b, v1, v2] 26 (0, 0)) := by rw [hW]; exact box_row (Below.refl _ _)
  rw [← hW] at hab
  have hWs : w.heap.size ≤ W.heap.size := hab.size
  have hx : W.cell? ⟨w.heap.size, 0, none⟩ = some (.bool b) := (row_at (i := 0) hrow rfl).1
  have hy : W.cell? ⟨w.heap.size, 1, none⟩ = some v1 := (row_at (i := 1) hrow rfl).1
  have hWlt : w.heap.size < W.heap.size := (heap_alloc_lt (o := .cells #[] 0) hrow).2
  have ha1 := (Below.refl W.heap.size W).alloc (Nat.le_refl _) (.cells #[.bool false, .slice none 0 0, .bool false, .slice none 0 0] 53)
  have hrow1 := box_row (Below.refl _ (W.alloc (.cells #[.bool false, .slice none 0 0, .bool false, .slice none 0 0] 53)))
  have HR := Lib.hid hrow
  have R1 := Lib.hid (H1.out.below hab)
  have R2 := Lib.hid (H2.out.below hab)
  clear hrow
  go_enter Try.func12, Try.ntmps12
  go_upto_region 1 with fail
  rw [← hW]
  clear hW
  have HR1 := Lib.hid hrow1
  clear hrow1
  go_wp2_with fail
  refine (of_any b v1 ns _ (R1.out.below ha1) (by omega)).mono ?_
  rintro _ w1 ⟨c, rfl, hI, hb1⟩
  have hIW := hI.mono (show W.heap.size ≤ (W.alloc (.cells #[.bool false, .slice none 0 0, .bool false, .slice none 0 0] 53)).heap.size from ha1.size)
  have hr1 := keep_row hb1 HR1.out
  have hcb : W.heap.size ≠ c := by
    obtain ⟨_, hc, _, _⟩ := hI
    have : W.heap.size < (W.alloc (.cells #[.bool false, .slice none 0 0, .bool false, .slice none 0 0] 53)).heap.size := by simp
    omega
  have hnn : nw (wv ns) ≤ 100000000 := Nat.le_trans (nw_le (wv_lt R1.out.lt)) (by omega)
  have HI := Lib.hid hIW
  have HB1 := Lib.hid (bthen ha1 hb1)
  have Hr1 := Lib.hid hr1
  clear hI hIW hb1 hr1
  go_wp2_with fail
  refine (ratSetInt W.heap.size c W.heap.size _ _ w1 Hr1.out HI.out hcb hnn (Nat.le_refl _)).mono ?_
  rintro _ w2 ⟨rfl, hR2, hb2⟩
  have HR2 := Lib.hid hR2
  have HB2 := Lib.hid (HB1.out.trans hb2)
  clear hR2 hb2
  have hy2 : w2.cell? ⟨w.heap.size, 2, none⟩ = some v2 := (row_at (i := 2) (keep_row HB2.out HR.out) rfl).1
  go_wp2
  have hR2d := Lib.hid (R2.out.belowB HB2.out (fun h => by have := R2.out.ri.lt (by rw [ints_length]; exact h); omega))
  go_loopw [4, 15] (fun v i wr => ∃ k : Nat, k ≤ la ∧ i = .int .i64 k ∧ OfW ds w2.heap.size k w2 v wr) (fun _ i _ => la - (intOf i).toNat)
  case atStart => exact ⟨0, Nat.zero_le _, rfl, Own.nil _ _ _, Below.refl _ _⟩
  case round =>
    obtain ⟨i, hi, rfl, hO, hbl⟩ := hrel
    have hbz := hbl.size
    have hSo : IsS u4 := hO.isS
    have HO := Lib.hid hO
    clear hO hy2 hx hy
    by_cases hia : i < la
    · have ca := (hR2d.out.below hbl).cell i (by rw [← Hla.out]; exact hia)
      obtain ⟨d, hd⟩ : ∃ d, d = ds.getD i 0 := ⟨_, rfl⟩
      rw [← hd] at ca
      have Hd := Lib.hid hd
      clear hd
      have hlk : (cellsW (ds.take i)).length = i := by rw [cellsW_length]; have := Hla.out; simp; omega
      have Hlk := Lib.hid hlk
      clear hlk
      go_wp2_with (at_builtin; refine wpList_append_O rfl _ _ _ _ rfl elemW w2.heap.size _ _ rfl (HO.out.alloc _) _ rfl 1 [.int .u64 (d : Int)] (srcOne Try.underlying48 wr _ _) ?c3 ?c4 ?c5 ?_)
      case c3 => rw [Hlk.out]; unfold maxLen; omega
      case c4 => rw [Hlk.out]; omega
      case c5 => simp; omega
      rintro v1 w1 ho1 hb1 - - -
      have hs := OfW.step (by rw [← Hla.out]; exact hia) (by rw [← Hd.out]; exact ho1) ((hbl.alloc hbz _).trans hb1)
      have Hs := Lib.hid hs
      clear hs ho1
      go_wp2
      go_roundw
      case rel => exact ⟨i + 1, by omega, by go_num, Hs.out⟩
      case measure => simp [intOf]; omega
    · have hil : i = la := by omega
      subst hil
      have hfull : ds.take i = ds := List.take_of_length_le (by rw [Hla.out]; exact Nat.le_refl _)
      have ho := HO.out
      rw [hfull] at ho
      have Ho := Lib.hid ho
      have Hrw := Lib.hid (ho.rw' R2.out.lt)
      obtain ⟨a1, a2, hA, hrow, hoA, hoB⟩ := HR2.out.below hbl
      have hSa := hoB.isS
      have hLa : 0 < sLen a2 := by rw [hoB.len, cellsW_length, wds_one]; decide
      have k3 := row_at (i := 3) hrow rfl
      have k2 := row_at (i := 2) hrow rfl
      have HRow := Lib.hid hrow
      have HA := Lib.hid hoA
      clear hfull ho hrow hoA hoB
      go_wp2_with fail
      refine (ratDenom W.heap.size a2 wr k3.1 hSa hLa).mono ?_
      rintro _ _ ⟨rfl, rfl⟩
      go_wp2_with fail
      refine (intSetBits W.heap.size 2 (.bool false) a2 u4 ds wr k2 k3 Hrw.out (by rw [← Hla.out]; omega)).mono ?_
      rintro _ w3 ⟨rfl, hw3⟩
      have q1 := rowset (i := 2 + 1) (subS u4 0 (nw (wv ds))) HRow.out
      have q2 := rowset (i := 2) (.bool false) q1
      have hgs : W.heap.size ≤ w2.heap.size := HB2.out.size
      have o1 := (HA.out.away HRow.out (by decide) (2 + 1) (subS u4 0 (nw (wv ds)))).away q1 (by decide) 2 (.bool false)
      have o2 := (((Ho.out.takeW R2.out.lt).away HRow.out (by decide) (2 + 1) (subS u4 0 (nw (wv ds)))).away q1 (by decide) 2 (.bool false)).mono hgs
      have bb := bset (i := 2) (u := .bool false) (bset (i := 2 + 1) (u := subS u4 0 (nw (wv ds))) (HB2.out.trans (hbl.mono hgs)) (Nat.le_refl _)) (Nat.le_refl _)
      have bW := hab.trans (bb.mono hWs)
      have fin : RatP w3 w.heap.size W.heap.size (b && decide (0 < wv ns)) (wv ns) (wv ds) := by
        rw [hw3]
        exact ⟨a1, _, hWs, q2, o1.mono hWs, o2.mono hWs⟩
      rw [← hw3] at bW
      have F := Lib.hid fin
      have BW := Lib.hid bW
      clear hw3 q1 q2 o1 o2 bb fin bW k2 k3
      go_wp2
      go_ret
      exact ⟨W.heap.size, rfl, F.out, BW.out⟩
end Go.Proofs.Ytlapgbkngkejpaa
