/-
Texts of this proof, joined: VvA VvB VvL. No condition.
-/
import Derived.Test.YtllhnjpnkmjopaaGreatDoorK05
namespace Go.Proofs.YtllhnjpnkmjopaaGreatDoor
open Go.RowKit

structure FrB (b lo hi : Nat) (w w' : World) : Prop where
  only : Only b w w'
  row : ∀ cur e fr, w.heap[b]? = some (.cells cur e fr) → ∃ cur', w'.heap[b]? = some (.cells cur' e fr) ∧ cur'.size = cur.size ∧ ∀ i, i < lo ∨ hi ≤ i → cur'[i]? = cur[i]?
theorem FrB.refl (b lo hi : Nat) (w : World) : FrB b lo hi w w := ⟨Only.refl _ _, fun cur _e _fr h => ⟨cur, h, rfl, fun _ _ => rfl⟩⟩
theorem FrB.trans {b lo hi : Nat} {w1 w2 w3 : World} (h : FrB b lo hi w1 w2) (hz : w1.heap.size ≤ w2.heap.size) (k : FrB b lo hi w2 w3) : FrB b lo hi w1 w3 := by
  refine ⟨h.only.trans hz k.only, fun cur e fr hr => ?_⟩
  obtain ⟨c1, h1, h2, h3⟩ := h.row cur e fr hr
  obtain ⟨c2, k1, k2, k3⟩ := k.row c1 e fr h1
  exact ⟨c2, k1, k2.trans h2, fun i hi => (k3 i hi).trans (h3 i hi)⟩
theorem FrB.mono {b lo hi lo' hi' : Nat} {w w' : World} (h : FrB b lo hi w w') (h1 : lo' ≤ lo) (h2 : hi ≤ hi') : FrB b lo' hi' w w' := by
  refine ⟨h.only, fun cur e fr hr => ?_⟩
  obtain ⟨c1, k1, k2, k3⟩ := h.row cur e fr hr
  exact ⟨c1, k1, k2, fun i hi => k3 i (by omega)⟩
theorem FrB.drewN {b lo hi n : Nat} {w w' : World} (h : FrB b lo hi w w') : FrB b lo hi w (w'.drewN n) := ⟨h.only, h.row⟩
theorem FrB.undrewN {b lo hi n : Nat} {w w' : World} (h : FrB b lo hi (w.drewN n) w') : FrB b lo hi w w' := ⟨h.only, h.row⟩
theorem FrB.set {b lo hi i : Nat} {w w' : World} (h : FrB b lo hi w w') (h1 : lo ≤ i) (h2 : i < hi) (u : Value) : FrB b lo hi w (w'.setCell ⟨b, i, none⟩ u) := by
  refine ⟨fun k hk hne => (heap_setCell_other _ _ _ _ (by simpa using hne)).trans (h.only k hk hne), fun cur e fr hr => ?_⟩
  obtain ⟨c1, k1, k2, k3⟩ := h.row cur e fr hr
  refine ⟨c1.setIfInBounds i u, by simp [World.setCell, Array.getElem?_modify, k1], by simpa using k2, fun j hj => ?_⟩
  rw [Array.getElem?_setIfInBounds, if_neg (by omega)]
  exact k3 j hj
theorem FrB.setRow {b lo hi : Nat} {w : World} {cur cur' : Array Value} {e : TypeId} {fr : Nat × Nat} (hr : w.heap[b]? = some (.cells cur e fr)) (hs : cur'.size = cur.size) (h : ∀ i, i < lo ∨ hi ≤ i → cur'[i]? = cur[i]?) : FrB b lo hi w (w.setRow b cur') := by
  refine ⟨fun k hk hne => setRow_other w _ k _ hne, fun c e' fr' hc => ?_⟩
  rw [hr] at hc
  cases hc
  exact ⟨cur', setRow_heap w _ _ _ _ _ hr, hs, h⟩
theorem FrB.cell {b lo hi : Nat} {w w' : World} (h : FrB b lo hi w w') {k i : Nat} {u : Value} (hc : w.cell? ⟨k, i, none⟩ = some u) (hn : k = b → i < lo ∨ hi ≤ i) : w'.cell? ⟨k, i, none⟩ = some u := by
  have hlt := World.block_lt_of_cell? w _ hc
  by_cases hk : k = b
  · subst hk
    unfold World.cell? at hc ⊢
    simp only at hc hlt ⊢
    cases hr : w.heap[k]? with
    | none => rw [hr] at hc; simp at hc
    | some o =>
      rw [hr] at hc
      cases o with
      | cells cur e fr =>
        obtain ⟨c1, k1, k2, k3⟩ := h.row cur e fr hr
        rw [k1]
        simp only at hc ⊢
        rw [k3 i (hn rfl)]; exact hc
      | map es cl => simp at hc
      | _ => simp_all
  · exact (World.cell?_of_block (h.only k hlt hk)).trans hc
theorem FrB.rw {b lo hi : Nat} {w w' : World} {v : Value} {ws : List Nat} (h : FrB b lo hi w w') (hv : RW w v ws) (hn : sBlk v = b → sOff v + ws.length ≤ lo ∨ hi ≤ sOff v) : RW w' v ws :=
  ⟨⟨hv.ri.isS, hv.ri.len, fun i hi => h.cell (hv.ri.cell i hi) (fun hb => by have := hn hb; rw [ints_length] at hi; omega)⟩, hv.lt⟩
theorem Own.patch {w w' : World} {B : Nat} {e : TypeId} {v : Value} {xs ys : List Value} (h : Own w B e v xs) {l n : Nat} (h1 : l ≤ n) (h2 : n ≤ xs.length) (hy : ys.length = n - l)
    (k : Own w' B e (subS v l n) ys) (f : FrB (sBlk v) (sOff v + l) (sOff v + n) w w') : Own w' B e v (xs.take l ++ (ys ++ xs.drop n)) := by
  have hl := h.len
  have hcap := h.isS.le
  refine ⟨h.isS, by simp; omega, h.cap, ?_⟩
  rcases h.row with h0 | ⟨hb, cur, hg, hsz, ht⟩
  · exact .inl h0
  · obtain ⟨c1, g1, g2, g3⟩ := f.row cur e (0, 0) hg
    refine .inr ⟨hb, c1, g1, by omega, ?_⟩
    have hlen : (xs.take l ++ (ys ++ xs.drop n)).length = xs.length := by simp; omega
    rw [hlen]
    apply List.ext_getElem?
    intro i
    rw [List.getElem?_take]
    have hx : ∀ j, j < xs.length → xs[j]? = cur[sOff v + j]? := fun j hj => by
      rw [← ht, List.getElem?_take, if_pos hj, List.getElem?_drop]; simp
    by_cases hi : i < xs.length
    · rw [if_pos hi, List.getElem?_drop]
      have e1 : c1.toList[sOff v + i]? = c1[sOff v + i]? := by simp
      rw [e1]
      by_cases hil : i < l
      · rw [g3 _ (by omega), List.getElem?_append_left (by simp; omega), List.getElem?_take, if_pos hil, hx i hi]
      · rw [List.getElem?_append_right (by simp; omega)]
        have e2 : (xs.take l).length = l := by simp; omega
        rw [e2]
        by_cases hin : i < n
        · rw [List.getElem?_append_left (by omega)]
          obtain ⟨u, hu⟩ : ∃ u, ys[i - l]? = some u := ⟨_, List.getElem?_eq_getElem (by omega)⟩
          have hc := k.cell hu
          rw [subS_blk h.isS, subS_off h.isS (by omega), show sOff v + l + (i - l) = sOff v + i by omega, cell_of_row w' _ _ c1 e (0, 0) g1] at hc
          rw [hu]; exact hc
        · rw [g3 _ (by omega), List.getElem?_append_right (by omega), hy, List.getElem?_drop, show n + (i - l - (n - l)) = i by omega, hx i hi]
    · rw [if_neg hi, List.getElem?_eq_none (by rw [hlen]; omega)]
theorem laid_get {cur cs : List Value} {o i : Nat} (h : o + cs.length ≤ cur.length) (hi : i < o ∨ o + cs.length ≤ i) : (cur.take o ++ (cs ++ cur.drop (o + cs.length)))[i]? = cur[i]? := by
  have e2 : (cur.take o).length = o := by simp; omega
  rcases hi with hi | hi
  · rw [List.getElem?_append_left (by omega), List.getElem?_take, if_pos hi]
  · rw [List.getElem?_append_right (by omega), e2, List.getElem?_append_right (by omega), List.getElem?_drop]
    congr 1; omega
theorem wpList_clear_O {P : Program} {w : World} {ops : Array Oper} {rest : List Oper} {o : Oper} {a : Act} {Q : Exit → Act → World → Prop} (hgd : o.guard = none) (s : Operand) (t : TypeId)
    (ho : o.op = .call { callee := .builtin .clear, args := #[s], argTypes := #[t] }) {e : TypeId} {bytes : Nat} {z : Value} (E : ElemT P t e bytes z) (hz1 : z.oneCell' = true) (v : Value) (hs : a.eval s = v) (B : Nat) (xs : List Value) (hown : Own w B e v xs)
    (h : ∀ w', Own w' B e v (List.replicate xs.length z) → Below B w w' → FrB (sBlk v) (sOff v) (sOff v + xs.length) w w' → wpList P ops Q rest (a.put o.dst (.tuple #[])) w') : wpList P ops Q (o :: rest) a w := by
  have hL := hown.len
  have hC := hown.isS.le
  obtain ⟨i, hi, hz, hsz, hbb, hzc⟩ := E.info
  by_cases h0 : xs.length = 0
  · obtain rfl : xs = [] := List.eq_nil_of_length_eq_zero h0
    obtain ⟨p, n, c, rfl⟩ := hown.isS.form
    have hn : n = 0 := by simpa [sLen] using hL
    subst hn
    refine wpList_plain hgd fun K hK => ?_
    have hrun : (Builtin.clear_ #[t] o.type #[.slice p 0 c]).run P w = .ok (.tuple #[]) w := by
      cases p <;> simp [Builtin.clear_, run_underlying E.ht, Result.andThen]
    unfold Oper.wp
    simp [execOp, ho, resolve, invoke, builtin, hs, hrun, Result.andThen]
    exact hK _ _ (h w hown (Below.refl _ _) (FrB.refl _ _ _ _))
  · rcases hown.row with hr | ⟨hb, cur, hg, hcs, ht⟩
    · omega
    · have hv := hown.isS.out (by omega)
      refine wpList_plain hgd fun K hK => ?_
      have hzl : (Builtin.zeroCells #[z] xs.length).toList = List.replicate xs.length z := by
        apply List.ext_getElem
        · simp [Builtin.zeroCells]
        · intro j h1 h2
          simp [Builtin.zeroCells, Nat.mod_one]
      have hst := run_storeCells_at (P := P) (sBlk v) (sOff v) e (List.replicate xs.length z) 0 cur w hg (by simp; omega) (fun x hx => by rw [List.eq_of_mem_replicate hx]; exact hz1)
      have hrun : (Builtin.clear_ #[t] o.type #[v]).run P w = .ok (.tuple #[]) (w.setRow (sBlk v) (cur.toList.take (sOff v) ++ (List.replicate xs.length z ++ cur.toList.drop (sOff v + xs.length))).toArray) := by
        rw [hv, hL]
        obtain ⟨m, hm⟩ : ∃ m, xs.length = m + 1 := ⟨xs.length - 1, by omega⟩
        rw [hm] at hst hzl ⊢
        simp [Builtin.clear_, run_underlying E.ht, zeroValue, typeInfo, hi, hz, hzc, hzl, Result.andThen]
        have := hst
        simp at this
        rw [this]
      unfold Oper.wp
      simp only [execOp, ho, resolve, invoke, builtin, Sem.run_bind, Sem.run_pure, Result.andThen_ok, List.map_toArray, List.map_cons, List.map_nil, hs, hrun]
      have hsz2 : (cur.toList.take (sOff v) ++ (List.replicate xs.length z ++ cur.toList.drop (sOff v + xs.length))).toArray.size = cur.size := by simp; omega
      refine hK _ _ (h _ ⟨hown.isS, by simpa using hL, hown.cap, .inr ⟨hb, _, setRow_heap w _ _ _ _ _ hg, by rw [hsz2]; exact hcs, ?_⟩⟩ (below_setRow (Below.refl _ _) hb _) (FrB.setRow hg hsz2 fun i hi => ?_))
      · have hlt : (cur.toList.take (sOff v)).length = sOff v := by simp; omega
        simp only [List.length_replicate]
        rw [List.drop_left' hlt, List.take_left' (by simp)]
      · have := laid_get (cur := cur.toList) (cs := List.replicate xs.length z) (o := sOff v) (i := i) (by simp; omega) (by simpa using hi)
        simpa using this
theorem wpList_copy_W {P : Program} {w : World} {ops : Array Oper} {rest : List Oper} {o : Oper} {a : Act} {Q : Exit → Act → World → Prop} (hgd : o.guard = none) (d s : Operand) (dT sT : TypeId)
    (ho : o.op = .call { callee := .builtin .copy, args := #[d, s], argTypes := #[dT, sT] }) (elem : TypeId) (hu : P.underlying dT = some (.slice elem)) (hsz : (P.info? elem).map (·.size) = some 1)
    (v vx : Value) (hd : a.eval d = v) (hs : a.eval s = vx) (B : Nat) (xs : List Value) (hown : Own w B elem v xs) (cs : List Value) (hlen : cs.length = xs.length) (hsx : IsS vx) (hlx : sLen vx = cs.length)
    (hsrc : ∀ j u, cs[j]? = some u → w.cell? ⟨sBlk vx, sOff vx + j, none⟩ = some u) (h1 : ∀ v ∈ cs, v.oneCell' = true)
    (h : ∀ w', Own w' B elem v cs → Below B w w' → FrB (sBlk v) (sOff v) (sOff v + xs.length) w w' → (cs.length = 0 → w' = w) → wpList P ops Q rest (a.put o.dst (goInt cs.length)) w') : wpList P ops Q (o :: rest) a w := by
  have hL := hown.len
  have hC := hown.isS.le
  have hCx := hsx.le
  by_cases h0 : cs.length = 0
  · obtain rfl : cs = [] := List.eq_nil_of_length_eq_zero h0
    obtain rfl : xs = [] := List.eq_nil_of_length_eq_zero (by simpa using hlen.symm)
    obtain ⟨p, n, c, rfl⟩ := hown.isS.form
    obtain ⟨p', n', c', rfl⟩ := hsx.form
    have hn : n = 0 := by simpa [sLen] using hL
    subst hn
    exact wpList_copy_nothing hgd d s dT sT ho elem hu hsz p p' 0 c n' c' hd hs (by simp) (h w hown (Below.refl _ _) (FrB.refl _ _ _ _) (fun _ => rfl))
  · rcases hown.row with hr | ⟨hb, cur, hg, hcs, ht⟩
    · omega
    · have hv := hown.isS.out (by omega)
      have hvx := hsx.out (by omega)
      have hsz2 : (cur.toList.take (sOff v) ++ (cs ++ cur.toList.drop (sOff v + cs.length))).toArray.size = cur.size := by simp; omega
      refine wpList_copy_own hgd d s dT sT ho elem hu hsz (sBlk v) (sOff v) (sLen v) (sCap v) ⟨sBlk vx, sOff vx, none⟩ (sLen vx) (sCap vx) (hd.trans hv) (hs.trans hvx) cur elem hg cs (by rw [hlx, hL, hlen]; simp) (fun j u hj => by rw [add_none]; exact hsrc j u hj) (by omega) h1 ?_
      refine h _ ⟨hown.isS, by omega, hown.cap, .inr ⟨hb, _, setRow_heap w _ _ _ _ _ hg, by rw [hsz2]; exact hcs, ?_⟩⟩ (below_setRow (Below.refl _ _) hb _) (FrB.setRow hg hsz2 fun i hi => ?_) (fun hc => absurd hc h0)
      · have hlt : (cur.toList.take (sOff v)).length = sOff v := by simp; omega
        rw [List.drop_left' hlt, List.take_left' rfl]
      · have := laid_get (cur := cur.toList) (cs := cs) (o := sOff v) (i := i) (by simp; omega) (by rw [hlen]; exact hi)
        simpa using this
def Vv (v : Value) (n B i Z : Nat) (w wr : World) : Prop :=
  ∃ (os : List Value) (ds : List Nat), Own wr B 116 v os ∧ os.length = n ∧ os.take i = cellsW ds ∧ ds.length = i ∧ (∀ d ∈ ds, d < 18446744073709551616) ∧ wv ds = Z ∧ Below B w wr ∧ FrB (sBlk v) (sOff v) (sOff v + i) w wr
theorem Vv.start {v : Value} {B n : Nat} {os : List Value} {w : World} (h : Own w B 116 v os) (hn : os.length = n) : Vv v n B 0 0 w w :=
  ⟨os, [], h, hn, (by simp [cellsW]), rfl, (fun d hd => by cases hd), rfl, Below.refl _ _, FrB.refl _ _ _ _⟩
theorem Vv.put {v : Value} {n B i Z : Nat} {w wr : World} (h : Vv v n B i Z w wr) (hi : i < n) (hc : B ≤ sBlk v) {d : Nat} (hd : d < 18446744073709551616) :
    Vv v n B (i + 1) (Z + 18446744073709551616 ^ i * d) w (wr.setCell ⟨sBlk v, sOff v + i, none⟩ (.int .u64 (d : Int))) := by
  obtain ⟨os, ds, h1, h2, h3, h4, h5, h6, h7, h8⟩ := h
  have ho := h1.set (i := i) (by omega) (.int .u64 (d : Int))
  refine ⟨os.set i (.int .u64 (d : Int)), ds ++ [d], ho, by simpa using h2, ?_, by simp; omega, ?_, ?_, bset h7 hc, (h8.mono (Nat.le_refl _) (by omega)).set (by omega) (by omega) _⟩
  · have e1 : (os.take i).length = i := by simp; omega
    rw [← cellsW_snoc, ← h3, List.take_set, List.take_succ_eq_append_getElem (by omega : i < os.length), List.set_append_right _ _ (by omega), e1]
    simp
  · intro x hx
    rcases List.mem_append.1 hx with h | h
    · exact h5 x h
    · rw [List.mem_singleton] at h; rw [h]; exact hd
  · rw [wv_snoc, h4, h6]
theorem Vv.drewN {v : Value} {n B i Z k : Nat} {w wr : World} (h : Vv v n B i Z w wr) : Vv v n B i Z w (wr.drewN k) := by
  obtain ⟨os, ds, h1, h2, h3, h4, h5, h6, h7, h8⟩ := h
  exact ⟨os, ds, h1.drewN _, h2, h3, h4, h5, h6, undrewN' h7, h8.drewN⟩
def VvP (v : Value) (n B Z : Nat) (w w' : World) : Prop := Own w' B 116 v (cellsW (wdsN Z n)) ∧ Below B w w' ∧ FrB (sBlk v) (sOff v) (sOff v + n) w w'
theorem wdsN_eq {os : List Nat} {n Z : Nat} (hl : os.length = n) (hd : ∀ d ∈ os, d < 18446744073709551616) (h : ∃ c, Z = wv os + 18446744073709551616 ^ n * c) : os = wdsN Z n := by
  obtain ⟨c, rfl⟩ := h
  refine wv_inj hd wdsN_lt (by rw [wdsN_length, hl]) ?_
  rw [wdsN_wv, Nat.add_mul_mod_self_left, Nat.mod_eq_of_lt]
  have := wv_lt hd
  rw [hl] at this; exact this
theorem Vv.done {v : Value} {n B Z : Nat} {w wr : World} (h : Vv v n B n Z w wr) {Y : Nat} (c : Nat) (hY : Y = Z + 18446744073709551616 ^ n * c) : VvP v n B Y w wr := by
  obtain ⟨os, ds, h1, h2, h3, h4, h5, h6, h7, h8⟩ := h
  rw [List.take_of_length_le (by omega)] at h3
  rw [VvP, ← wdsN_eq h4 h5 ⟨c, by rw [h6]; exact hY⟩, ← h3]
  exact ⟨h1, h7, h8⟩
theorem Vv.src {v x : Value} {n B i Z : Nat} {xs : List Nat} {w wr : World} (h : Vv v n B i Z w wr) (hx : RW w x xs) (hal : sBlk x = sBlk v → sOff v ≤ sOff x) {j : Nat} (hij : i ≤ j) (hj : j < xs.length) : wr.cell? ⟨sBlk x, sOff x + j, none⟩ = some (.int .u64 ((xs.getD j 0 : Nat) : Int)) := by
  obtain ⟨os, ds, h1, h2, h3, h4, h5, h6, h7, h8⟩ := h
  exact h8.cell (hx.cell j hj) (fun hb => by have := hal hb; omega)
theorem Vv.frozen {v : Value} {n B i Z : Nat} {w wr : World} (h : Vv v n B i Z w wr) (hc : 0 < sCap v) (k : Nat) : wr.frozen? ⟨sBlk v, k, none⟩ = false := by
  obtain ⟨os, ds, h1, -⟩ := h
  exact h1.frozen hc k
theorem Vv.own {v : Value} {n B i Z : Nat} {w wr : World} (h : Vv v n B i Z w wr) {k : Nat} (hk : k < n) : ∃ u : Value, wr.cell? ⟨sBlk v, sOff v + k, none⟩ = some u := by
  obtain ⟨os, ds, h1, h2, -⟩ := h
  exact ⟨_, h1.cell (List.getElem?_eq_getElem (by omega))⟩
set_option maxRecDepth 100000 in
theorem bitsAddC (x y c s d : Nat) (w : World) (hc : c ≤ 1) (h : x + y + c = s + 18446744073709551616 * d) (hs : s < 18446744073709551616) :
    Calls Tryz.prog 185 #[.int .u64 x, .int .u64 y, .int .u64 c] w fun e w' => e = .returned (.tuple #[.int .u64 s, .int .u64 d]) ∧ w' = w := by
  have h1 : ((x : Int) + y + c) % 18446744073709551616 = s := by omega
  have h2 : ((x : Int) + y + c) / 18446744073709551616 = d := by omega
  have g1 : (0 : Int) ≤ x := by omega
  have g2 : (0 : Int) ≤ y := by omega
  have g3 : (0 : Int) ≤ c := by omega
  have g4 : (c : Int) ≤ 1 := by omega
  clear h hs
  go_enter Tryz.func185, Tryz.ntmps185
  go_wp2_with (simp only [add64 x y c g1 g2 g3 g4, h1, h2])
  go_ret2
  exact ⟨rfl, rfl⟩
def subEntry : Array Value → Sem Value := (Extern.MathBitsCarry.rows[1]!).2
theorem run_sub64 {P : Program} (x y c d b : Nat) (hc : c ≤ 1) (hb : b ≤ 1) (h : x + 18446744073709551616 * b = d + y + c) (hx : x < 18446744073709551616) (hy : y < 18446744073709551616) (hd : d < 18446744073709551616) (w : World) :
    (subEntry #[.int .u64 x, .int .u64 y, .int .u64 c]).run P w = .ok (.tuple #[.int .u64 d, .int .u64 b]) w := by
  have key : (subEntry #[.int .u64 (x : Int), .int .u64 (y : Int), .int .u64 (c : Int)]).run P w = .ok (Extern.MathBitsCarry.pair ((x + Extern.MathBitsCarry.m64 - y - c) % Extern.MathBitsCarry.m64) (if x < y + c then 1 else 0)) w := by
    rcases (by omega : c = 0 ∨ c = 1) with rfl | rfl <;> rfl
  rw [key]
  have e1 : (x + Extern.MathBitsCarry.m64 - y - c) % Extern.MathBitsCarry.m64 = d := by
    have : Extern.MathBitsCarry.m64 = 18446744073709551616 := by decide
    rw [this]; omega
  have e2 : (if x < y + c then 1 else 0) = b := by split <;> omega
  rw [e1, e2]; rfl
theorem sub64 (x y c d b : Nat) (hc : c ≤ 1) (hb : b ≤ 1) (h : x + 18446744073709551616 * b = d + y + c) (hx : x < 18446744073709551616) (hy : y < 18446744073709551616) (hd : d < 18446744073709551616) (w : World) :
    (callFunc 229 #[.int .u64 x, .int .u64 y, .int .u64 c]).run Tryz.prog w = .ok (.value (.tuple #[.int .u64 d, .int .u64 b])) w := by
  rw [run_callFunc_extern Tryz.func229 (by kernel_rfl) (by kernel_rfl) (by kernel_rfl) (e := subEntry) (by kernel_rfl), run_sub64 x y c d b hc hb h hx hy hd]
  simp [Result.andThen]
set_option maxRecDepth 100000 in
theorem bitsSubC (x y c d b : Nat) (w : World) (hc : c ≤ 1) (hb : b ≤ 1) (h : x + 18446744073709551616 * b = d + y + c) (hx : x < 18446744073709551616) (hy : y < 18446744073709551616) (hd : d < 18446744073709551616) :
    Calls Tryz.prog 216 #[.int .u64 x, .int .u64 y, .int .u64 c] w fun e w' => e = .returned (.tuple #[.int .u64 d, .int .u64 b]) ∧ w' = w := by
  have H := sub64 x y c d b hc hb h hx hy hd
  clear h hx hy hd hc hb
  go_enter Tryz.func216, Tryz.ntmps216
  go_wp2_with (simp only [H])
  go_ret2
  exact ⟨rfl, rfl⟩
set_option maxRecDepth 100000 in
set_option maxHeartbeats 1600000 in
theorem addVV_g_any (v x y : Value) (os : List Value) (xs ys : List Nat) (B : Nat) (w : World) (ho : Own w B 116 v os) (hx : RW w x xs) (hy : RW w y ys) (hlx : xs.length = os.length) (hly : ys.length = os.length)
    (hax : sBlk x = sBlk v → sOff v ≤ sOff x) (hay : sBlk y = sBlk v → sOff v ≤ sOff y) (hl : os.length ≤ 1000000000) :
    Calls Tryz.prog 214 #[v, x, y] w fun e w' => ∃ c : Nat, e = .returned (.int .u64 c) ∧ (c ≤ 1 ∧ wv xs + wv ys = wv (wdsN (wv xs + wv ys) os.length) + 18446744073709551616 ^ os.length * c) ∧ VvP v os.length B (wv xs + wv ys) w w' := by
  have hS := ho.isS
  have hSx := hx.isS
  have hSy := hy.isS
  obtain ⟨L, hLw⟩ : ∃ L, L = os.length := ⟨_, rfl⟩
  have hL : sLen v = L := by rw [hLw]; exact ho.len
  have hLx : sLen x = L := by rw [hx.len, hlx, hLw]
  have hLy : sLen y = L := by rw [hy.len, hly, hLw]
  have R0 := Lib.hid (Vv.start ho hLw.symm)
  have HB0 : Hid (0 < L → 0 < sCap v ∧ B ≤ sBlk v) := Lib.hid (fun h => by
    have := hS.le
    have hc : 0 < sCap v := by omega
    exact ⟨hc, (ho.lt hc).1⟩)
  have HXL : Hid (xs.length = L) := Lib.hid (by omega)
  have HYL : Hid (ys.length = L) := Lib.hid (by omega)
  rw [← hLw] at hl ⊢
  have HX := Lib.hid hx
  have HY := Lib.hid hy
  have HAX := Lib.hid hax
  have HAY := Lib.hid hay
  clear ho hLw hx hy hlx hly hax hay
  go_enter Tryz.func214, Tryz.ntmps214
  go_wp2
  go_loopw [6, 25] (fun c i wr => ∃ k d Z : Nat, k ≤ L ∧ i = .int .i64 k ∧ c = .int .u64 d ∧ (d ≤ 1 ∧ wv (xs.take k) + wv (ys.take k) = Z + 18446744073709551616 ^ k * d) ∧ Vv v L B k Z w wr) (fun c i _ => L - (intOf i).toNat)
  case atStart => exact ⟨0, 0, 0, Nat.zero_le _, rfl, rfl, ⟨by omega, by simp [wv]⟩, R0.out⟩
  case round =>
    obtain ⟨k, d, Z, hk, rfl, rfl, ⟨hd, hZ⟩, hrel⟩ := hrel
    have HREL := Lib.hid hrel
    by_cases hkL : k < L
    · obtain ⟨hcap, hB⟩ := HB0.out (by omega)
      have cx := hrel.src HX.out HAX.out (Nat.le_refl k) (by rw [HXL.out]; exact hkL)
      have cy := hrel.src HY.out HAY.out (Nat.le_refl k) (by rw [HYL.out]; exact hkL)
      obtain ⟨u, cv⟩ := hrel.own hkL
      have fz := hrel.frozen hcap (sOff v + k)
      have hxl := getD_ltW HX.out.lt k
      have hyl := getD_ltW HY.out.lt k
      have e1 := wv_take_succ (ws := xs) (i := k) (by rw [HXL.out]; exact hkL)
      have e2 := wv_take_succ (ws := ys) (i := k) (by rw [HYL.out]; exact hkL)
      obtain ⟨a, ha⟩ : ∃ a, a = xs.getD k 0 := ⟨_, rfl⟩
      obtain ⟨b, hb⟩ : ∃ b, b = ys.getD k 0 := ⟨_, rfl⟩
      rw [← ha] at cx hxl e1
      rw [← hb] at cy hyl e2
      obtain ⟨s, c, hsc, hs, hc1⟩ : ∃ s c, a + b + d = s + 18446744073709551616 * c ∧ s < 18446744073709551616 ∧ c ≤ 1 := ⟨(a + b + d) % 18446744073709551616, (a + b + d) / 18446744073709551616, by omega, by omega, by omega⟩
      have HA : Hid (∀ n, Calls Tryz.prog 185 #[.int .u64 a, .int .u64 b, .int .u64 d] (wr.drewN n) fun e w' => e = .returned (.tuple #[.int .u64 s, .int .u64 c]) ∧ w' = wr.drewN n) := Lib.hid (fun n => bitsAddC a b d s c _ hd hsc hs)
      have HZ : Hid (wv (xs.take (k + 1)) + wv (ys.take (k + 1)) = Z + 18446744073709551616 ^ k * s + 18446744073709551616 ^ (k + 1) * c) := Lib.hid (by
        rw [e1, e2, Nat.pow_succ, Nat.mul_assoc]
        have h1 : 18446744073709551616 ^ k * (a + b + d) = 18446744073709551616 ^ k * s + 18446744073709551616 ^ k * (18446744073709551616 * c) := by rw [hsc, Nat.mul_add]
        rw [Nat.mul_add, Nat.mul_add] at h1
        omega)
      have PUT := Lib.hid (fun n => (HREL.out.drewN (k := n)).put hkL hB hs)
      clear hrel e1 e2 ha hb hZ hsc
      go_wp2_with fail
      go_quiet ((go_at_call 185; exact Calls.quiet_of_same (HA.out _)))
      go_wp2
      exact ⟨⟨k + 1, c, _, by omega, by go_num, rfl, ⟨hc1, HZ.out⟩, PUT.out nq⟩, by simp [intOf]; omega⟩
    · have hkk : k = L := by omega
      have HD : Hid ((d ≤ 1 ∧ wv xs + wv ys = wv (wdsN (wv xs + wv ys) L) + 18446744073709551616 ^ L * d) ∧ VvP v L B (wv xs + wv ys) w wr) := Lib.hid (by
        subst hkk
        rw [List.take_of_length_le (by rw [HXL.out]; exact Nat.le_refl _), List.take_of_length_le (by rw [HYL.out]; exact Nat.le_refl _)] at hZ
        have hZl : Z < 18446744073709551616 ^ k := by
          obtain ⟨os', ds, g1, g2, g3, g4, g5, g6, g7, g8⟩ := hrel
          have := wv_lt g5
          rw [g4] at this; omega
        refine ⟨⟨hd, ?_⟩, hrel.done d hZ⟩
        rw [wdsN_wv, hZ, Nat.add_mul_mod_self_left, Nat.mod_eq_of_lt hZl])
      clear hrel hZ HREL
      go_wp2
      go_ret
      exact ⟨d, rfl, HD.out⟩
set_option maxRecDepth 100000 in
theorem addVV_any (v x y : Value) (os : List Value) (xs ys : List Nat) (B : Nat) (w : World) (ho : Own w B 116 v os) (hx : RW w x xs) (hy : RW w y ys) (hlx : xs.length = os.length) (hly : ys.length = os.length)
    (hax : sBlk x = sBlk v → sOff v ≤ sOff x) (hay : sBlk y = sBlk v → sOff v ≤ sOff y) (hl : os.length ≤ 1000000000) :
    Calls Tryz.prog 187 #[v, x, y] w fun e w' => ∃ c : Nat, e = .returned (.int .u64 c) ∧ (c ≤ 1 ∧ wv xs + wv ys = wv (wdsN (wv xs + wv ys) os.length) + 18446744073709551616 ^ os.length * c) ∧ VvP v os.length B (wv xs + wv ys) w w' := by
  have hS := ho.isS
  have hSx := hx.isS
  have hSy := hy.isS
  have H := Lib.hid (addVV_g_any v x y os xs ys B w ho hx hy hlx hly hax hay hl)
  clear ho hx hy hlx hly hax hay hl
  go_enter Tryz.func187, Tryz.ntmps187
  go_wp2_with fail
  refine H.out.mono ?_
  rintro _ w1 ⟨c, rfl, h1, h2⟩
  have H1 := Lib.hid (And.intro h1 h2)
  clear h1 h2
  go_wp2
  go_ret
  exact ⟨c, rfl, H1.out⟩
set_option maxRecDepth 100000 in
set_option maxHeartbeats 1600000 in
theorem subVV_g_any (v x y : Value) (os : List Value) (xs ys : List Nat) (B : Nat) (w : World) (ho : Own w B 116 v os) (hx : RW w x xs) (hy : RW w y ys) (hlx : xs.length = os.length) (hly : ys.length = os.length)
    (hax : sBlk x = sBlk v → sOff v ≤ sOff x) (hay : sBlk y = sBlk v → sOff v ≤ sOff y) (hl : os.length ≤ 1000000000) :
    Calls Tryz.prog 215 #[v, x, y] w fun e w' => ∃ c : Nat, e = .returned (.int .u64 c) ∧ (∃ Z, c ≤ 1 ∧ Z < 18446744073709551616 ^ os.length ∧ wv xs + 18446744073709551616 ^ os.length * c = Z + wv ys ∧ VvP v os.length B Z w w') := by
  have hS := ho.isS
  have hSx := hx.isS
  have hSy := hy.isS
  obtain ⟨L, hLw⟩ : ∃ L, L = os.length := ⟨_, rfl⟩
  have hL : sLen v = L := by rw [hLw]; exact ho.len
  have hLx : sLen x = L := by rw [hx.len, hlx, hLw]
  have hLy : sLen y = L := by rw [hy.len, hly, hLw]
  have R0 := Lib.hid (Vv.start ho hLw.symm)
  have HB0 : Hid (0 < L → 0 < sCap v ∧ B ≤ sBlk v) := Lib.hid (fun h => by
    have := hS.le
    have hc : 0 < sCap v := by omega
    exact ⟨hc, (ho.lt hc).1⟩)
  have HXL : Hid (xs.length = L) := Lib.hid (by omega)
  have HYL : Hid (ys.length = L) := Lib.hid (by omega)
  rw [← hLw] at hl ⊢
  have HX := Lib.hid hx
  have HY := Lib.hid hy
  have HAX := Lib.hid hax
  have HAY := Lib.hid hay
  clear ho hLw hx hy hlx hly hax hay
  go_enter Tryz.func215, Tryz.ntmps215
  go_wp2
  go_loopw [6, 25] (fun c i wr => ∃ k d Z : Nat, k ≤ L ∧ i = .int .i64 k ∧ c = .int .u64 d ∧ (d ≤ 1 ∧ wv (xs.take k) + 18446744073709551616 ^ k * d = Z + wv (ys.take k)) ∧ Vv v L B k Z w wr) (fun c i _ => L - (intOf i).toNat)
  case atStart => exact ⟨0, 0, 0, Nat.zero_le _, rfl, rfl, ⟨by omega, by simp [wv]⟩, R0.out⟩
  case round =>
    obtain ⟨k, d, Z, hk, rfl, rfl, ⟨hd, hZ⟩, hrel⟩ := hrel
    have HREL := Lib.hid hrel
    by_cases hkL : k < L
    · obtain ⟨hcap, hB⟩ := HB0.out (by omega)
      have cx := hrel.src HX.out HAX.out (Nat.le_refl k) (by rw [HXL.out]; exact hkL)
      have cy := hrel.src HY.out HAY.out (Nat.le_refl k) (by rw [HYL.out]; exact hkL)
      obtain ⟨u, cv⟩ := hrel.own hkL
      have fz := hrel.frozen hcap (sOff v + k)
      have hxl := getD_ltW HX.out.lt k
      have hyl := getD_ltW HY.out.lt k
      have e1 := wv_take_succ (ws := xs) (i := k) (by rw [HXL.out]; exact hkL)
      have e2 := wv_take_succ (ws := ys) (i := k) (by rw [HYL.out]; exact hkL)
      obtain ⟨a, ha⟩ : ∃ a, a = xs.getD k 0 := ⟨_, rfl⟩
      obtain ⟨b, hb⟩ : ∃ b, b = ys.getD k 0 := ⟨_, rfl⟩
      rw [← ha] at cx hxl e1
      rw [← hb] at cy hyl e2
      obtain ⟨s, c, hsc, hs, hc1⟩ : ∃ s c, a + 18446744073709551616 * c = s + b + d ∧ s < 18446744073709551616 ∧ c ≤ 1 := by
        by_cases h : a < b + d
        · exact ⟨a + 18446744073709551616 - b - d, 1, by omega, by omega, by omega⟩
        · exact ⟨a - b - d, 0, by omega, by omega, by omega⟩
      have HA : Hid (∀ n, Calls Tryz.prog 216 #[.int .u64 a, .int .u64 b, .int .u64 d] (wr.drewN n) fun e w' => e = .returned (.tuple #[.int .u64 s, .int .u64 c]) ∧ w' = wr.drewN n) := Lib.hid (fun n => bitsSubC a b d s c _ hd hc1 hsc hxl hyl hs)
      have HZ : Hid (wv (xs.take (k + 1)) + 18446744073709551616 ^ (k + 1) * c = Z + 18446744073709551616 ^ k * s + wv (ys.take (k + 1))) := Lib.hid (by
        rw [e1, e2, Nat.pow_succ, Nat.mul_assoc]
        have h1 : 18446744073709551616 ^ k * (a + 18446744073709551616 * c) = 18446744073709551616 ^ k * (s + b + d) := by rw [hsc]
        rw [Nat.mul_add, Nat.mul_add, Nat.mul_add] at h1
        omega)
      have PUT := Lib.hid (fun n => (HREL.out.drewN (k := n)).put hkL hB hs)
      clear hrel e1 e2 ha hb hZ hsc
      go_wp2_with fail
      go_quiet ((go_at_call 216; exact Calls.quiet_of_same (HA.out _)))
      go_wp2
      exact ⟨⟨k + 1, c, _, by omega, by go_num, rfl, ⟨hc1, HZ.out⟩, PUT.out nq⟩, by simp [intOf]; omega⟩
    · have hkk : k = L := by omega
      have HD : Hid (∃ Z, d ≤ 1 ∧ Z < 18446744073709551616 ^ L ∧ wv xs + 18446744073709551616 ^ L * d = Z + wv ys ∧ VvP v L B Z w wr) := Lib.hid (by
        subst hkk
        rw [List.take_of_length_le (by rw [HXL.out]; exact Nat.le_refl _), List.take_of_length_le (by rw [HYL.out]; exact Nat.le_refl _)] at hZ
        have hZl : Z < 18446744073709551616 ^ k := by
          obtain ⟨os', ds, g1, g2, g3, g4, g5, g6, g7, g8⟩ := hrel
          have := wv_lt g5
          rw [g4] at this; omega
        exact ⟨Z, hd, hZl, hZ, hrel.done 0 (by omega)⟩)
      clear hrel hZ HREL
      go_wp2
      go_ret
      exact ⟨d, rfl, HD.out⟩
set_option maxRecDepth 100000 in
theorem subVV_any (v x y : Value) (os : List Value) (xs ys : List Nat) (B : Nat) (w : World) (ho : Own w B 116 v os) (hx : RW w x xs) (hy : RW w y ys) (hlx : xs.length = os.length) (hly : ys.length = os.length)
    (hax : sBlk x = sBlk v → sOff v ≤ sOff x) (hay : sBlk y = sBlk v → sOff v ≤ sOff y) (hl : os.length ≤ 1000000000) :
    Calls Tryz.prog 188 #[v, x, y] w fun e w' => ∃ c : Nat, e = .returned (.int .u64 c) ∧ (∃ Z, c ≤ 1 ∧ Z < 18446744073709551616 ^ os.length ∧ wv xs + 18446744073709551616 ^ os.length * c = Z + wv ys ∧ VvP v os.length B Z w w') := by
  have hS := ho.isS
  have hSx := hx.isS
  have hSy := hy.isS
  have H := Lib.hid (subVV_g_any v x y os xs ys B w ho hx hy hlx hly hax hay hl)
  clear ho hx hy hlx hly hax hay hl
  go_enter Tryz.func188, Tryz.ntmps188
  go_wp2_with fail
  refine H.out.mono ?_
  rintro _ w1 ⟨c, rfl, h1⟩
  have H1 := Lib.hid h1
  clear h1
  go_wp2
  go_ret
  exact ⟨c, rfl, H1.out⟩
def Vd (v : Value) (n B k Y : Nat) (w wr : World) : Prop :=
  ∃ os : List Value, Own wr B 116 v os ∧ os.length = n ∧ (∀ j, k ≤ j → j < n → os[j]? = some (.int .u64 ((wdg Y j : Nat) : Int))) ∧ Below B w wr ∧ FrB (sBlk v) (sOff v + k) (sOff v + n) w wr
theorem Vd.start {v : Value} {B Y n : Nat} {os : List Value} {w : World} (h : Own w B 116 v os) (hn : os.length = n) : Vd v n B n Y w w :=
  ⟨os, h, hn, fun j h1 h2 => by omega, Below.refl _ _, FrB.refl _ _ _ _⟩
theorem Vd.put {v : Value} {n B k Y : Nat} {w wr : World} (h : Vd v n B (k + 1) Y w wr) (hk : k < n) (hc : B ≤ sBlk v) {y : Nat} (hy : y = wdg Y k) : Vd v n B k Y w (wr.setCell ⟨sBlk v, sOff v + k, none⟩ (.int .u64 (y : Int))) := by
  obtain ⟨os, h1, h2, h4, h5, h6⟩ := h
  have ho := h1.set (i := k) (by omega) (.int .u64 (y : Int))
  refine ⟨os.set k (.int .u64 (y : Int)), ho, by simpa using h2, fun j hj hjn => ?_, bset h5 hc, (h6.mono (by omega) (Nat.le_refl _)).set (Nat.le_refl _) (by omega) _⟩
  rw [List.getElem?_set]
  split
  · rename_i e; subst e; rw [if_pos (by omega), hy]
  · exact h4 j (by omega) hjn
theorem Vd.drewN {v : Value} {n B i Y k : Nat} {w wr : World} (h : Vd v n B i Y w wr) : Vd v n B i Y w (wr.drewN k) := by
  obtain ⟨os, h1, h2, h4, h5, h6⟩ := h
  exact ⟨os, h1.drewN _, h2, h4, undrewN' h5, h6.drewN⟩
theorem Vd.done {v : Value} {n B Y : Nat} {w wr : World} (h : Vd v n B 0 Y w wr) : VvP v n B Y w wr := by
  obtain ⟨os, h1, h2, h4, h5, h6⟩ := h
  have e : os = cellsW (wdsN Y n) := by
    apply List.ext_getElem?
    intro i
    by_cases hi : i < n
    · rw [h4 i (Nat.zero_le _) hi, cellsW, List.getElem?_map, wdsN, List.getElem?_map, List.getElem?_range hi]; rfl
    · rw [List.getElem?_eq_none (by omega), List.getElem?_eq_none (by rw [cellsW_length, wdsN_length]; omega)]
  rw [VvP, ← e]
  exact ⟨h1, h5, h6⟩
theorem Vd.src {v x : Value} {n B k Y : Nat} {xs : List Nat} {w wr : World} (h : Vd v n B k Y w wr) (hx : RW w x xs) (hal : sBlk x = sBlk v → sOff x ≤ sOff v) {j : Nat} (hij : j < k) (hj : j < xs.length) : wr.cell? ⟨sBlk x, sOff x + j, none⟩ = some (.int .u64 ((xs.getD j 0 : Nat) : Int)) := by
  obtain ⟨os, h1, h2, h4, h5, h6⟩ := h
  exact h6.cell (hx.cell j hj) (fun hb => by have := hal hb; omega)
theorem Vd.frozen {v : Value} {n B i Z : Nat} {w wr : World} (h : Vd v n B i Z w wr) (hc : 0 < sCap v) (k : Nat) : wr.frozen? ⟨sBlk v, k, none⟩ = false := by
  obtain ⟨os, h1, -⟩ := h
  exact h1.frozen hc k
theorem Vd.own {v : Value} {n B i Z : Nat} {w wr : World} (h : Vd v n B i Z w wr) {k : Nat} (hk : k < n) : ∃ u : Value, wr.cell? ⟨sBlk v, sOff v + k, none⟩ = some u := by
  obtain ⟨os, h1, h2, -⟩ := h
  exact ⟨_, h1.cell (List.getElem?_eq_getElem (by omega))⟩
set_option maxRecDepth 100000 in
set_option maxHeartbeats 1600000 in
theorem lshVU_g_gen (v x : Value) (os : List Value) (xs : List Nat) (X s B : Nat) (w : World) (ho : Own w B 116 v os) (hx : RW w x xs) (hX : wv xs = X) (hlen : os.length = xs.length) (hal : sBlk x = sBlk v → sOff x ≤ sOff v)
    (hl0 : 0 < xs.length) (hl : xs.length ≤ 1000000000) (hs0 : 0 < s) (hs : s < 64) :
    Calls Tryz.prog 204 #[v, x, .int .u64 s] w fun e w' => e = .returned (.int .u64 (wdg X (xs.length - 1) / 2 ^ (64 - s) : Nat)) ∧ VvP v xs.length B (X * 2 ^ s) w w' := by
  have hS := ho.isS
  have hSx := hx.isS
  have hL : sLen v = os.length := ho.len
  have hLx : sLen x = xs.length := hx.len
  have hcap : 0 < sCap v := by have := hS.le; omega
  have hB := (ho.lt hcap).1
  have hget : ∀ j, xs.getD j 0 = wdg X j := fun j => by rw [← hX, wv_dig hx.lt]
  obtain ⟨L, hLw⟩ : ∃ L, L + 1 = xs.length := ⟨xs.length - 1, by omega⟩
  have R0 := Lib.hid (Vd.start (Y := X * 2 ^ s) ho hlen)
  rw [← hLw] at R0
  have hc := hx.cell L (by omega)
  rw [hget] at hc
  have HXS : Hid (∀ j, j < L + 1 → j < xs.length) := Lib.hid (fun j hj => by omega)
  rw [← hLw] at hlen hLx hl ⊢
  rw [hlen] at hL
  rw [Nat.add_sub_cancel]
  have n1 := and63 hs
  have n2 := and63 (show 64 - s < 64 by omega)
  obtain ⟨r, hr⟩ : ∃ r, r = 64 - s := ⟨_, rfl⟩
  rw [← hr] at n2 ⊢
  have hr64 : r < 64 := by omega
  have e1 : (64 : Int) - (s : Int) = (r : Int) := by omega
  have hS2 : (2 : Int) ^ s = ((2 ^ s : Nat) : Int) := by simp
  have hR2 : (2 : Int) ^ r = ((2 ^ r : Nat) : Int) := by simp
  obtain ⟨t, ht⟩ : ∃ t, t = wdg X L := ⟨_, rfl⟩
  rw [← ht] at hc ⊢
  obtain ⟨S, hSS⟩ : ∃ S, S = 2 ^ s := ⟨_, rfl⟩
  rw [← hSS] at hS2
  have HS := Lib.hid hSS
  obtain ⟨R, hR⟩ : ∃ R, R = 2 ^ r := ⟨_, rfl⟩
  rw [← hR] at hR2 ⊢
  have hqt : (t : Int) / (R : Int) = ((t / R : Nat) : Int) := by simp
  have htl : t < 18446744073709551616 := by rw [ht]; exact wdg_lt _ _
  obtain ⟨q, hq⟩ : ∃ q, q = t / R := ⟨_, rfl⟩
  rw [← hq] at hqt ⊢
  have ts : ((s : Int) == 0) = false := by rw [beq_eq_false_iff_ne]; omega
  have HX := Lib.hid hx
  have HAL := Lib.hid hal
  have HG := Lib.hid hget
  have HR := Lib.hid hR
  have Hr := Lib.hid hr
  clear ho hLw hX hl0 hget ht hR hq hr hSS hx hlen hal
  go_enter Tryz.func204, Tryz.ntmps204
  go_wp2
  go_loopw [8] (fun i wr => ∃ k : Nat, k ≤ L ∧ i = .int .i64 k ∧ Vd v (L + 1) B (k + 1) (X * 2 ^ s) w wr) (fun i _ => (intOf i).toNat)
  case atStart => exact ⟨L, Nat.le_refl _, rfl, R0.out⟩
  case round =>
    obtain ⟨k, hk, rfl, hrel⟩ := hrel
    have HREL := Lib.hid hrel
    have hkL : k < L + 1 := by omega
    have fz := hrel.frozen hcap
    rcases Nat.eq_zero_or_pos k with hk0 | hk0
    · subst hk0
      have c0 := hrel.src HX.out HAL.out (j := 0) (by omega) (HXS.out 0 (by omega))
      obtain ⟨g, cv⟩ := hrel.own (k := 0) (by omega)
      rw [HG.out, Nat.add_zero] at c0
      rw [Nat.add_zero] at cv
      obtain ⟨d0, hd0⟩ : ∃ d, d = wdg X 0 := ⟨_, rfl⟩
      rw [← hd0] at c0
      have hm := wrapU d0 S
      obtain ⟨m, hmm⟩ : ∃ m, m = d0 * S % 18446744073709551616 := ⟨_, rfl⟩
      rw [← hmm] at hm
      have fz0 := fz (sOff v)
      have HM : m = wdg (X * 2 ^ s) 0 := by rw [wdg_shl_zero _ (by omega), hmm, hd0, HS.out]
      have PUT := (HREL.out.put (k := 0) hkL hB HM).done
      rw [Nat.add_zero] at PUT
      have PUT := Lib.hid PUT
      clear fz hd0 hmm HM hrel
      go_wp2
      go_ret
      exact ⟨rfl, PUT.out⟩
    · obtain ⟨j, rfl⟩ : ∃ j, k = j + 1 := ⟨k - 1, by omega⟩
      have c1 := hrel.src HX.out HAL.out (j := j + 1) (by omega) (HXS.out _ (by omega))
      have c0 := hrel.src HX.out HAL.out (j := j) (by omega) (HXS.out _ (by omega))
      obtain ⟨g, cv⟩ := hrel.own (k := j + 1) (by omega)
      rw [HG.out] at c1 c0
      obtain ⟨d1, hd1⟩ : ∃ d, d = wdg X (j + 1) := ⟨_, rfl⟩
      obtain ⟨d0, hd0⟩ : ∃ d, d = wdg X j := ⟨_, rfl⟩
      rw [← hd1] at c1
      rw [← hd0] at c0
      have hm := wrapU d1 S
      have hq0 : (d0 : Int) / (R : Int) = ((d0 / R : Nat) : Int) := by simp
      obtain ⟨m, hmm⟩ : ∃ m, m = d1 * S % 18446744073709551616 := ⟨_, rfl⟩
      obtain ⟨q0, hqq⟩ : ∃ q, q = d0 / R := ⟨_, rfl⟩
      rw [← hmm] at hm
      rw [← hqq] at hq0
      have hd0l : d0 < 18446744073709551616 := by rw [hd0]; exact wdg_lt _ _
      have hq0l : q0 < 2 ^ s := by
        rw [hqq, HR.out, Hr.out]
        refine Nat.div_lt_of_lt_mul ?_
        rw [word_split (by omega)]; exact hd0l
      have hor := bits_or_u64_nat m q0 (by rw [hmm]; exact Nat.mod_lt _ (by decide)) (by have := Nat.div_le_self d0 R; omega)
      have hy : m ||| q0 = wdg (X * 2 ^ s) (j + 1) := by
        rw [wdg_shl_succ _ _ hs, hmm, HS.out, shl_or hs hq0l, hqq, hd0, hd1, HR.out, Hr.out]
      rw [hy] at hor
      obtain ⟨y, hyy⟩ : ∃ y, y = wdg (X * 2 ^ s) (j + 1) := ⟨_, rfl⟩
      rw [← hyy] at hor
      have HY := Lib.hid hyy
      have fz1 := fz (sOff v + (j + 1))
      have hj1 : j + 1 < L + 1 := by omega
      clear fz hy hq0l hd0 hd1 hmm hqq hyy hrel
      go_wp2
      (refine wp_region_hoist 16 (by kernel_rfl) (by kernel_rfl) ⟨fun _ _ _ h => (by first | exact (hQp _ _ _ h).elim | cases h.2.1 | (obtain ⟨_, h3, _⟩ := h.2; cases h3)), fun _ _ h => (by first | exact (hQo _ _ h).elim | cases h.1 | (obtain ⟨_, h3, _⟩ := h; cases h3))⟩ ?_; simp only [List.take_succ_cons, List.take_zero, List.drop_succ_cons, List.drop_zero]; (repeat (go_big_quiet_step (fail))); refine wpQuiet_nil ?_; rintro _ ⟨nq, rfl⟩)
      go_wp2
      exact ⟨⟨j, by omega, rfl, HREL.out.drewN.put hj1 hB HY.out⟩, by simp [intOf]⟩
set_option maxRecDepth 100000 in
theorem lshVU_gen (v x : Value) (os : List Value) (xs : List Nat) (X s B : Nat) (w : World) (ho : Own w B 116 v os) (hx : RW w x xs) (hX : wv xs = X) (hlen : os.length = xs.length) (hal : sBlk x = sBlk v → sOff x ≤ sOff v)
    (hl0 : 0 < xs.length) (hl : xs.length ≤ 1000000000) (hs0 : 0 < s) (hs : s < 64) :
    Calls Tryz.prog 173 #[v, x, .int .u64 s] w fun e w' => e = .returned (.int .u64 (wdg X (xs.length - 1) / 2 ^ (64 - s) : Nat)) ∧ VvP v xs.length B (X * 2 ^ s) w w' := by
  have hS := ho.isS
  have hSx := hx.isS
  have H := Lib.hid (lshVU_g_gen v x os xs X s B w ho hx hX hlen hal hl0 hl hs0 hs)
  clear ho hx hX hlen hal hl0 hl
  go_enter Tryz.func173, Tryz.ntmps173
  go_wp2_with fail
  refine H.out.mono ?_
  rintro _ w1 ⟨rfl, h1⟩
  go_wp2
  go_ret
  exact ⟨rfl, h1⟩
end Go.Proofs.YtllhnjpnkmjopaaGreatDoor
