/-
Texts of this proof, joined: VvC. No condition.
-/
import Derived.Test.YtlapgbkngkejpaaK08
/-
addVW and subVW, in place or from elsewhere. No condition.
-/
namespace Go.Proofs.Ytlapgbkngkejpaa
open Go.RowKit

/-- A source that reads, with its row. -/
structure RO (w : World) (x : Value) (xs : List Nat) : Prop where
  rw : RW w x xs
  row : 0 < xs.length → ∃ cx, w.heap[sBlk x]? = some (.cells cx 66 (0, 0))
theorem Own.ro {w : World} {B : Nat} {v : Value} {ds : List Nat} (h : Own w B 66 v (cellsW ds)) (hd : ∀ d ∈ ds, d < 18446744073709551616) : RO w v ds := by
  refine ⟨h.rw' hd, fun hl => ?_⟩
  rcases h.row with h0 | ⟨hb, cur, hg, -⟩
  · have h1 := h.len
    have h2 := h.isS.le
    rw [cellsW_length] at h1
    omega
  · exact ⟨cur, hg⟩
theorem RO.below {w w' : World} {x : Value} {xs : List Nat} (h : RO w x xs) (hb : Below w.heap.size w w') : RO w' x xs :=
  ⟨h.rw.below hb, fun hl => by obtain ⟨c, hr⟩ := h.row hl; exact ⟨c, keep_row hb hr⟩⟩
theorem RO.take {w : World} {x : Value} {xs : List Nat} (h : RO w x xs) {n : Nat} (hn : n ≤ xs.length) : RO w (subS x 0 n) (xs.take n) :=
  ⟨h.rw.take hn, fun hl => by rw [subS_blk h.rw.isS]; exact h.row (by rw [List.length_take] at hl; omega)⟩
theorem RO.drop {w : World} {x : Value} {xs : List Nat} (h : RO w x xs) {n : Nat} (hn : n ≤ xs.length) : RO w (subS x n xs.length) (xs.drop n) :=
  ⟨h.rw.dropW hn, fun hl => by rw [subS_blk h.rw.isS]; exact h.row (by rw [List.length_drop] at hl; omega)⟩
/-- The rest of the words stands already: the source lies there. -/
theorem Vv.rest {v x : Value} {n B i Z : Nat} {xs : List Nat} {w wr : World} (h : Vv v n B i Z w wr) (hi : i ≤ n) (hx : RW w x xs) (hl : xs.length = n) (hb : sBlk x = sBlk v) (ho : sOff x = sOff v) : VvP v n B (Z + 18446744073709551616 ^ i * wv (xs.drop i)) w wr := by
  obtain ⟨os, ds, h1, h2, h3, h4, h5, h6, h7, h8⟩ := h
  have e : os = cellsW (ds ++ xs.drop i) := by
    rw [← cellsW_append, ← h3]
    conv => lhs; rw [← List.take_append_drop i os]
    congr 1
    apply List.ext_getElem?
    intro j
    by_cases hj : i + j < n
    · have c1 := h1.cell (i := i + j) (List.getElem?_eq_getElem (by omega))
      have c2 := h8.cell (hx.cell (i + j) (by omega)) (fun _ => by omega)
      rw [hb, ho] at c2
      rw [c1] at c2
      have c3 := Option.some.inj c2
      rw [List.getElem?_drop, List.getElem?_eq_getElem (by omega), c3, cellsW, List.getElem?_map, List.getElem?_drop, List.getElem?_eq_getElem (by omega)]
      simp [List.getD_eq_getElem?_getD, List.getElem?_eq_getElem (show i + j < xs.length by omega)]
    · rw [List.getElem?_eq_none (by simp; omega), List.getElem?_eq_none (by rw [cellsW_length, List.length_drop]; omega)]
  have hd : ∀ d ∈ ds ++ xs.drop i, d < 18446744073709551616 := fun d hd => by
    rcases List.mem_append.1 hd with h | h
    · exact h5 d h
    · exact hx.lt d (List.mem_of_mem_drop h)
  have hlen : (ds ++ xs.drop i).length = n := by simp; omega
  rw [VvP, ← wdsN_eq hlen hd ⟨0, by rw [wv_append, h4, h6]; simp⟩, ← e]
  exact ⟨h1, h7, h8.mono (Nat.le_refl _) (by omega)⟩
/-- The rest of the words is copied. -/
theorem Vv.copied {v : Value} {n B i Z : Nat} {xs : List Nat} {w wr w2 : World} (h : Vv v n B i Z w wr) (hi : i ≤ n) (hd : ∀ d ∈ xs, d < 18446744073709551616) (hl : xs.length = n)
    (ho : Own w2 B 66 (subS v i n) (cellsW (xs.drop i))) (hb : Below B wr w2) (hf : FrB (sBlk v) (sOff v + i) (sOff v + n) wr w2) : VvP v n B (Z + 18446744073709551616 ^ i * wv (xs.drop i)) w w2 := by
  obtain ⟨os, ds, h1, h2, h3, h4, h5, h6, h7, h8⟩ := h
  have hp := h1.patch (l := i) (n := n) hi (by omega) (by rw [cellsW_length, List.length_drop]; omega) ho hf
  rw [h3, show os.drop n = [] from List.drop_of_length_le (by omega), List.append_nil, cellsW_append] at hp
  have hd2 : ∀ d ∈ ds ++ xs.drop i, d < 18446744073709551616 := fun d hd2 => by
    rcases List.mem_append.1 hd2 with h | h
    · exact h5 d h
    · exact hd d (List.mem_of_mem_drop h)
  have hlen : (ds ++ xs.drop i).length = n := by simp; omega
  rw [VvP, ← wdsN_eq hlen hd2 ⟨0, by rw [wv_append, h4, h6]; simp⟩]
  exact ⟨hp, h7.trans hb, (h8.mono (Nat.le_refl _) (by omega)).trans h7.size (hf.mono (by omega) (Nat.le_refl _))⟩
theorem wv_split (xs : List Nat) (i : Nat) (h : i ≤ xs.length) : wv xs = wv (xs.take i) + 18446744073709551616 ^ i * wv (xs.drop i) := by
  conv => lhs; rw [← List.take_append_drop i xs]
  rw [wv_append, List.length_take, Nat.min_eq_left h]
theorem Vv.rows {v x : Value} {n B i Z : Nat} {xs : List Nat} {w wr : World} (h : Vv v n B i Z w wr) (hc : 0 < sCap v) (hx : RO w x xs) (hl : 0 < xs.length) (hb : sBlk x ≠ sBlk v) :
    (∃ c t, wr.heap[sBlk v]? = some (.cells c t (0, 0))) ∧ ∃ c t, wr.heap[sBlk x]? = some (.cells c t (0, 0)) := by
  obtain ⟨os, ds, h1, h2, h3, h4, h5, h6, h7, h8⟩ := h
  refine ⟨?_, ?_⟩
  · rcases h1.row with h0 | ⟨-, cur, hg, -⟩
    · omega
    · exact ⟨cur, _, hg⟩
  · obtain ⟨c, hr⟩ := hx.row hl
    exact ⟨c, _, (h8.only _ (get_lt hr) hb).trans hr⟩
theorem Vv.all {v : Value} {n B i Z : Nat} {w wr : World} (h : Vv v n B i Z w wr) : ∃ os : List Value, os.length = n ∧ Own wr B 66 v os := by
  obtain ⟨os, ds, h1, h2, -⟩ := h
  exact ⟨os, h2, h1⟩
theorem VvP.drewN {v : Value} {n B Z k : Nat} {w w' : World} (h : VvP v n B Z w w') : VvP v n B Z w (w'.drewN k) := ⟨h.1.drewN _, undrewN' h.2.1, h.2.2.drewN⟩
theorem FrB.sub {v : Value} {l n : Nat} {w w' : World} (hS : IsS v) (h1 : l ≤ n) (h2 : n ≤ sCap v) (h : FrB (sBlk (subS v l n)) (sOff (subS v l n)) (sOff (subS v l n) + (n - l)) w w') : FrB (sBlk v) (sOff v + l) (sOff v + n) w w' := by
  rw [subS_blk hS] at h
  by_cases hlc : l < sCap v
  · rw [subS_off hS hlc] at h
    exact h.mono (Nat.le_refl _) (by omega)
  · refine ⟨h.only, fun cur e fr hr => ?_⟩
    obtain ⟨c1, k1, k2, k3⟩ := h.row cur e fr hr
    exact ⟨c1, k1, k2, fun i hi => k3 i (by omega)⟩
theorem VvP.patch {v : Value} {l n B Z : Nat} {os : List Value} {w w' : World} (ho : Own w B 66 v os) (h1 : l ≤ n) (h2 : n ≤ os.length) (h : VvP (subS v l n) (n - l) B Z w w') :
    Own w' B 66 v (os.take l ++ (cellsW (wdsN Z (n - l)) ++ os.drop n)) ∧ Below B w w' ∧ FrB (sBlk v) (sOff v + l) (sOff v + n) w w' := by
  have hl := ho.len
  have hc := ho.isS.le
  have hf := h.2.2.sub ho.isS h1 (by omega)
  exact ⟨ho.patch h1 h2 (by rw [cellsW_length, wdsN_length]) h.1 hf, h.2.1, hf⟩
theorem Vv.lt {v : Value} {n B i Z : Nat} {w wr : World} (h : Vv v n B i Z w wr) : Z < 18446744073709551616 ^ i := by
  obtain ⟨os', ds, g1, g2, g3, g4, g5, g6, g7, g8⟩ := h
  have := wv_lt g5
  rw [g4] at this; omega
theorem join_lt {Z D i n : Nat} (hZ : Z < 18446744073709551616 ^ i) (hi : i ≤ n) (hD : D < 18446744073709551616 ^ (n - i)) : Z + 18446744073709551616 ^ i * D < 18446744073709551616 ^ n := by
  have e : (18446744073709551616 : Nat) ^ n = 18446744073709551616 ^ i * 18446744073709551616 ^ (n - i) := by rw [← Nat.pow_add]; congr 1; omega
  have h := Nat.mul_le_mul_left (18446744073709551616 ^ i) (Nat.succ_le_of_lt hD)
  rw [Nat.mul_succ, ← e] at h
  omega
theorem at_drop {w : World} {x : Value} {xs : List Nat} {k : Nat} (hx : RW w x xs) : ∀ j u, (cellsW (xs.drop k))[j]? = some u → w.cell? ⟨sBlk x, sOff x + (k + j), none⟩ = some u := by
  intro j u hu
  rw [cellsW, List.getElem?_map, List.getElem?_drop] at hu
  have hlt : k + j < xs.length := by
    rcases Nat.lt_or_ge (k + j) xs.length with h | h
    · exact h
    · rw [List.getElem?_eq_none h] at hu; simp at hu
  rw [List.getElem?_eq_getElem hlt] at hu
  have := hx.cell (k + j) hlt
  rw [this]
  simp at hu
  rw [← hu]
  simp [List.getD_eq_getElem?_getD, List.getElem?_eq_getElem hlt]
theorem Vv.cpsrc {v x : Value} {n B i Z : Nat} {xs : List Nat} {w wr : World} (h : Vv v n B i Z w wr) (hx : RW w x xs) (hne : sBlk x ≠ sBlk v) {k L : Nat} (hL : xs.length = L) : ∀ j u, (cellsW (xs.drop k))[j]? = some u → wr.cell? ⟨sBlk (subS x k L), sOff (subS x k L) + j, none⟩ = some u := by
  intro j u hu
  have hlt : k + j < xs.length := by
    have h1 : j < (cellsW (xs.drop k)).length := (List.getElem?_eq_some_iff.1 hu).1
    rw [cellsW_length, List.length_drop] at h1; omega
  have hS := hx.isS
  have hc := hS.le
  have hl := hx.len
  rw [subS_blk hS, subS_off hS (by omega), Nat.add_assoc]
  obtain ⟨os', ds, g1, g2, g3, g4, g5, g6, g7, g8⟩ := h
  exact g8.cell (at_drop hx j u hu) (fun hb => absurd hb hne)
end Go.Proofs.Ytlapgbkngkejpaa
