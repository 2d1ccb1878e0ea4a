/-
Texts of this proof, joined: VvC. No condition.
-/
import Derived.Test.YtoddjkpckpekcaaGreatDoorK09
import Derived.Test.YtoddjkpckpekcaaGreatDoorK11
namespace Go.Proofs.YtoddjkpckpekcaaGreatDoor
open Go.RowKit

structure RO (w : World) (x : Value) (xs : List Nat) : Prop where
  rw : RW w x xs
  row : 0 < xs.length → ∃ cx, w.heap[sBlk x]? = some (.cells cx 98 (0, 0))
theorem Own.ro {w : World} {B : Nat} {v : Value} {ds : List Nat} (h : Own w B 98 v (cellsW ds)) (hd : ∀ d ∈ ds, d < 18446744073709551616) : RO w v ds := by
  refine ⟨h.rw' hd, fun hl => ?_⟩
  rcases h.row with h0 | ⟨hb, cur, hg, -⟩
  · have h1 := h.len
    have h2 := h.isS.le
    rw [cellsW_length] at h1
    omega
  · exact ⟨cur, hg⟩
theorem RO.below {w w' : World} {x : Value} {xs : List Nat} (h : RO w x xs) (hb : Below w.heap.size w w') : RO w' x xs :=
  ⟨h.rw.below hb, fun hl => by obtain ⟨c, hr⟩ := h.row hl; exact ⟨c, keep_row hb hr⟩⟩
theorem RO.take {w : World} {x : Value} {xs : List Nat} (h : RO w x xs) {n : Nat} (hn : n ≤ xs.length) : RO w (subS x 0 n) (xs.take n) :=
  ⟨h.rw.take hn, fun hl => by rw [subS_blk h.rw.isS]; exact h.row (by rw [List.length_take] at hl; omega)⟩
theorem RO.drop {w : World} {x : Value} {xs : List Nat} (h : RO w x xs) {n : Nat} (hn : n ≤ xs.length) : RO w (subS x n xs.length) (xs.drop n) :=
  ⟨h.rw.dropW hn, fun hl => by rw [subS_blk h.rw.isS]; exact h.row (by rw [List.length_drop] at hl; omega)⟩
theorem Vv.rest {v x : Value} {n B i Z : Nat} {xs : List Nat} {w wr : World} (h : Vv v n B i Z w wr) (hi : i ≤ n) (hx : RW w x xs) (hl : xs.length = n) (hb : sBlk x = sBlk v) (ho : sOff x = sOff v) : VvP v n B (Z + 18446744073709551616 ^ i * wv (xs.drop i)) w wr := by
  obtain ⟨os, ds, h1, h2, h3, h4, h5, h6, h7, h8⟩ := h
  have e : os = cellsW (ds ++ xs.drop i) := by
    rw [← cellsW_append, ← h3]
    conv => lhs; rw [← List.take_append_drop i os]
    congr 1
    apply List.ext_getElem?
    intro j
    by_cases hj : i + j < n
    · have c1 := h1.cell (i := i + j) (List.getElem?_eq_getElem (by omega))
      have c2 := h8.cell (hx.cell (i + j) (by omega)) (fun _ => by omega)
      rw [hb, ho] at c2
      rw [c1] at c2
      have c3 := Option.some.inj c2
      rw [List.getElem?_drop, List.getElem?_eq_getElem (by omega), c3, cellsW, List.getElem?_map, List.getElem?_drop, List.getElem?_eq_getElem (by omega)]
      simp [List.getD_eq_getElem?_getD, List.getElem?_eq_getElem (show i + j < xs.length by omega)]
    · rw [List.getElem?_eq_none (by simp; omega), List.getElem?_eq_none (by rw [cellsW_length, List.length_drop]; omega)]
  have hd : ∀ d ∈ ds ++ xs.drop i, d < 18446744073709551616 := fun d hd => by
    rcases List.mem_append.1 hd with h | h
    · exact h5 d h
    · exact hx.lt d (List.mem_of_mem_drop h)
  have hlen : (ds ++ xs.drop i).length = n := by simp; omega
  rw [VvP, ← wdsN_eq hlen hd ⟨0, by rw [wv_append, h4, h6]; simp⟩, ← e]
  exact ⟨h1, h7, h8.mono (Nat.le_refl _) (by omega)⟩
theorem Vv.rows {v x : Value} {n B i Z : Nat} {xs : List Nat} {w wr : World} (h : Vv v n B i Z w wr) (hc : 0 < sCap v) (hx : RO w x xs) (hl : 0 < xs.length) (hb : sBlk x ≠ sBlk v) :
    (∃ c t, wr.heap[sBlk v]? = some (.cells c t (0, 0))) ∧ ∃ c t, wr.heap[sBlk x]? = some (.cells c t (0, 0)) := by
  obtain ⟨os, ds, h1, h2, h3, h4, h5, h6, h7, h8⟩ := h
  refine ⟨?_, ?_⟩
  · rcases h1.row with h0 | ⟨-, cur, hg, -⟩
    · omega
    · exact ⟨cur, _, hg⟩
  · obtain ⟨c, hr⟩ := hx.row hl
    exact ⟨c, _, (h8.only _ (get_lt hr) hb).trans hr⟩
theorem Vv.all {v : Value} {n B i Z : Nat} {w wr : World} (h : Vv v n B i Z w wr) : ∃ os : List Value, os.length = n ∧ Own wr B 98 v os := by
  obtain ⟨os, ds, h1, h2, -⟩ := h
  exact ⟨os, h2, h1⟩
theorem VvP.drewN {v : Value} {n B Z k : Nat} {w w' : World} (h : VvP v n B Z w w') : VvP v n B Z w (w'.drewN k) := ⟨h.1.drewN _, undrewN' h.2.1, h.2.2.drewN⟩
theorem FrB.sub {v : Value} {l n : Nat} {w w' : World} (hS : IsS v) (h1 : l ≤ n) (h2 : n ≤ sCap v) (h : FrB (sBlk (subS v l n)) (sOff (subS v l n)) (sOff (subS v l n) + (n - l)) w w') : FrB (sBlk v) (sOff v + l) (sOff v + n) w w' := by
  rw [subS_blk hS] at h
  by_cases hlc : l < sCap v
  · rw [subS_off hS hlc] at h
    exact h.mono (Nat.le_refl _) (by omega)
  · refine ⟨h.only, fun cur e fr hr => ?_⟩
    obtain ⟨c1, k1, k2, k3⟩ := h.row cur e fr hr
    exact ⟨c1, k1, k2, fun i hi => k3 i (by omega)⟩
theorem VvP.patch {v : Value} {l n B Z : Nat} {os : List Value} {w w' : World} (ho : Own w B 98 v os) (h1 : l ≤ n) (h2 : n ≤ os.length) (h : VvP (subS v l n) (n - l) B Z w w') :
    Own w' B 98 v (os.take l ++ (cellsW (wdsN Z (n - l)) ++ os.drop n)) ∧ Below B w w' ∧ FrB (sBlk v) (sOff v + l) (sOff v + n) w w' := by
  have hl := ho.len
  have hc := ho.isS.le
  have hf := h.2.2.sub ho.isS h1 (by omega)
  exact ⟨ho.patch h1 h2 (by rw [cellsW_length, wdsN_length]) h.1 hf, h.2.1, hf⟩
theorem Vv.lt {v : Value} {n B i Z : Nat} {w wr : World} (h : Vv v n B i Z w wr) : Z < 18446744073709551616 ^ i := by
  obtain ⟨os', ds, g1, g2, g3, g4, g5, g6, g7, g8⟩ := h
  have := wv_lt g5
  rw [g4] at this; omega
end Go.Proofs.YtoddjkpckpekcaaGreatDoor
