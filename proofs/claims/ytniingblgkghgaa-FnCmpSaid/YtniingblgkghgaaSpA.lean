/-
Natural numbers of the reference: what they read as; trim. No condition.
-/
import Derived.Test.YtniingblgkghgaaElems
import Derived.Test.YtniingblgkghgaaHoist
import Derived.Test.YtniingblgkghgaaNat
namespace Go.Proofs.Ytniingblgkghgaa
open Go.RowKit

def ints (ds : List Nat) : List Int := ds.map fun (d : Nat) => (d : Int)
def cellsN (ds : List Nat) : List Value := ds.map fun (d : Nat) => Value.int .i64 (d : Int)
theorem ints_length (ds : List Nat) : (ints ds).length = ds.length := by simp [ints]
theorem cellsN_length (ds : List Nat) : (cellsN ds).length = ds.length := by simp [cellsN]
theorem cellsN_eq (ds : List Nat) : cellsN ds = (ints ds).map (Value.int .i64) := by simp [cellsN, ints]
theorem cellsN_snoc (ds : List Nat) (d : Nat) : cellsN ds ++ [.int .i64 (d : Int)] = cellsN (ds ++ [d]) := by simp [cellsN]
/-- v reads as the digits ds. -/
def RL (w : World) (v : Value) (ds : List Nat) : Prop := RI .i64 w v (ints ds)
theorem RL.isS {w : World} {v : Value} {ds : List Nat} (h : RL w v ds) : IsS v := RI.isS h
theorem RL.len {w : World} {v : Value} {ds : List Nat} (h : RL w v ds) : sLen v = ds.length := (RI.len h).trans (ints_length ds)
theorem RL.cell {w : World} {v : Value} {ds : List Nat} (h : RL w v ds) (i : Nat) (hi : i < ds.length) : w.cell? ⟨sBlk v, sOff v + i, none⟩ = some (.int .i64 ((ds.getD i 0 : Nat) : Int)) := by
  rw [RI.cell h i (by rw [ints_length]; exact hi)]
  simp [ints, List.getD_eq_getElem?_getD, List.getElem?_eq_getElem hi]
theorem RL.below {w w' : World} {v : Value} {ds : List Nat} (h : RL w v ds) (hb : Below w.heap.size w w') : RL w' v ds := RI.below h hb
theorem RL.take {w : World} {v : Value} {ds : List Nat} (h : RL w v ds) {n : Nat} (hn : n ≤ ds.length) : RL w (subS v 0 n) (ds.take n) := by
  have := RI.sub h (l := 0) (n := n) (Nat.zero_le _) (by rw [ints_length]; exact hn)
  simpa [RL, ints, List.map_take] using this
theorem Own.rl {w : World} {B : Nat} {v : Value} {ds : List Nat} (h : Own w B 3 v (cellsN ds)) : RL w v ds := by
  rw [cellsN_eq] at h; exact h.rd
theorem RL.src {w : World} {v : Value} {ds : List Nat} {tx e : TypeId} (h : RL w v ds) (hk : Try.prog.underlying tx = some (.slice e)) : Src Try.prog 1 tx v ds.length (cellsN ds) w := by
  rw [cellsN_eq, ← ints_length]; exact RI.src h hk

/-- v is the natural number n of the reference. -/
structure NatV (w : World) (v : Value) (n : Nat) : Prop where
  isS : IsS v
  len : sLen v = nl n
  cell : ∀ i, i < nl n → w.cell? ⟨sBlk v, sOff v + i, none⟩ = some (.int .i64 ((dig n i : Nat) : Int))
theorem NatV.below {w w' : World} {v : Value} {n : Nat} (h : NatV w v n) (hb : Below w.heap.size w w') : NatV w' v n :=
  ⟨h.isS, h.len, fun i hi => (hb.cell (p := ⟨sBlk v, sOff v + i, none⟩) (World.block_lt_of_cell? w _ (h.cell i hi))).trans (h.cell i hi)⟩
theorem NatV.ofRL {w : World} {v : Value} {ds : List Nat} (h : RL w v ds) (hd : ∀ d ∈ ds, d < 65536) (hl : ds = [] ∨ ds.getD (ds.length - 1) 0 ≠ 0) : NatV w v (val ds) := by
  have hn : nl (val ds) = ds.length := by
    rcases hl with rfl | hl
    · rfl
    · cases hs : ds.length with
      | zero => rw [List.eq_nil_of_length_eq_zero hs]; rfl
      | succ k =>
        rw [hs, Nat.add_sub_cancel] at hl
        exact nl_of (by rw [← hs]; exact val_lt hd) (by rw [val_dig hd]; exact hl)
  refine ⟨h.isS, by rw [hn]; exact h.len, fun i hi => ?_⟩
  rw [h.cell i (by omega), val_dig hd]
/-- The digits of a number, as a list. -/
def digs (n : Nat) : List Nat := (List.range (nl n)).map (dig n)
theorem digs_length (n : Nat) : (digs n).length = nl n := by simp [digs]
theorem digs_getD (n i : Nat) : (digs n).getD i 0 = dig n i := by
  by_cases h : i < nl n
  · simp [digs, List.getD_eq_getElem?_getD, h]
  · rw [dig_ge (by omega), List.getD_eq_getElem?_getD, List.getElem?_eq_none (by rw [digs_length]; omega)]; rfl
theorem digs_lt {n d : Nat} (h : d ∈ digs n) : d < 65536 := by
  obtain ⟨i, _, rfl⟩ := List.mem_map.1 h; exact dig_lt n i
theorem NatV.rl {w : World} {v : Value} {n : Nat} (h : NatV w v n) : RL w v (digs n) := by
  refine ⟨h.isS, by rw [ints_length, digs_length]; exact h.len, fun i hi => ?_⟩
  rw [ints_length, digs_length] at hi
  rw [h.cell i hi]
  simp [ints, digs, List.getD_eq_getElem?_getD, hi]
theorem val_range (n : Nat) : ∀ k, val ((List.range k).map (dig n)) = n % 65536 ^ k
  | 0 => by simp [val, Nat.mod_one]
  | k + 1 => by
    rw [List.range_succ, List.map_append, List.map_cons, List.map_nil, val_snoc, val_range n k, mod_succ]
    simp
theorem val_digs (n : Nat) : val (digs n) = n := by rw [digs, val_range, mod_nl (Nat.le_refl _)]
theorem NatV.zero {w : World} {v : Value} (h : IsS v) (hl : sLen v = 0) : NatV w v 0 := ⟨h, hl, fun i hi => by rw [nl_zero] at hi; omega⟩

/-- What a function of the reference that makes a number answers. -/
def NPost (n : Nat) (w : World) (v : Value) (w' : World) : Prop := NatV w' v n ∧ Below w.heap.size w w'

def TPost (n : Nat) (w : World) (v : Value) (w' : World) : Prop := NatV w v n ∧ w = w'
set_option maxRecDepth 100000 in
set_option maxHeartbeats 400000 in
theorem spTrim (v : Value) (ds : List Nat) (w : World) (hr : RL w v ds) (hd : ∀ d ∈ ds, d < 65536) (hl : ds.length ≤ 1000000000000) :
    Calls Try.prog 61 #[v] w fun e w' => ∃ r, e = .returned r ∧ TPost (val ds) w r w' := by
  have Hr := Lib.hid hr
  have Hd := Lib.hid hd
  clear hr hd
  obtain ⟨n, hn⟩ : ∃ n, n = ds.length := ⟨_, rfl⟩
  rw [← hn] at hl
  have Hn := Lib.hid hn
  clear hn
  go_enter Try.func61, Try.ntmps61
  go_wp2
  go_loop [0] (fun u => ∃ k : Nat, k ≤ n ∧ RL w u (ds.take k) ∧ val (ds.take k) = val ds) (fun u => sLen u)
  case atStart =>
    refine ⟨n, Nat.le_refl _, ?_, ?_⟩ <;> rw [List.take_of_length_le (by rw [Hn.out]; exact Nat.le_refl _)]
    exact Hr.out
  case round =>
    obtain ⟨k, hk, hu, hv⟩ := hrel
    have hS := hu.isS
    have hL : sLen u0 = k := by have := hu.len; simp at this; have := Hn.out; omega
    have hC := hS.le
    have hC' : k ≤ sCap u0 := by omega
    have Hu := Lib.hid hu
    have Hv := Lib.hid hv
    clear hC hu hv
    by_cases hk0 : k = 0
    · subst hk0
      go_wp2
      go_ret
      refine ⟨_, rfl, ?_, rfl⟩
      rw [← Hv.out]
      exact NatV.zero hS hL
    · have hk1 : k - 1 < ds.length := by have := Hn.out; omega
      have c := Hu.out.cell (k - 1) (by simp; omega)
      rw [show (ds.take k).getD (k - 1) 0 = ds.getD (k - 1) 0 by simp [List.getD_eq_getElem?_getD, show k - 1 < k by omega]] at c
      obtain ⟨d, hd⟩ : ∃ d, d = ds.getD (k - 1) 0 := ⟨_, rfl⟩
      rw [← hd] at c
      have htk : ds.take k = ds.take (k - 1) ++ [d] := by
        conv => lhs; rw [show k = (k - 1) + 1 by omega]
        rw [List.take_succ_eq_append_getElem hk1, hd, List.getD_eq_getElem?_getD, List.getElem?_eq_getElem hk1]; rfl
      have Htk := Lib.hid htk
      have r' := Hu.out.take (n := k - 1) (by simp; omega)
      rw [List.take_take, show min (k - 1) k = k - 1 by omega] at r'
      have Hr' := Lib.hid r'
      clear hd r' htk
      by_cases hz : d = 0
      · have hz' : ((d : Int) == 0) = true := by rw [beq_iff_eq]; omega
        go_wp2
        go_round
        case rel =>
          refine ⟨k - 1, by omega, Hr'.out, ?_⟩
          rw [← Hv.out, Htk.out, val_snoc, hz]; simp
        case measure =>
          show sLen (subS u0 0 (k - 1)) < sLen u0
          rw [subS_len hS, hL]; omega
      · have hz' : ((d : Int) == 0) = false := by rw [beq_eq_false_iff_ne]; omega
        go_wp2
        go_ret
        refine ⟨_, rfl, ?_, rfl⟩
        rw [← Hv.out]
        refine NatV.ofRL Hu.out (fun x hx => Hd.out x (List.mem_of_mem_take hx)) (.inr ?_)
        rw [Htk.out]
        simpa [List.getD_eq_getElem?_getD] using hz
end Go.Proofs.Ytniingblgkghgaa
