/-
Texts of this proof, joined: SpA SpB SpC SpD SpF SpG SpH WdA RoA RnA WdB WdC CmA InA WdE. No condition.
-/
import Derived.Test.YtdepidpgbgfjlaaGreatDoorK01
import Derived.Laws.Bits64b
import Derived.ProofKit
import Derived.OpenShut
import Derived.ChangeOld
/-
Natural numbers of the reference: what they read as; trim. No condition.
-/
namespace Go.Proofs.YtdepidpgbgfjlaaGreatDoor
open Go.RowKit

def ints (ds : List Nat) : List Int := ds.map fun (d : Nat) => (d : Int)
def cellsN (ds : List Nat) : List Value := ds.map fun (d : Nat) => Value.int .i64 (d : Int)
theorem ints_length (ds : List Nat) : (ints ds).length = ds.length := by simp [ints]
theorem cellsN_length (ds : List Nat) : (cellsN ds).length = ds.length := by simp [cellsN]
theorem cellsN_eq (ds : List Nat) : cellsN ds = (ints ds).map (Value.int .i64) := by simp [cellsN, ints]
theorem cellsN_snoc (ds : List Nat) (d : Nat) : cellsN ds ++ [.int .i64 (d : Int)] = cellsN (ds ++ [d]) := by simp [cellsN]
/-- v reads as the digits ds. -/
def RL (w : World) (v : Value) (ds : List Nat) : Prop := RI .i64 w v (ints ds)
theorem RL.isS {w : World} {v : Value} {ds : List Nat} (h : RL w v ds) : IsS v := RI.isS h
theorem RL.len {w : World} {v : Value} {ds : List Nat} (h : RL w v ds) : sLen v = ds.length := (RI.len h).trans (ints_length ds)
theorem RL.cell {w : World} {v : Value} {ds : List Nat} (h : RL w v ds) (i : Nat) (hi : i < ds.length) : w.cell? ⟨sBlk v, sOff v + i, none⟩ = some (.int .i64 ((ds.getD i 0 : Nat) : Int)) := by
  rw [RI.cell h i (by rw [ints_length]; exact hi)]
  simp [ints, List.getD_eq_getElem?_getD, List.getElem?_eq_getElem hi]
theorem RL.below {w w' : World} {v : Value} {ds : List Nat} (h : RL w v ds) (hb : Below w.heap.size w w') : RL w' v ds := RI.below h hb
theorem RL.take {w : World} {v : Value} {ds : List Nat} (h : RL w v ds) {n : Nat} (hn : n ≤ ds.length) : RL w (subS v 0 n) (ds.take n) := by
  have := RI.sub h (l := 0) (n := n) (Nat.zero_le _) (by rw [ints_length]; exact hn)
  simpa [RL, ints, List.map_take] using this
theorem Own.rl {w : World} {B : Nat} {v : Value} {ds : List Nat} (h : Own w B 3 v (cellsN ds)) : RL w v ds := by
  rw [cellsN_eq] at h; exact h.rd
theorem RL.src {w : World} {v : Value} {ds : List Nat} {tx e : TypeId} (h : RL w v ds) (hk : Tryz.prog.underlying tx = some (.slice e)) : Src Tryz.prog 1 tx v ds.length (cellsN ds) w := by
  rw [cellsN_eq, ← ints_length]; exact RI.src h hk

/-- v is the natural number n of the reference. -/
structure NatV (w : World) (v : Value) (n : Nat) : Prop where
  isS : IsS v
  len : sLen v = nl n
  cell : ∀ i, i < nl n → w.cell? ⟨sBlk v, sOff v + i, none⟩ = some (.int .i64 ((dig n i : Nat) : Int))
theorem NatV.below {w w' : World} {v : Value} {n : Nat} (h : NatV w v n) (hb : Below w.heap.size w w') : NatV w' v n :=
  ⟨h.isS, h.len, fun i hi => (hb.cell (p := ⟨sBlk v, sOff v + i, none⟩) (World.block_lt_of_cell? w _ (h.cell i hi))).trans (h.cell i hi)⟩
theorem NatV.ofRL {w : World} {v : Value} {ds : List Nat} (h : RL w v ds) (hd : ∀ d ∈ ds, d < 65536) (hl : ds = [] ∨ ds.getD (ds.length - 1) 0 ≠ 0) : NatV w v (val ds) := by
  have hn : nl (val ds) = ds.length := by
    rcases hl with rfl | hl
    · rfl
    · cases hs : ds.length with
      | zero => rw [List.eq_nil_of_length_eq_zero hs]; rfl
      | succ k =>
        rw [hs, Nat.add_sub_cancel] at hl
        exact nl_of (by rw [← hs]; exact val_lt hd) (by rw [val_dig hd]; exact hl)
  refine ⟨h.isS, by rw [hn]; exact h.len, fun i hi => ?_⟩
  rw [h.cell i (by omega), val_dig hd]
/-- The digits of a number, as a list. -/
def digs (n : Nat) : List Nat := (List.range (nl n)).map (dig n)
theorem digs_length (n : Nat) : (digs n).length = nl n := by simp [digs]
theorem NatV.rl {w : World} {v : Value} {n : Nat} (h : NatV w v n) : RL w v (digs n) := by
  refine ⟨h.isS, by rw [ints_length, digs_length]; exact h.len, fun i hi => ?_⟩
  rw [ints_length, digs_length] at hi
  rw [h.cell i hi]
  simp [ints, digs, List.getD_eq_getElem?_getD, hi]
theorem NatV.zero {w : World} {v : Value} (h : IsS v) (hl : sLen v = 0) : NatV w v 0 := ⟨h, hl, fun i hi => by rw [nl_zero] at hi; omega⟩

/-- What a function of the reference that makes a number answers. -/
def NPost (n : Nat) (w : World) (v : Value) (w' : World) : Prop := NatV w' v n ∧ Below w.heap.size w w'

def TPost (n : Nat) (w : World) (v : Value) (w' : World) : Prop := NatV w v n ∧ w = w'
set_option maxRecDepth 100000 in
set_option maxHeartbeats 400000 in
theorem spTrim (v : Value) (ds : List Nat) (w : World) (hr : RL w v ds) (hd : ∀ d ∈ ds, d < 65536) (hl : ds.length ≤ 1000000000000) :
    Calls Tryz.prog 85 #[v] w fun e w' => ∃ r, e = .returned r ∧ TPost (val ds) w r w' := by
  have Hr := Lib.hid hr
  have Hd := Lib.hid hd
  clear hr hd
  obtain ⟨n, hn⟩ : ∃ n, n = ds.length := ⟨_, rfl⟩
  rw [← hn] at hl
  have Hn := Lib.hid hn
  clear hn
  go_enter Tryz.func85, Tryz.ntmps85
  go_wp2
  go_loop [0] (fun u => ∃ k : Nat, k ≤ n ∧ RL w u (ds.take k) ∧ val (ds.take k) = val ds) (fun u => sLen u)
  case atStart =>
    refine ⟨n, Nat.le_refl _, ?_, ?_⟩ <;> rw [List.take_of_length_le (by rw [Hn.out]; exact Nat.le_refl _)]
    exact Hr.out
  case round =>
    obtain ⟨k, hk, hu, hv⟩ := hrel
    have hS := hu.isS
    have hL : sLen u0 = k := by have := hu.len; simp at this; have := Hn.out; omega
    have hC := hS.le
    have hC' : k ≤ sCap u0 := by omega
    have Hu := Lib.hid hu
    have Hv := Lib.hid hv
    clear hC hu hv
    by_cases hk0 : k = 0
    · subst hk0
      go_wp2
      go_ret
      refine ⟨_, rfl, ?_, rfl⟩
      rw [← Hv.out]
      exact NatV.zero hS hL
    · have hk1 : k - 1 < ds.length := by have := Hn.out; omega
      have c := Hu.out.cell (k - 1) (by simp; omega)
      rw [show (ds.take k).getD (k - 1) 0 = ds.getD (k - 1) 0 by simp [List.getD_eq_getElem?_getD, show k - 1 < k by omega]] at c
      obtain ⟨d, hd⟩ : ∃ d, d = ds.getD (k - 1) 0 := ⟨_, rfl⟩
      rw [← hd] at c
      have htk : ds.take k = ds.take (k - 1) ++ [d] := by
        conv => lhs; rw [show k = (k - 1) + 1 by omega]
        rw [List.take_succ_eq_append_getElem hk1, hd, List.getD_eq_getElem?_getD, List.getElem?_eq_getElem hk1]; rfl
      have Htk := Lib.hid htk
      have r' := Hu.out.take (n := k - 1) (by simp; omega)
      rw [List.take_take, show min (k - 1) k = k - 1 by omega] at r'
      have Hr' := Lib.hid r'
      clear hd r' htk
      by_cases hz : d = 0
      · have hz' : ((d : Int) == 0) = true := by rw [beq_iff_eq]; omega
        go_wp2
        go_round
        case rel =>
          refine ⟨k - 1, by omega, Hr'.out, ?_⟩
          rw [← Hv.out, Htk.out, val_snoc, hz]; simp
        case measure =>
          show sLen (subS u0 0 (k - 1)) < sLen u0
          rw [subS_len hS, hL]; omega
      · have hz' : ((d : Int) == 0) = false := by rw [beq_eq_false_iff_ne]; omega
        go_wp2
        go_ret
        refine ⟨_, rfl, ?_, rfl⟩
        rw [← Hv.out]
        refine NatV.ofRL Hu.out (fun x hx => Hd.out x (List.mem_of_mem_take hx)) (.inr ?_)
        rw [Htk.out]
        simpa [List.getD_eq_getElem?_getD] using hz
end Go.Proofs.YtdepidpgbgfjlaaGreatDoor
/-
Natural numbers of the reference: Small, Add. No condition.
-/
namespace Go.Proofs.YtdepidpgbgfjlaaGreatDoor
open Go.RowKit

/-- Add's relation. -/
def AdRel (x y B : Nat) (w : World) (i c : Nat) (v : Value) (wr : World) : Prop := ∃ ds : List Nat, Own wr B 3 v (cellsN ds) ∧ (∀ d ∈ ds, d < 65536) ∧ ds.length = i ∧ val ds + 65536 ^ i * c = x % 65536 ^ i + y % 65536 ^ i ∧ Below B w wr
theorem add_step {x y i V c : Nat} (h : V + 65536 ^ i * c = x % 65536 ^ i + y % 65536 ^ i) :
    V + 65536 ^ i * ((c + dig x i + dig y i) % 65536) + 65536 ^ (i + 1) * ((c + dig x i + dig y i) / 65536) = x % 65536 ^ (i + 1) + y % 65536 ^ (i + 1) := by
  rw [mod_succ, mod_succ, Nat.pow_succ]
  have := Nat.div_add_mod (c + dig x i + dig y i) 65536
  generalize (c + dig x i + dig y i) / 65536 = q at *
  generalize (c + dig x i + dig y i) % 65536 = r at *
  grind
theorem AdRel.step {x y B k c S : Nat} {w w1 : World} {v1 : Value} {ds : List Nat} {d : Int} (hd : ∀ d ∈ ds, d < 65536) (hdl : ds.length = k) (hv : val ds + 65536 ^ k * c = x % 65536 ^ k + y % 65536 ^ k)
    (hS : S = c + dig x k + dig y k) (hdS : d = ((S % 65536 : Nat) : Int)) (ho : Own w1 B 3 v1 (cellsN ds ++ [.int .i64 d])) (hb : Below B w w1) : AdRel x y B w (k + 1) (S / 65536) v1 w1 := by
  subst hdS
  rw [cellsN_snoc] at ho
  refine ⟨_, ho, ?_, by simp [hdl], ?_, hb⟩
  · intro z hz
    rcases List.mem_append.1 hz with h | h
    · exact hd z h
    · rw [List.mem_singleton.1 h]; omega
  · rw [val_snoc, hdl, hS]; exact add_step hv
end Go.Proofs.YtdepidpgbgfjlaaGreatDoor
/-
Natural numbers of the reference: Mul. No condition.
-/
namespace Go.Proofs.YtdepidpgbgfjlaaGreatDoor
open Go.RowKit

theorem cellsN_set (os : List Nat) (i d : Nat) : (cellsN os).set i (.int .i64 (d : Int)) = cellsN (os.set i d) := by simp [cellsN, List.map_set]
theorem getD_set (os : List Nat) (i j d : Nat) (hi : i < os.length) : (os.set i d).getD j 0 = if i = j then d else os.getD j 0 := by
  simp only [List.getD_eq_getElem?_getD, List.getElem?_set]
  split
  · rename_i h; rfl
  · rfl
end Go.Proofs.YtdepidpgbgfjlaaGreatDoor
/-
Natural numbers of the reference: Power, byDigit. No condition.
-/
namespace Go.Proofs.YtdepidpgbgfjlaaGreatDoor
open Go.RowKit

theorem bthen {a b c : World} (h : Below a.heap.size a b) (k : Below b.heap.size b c) : Below a.heap.size a c := h.trans (k.mono h.size)
end Go.Proofs.YtdepidpgbgfjlaaGreatDoor
/-
Natural numbers of the reference: Cmp, Sub. No condition.
-/
namespace Go.Proofs.YtdepidpgbgfjlaaGreatDoor
open Go.RowKit

/-- What Cmp answers. -/
def cmpN (x y : Nat) : Int := if x < y then -1 else if y < x then 1 else 0
theorem cmpN_lt {x y : Nat} (h : x < y) : cmpN x y = -1 := if_pos h
theorem cmpN_gt {x y : Nat} (h : y < x) : cmpN x y = 1 := by unfold cmpN; rw [if_neg (by omega), if_pos h]
theorem cmpN_eq (x : Nat) : cmpN x x = 0 := by unfold cmpN; simp
theorem cmpN_bd (x y : Nat) : -1 ≤ cmpN x y ∧ cmpN x y ≤ 1 := by unfold cmpN; split; omega; split <;> omega
theorem ret_int {a b : Int} (h : a = b) : Ending.returned (.int .i64 a) = Ending.returned (.int .i64 b) := by rw [h]
/-- Sub's relation. -/
def SuRel (x y B : Nat) (w : World) (i c : Nat) (v : Value) (wr : World) : Prop := ∃ ds : List Nat, Own wr B 3 v (cellsN ds) ∧ (∀ d ∈ ds, d < 65536) ∧ ds.length = i ∧ val ds + y % 65536 ^ i = x % 65536 ^ i + 65536 ^ i * c ∧ Below B w wr
theorem SuRel.step {x y B k c c' r : Nat} {w w1 : World} {v1 : Value} {ds : List Nat} (hd : ∀ d ∈ ds, d < 65536) (hdl : ds.length = k) (hv : val ds + y % 65536 ^ k = x % 65536 ^ k + 65536 ^ k * c)
    (hr : r < 65536) (hS : r + c + dig y k = dig x k + 65536 * c') (ho : Own w1 B 3 v1 (cellsN ds ++ [.int .i64 (r : Int)])) (hb : Below B w w1) : SuRel x y B w (k + 1) c' v1 w1 := by
  rw [cellsN_snoc] at ho
  refine ⟨_, ho, ?_, by simp [hdl], ?_, hb⟩
  · intro z hz
    rcases List.mem_append.1 hz with h | h
    · exact hd z h
    · rw [List.mem_singleton.1 h]; omega
  · rw [val_snoc, hdl, mod_succ, mod_succ, Nat.pow_succ]
    generalize 65536 ^ k = p at *
    grind
end Go.Proofs.YtdepidpgbgfjlaaGreatDoor
/-
Natural numbers of the reference: Len, Bit, Shl. No condition.
-/
namespace Go.Proofs.YtdepidpgbgfjlaaGreatDoor
open Go.RowKit

/-- How many bits. -/
def bl (n : Nat) : Nat := if n = 0 then 0 else n.log2 + 1
theorem bl_zero : bl 0 = 0 := rfl
theorem lt_bl (n : Nat) : n < 2 ^ bl n := by
  unfold bl
  split
  · rename_i h; subst h; decide
  · exact Nat.lt_log2_self
theorem bl_ge {n : Nat} (h : 0 < n) : 2 ^ (bl n - 1) ≤ n := by
  unfold bl
  rw [if_neg (by omega), Nat.add_sub_cancel]
  exact Nat.log2_self_le (by omega)
theorem bl_le {n k : Nat} (h : n < 2 ^ k) : bl n ≤ k := by
  rcases Nat.eq_zero_or_pos n with rfl | hp
  · exact Nat.zero_le _
  · have h1 := bl_ge hp
    have h2 : 2 ^ (bl n - 1) < 2 ^ k := by omega
    have h3 := (Nat.pow_lt_pow_iff_right (show 1 < 2 by decide)).1 h2
    omega
theorem bl_gt {n k : Nat} (h : 2 ^ k ≤ n) : k < bl n := by
  have h1 := lt_bl n
  have h2 : 2 ^ k < 2 ^ bl n := by omega
  exact (Nat.pow_lt_pow_iff_right (show 1 < 2 by decide)).1 h2
theorem bl_pos {n : Nat} (h : 0 < n) : 0 < bl n := bl_gt (k := 0) (by omega)
theorem bl_of {n k : Nat} (h1 : 2 ^ k ≤ n) (h2 : n < 2 ^ (k + 1)) : bl n = k + 1 := by
  have := bl_le h2
  have := bl_gt h1
  omega
theorem bl_mono {a b : Nat} (h : a ≤ b) : bl a ≤ bl b := bl_le (Nat.lt_of_le_of_lt h (lt_bl b))
theorem bl_half {n : Nat} (h : 0 < n) : bl (n / 2) + 1 = bl n := by
  have h1 := bl_ge h
  have h2 := lt_bl n
  have h3 := bl_pos h
  obtain ⟨k, hk⟩ : ∃ k, bl n = k + 1 := ⟨bl n - 1, by omega⟩
  rw [hk] at h1 h2 ⊢
  rw [Nat.add_sub_cancel] at h1
  cases k with
  | zero =>
    rw [show n / 2 = 0 by simp at h2; omega]; rfl
  | succ k => rw [bl_of (n := n / 2) (k := k) (by rw [Nat.pow_succ] at h1; omega) (by rw [Nat.pow_succ] at h2; omega)]
theorem bl_shift {n t k : Nat} (ht : 0 < t) (hn : n = n % 2 ^ k + 2 ^ k * t) : bl n = k + bl t := by
  have h1 := bl_ge ht
  have h2 := lt_bl t
  have h3 := bl_pos ht
  have h4 := Nat.mod_lt n (Nat.pow_pos (n := k) (show 0 < 2 by decide))
  have h5 := bl_of (n := n) (k := k + (bl t - 1)) (by
    rw [Nat.pow_add, hn]
    have := Nat.mul_le_mul_left (2 ^ k) h1
    omega) (by
    rw [show k + (bl t - 1) + 1 = k + bl t by omega, Nat.pow_add, hn]
    have : 2 ^ k * (t + 1) ≤ 2 ^ k * 2 ^ bl t := Nat.mul_le_mul_left _ h2
    rw [Nat.mul_add] at this
    omega)
  omega
theorem bl_digits {n : Nat} (h : 0 < n) : bl n = 16 * (nl n - 1) + bl (dig n (nl n - 1)) := by
  have h0 := nl_pos h
  refine bl_shift (Nat.pos_of_ne_zero (dig_last h)) ?_
  rw [← pow16, ← mod_succ, show nl n - 1 + 1 = nl n by omega, mod_nl (Nat.le_refl _)]
theorem bl_nl (n : Nat) : bl n ≤ 16 * nl n := bl_le (by rw [← pow16]; exact lt_nl n)
theorem nl_bl {n k : Nat} (h : bl n ≤ 16 * k) : nl n ≤ k := nl_le (by rw [pow16]; exact Nat.lt_of_lt_of_le (lt_bl n) (Nat.pow_le_pow_right (by decide) h))
set_option maxRecDepth 100000 in
set_option maxHeartbeats 400000 in
theorem spLen (a : Value) (x : Nat) (w : World) (ha : NatV w a x) (hx : nl x ≤ 1000000000) :
    Calls Tryz.prog 19 #[a] w fun e w' => e = .returned (.int .i64 (bl x : Nat)) ∧ w = w' := by
  have hSa := ha.isS
  have hLa := ha.len
  have Ha := Lib.hid ha
  clear ha
  by_cases hx0 : x = 0
  · subst hx0
    rw [nl_zero] at hLa
    go_enter Tryz.func19, Tryz.ntmps19
    go_wp2
    go_ret
    exact ⟨rfl, rfl⟩
  · have h0 := nl_pos (show 0 < x by omega)
    have hd := bl_digits (show 0 < x by omega)
    have c := Ha.out.cell (nl x - 1) (by omega)
    have hz : ((nl x : Int) == 0) = false := by rw [beq_eq_false_iff_ne]; omega
    obtain ⟨t, ht⟩ : ∃ t, t = dig x (nl x - 1) := ⟨_, rfl⟩
    have htl := dig_lt x (nl x - 1)
    rw [← ht] at hd c htl
    obtain ⟨n, hn⟩ : ∃ n, n = nl x := ⟨_, rfl⟩
    rw [← hn] at hLa hx h0 hd c hz
    have Hd := Lib.hid hd
    have hbx := bl_nl x
    rw [← hn] at hbx
    have e1 : (n : Int) - 1 = ((n - 1 : Nat) : Int) := by omega
    clear hd ht hn
    go_enter Tryz.func19, Tryz.ntmps19
    go_wp2
    go_loop [3, 4] (fun i u => ∃ k m : Nat, m < 65536 ∧ k ≤ 16000000000 ∧ i = .int .i64 k ∧ u = .int .i64 m ∧ k + bl m = bl x) (fun _ u => (intOf u).toNat)
    case atStart => exact ⟨16 * (n - 1), t, htl, by omega, by go_num, rfl, Hd.out.symm⟩
    case round =>
      obtain ⟨k, m, hm, hk, rfl, rfl, hb⟩ := hrel
      have hkb : k ≤ bl x := by omega
      have hkm : 0 < m → k + 1 ≤ bl x := fun h => by have := bl_pos h; omega
      have Hb := Lib.hid hb
      clear hb
      by_cases hm0 : m = 0
      · subst hm0
        go_wp2
        go_ret
        have e := Hb.out
        rw [bl_zero, Nat.add_zero] at e
        rw [← e]
        exact ⟨rfl, rfl⟩
      · have t1 : decide (0 < m) = true := by rw [decide_eq_true_iff]; omega
        have hh := bl_half (show 0 < m by omega)
        have Hh := Lib.hid hh
        clear hh
        go_wp2
        refine ⟨⟨k + 1, m / 2, by omega, ?_, by go_num, by go_num, ?_⟩, by simp [intOf]; omega⟩
        · have := hkm (by omega); omega
        · have := Hb.out; have := Hh.out; omega
end Go.Proofs.YtdepidpgbgfjlaaGreatDoor
/-
Natural numbers of the reference: Bit, Shl. No condition.
-/
namespace Go.Proofs.YtdepidpgbgfjlaaGreatDoor
open Go.RowKit

theorem two16 {s : Nat} (h : s < 16) : 0 < 2 ^ s ∧ 2 ^ s ≤ 32768 := by
  constructor
  · exact Nat.pow_pos (by decide)
  · exact Nat.pow_le_pow_right (show 0 < 2 by decide) (show s ≤ 15 by omega)
/-- Shl's relation. -/
def ShlRel (x q S L B i : Nat) (w : World) (v : Value) (wr : World) : Prop :=
  ∃ os : List Nat, Own wr B 3 v (cellsN os) ∧ os.length = L ∧ (∀ d ∈ os, d < 65536) ∧ val os = 65536 ^ q * (x % 65536 ^ i * S) ∧ Below B w wr
theorem shl_carry {x q S i : Nat} (hS : 0 < S) (hS2 : S < 65536) : dig (65536 ^ q * (x % 65536 ^ i * S)) (q + i) = x % 65536 ^ i * S / 65536 ^ i ∧ x % 65536 ^ i * S / 65536 ^ i < S ∧ dig (65536 ^ q * (x % 65536 ^ i * S)) (q + i + 1) = 0 := by
  have h0 := Nat.mod_lt x (pow_pos i)
  have h1 : x % 65536 ^ i * S < 65536 ^ i * S := Nat.mul_lt_mul_of_pos_right h0 hS
  have h2 : x % 65536 ^ i * S / 65536 ^ i < S := Nat.div_lt_of_lt_mul h1
  refine ⟨?_, h2, ?_⟩
  · unfold dig
    rw [Nat.pow_add, ← Nat.div_div_eq_div_mul, Nat.mul_div_cancel_left _ (pow_pos q), Nat.mod_eq_of_lt (by omega)]
  · unfold dig
    rw [show q + i + 1 = q + (i + 1) by omega, Nat.pow_add, ← Nat.div_div_eq_div_mul, Nat.mul_div_cancel_left _ (pow_pos q), Nat.pow_succ, ← Nat.div_div_eq_div_mul]
    rw [Nat.div_eq_of_lt (show x % 65536 ^ i * S / 65536 ^ i < 65536 by omega)]
theorem shl_low {d s : Nat} (hs : s < 16) (c : Nat) (hc : c < 2 ^ s) : c + d * 2 ^ s % 65536 < 65536 := by
  have e : (65536 : Nat) = 2 ^ (16 - s) * 2 ^ s := by rw [← Nat.pow_add, show 16 - s + s = 16 by omega]
  have h1 : d * 2 ^ s % 65536 = d % 2 ^ (16 - s) * 2 ^ s := by conv => lhs; rw [e, Nat.mul_mod_mul_right]
  have h2 := Nat.mod_lt d (Nat.pow_pos (n := 16 - s) (show 0 < 2 by decide))
  have h3 : (d % 2 ^ (16 - s) + 1) * 2 ^ s ≤ 2 ^ (16 - s) * 2 ^ s := Nat.mul_le_mul_right _ h2
  rw [Nat.add_mul, ← e] at h3
  omega
theorem ShlRel.step {x q s S L B i : Nat} {w wr : World} {v : Value} {os : List Nat} (ho : Own wr B 3 v (cellsN os)) (hL : os.length = L) (hd : ∀ d ∈ os, d < 65536) (hv : val os = 65536 ^ q * (x % 65536 ^ i * S)) (hb : Below B w wr)
    (hi : q + i + 1 < L) (hs : s < 16) (hS : S = 2 ^ s) :
    os.getD (q + i) 0 < S ∧ os.getD (q + i + 1) 0 = 0 ∧ ShlRel x q S L B (i + 1) w v ((wr.setCell ⟨sBlk v, sOff v + (q + i), none⟩ (.int .i64 ((os.getD (q + i) 0 + dig x i * S % 65536 : Nat) : Int))).setCell ⟨sBlk v, sOff v + (q + i + 1), none⟩ (.int .i64 ((dig x i * S / 65536 : Nat) : Int))) := by
  have hSb := two16 hs
  rw [← hS] at hSb
  obtain ⟨h1, h2, h3⟩ := shl_carry (x := x) (q := q) (i := i) hSb.1 (by omega)
  rw [← hv, val_dig hd] at h1
  rw [← hv, val_dig hd] at h3
  rw [← h1] at h2
  refine ⟨h2, h3, ?_⟩
  have hlow := shl_low (d := dig x i) hs (os.getD (q + i) 0) (by rw [← hS]; exact h2)
  rw [← hS] at hlow
  have hdl := dig_lt x i
  have hhi : dig x i * S / 65536 < 65536 := by
    refine Nat.div_lt_of_lt_mul ?_
    exact Nat.mul_lt_mul_of_lt_of_le hdl (by omega) (by omega)
  have s1 := ho.set (i := q + i) (by rw [cellsN_length]; omega) (.int .i64 ((os.getD (q + i) 0 + dig x i * S % 65536 : Nat) : Int))
  rw [cellsN_set] at s1
  have s2 := s1.set (i := q + i + 1) (by rw [cellsN_length, List.length_set]; omega) (.int .i64 ((dig x i * S / 65536 : Nat) : Int))
  rw [cellsN_set] at s2
  have hl := ho.len
  rw [cellsN_length] at hl
  have hcp := ho.isS.le
  refine ⟨_, s2, by simpa using hL, ?_, ?_, bset (bset hb (ho.lt (by omega)).1) (ho.lt (by omega)).1⟩
  · intro z hz'
    rcases List.mem_or_eq_of_mem_set hz' with h | h
    · rcases List.mem_or_eq_of_mem_set h with h | h
      · exact hd z h
      · rw [h]; exact hlow
    · rw [h]; exact hhi
  · have e1 := val_set (a := os) (i := q + i) (by omega) (os.getD (q + i) 0 + dig x i * S % 65536)
    have e2 := val_set (a := os.set (q + i) (os.getD (q + i) 0 + dig x i * S % 65536)) (i := q + i + 1) (by simp; omega) (dig x i * S / 65536)
    rw [getD_set _ _ _ _ (by omega), if_neg (by omega), h3] at e2
    have e3 := Nat.div_add_mod (dig x i * S) 65536
    rw [mod_succ]
    rw [Nat.pow_succ, Nat.pow_add] at e2
    rw [Nat.pow_add] at e1
    generalize val (List.set _ (q + i + 1) _) = V2 at *
    generalize val (List.set _ (q + i) _) = V1 at *
    generalize dig x i * S / 65536 = hiD at *
    generalize dig x i * S % 65536 = loD at *
    rw [hv] at e1
    rw [Nat.add_mul, Nat.mul_add]
    rw [show 65536 ^ q * (65536 ^ i * dig x i * S) = 65536 ^ q * 65536 ^ i * (dig x i * S) by grind, ← e3]
    grind
end Go.Proofs.YtdepidpgbgfjlaaGreatDoor
/-
Words of 64 bits: plain arithmetic; slices of words. No condition.
-/
namespace Go.Proofs.YtdepidpgbgfjlaaGreatDoor
open Go.RowKit

/-- The word with the index i. -/
def wdg (n i : Nat) : Nat := n / 18446744073709551616 ^ i % 18446744073709551616
/-- How many words. -/
def nw (n : Nat) : Nat := (nl n + 3) / 4
/-- The number that words are. -/
def wv : List Nat → Nat
  | [] => 0
  | d :: ds => d + 18446744073709551616 * wv ds
def wds (n : Nat) : List Nat := (List.range (nw n)).map (wdg n)
theorem wpow (i : Nat) : (18446744073709551616 : Nat) ^ i = 65536 ^ (4 * i) := by rw [Nat.pow_mul]
theorem wpow_pos (i : Nat) : 0 < 18446744073709551616 ^ i := Nat.pow_pos (by decide)
theorem wdg_lt (n i : Nat) : wdg n i < 18446744073709551616 := Nat.mod_lt _ (by decide)
theorem wmod_succ (n i : Nat) : n % 18446744073709551616 ^ (i + 1) = n % 18446744073709551616 ^ i + 18446744073709551616 ^ i * wdg n i := Nat.mod_pow_succ
theorem lt_nw (n : Nat) : n < 18446744073709551616 ^ nw n := by
  rw [wpow]
  exact Nat.lt_of_lt_of_le (lt_nl n) (Nat.pow_le_pow_right (by decide) (by unfold nw; omega))
theorem nw_le {n k : Nat} (h : n < 18446744073709551616 ^ k) : nw n ≤ k := by
  rw [wpow] at h
  have := nl_le h
  unfold nw; omega
theorem nw_zero : nw 0 = 0 := rfl
theorem nw_pos {n : Nat} (h : 0 < n) : 0 < nw n := by have := nl_pos h; unfold nw; omega
theorem nw_eq_zero {n : Nat} : nw n = 0 ↔ n = 0 := ⟨fun h => by rcases Nat.eq_zero_or_pos n with h' | h'; exact h'; have := nw_pos h'; omega, fun h => by rw [h]; rfl⟩
theorem nw_ge {n : Nat} (h : 0 < n) : 18446744073709551616 ^ (nw n - 1) ≤ n := by
  rw [wpow]
  refine Nat.le_trans (Nat.pow_le_pow_right (by decide) ?_) (nl_ge h)
  have := nl_pos h
  unfold nw; omega
theorem nw_mono {a b : Nat} (h : a ≤ b) : nw a ≤ nw b := nw_le (Nat.lt_of_le_of_lt h (lt_nw b))
theorem wmod_nw {n i : Nat} (h : nw n ≤ i) : n % 18446744073709551616 ^ i = n :=
  Nat.mod_eq_of_lt (Nat.lt_of_lt_of_le (lt_nw n) (Nat.pow_le_pow_right (by decide) h))
theorem wdg_ge {n i : Nat} (h : nw n ≤ i) : wdg n i = 0 := by
  unfold wdg
  rw [Nat.div_eq_of_lt (Nat.lt_of_lt_of_le (lt_nw n) (Nat.pow_le_pow_right (by decide) h))]
theorem wdg_last {n : Nat} (h : 0 < n) : wdg n (nw n - 1) ≠ 0 := by
  intro h0
  have h1 := wmod_succ n (nw n - 1)
  have := nw_pos h
  rw [show nw n - 1 + 1 = nw n by omega, wmod_nw (Nat.le_refl _), h0, Nat.mul_zero, Nat.add_zero] at h1
  have h2 := nw_ge h
  have h3 := Nat.mod_lt n (wpow_pos (nw n - 1))
  omega
theorem wv_append (a b : List Nat) : wv (a ++ b) = wv a + 18446744073709551616 ^ a.length * wv b := by
  induction a with
  | nil => simp [wv]
  | cons d ds ih => simp only [List.cons_append, wv, ih, List.length_cons, Nat.pow_succ]; grind
theorem wv_snoc (a : List Nat) (d : Nat) : wv (a ++ [d]) = wv a + 18446744073709551616 ^ a.length * d := by rw [wv_append]; simp [wv]
theorem wv_lt {a : List Nat} (h : ∀ d ∈ a, d < 18446744073709551616) : wv a < 18446744073709551616 ^ a.length := by
  induction a with
  | nil => decide
  | cons d ds ih =>
    have h1 := ih fun x hx => h x (by simp [hx])
    have h2 := h d (by simp)
    simp only [wv, List.length_cons, Nat.pow_succ]
    omega
theorem wdg_zero_eq (n : Nat) : wdg n 0 = n % 18446744073709551616 := by simp [wdg]
theorem wdg_succ (n i : Nat) : wdg n (i + 1) = wdg (n / 18446744073709551616) i := by
  unfold wdg; rw [Nat.pow_succ, Nat.mul_comm, Nat.div_div_eq_div_mul]
theorem wv_dig {a : List Nat} (h : ∀ d ∈ a, d < 18446744073709551616) : ∀ i, wdg (wv a) i = a.getD i 0 := by
  induction a with
  | nil => intro i; simp [wv, wdg]
  | cons d ds ih =>
    have h2 := h d (by simp)
    intro i
    cases i with
    | zero => rw [wdg_zero_eq]; simp [wv]; omega
    | succ i =>
      rw [wdg_succ, show wv (d :: ds) / 18446744073709551616 = wv ds by simp only [wv]; omega, ih (fun x hx => h x (by simp [hx]))]
      simp
theorem wv_set {a : List Nat} : ∀ {i : Nat}, i < a.length → ∀ d, wv (a.set i d) + 18446744073709551616 ^ i * a.getD i 0 = wv a + 18446744073709551616 ^ i * d := by
  induction a with
  | nil => intro i h; simp at h
  | cons x xs ih =>
    intro i h d
    cases i with
    | zero => simp [wv]; omega
    | succ i =>
      have := ih (show i < xs.length by simpa using h) d
      simp only [List.set_cons_succ, wv, Nat.pow_succ]
      simp only [List.getD_eq_getElem?_getD, List.getElem?_cons_succ] at this ⊢
      grind
theorem wds_length (n : Nat) : (wds n).length = nw n := by simp [wds]
theorem wds_lt {n d : Nat} (h : d ∈ wds n) : d < 18446744073709551616 := by
  obtain ⟨i, _, rfl⟩ := List.mem_map.1 h; exact wdg_lt n i
theorem wv_range (n : Nat) : ∀ k, wv ((List.range k).map (wdg n)) = n % 18446744073709551616 ^ k
  | 0 => by simp [wv, Nat.mod_one]
  | k + 1 => by
    rw [List.range_succ, List.map_append, List.map_cons, List.map_nil, wv_snoc, wv_range n k, wmod_succ]
    simp
theorem wv_wds (n : Nat) : wv (wds n) = n := by rw [wds, wv_range, wmod_nw (Nat.le_refl _)]
theorem wds_getD (n i : Nat) : (wds n).getD i 0 = wdg n i := by
  by_cases h : i < nw n
  · simp [wds, List.getD_eq_getElem?_getD, h]
  · rw [wdg_ge (by omega), List.getD_eq_getElem?_getD, List.getElem?_eq_none (by rw [wds_length]; omega)]; rfl
theorem list_ext_getD {a b : List Nat} (hl : a.length = b.length) (h : ∀ i, a.getD i 0 = b.getD i 0) : a = b := by
  apply List.ext_getElem hl
  intro i h1 h2
  have := h i
  simpa [List.getD_eq_getElem?_getD, List.getElem?_eq_getElem h1, List.getElem?_eq_getElem h2] using this
/-- Words of the least number are the words of their number. -/
theorem wds_of {a : List Nat} (h : ∀ d ∈ a, d < 18446744073709551616) (hl : a.length = nw (wv a)) : a = wds (wv a) :=
  list_ext_getD (by rw [wds_length]; exact hl) fun i => by rw [wds_getD, wv_dig h]
theorem wv_inj {a b : List Nat} (ha : ∀ d ∈ a, d < 18446744073709551616) (hb : ∀ d ∈ b, d < 18446744073709551616) (hl : a.length = b.length) (h : wv a = wv b) : a = b :=
  list_ext_getD hl fun i => by rw [← wv_dig ha, ← wv_dig hb, h]
/-- A list of words whose last one is not 0 is the words of its number. -/
theorem wds_norm {a : List Nat} (h : ∀ d ∈ a, d < 18446744073709551616) (hl : a = [] ∨ a.getD (a.length - 1) 0 ≠ 0) : a = wds (wv a) := by
  refine wds_of h ?_
  rcases hl with rfl | hl
  · rfl
  · have h1 := nw_le (wv_lt h)
    refine Nat.le_antisymm (Nat.le_of_not_lt fun hc => hl ?_) h1
    rw [← wv_dig h]
    exact wdg_ge (by omega)

def cellsW (ds : List Nat) : List Value := ds.map fun (d : Nat) => Value.int .u64 (d : Int)
theorem cellsW_length (ds : List Nat) : (cellsW ds).length = ds.length := by simp [cellsW]
theorem cellsW_eq (ds : List Nat) : cellsW ds = (ints ds).map (Value.int .u64) := by simp [cellsW, ints]
theorem cellsW_snoc (ds : List Nat) (d : Nat) : cellsW ds ++ [.int .u64 (d : Int)] = cellsW (ds ++ [d]) := by simp [cellsW]
theorem cellsW_set (os : List Nat) (i d : Nat) : (cellsW os).set i (.int .u64 (d : Int)) = cellsW (os.set i d) := by simp [cellsW, List.map_set]
theorem cellsW_append (a b : List Nat) : cellsW a ++ cellsW b = cellsW (a ++ b) := by simp [cellsW]
/-- v reads as the words ds. -/
structure RW (w : World) (v : Value) (ds : List Nat) : Prop where
  ri : RI .u64 w v (ints ds)
  lt : ∀ d ∈ ds, d < 18446744073709551616
theorem RW.isS {w : World} {v : Value} {ds : List Nat} (h : RW w v ds) : IsS v := h.ri.isS
theorem RW.len {w : World} {v : Value} {ds : List Nat} (h : RW w v ds) : sLen v = ds.length := h.ri.len.trans (ints_length ds)
theorem RW.cell {w : World} {v : Value} {ds : List Nat} (h : RW w v ds) (i : Nat) (hi : i < ds.length) : w.cell? ⟨sBlk v, sOff v + i, none⟩ = some (.int .u64 ((ds.getD i 0 : Nat) : Int)) := by
  rw [h.ri.cell i (by rw [ints_length]; exact hi)]
  simp [ints, List.getD_eq_getElem?_getD, List.getElem?_eq_getElem hi]
theorem getD_ltW {os : List Nat} (h : ∀ d ∈ os, d < 18446744073709551616) (i : Nat) : os.getD i 0 < 18446744073709551616 := by
  by_cases hi : i < os.length
  · rw [List.getD_eq_getElem?_getD, List.getElem?_eq_getElem hi]; exact h _ (List.getElem_mem hi)
  · rw [List.getD_eq_getElem?_getD, List.getElem?_eq_none (by omega)]; decide
theorem RW.below {w w' : World} {v : Value} {ds : List Nat} (h : RW w v ds) (hb : Below w.heap.size w w') : RW w' v ds := ⟨h.ri.below hb, h.lt⟩
theorem RW.take {w : World} {v : Value} {ds : List Nat} (h : RW w v ds) {n : Nat} (hn : n ≤ ds.length) : RW w (subS v 0 n) (ds.take n) := by
  refine ⟨?_, fun d hd => h.lt d (List.mem_of_mem_take hd)⟩
  have := h.ri.sub (l := 0) (n := n) (Nat.zero_le _) (by rw [ints_length]; exact hn)
  simpa [ints, List.map_take] using this
theorem Own.rw' {w : World} {B e : Nat} {v : Value} {ds : List Nat} (h : Own w B e v (cellsW ds)) (hd : ∀ d ∈ ds, d < 18446744073709551616) : RW w v ds := by
  rw [cellsW_eq] at h; exact ⟨h.rd, hd⟩
theorem RW.src {w : World} {v : Value} {ds : List Nat} {tx e : TypeId} (h : RW w v ds) (hk : Tryz.prog.underlying tx = some (.slice e)) : Src Tryz.prog 1 tx v ds.length (cellsW ds) w := by
  rw [cellsW_eq, ← ints_length]; exact RI.src h.ri hk
theorem elemU : ElemT Tryz.prog 23 35 8 (.int .u64 0) := .of (z := .int .u64 0) Tryz.underlying23 rfl (by kernel_rfl)
theorem elemW : ElemT Tryz.prog 120 164 8 (.int .u64 0) := .of (z := .int .u64 0) Tryz.underlying120 rfl (by kernel_rfl)
theorem elemT : ElemT Tryz.prog 121 164 8 (.int .u64 0) := .of (z := .int .u64 0) Tryz.underlying121 rfl (by kernel_rfl)
end Go.Proofs.YtdepidpgbgfjlaaGreatDoor
/-
A statement's argument that is a fraction: what it reads as. No condition.
-/
namespace Go.Proofs.YtdepidpgbgfjlaaGreatDoor
open Go.ChangeShapes Go.WideShapes Go.ChangeAt Go.RowKit

theorem words_of {zs : List Int} (h : ∀ n ∈ zs, (Lit.int .u64 n).wf = true) : ∃ us : List Nat, zs = ints us ∧ ∀ d ∈ us, d < 18446744073709551616 := by
  have hb : ∀ n ∈ zs, 0 ≤ n ∧ n ≤ 18446744073709551615 := fun n hn => by simpa [Lit.wf, IntKind.min, IntKind.max, IntKind.signed, IntKind.bits] using h n hn
  refine ⟨zs.map Int.toNat, ?_, ?_⟩
  · simp only [ints, List.map_map]
    refine ((List.map_congr_left (g := id) fun n hn => ?_).trans (List.map_id zs)).symm
    have := hb n hn
    simp only [Function.comp, id]; omega
  · intro d hd
    obtain ⟨n, hn, rfl⟩ := List.mem_map.1 hd
    have := hb n hn
    omega
section
variable {H : Type} {enc : TypeId × Value → H} {W : World} {base : Nat} {held : Bool}
theorem open_words {v : Value} {fuel : Nat} {x : DataW H × List MemPlace} (h : DataW.trod enc Tryz.prog W base (fun _ => true) held fuel 23 [v] = some x) : ∃ ws, RW W v ws := by
  have key : ∃ a len cap zs, v = .slice a len cap ∧ ((a = none ∧ len = 0 ∧ cap = 0 ∧ zs = []) ∨ ∃ x, a = some x ∧ len ≤ cap ∧ cap ≤ maxLen ∧ zs.length = cap ∧ (∀ i, i < zs.length → W.cell? (x.add i) = some (.int .u64 (zs.getD i 0))) ∧ ∀ n ∈ zs, (Lit.int .u64 n).wf = true) := by
    rcases open_ints Tryz.underlying23 Tryz.underlying35 (by kernel_rfl) h with ⟨hcs, _⟩ | ⟨x, l, c, zs, hcs, _, hl, hm, hz, _, hcell, hwz⟩
    · simp at hcs; exact ⟨_, _, _, [], hcs, .inl ⟨rfl, rfl, rfl, rfl⟩⟩
    · simp at hcs
      exact ⟨_, _, _, zs, hcs, .inr ⟨_, rfl, hl, hm, by simpa using hz, hcell, hwz⟩⟩
  obtain ⟨a, len, cap, zs, rfl, hr⟩ := key
  obtain ⟨h1, h2, _, _⟩ := row_RI hr
  obtain ⟨us, hus, hd⟩ := words_of h2
  rw [hus] at h1
  exact ⟨us, h1, hd⟩
end
end Go.Proofs.YtdepidpgbgfjlaaGreatDoor
/-
Rounding of dyadic values, in plain numbers: equal values, odd parts, what is left, which way. No condition.
-/
namespace Go.Proofs.YtdepidpgbgfjlaaGreatDoor
open Go.RowKit

/-- M times 2 to E is N times 2 to F. -/
def deq (M : Nat) (E : Int) (N : Nat) (F : Int) : Prop := ∃ i j : Nat, M * 2 ^ i = N * 2 ^ j ∧ E - i = F - j
theorem deq.refl (M : Nat) (E : Int) : deq M E M E := ⟨0, 0, rfl, rfl⟩
theorem deq.symm {M N : Nat} {E F : Int} (h : deq M E N F) : deq N F M E := by
  obtain ⟨i, j, h1, h2⟩ := h; exact ⟨j, i, h1.symm, h2.symm⟩
theorem deq.trans {M N K : Nat} {E F G : Int} (h : deq M E N F) (k : deq N F K G) : deq M E K G := by
  obtain ⟨i, j, h1, h2⟩ := h
  obtain ⟨a, b, k1, k2⟩ := k
  refine ⟨i + a, b + j, ?_, by omega⟩
  rw [Nat.pow_add, ← Nat.mul_assoc, h1, Nat.mul_assoc, Nat.mul_comm (2 ^ j), ← Nat.mul_assoc, k1, Nat.mul_assoc, ← Nat.pow_add]
theorem deq.pos {M N : Nat} {E F : Int} (h : deq M E N F) (hM : 0 < M) : 0 < N := by
  obtain ⟨i, j, h1, -⟩ := h
  have := Nat.mul_pos hM (Nat.two_pow_pos i)
  rw [h1] at this
  exact Nat.pos_of_mul_pos_right this
theorem bl_mul {x : Nat} (h : 0 < x) (n : Nat) : bl (x * 2 ^ n) = bl x + n := by
  have h1 := bl_ge h
  have h2 := lt_bl x
  have h3 := bl_pos h
  have e : bl x + n = (bl x - 1 + n) + 1 := by omega
  rw [e]
  refine bl_of ?_ ?_
  · rw [Nat.pow_add]; exact Nat.mul_le_mul_right _ h1
  · rw [show bl x - 1 + n + 1 = bl x + n by omega, Nat.pow_add]
    exact Nat.mul_lt_mul_of_pos_right h2 (Nat.two_pow_pos n)
theorem deq.bl {M N : Nat} {E F : Int} (h : deq M E N F) (hM : 0 < M) : (bl M : Int) + E = (bl N : Int) + F := by
  have hN := h.pos hM
  obtain ⟨i, j, h1, h2⟩ := h
  have := congrArg Go.Proofs.YtdepidpgbgfjlaaGreatDoor.bl h1
  rw [bl_mul hM, bl_mul hN] at this
  omega
/-- Values with the same exponent. -/
theorem deq.same {M N : Nat} {E : Int} (h : deq M E N E) : M = N := by
  obtain ⟨i, j, h1, h2⟩ := h
  have : i = j := by omega
  subst this
  exact Nat.eq_of_mul_eq_mul_right (Nat.two_pow_pos i) h1

/-! ### Odd parts -/
def tzF : Nat → Nat → Nat
  | 0, _ => 0
  | f + 1, n => if n % 2 = 1 then 0 else tzF f (n / 2) + 1
/-- How often 2 divides a number above 0. -/
def tz (n : Nat) : Nat := tzF n n
/-- A number without its divisors 2. -/
def od (n : Nat) : Nat := n / 2 ^ tz n
theorem tzF_ok : ∀ f n : Nat, 0 < n → n ≤ f → ∃ o : Nat, n = o * 2 ^ tzF f n ∧ o % 2 = 1
  | 0, n, h, hf => by omega
  | f + 1, n, h, hf => by
    unfold tzF
    by_cases h1 : n % 2 = 1
    · rw [if_pos h1]; exact ⟨n, by simp, h1⟩
    · rw [if_neg h1]
      obtain ⟨o, h2, h3⟩ := tzF_ok f (n / 2) (by omega) (by omega)
      refine ⟨o, ?_, h3⟩
      rw [Nat.pow_succ, ← Nat.mul_assoc, ← h2]; omega
theorem od_tz {n : Nat} (h : 0 < n) : n = od n * 2 ^ tz n ∧ od n % 2 = 1 := by
  obtain ⟨o, h1, h2⟩ := tzF_ok n n h (Nat.le_refl _)
  have h3 : od n = o := by
    unfold od
    conv => lhs; lhs; rw [h1]
    exact Nat.mul_div_cancel _ (Nat.two_pow_pos _)
  rw [h3]; exact ⟨h1, h2⟩
theorem odd_two {o p s t : Nat} (ho : o % 2 = 1) (hp : p % 2 = 1) (h : o * 2 ^ s = p * 2 ^ t) : s = t ∧ o = p := by
  rcases Nat.lt_trichotomy s t with c | c | c
  · obtain ⟨k, rfl⟩ : ∃ k, t = s + (k + 1) := ⟨t - s - 1, by omega⟩
    rw [Nat.pow_add, Nat.mul_comm (2 ^ s), ← Nat.mul_assoc] at h
    have := Nat.eq_of_mul_eq_mul_right (Nat.two_pow_pos s) h
    rw [Nat.pow_succ, ← Nat.mul_assoc] at this
    omega
  · subst c
    exact ⟨rfl, Nat.eq_of_mul_eq_mul_right (Nat.two_pow_pos s) h⟩
  · obtain ⟨k, rfl⟩ : ∃ k, s = t + (k + 1) := ⟨s - t - 1, by omega⟩
    rw [Nat.pow_add, Nat.mul_comm (2 ^ t), ← Nat.mul_assoc] at h
    have := Nat.eq_of_mul_eq_mul_right (Nat.two_pow_pos t) h
    rw [Nat.pow_succ, ← Nat.mul_assoc] at this
    omega
theorem od_pos {n : Nat} (h : 0 < n) : 0 < od n := by have := (od_tz h).2; omega
theorem od_of {n o t : Nat} (h : n = o * 2 ^ t) (ho : o % 2 = 1) : od n = o ∧ tz n = t := by
  have hn : 0 < n := by rw [h]; exact Nat.mul_pos (by omega) (Nat.two_pow_pos t)
  have h2 := od_tz hn
  have h3 := odd_two h2.2 ho (h2.1.symm.trans h)
  exact ⟨h3.2, h3.1⟩
theorem od_deq {n : Nat} (h : 0 < n) (E : Int) : deq n E (od n) (E + tz n) := ⟨0, tz n, by rw [Nat.pow_zero, Nat.mul_one]; exact (od_tz h).1, by omega⟩
theorem deq.od {M N : Nat} {E F : Int} (h : deq M E N F) (hM : 0 < M) : od M = od N ∧ E + tz M = F + tz N := by
  have hN := h.pos hM
  have h1 := ((od_deq hM E).symm.trans h).trans (od_deq hN F)
  obtain ⟨i, j, a, b⟩ := h1
  have := odd_two (od_tz hM).2 (od_tz hN).2 a
  exact ⟨this.2, by omega⟩
theorem bl_od {n : Nat} (h : 0 < n) : bl n = bl (od n) + tz n := by
  conv => lhs; rw [(od_tz h).1]
  exact bl_mul (od_pos h) _
theorem tz_le {n : Nat} (h : 0 < n) : tz n < bl n := by have := bl_od h; have := bl_pos (od_pos h); omega
/-! ### Rounding -/
/-- What is left of the next unit: 0 nothing, 1 less than a half, 2 a half, 3 more; s tells that there is more behind. -/
def lef (R D s : Nat) : Nat := if R = 0 ∧ s = 0 then 0 else if 2 * R < D then 1 else if 2 * R = D ∧ s = 0 then 2 else 3
/-- Whether a magnitude is rounded up. -/
def awy (neg odd : Bool) (left mode : Nat) : Bool :=
  if mode = 0 then decide (left = 3) || (decide (left = 2) && odd) else if mode = 1 then decide (2 ≤ left) else if mode = 3 then decide (0 < left)
  else if mode = 4 then decide (0 < left) && neg else if mode = 5 then decide (0 < left) && !neg else false
/-- How many bits are cut off. -/
def rk (p M : Nat) : Nat := bl M - p
def rL (p s M : Nat) : Nat := lef (M % 2 ^ rk p M) (2 ^ rk p M) s
def rU (p m : Nat) (neg : Bool) (s M : Nat) : Bool := awy neg (decide (M / 2 ^ rk p M % 2 = 1)) (rL p s M) m
/-- The rounded magnitude, in units of 2 to rk. -/
def rQ (p m : Nat) (neg : Bool) (s M : Nat) : Nat := M / 2 ^ rk p M + if rU p m neg s M then 1 else 0
/-- The side of the exact value on which it is. -/
def rA (p m : Nat) (neg : Bool) (s M : Nat) : Int := if rL p s M = 0 then 0 else if rU p m neg s M != neg then 1 else -1
theorem awy_zero (neg odd : Bool) (mode : Nat) : awy neg odd 0 mode = false := by
  unfold awy; repeat' split
  all_goals simp
theorem lef_scale (R D s : Nat) {S : Nat} (h : 0 < S) : lef (R * S) (D * S) s = lef R D s := by
  unfold lef
  have e1 : R * S = 0 ↔ R = 0 := by rw [Nat.mul_eq_zero]; exact ⟨fun h' => h'.resolve_right (by omega), .inl⟩
  have e2 : 2 * (R * S) < D * S ↔ 2 * R < D := by rw [← Nat.mul_assoc]; exact ⟨fun h' => Nat.lt_of_mul_lt_mul_right h', fun h' => Nat.mul_lt_mul_of_pos_right h' h⟩
  have e3 : 2 * (R * S) = D * S ↔ 2 * R = D := by rw [← Nat.mul_assoc]; exact ⟨fun h' => Nat.eq_of_mul_eq_mul_right h h', fun h' => by rw [h']⟩
  simp only [e1, e2, e3]
theorem lef_exact (D : Nat) : lef 0 D 0 = 0 := by simp [lef]
/-- What fits is exact. -/
theorem rQ_fits {p m M : Nat} (neg : Bool) (h : bl M ≤ p) : rk p M = 0 ∧ rQ p m neg 0 M = M ∧ rA p m neg 0 M = 0 := by
  have h0 : rk p M = 0 := by unfold rk; omega
  have h1 : rL p 0 M = 0 := by unfold rL; rw [h0, Nat.pow_zero, Nat.mod_one]; exact lef_exact _
  refine ⟨h0, ?_, ?_⟩
  · unfold rQ rU; rw [h1, awy_zero, h0]; simp
  · unfold rA; rw [if_pos h1]
theorem rnd_shl {p m M : Nat} (neg : Bool) (hM : 0 < M) (t : Nat) (E : Int) :
    deq (rQ p m neg 0 (M * 2 ^ t)) (E + rk p (M * 2 ^ t)) (rQ p m neg 0 M) (E + t + rk p M) ∧ rA p m neg 0 (M * 2 ^ t) = rA p m neg 0 M := by
  have hb := bl_mul hM t
  rcases Nat.lt_or_ge p (bl M) with hp | hp
  · have k1 : rk p (M * 2 ^ t) = rk p M + t := by unfold rk; omega
    have hP := Nat.two_pow_pos t
    have d1 : M * 2 ^ t / 2 ^ rk p (M * 2 ^ t) = M / 2 ^ rk p M := by rw [k1, Nat.pow_add]; exact Nat.mul_div_mul_right _ _ hP
    have l1 : rL p 0 (M * 2 ^ t) = rL p 0 M := by
      unfold rL
      rw [k1, Nat.pow_add, Nat.mul_mod_mul_right, lef_scale _ _ _ hP]
    have u1 : rU p m neg 0 (M * 2 ^ t) = rU p m neg 0 M := by unfold rU; rw [d1, l1]
    have q1 : rQ p m neg 0 (M * 2 ^ t) = rQ p m neg 0 M := by unfold rQ; rw [d1, u1]
    refine ⟨?_, by unfold rA; rw [l1, u1]⟩
    rw [q1, k1]
    exact ⟨0, 0, rfl, by omega⟩
  · obtain ⟨k0, q0, a0⟩ := rQ_fits (m := m) neg hp
    rw [k0, q0, a0]
    obtain ⟨c, hc⟩ : ∃ c, rk p (M * 2 ^ t) = c := ⟨_, rfl⟩
    have hct : c ≤ t := by unfold rk at hc; omega
    have hm : M * 2 ^ t % 2 ^ c = 0 := by
      rw [show t = (t - c) + c by omega, Nat.pow_add, ← Nat.mul_assoc]; exact Nat.mul_mod_left _ _
    have l1 : rL p 0 (M * 2 ^ t) = 0 := by unfold rL; rw [hc, hm]; exact lef_exact _
    have q1 : rQ p m neg 0 (M * 2 ^ t) = M * 2 ^ (t - c) := by
      unfold rQ rU
      rw [l1, awy_zero, hc, show t = (t - c) + c by omega, Nat.pow_add, ← Nat.mul_assoc, Nat.mul_div_cancel _ (Nat.two_pow_pos c)]
      simp
    refine ⟨?_, by unfold rA; rw [if_pos l1]⟩
    rw [q1, hc]
    exact ⟨0, t - c, by simp, by omega⟩
/-- Equal values are rounded to equal values. -/
theorem rnd_deq {p m M N : Nat} {E F : Int} (neg : Bool) (hM : 0 < M) (h : deq M E N F) :
    deq (rQ p m neg 0 M) (E + rk p M) (rQ p m neg 0 N) (F + rk p N) ∧ rA p m neg 0 M = rA p m neg 0 N := by
  have hN := h.pos hM
  obtain ⟨i, j, h1, h2⟩ := h
  obtain ⟨a1, a2⟩ := rnd_shl (p := p) (m := m) neg hM i (E - i)
  obtain ⟨b1, b2⟩ := rnd_shl (p := p) (m := m) neg hN j (F - j)
  rw [h1] at a1 a2
  rw [h2] at a1
  have := a1.symm.trans b1
  exact ⟨by simpa [show F - (j : Int) + (i : Int) = E by omega] using this, a2.symm.trans b2⟩
/-- The rounded magnitude has as many bits as are asked for, or is the next power of 2. -/
theorem rQ_bound {p m M : Nat} (neg : Bool) (s : Nat) (hp0 : 0 < p) (hp : p < bl M) : 2 ^ (p - 1) ≤ M / 2 ^ rk p M ∧ M / 2 ^ rk p M < 2 ^ p ∧ rQ p m neg s M ≤ 2 ^ p := by
  have hM : 0 < M := by rcases Nat.eq_zero_or_pos M with rfl | h; rw [bl_zero] at hp; omega; exact h
  have h1 := bl_ge hM
  have h2 := lt_bl M
  have hk : rk p M + p = bl M := by unfold rk; omega
  have h3 : M / 2 ^ rk p M < 2 ^ p := by
    refine Nat.div_lt_of_lt_mul ?_
    rw [← Nat.pow_add, hk]; exact h2
  have h4 : 2 ^ (p - 1) ≤ M / 2 ^ rk p M := by
    rw [Nat.le_div_iff_mul_le (Nat.two_pow_pos _), ← Nat.pow_add]
    refine Nat.le_trans (Nat.pow_le_pow_right (by decide) ?_) h1
    omega
  refine ⟨h4, h3, ?_⟩
  unfold rQ; split <;> omega
end Go.Proofs.YtdepidpgbgfjlaaGreatDoor
/-
Natural numbers of the reference and words: Of, Words, HasWords. No condition.
-/
namespace Go.Proofs.YtdepidpgbgfjlaaGreatDoor
open Go.RowKit

theorem wv_take_succ {ws : List Nat} {i : Nat} (h : i < ws.length) : wv (ws.take (i + 1)) = wv (ws.take i) + 18446744073709551616 ^ i * ws.getD i 0 := by
  rw [List.take_succ_eq_append_getElem h, wv_snoc]
  simp [List.getD_eq_getElem?_getD, List.getElem?_eq_getElem h, Nat.min_eq_left (Nat.le_of_lt h)]
/-- Of's relation: i words and k digits of the next one, d. -/
def OfRel (ws : List Nat) (B i d k : Nat) (w : World) (v : Value) (wr : World) : Prop :=
  ∃ os : List Nat, Own wr B 3 v (cellsN os) ∧ os.length = 4 * i + k ∧ (∀ d ∈ os, d < 65536) ∧ val os = wv (ws.take i) + 65536 ^ (4 * i) * (d % 65536 ^ k) ∧ Below B w wr
theorem OfRel.step {ws : List Nat} {B i d k : Nat} {w w1 : World} {v1 : Value} {os : List Nat} (hl : os.length = 4 * i + k) (hd : ∀ d ∈ os, d < 65536) (hv : val os = wv (ws.take i) + 65536 ^ (4 * i) * (d % 65536 ^ k))
    (ho : Own w1 B 3 v1 (cellsN os ++ [.int .i64 ((dig d k : Nat) : Int)])) (hb : Below B w w1) : OfRel ws B i d (k + 1) w v1 w1 := by
  rw [cellsN_snoc] at ho
  refine ⟨_, ho, by simp [hl]; omega, ?_, ?_, hb⟩
  · intro z hz
    rcases List.mem_append.1 hz with h | h
    · exact hd z h
    · rw [List.mem_singleton.1 h]; exact dig_lt d k
  · rw [val_snoc, hl, hv, mod_succ, Nat.pow_add]; grind
theorem OfRel.next {ws : List Nat} {B i : Nat} {w wr : World} {v : Value} (hi : i < ws.length) (hd : ws.getD i 0 < 18446744073709551616) (h : OfRel ws B i (ws.getD i 0) 4 w v wr) : OfRel ws B (i + 1) 0 0 w v wr := by
  obtain ⟨os, h1, h2, h3, h4, h5⟩ := h
  refine ⟨os, h1, by omega, h3, ?_, h5⟩
  rw [h4, wv_take_succ hi, wpow, Nat.mod_eq_of_lt (show ws.getD i 0 < 65536 ^ 4 by exact hd)]; simp
theorem and16 {m : Nat} (hm : m < 18446744073709551616) : bits .and .u64 (m : Int) 65535 = ((m % 65536 : Nat) : Int) := by
  rw [show (65535 : Int) = ((65535 : Nat) : Int) from rfl, bits_and_u64_nat _ _ hm (by decide), show (65535 : Nat) = 2 ^ 16 - 1 from rfl, Nat.and_two_pow_sub_one_eq_mod]
set_option maxRecDepth 100000 in
set_option maxHeartbeats 800000 in
theorem spOf (a : Value) (ws : List Nat) (w : World) (ha : RW w a ws) (hl : ws.length ≤ 200000000) :
    Calls Tryz.prog 61 #[a] w fun e w' => ∃ r, e = .returned r ∧ NPost (wv ws) w r w' := by
  have hSa := ha.isS
  have hLa := ha.len
  obtain ⟨la, hla⟩ : ∃ la, la = ws.length := ⟨_, rfl⟩
  rw [← hla] at hLa hl
  have Hla := Lib.hid hla
  have Ha := Lib.hid ha
  clear hla ha
  go_enter Tryz.func61, Tryz.ntmps61
  go_wp2
  go_loopw [3, 10] (fun v i wr => ∃ k : Nat, k ≤ la ∧ i = .int .i64 k ∧ OfRel ws w.heap.size k 0 0 w v wr) (fun _ i _ => la - (intOf i).toNat)
  case atStart => exact ⟨0, Nat.zero_le _, rfl, [], Own.zero _ _ _ _ _, by simp, by simp, by simp [val, wv], (Below.refl _ _).alloc (Nat.le_refl _) _⟩
  case round =>
    obtain ⟨i, hi, rfl, hM⟩ := hrel
    have hbl : Below w.heap.size w wr := by obtain ⟨_, _, _, _, _, h⟩ := hM; exact h
    have hSo : IsS u3 := by obtain ⟨_, h, _, _, _, _⟩ := hM; exact h.isS
    have HM := Lib.hid hM
    clear hM
    by_cases hia : i < la
    · have ca := (Ha.out.below hbl).cell i (by rw [← Hla.out]; exact hia)
      have g1 := getD_ltW Ha.out.lt i
      obtain ⟨d, hd⟩ : ∃ d, d = ws.getD i 0 := ⟨_, rfl⟩
      rw [← hd] at ca g1
      have Hd := Lib.hid hd
      clear hd
      go_wp2
      go_loopw [3, 6] (fun v i' wr => ∃ k : Nat, k ≤ 4 ∧ i' = .int .i64 k ∧ OfRel ws w.heap.size i d k w v wr) (fun _ i' _ => 4 - (intOf i').toNat)
      case atStart =>
        obtain ⟨os, h1, h2, h3, h4, h5⟩ := HM.out
        exact ⟨0, by decide, rfl, os, h1, by omega, h3, by rw [h4]; simp [Nat.mod_one], h5⟩
      case round =>
        clear ca
        obtain ⟨k, hk, rfl, os, ho, hol, hod, hov, hb2⟩ := hrel
        have hbz := hb2.size
        have Hol := Lib.hid hol
        have Hod := Lib.hid hod
        have Hov := Lib.hid hov
        have Hcl := Lib.hid (cellsN_length os)
        have hSo2 := ho.isS
        clear hod hov hol
        by_cases hk4 : k < 4
        · have hp : (2 : Int) ^ (16 * k) = ((65536 ^ k : Nat) : Int) := by rw [pow16]; simp
          have hdm : d / 65536 ^ k ≤ d := Nat.div_le_self _ _
          have hq : (d : Int) / ((65536 ^ k : Nat) : Int) = ((d / 65536 ^ k : Nat) : Int) := by simp
          have han := and16 (m := d / 65536 ^ k) (by omega)
          have hdg : d / 65536 ^ k % 65536 = dig d k := rfl
          have hdl := dig_lt d k
          rw [hdg] at han
          have HT : ∀ (v1 : Value) (w1 : World), Own w1 w.heap.size 3 v1 (cellsN os ++ [.int .i64 ((dig d k : Nat) : Int)]) → Below w.heap.size w w1 → OfRel ws w.heap.size i d (k + 1) w v1 w1 := fun v1 w1 h1 h2 => OfRel.step Hol.out Hod.out Hov.out h1 h2
          have hTT := Lib.hid HT
          obtain ⟨g, hg⟩ : ∃ g, g = dig d k := ⟨_, rfl⟩
          rw [← hg] at han hdl hTT
          obtain ⟨P, hP⟩ : ∃ P, P = 65536 ^ k := ⟨_, rfl⟩
          rw [← hP] at hp hq hdm han
          obtain ⟨q, hq'⟩ : ∃ q, q = d / P := ⟨_, rfl⟩
          rw [← hq'] at hq hdm han
          clear hdg hg hP hq' HT
          have hos : os.length ≤ 1000000000 := by have := Hol.out; omega
          go_wp2_with (at_builtin; refine wpList_append_O rfl _ _ _ _ rfl elemN w.heap.size _ _ rfl (ho.alloc _) _ rfl 1 [.int .i64 (g : Int)] (srcOne Tryz.underlying30 wr _ _) ?c3 ?c4 ?c5 ?_)
          case c3 => rw [Hcl.out]; unfold maxLen; omega
          case c4 => rw [Hcl.out]; omega
          case c5 => simp; omega
          rintro v1 w1 ho1 hb1 - - -
          have hs := hTT.out v1 w1 ho1 ((hb2.alloc hbz _).trans hb1)
          have Hs := Lib.hid hs
          clear hs ho1
          go_wp2
          go_roundw
          case rel => exact ⟨k + 1, by omega, by go_num, Hs.out⟩
          case measure => simp [intOf]; omega
        · have hk' : k = 4 := by omega
          subst hk'
          have M2 : OfRel ws w.heap.size (i + 1) 0 0 w u3 wr := OfRel.next (by rw [← Hla.out]; exact hia) (getD_ltW Ha.out.lt i) (by rw [← Hd.out]; exact ⟨os, ho, Hol.out, Hod.out, Hov.out, hb2⟩)
          have HM2 := Lib.hid M2
          clear M2
          go_wp2
          go_roundw
          case rel => exact ⟨i + 1, by omega, by go_num, HM2.out⟩
          case measure => simp [intOf]; omega
    · have hil : i = la := by omega
      subst hil
      obtain ⟨os, h1, h2, h3, h4, h5⟩ := HM.out
      have Ho := Lib.hid h1
      have Hl := Lib.hid h2
      have Hd := Lib.hid h3
      have Hv := Lib.hid h4
      clear h1 h2 h3 h4 h5
      go_wp2_with fail
      refine (spTrim _ os wr Ho.out.rl Hd.out (by rw [Hl.out]; omega)).mono ?_
      rintro _ _ ⟨r, rfl, hr, rfl⟩
      have Hr := Lib.hid hr
      clear hr
      go_wp2
      go_ret
      refine ⟨_, rfl, ?_, hbl⟩
      have e : wv ws = val os := by
        rw [Hv.out, List.take_of_length_le (by rw [Hla.out]; exact Nat.le_refl _)]; simp
      rw [e]; exact Hr.out
end Go.Proofs.YtdepidpgbgfjlaaGreatDoor
/-
Natural numbers of the reference and words: Words, HasWords. No condition.
-/
namespace Go.Proofs.YtdepidpgbgfjlaaGreatDoor
open Go.RowKit

/-- Words' relation: i digits are laid. -/
def WdRel (x B i : Nat) (w : World) (v : Value) (wr : World) : Prop :=
  ∃ ws : List Nat, Own wr B 35 v (cellsW ws) ∧ ws.length = (i + 3) / 4 ∧ (∀ d ∈ ws, d < 18446744073709551616) ∧ wv ws = x % 65536 ^ i ∧ Below B w wr
theorem pow_split4 (i : Nat) : (65536 : Nat) ^ i = 18446744073709551616 ^ (i / 4) * 65536 ^ (i % 4) := by
  rw [wpow, ← Nat.pow_add, Nat.div_add_mod]
theorem or_low {o d P : Nat} {r : Nat} (hP : P = 65536 ^ r) (ho : o < P) : o ||| d * P = o + d * P := by
  have e : P = 2 ^ (16 * r) := by rw [hP, pow16]
  have h := Nat.two_pow_add_eq_or_of_lt (i := 16 * r) (b := o) (by rw [← e]; exact ho) d
  rw [← e] at h
  rw [Nat.or_comm, Nat.mul_comm d P, ← h]; omega
/-- The word in which the next digit lies. -/
theorem wd_word {x i : Nat} {ws : List Nat} (_hl : ws.length = i / 4 + 1) (hd : ∀ d ∈ ws, d < 18446744073709551616) (hv : wv ws = x % 65536 ^ i) : ws.getD (i / 4) 0 < 65536 ^ (i % 4) := by
  rw [← wv_dig hd, hv]
  have h1 := Nat.mod_lt x (pow_pos i)
  rw [pow_split4 i] at h1
  unfold wdg
  refine Nat.lt_of_le_of_lt (Nat.mod_le _ _) (Nat.div_lt_of_lt_mul ?_)
  rw [pow_split4 i]
  exact h1
theorem WdRel.step {x B i : Nat} {w wr : World} {v : Value} {ws : List Nat} (ho : Own wr B 35 v (cellsW ws)) (hl : ws.length = i / 4 + 1) (hd : ∀ d ∈ ws, d < 18446744073709551616) (hv : wv ws = x % 65536 ^ i) (hb : Below B w wr) :
    WdRel x B (i + 1) w v (wr.setCell ⟨sBlk v, sOff v + i / 4, none⟩ (.int .u64 ((ws.getD (i / 4) 0 ||| dig x i * 65536 ^ (i % 4) : Nat) : Int))) := by
  have hw := wd_word hl hd hv
  have hdl := dig_lt x i
  rw [or_low rfl hw]
  have hp : 65536 ^ (i % 4) * 65536 ≤ 18446744073709551616 := by
    rw [← Nat.pow_succ]
    exact Nat.pow_le_pow_right (show 0 < 65536 by decide) (show i % 4 + 1 ≤ 4 by omega)
  have hlt : ws.getD (i / 4) 0 + dig x i * 65536 ^ (i % 4) < 18446744073709551616 := by
    have : (dig x i + 1) * 65536 ^ (i % 4) ≤ 65536 * 65536 ^ (i % 4) := Nat.mul_le_mul_right _ hdl
    rw [Nat.add_mul, Nat.one_mul] at this
    omega
  have s1 := ho.set (i := i / 4) (by rw [cellsW_length]; omega) (.int .u64 ((ws.getD (i / 4) 0 + dig x i * 65536 ^ (i % 4) : Nat) : Int))
  rw [cellsW_set] at s1
  have hl2 := ho.len
  rw [cellsW_length] at hl2
  have hcp := ho.isS.le
  refine ⟨_, s1, by simp; omega, ?_, ?_, bset hb (ho.lt (by omega)).1⟩
  · intro z hz'
    rcases List.mem_or_eq_of_mem_set hz' with h | h
    · exact hd z h
    · rw [h]; exact hlt
  · have e1 := wv_set (a := ws) (i := i / 4) (by omega) (ws.getD (i / 4) 0 + dig x i * 65536 ^ (i % 4))
    rw [mod_succ, ← hv, pow_split4 i]
    generalize wv (ws.set _ _) = V at *
    generalize ws.getD (i / 4) 0 = o at *
    generalize dig x i = d at *
    generalize (18446744073709551616 : Nat) ^ (i / 4) = A at *
    generalize (65536 : Nat) ^ (i % 4) = P at *
    grind
end Go.Proofs.YtdepidpgbgfjlaaGreatDoor
/-
A word on a world that has grown. No condition.
-/
namespace Go.Proofs.YtdepidpgbgfjlaaGreatDoor
open Go.RowKit

theorem heap_alloc_lt {w : World} {o x : Obj} {k : Nat} (h : w.heap[k]? = some x) : (w.alloc o).heap[k]? = some x ∧ k < w.heap.size := by
  have hlt : k < w.heap.size := by
    rcases Nat.lt_or_ge k w.heap.size with h' | h'
    · exact h'
    · rw [Array.getElem?_eq_none h'] at h; cases h
  exact ⟨(Below.heap_alloc w o k hlt).trans h, hlt⟩
end Go.Proofs.YtdepidpgbgfjlaaGreatDoor
/-
The package's numbers: norm, make. No condition.
-/
namespace Go.Proofs.YtdepidpgbgfjlaaGreatDoor
open Go.RowKit

theorem take_norm {ws : List Nat} (h : ∀ d ∈ ws, d < 18446744073709551616) {k : Nat} (hk : k ≤ ws.length) (hv : wv (ws.take k) = wv ws) (hl : k = 0 ∨ ws.getD (k - 1) 0 ≠ 0) : k = nw (wv ws) ∧ ws.take k = wds (wv ws) := by
  have h1 : ws.take k = wds (wv (ws.take k)) := by
    refine wds_norm (fun d hd => h d (List.mem_of_mem_take hd)) ?_
    rcases Nat.eq_zero_or_pos k with h0 | h0
    · exact .inl (by rw [h0]; rfl)
    · right
      have hl' := hl.resolve_left (by omega)
      have : (ws.take k).length = k := by simp; omega
      rw [this]
      simpa [List.getD_eq_getElem?_getD, show k - 1 < k by omega] using hl'
  rw [hv] at h1
  refine ⟨?_, h1⟩
  have := congrArg List.length h1
  rw [wds_length] at this
  simp at this
  omega
set_option maxRecDepth 100000 in
set_option maxHeartbeats 400000 in
theorem norm_any (v : Value) (ws : List Nat) (w : World) (hv : RW w v ws) (hl : ws.length ≤ 1000000000) :
    Calls Tryz.prog 174 #[v] w fun e w' => e = .returned (subS v 0 (nw (wv ws))) ∧ w = w' := by
  have hS := hv.isS
  have hL := hv.len
  have hC := hS.le
  have Hv := Lib.hid hv
  clear hv
  obtain ⟨n, hn⟩ : ∃ n, n = ws.length := ⟨_, rfl⟩
  rw [← hn] at hL hl
  have Hn := Lib.hid hn
  have hC' : n ≤ sCap v := by omega
  clear hn hC
  go_enter Tryz.func174, Tryz.ntmps174
  go_wp2
  go_loop [3] (fun i => ∃ k : Nat, k ≤ n ∧ i = .int .i64 k ∧ wv (ws.take k) = wv ws) (fun i => (intOf i).toNat)
  case atStart => exact ⟨n, Nat.le_refl _, rfl, by rw [List.take_of_length_le (by rw [Hn.out]; exact Nat.le_refl _)]⟩
  case round =>
    obtain ⟨k, hk, rfl, he⟩ := hrel
    have He := Lib.hid he
    clear he
    by_cases hk0 : k = 0
    · subst hk0
      go_wp2
      go_ret
      have := take_norm Hv.out.lt (k := 0) (Nat.zero_le _) He.out (.inl rfl)
      rw [← this.1]
      exact ⟨rfl, rfl⟩
    · have c := Hv.out.cell (k - 1) (by rw [← Hn.out]; omega)
      obtain ⟨d, hd⟩ : ∃ d, d = ws.getD (k - 1) 0 := ⟨_, rfl⟩
      rw [← hd] at c
      have Hd := Lib.hid hd
      have t1 : decide (0 < k) = true := by rw [decide_eq_true_iff]; omega
      clear hd
      by_cases hz : d = 0
      · have t2 : ((d : Int) == 0) = true := by rw [beq_iff_eq]; omega
        have Hz := Lib.hid hz
        clear hz
        go_wp2
        go_round
        case rel =>
          refine ⟨k - 1, by omega, by go_num, ?_⟩
          rw [← He.out]
          have := wv_take_succ (ws := ws) (i := k - 1) (by rw [← Hn.out]; omega)
          rw [show k - 1 + 1 = k by omega, ← Hd.out, Hz.out] at this
          omega
        case measure => simp [intOf]; omega
      · have t2 : ((d : Int) == 0) = false := by rw [beq_eq_false_iff_ne]; omega
        go_wp2
        go_ret
        have := take_norm Hv.out.lt (k := k) (by rw [← Hn.out]; exact hk) He.out (.inr (by rw [← Hd.out]; exact hz))
        rw [← this.1]
        exact ⟨rfl, rfl⟩
end Go.Proofs.YtdepidpgbgfjlaaGreatDoor
/-
Fractions of the statements: IsNumber, IsFraction. No condition.
-/
namespace Go.Proofs.YtdepidpgbgfjlaaGreatDoor
open Go.RowKit

theorem IsS.form {v : Value} (h : IsS v) : ∃ a n c, v = .slice a n c := by
  cases v <;> first | exact ⟨_, _, _, rfl⟩ | exact h.elim
@[go_sem] theorem match_S {v : Value} (h : IsS v) : Value.cells.match_1 (motive := fun _ => Array Value) v (fun cs => cs) (fun v => #[v]) = #[v] := by
  obtain ⟨a1, n1, c1, rfl⟩ := h.form
  rfl
theorem nl_wv {ws : List Nat} (h : ∀ d ∈ ws, d < 18446744073709551616) : nl (wv ws) ≤ 4 * ws.length := nl_le (by rw [← wpow]; exact wv_lt h)
end Go.Proofs.YtdepidpgbgfjlaaGreatDoor
