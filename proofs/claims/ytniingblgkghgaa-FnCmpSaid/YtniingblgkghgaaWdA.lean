/-
Words of 64 bits: plain arithmetic; slices of words. No condition.
-/
import Derived.Test.YtniingblgkghgaaSpJ
import Derived.Laws.Bits64b
namespace Go.Proofs.Ytniingblgkghgaa
open Go.RowKit

/-- The word with the index i. -/
def wdg (n i : Nat) : Nat := n / 18446744073709551616 ^ i % 18446744073709551616
/-- How many words. -/
def nw (n : Nat) : Nat := (nl n + 3) / 4
/-- The number that words are. -/
def wv : List Nat → Nat
  | [] => 0
  | d :: ds => d + 18446744073709551616 * wv ds
def wds (n : Nat) : List Nat := (List.range (nw n)).map (wdg n)
theorem wpow (i : Nat) : (18446744073709551616 : Nat) ^ i = 65536 ^ (4 * i) := by rw [Nat.pow_mul]
theorem wpow_pos (i : Nat) : 0 < 18446744073709551616 ^ i := Nat.pow_pos (by decide)
theorem wdg_lt (n i : Nat) : wdg n i < 18446744073709551616 := Nat.mod_lt _ (by decide)
theorem wmod_succ (n i : Nat) : n % 18446744073709551616 ^ (i + 1) = n % 18446744073709551616 ^ i + 18446744073709551616 ^ i * wdg n i := Nat.mod_pow_succ
theorem lt_nw (n : Nat) : n < 18446744073709551616 ^ nw n := by
  rw [wpow]
  exact Nat.lt_of_lt_of_le (lt_nl n) (Nat.pow_le_pow_right (by decide) (by unfold nw; omega))
theorem nw_le {n k : Nat} (h : n < 18446744073709551616 ^ k) : nw n ≤ k := by
  rw [wpow] at h
  have := nl_le h
  unfold nw; omega
theorem nw_zero : nw 0 = 0 := rfl
theorem nw_pos {n : Nat} (h : 0 < n) : 0 < nw n := by have := nl_pos h; unfold nw; omega
theorem nw_eq_zero {n : Nat} : nw n = 0 ↔ n = 0 := ⟨fun h => by rcases Nat.eq_zero_or_pos n with h' | h'; exact h'; have := nw_pos h'; omega, fun h => by rw [h]; rfl⟩
theorem nw_ge {n : Nat} (h : 0 < n) : 18446744073709551616 ^ (nw n - 1) ≤ n := by
  rw [wpow]
  refine Nat.le_trans (Nat.pow_le_pow_right (by decide) ?_) (nl_ge h)
  have := nl_pos h
  unfold nw; omega
theorem nw_mono {a b : Nat} (h : a ≤ b) : nw a ≤ nw b := nw_le (Nat.lt_of_le_of_lt h (lt_nw b))
theorem wmod_nw {n i : Nat} (h : nw n ≤ i) : n % 18446744073709551616 ^ i = n :=
  Nat.mod_eq_of_lt (Nat.lt_of_lt_of_le (lt_nw n) (Nat.pow_le_pow_right (by decide) h))
theorem wdg_ge {n i : Nat} (h : nw n ≤ i) : wdg n i = 0 := by
  unfold wdg
  rw [Nat.div_eq_of_lt (Nat.lt_of_lt_of_le (lt_nw n) (Nat.pow_le_pow_right (by decide) h))]
theorem wdg_last {n : Nat} (h : 0 < n) : wdg n (nw n - 1) ≠ 0 := by
  intro h0
  have h1 := wmod_succ n (nw n - 1)
  have := nw_pos h
  rw [show nw n - 1 + 1 = nw n by omega, wmod_nw (Nat.le_refl _), h0, Nat.mul_zero, Nat.add_zero] at h1
  have h2 := nw_ge h
  have h3 := Nat.mod_lt n (wpow_pos (nw n - 1))
  omega
theorem wv_append (a b : List Nat) : wv (a ++ b) = wv a + 18446744073709551616 ^ a.length * wv b := by
  induction a with
  | nil => simp [wv]
  | cons d ds ih => simp only [List.cons_append, wv, ih, List.length_cons, Nat.pow_succ]; grind
theorem wv_snoc (a : List Nat) (d : Nat) : wv (a ++ [d]) = wv a + 18446744073709551616 ^ a.length * d := by rw [wv_append]; simp [wv]
theorem wv_lt {a : List Nat} (h : ∀ d ∈ a, d < 18446744073709551616) : wv a < 18446744073709551616 ^ a.length := by
  induction a with
  | nil => decide
  | cons d ds ih =>
    have h1 := ih fun x hx => h x (by simp [hx])
    have h2 := h d (by simp)
    simp only [wv, List.length_cons, Nat.pow_succ]
    omega
theorem wdg_zero_eq (n : Nat) : wdg n 0 = n % 18446744073709551616 := by simp [wdg]
theorem wdg_succ (n i : Nat) : wdg n (i + 1) = wdg (n / 18446744073709551616) i := by
  unfold wdg; rw [Nat.pow_succ, Nat.mul_comm, Nat.div_div_eq_div_mul]
theorem wv_dig {a : List Nat} (h : ∀ d ∈ a, d < 18446744073709551616) : ∀ i, wdg (wv a) i = a.getD i 0 := by
  induction a with
  | nil => intro i; simp [wv, wdg]
  | cons d ds ih =>
    have h2 := h d (by simp)
    intro i
    cases i with
    | zero => rw [wdg_zero_eq]; simp [wv]; omega
    | succ i =>
      rw [wdg_succ, show wv (d :: ds) / 18446744073709551616 = wv ds by simp only [wv]; omega, ih (fun x hx => h x (by simp [hx]))]
      simp
theorem wv_set {a : List Nat} : ∀ {i : Nat}, i < a.length → ∀ d, wv (a.set i d) + 18446744073709551616 ^ i * a.getD i 0 = wv a + 18446744073709551616 ^ i * d := by
  induction a with
  | nil => intro i h; simp at h
  | cons x xs ih =>
    intro i h d
    cases i with
    | zero => simp [wv]; omega
    | succ i =>
      have := ih (show i < xs.length by simpa using h) d
      simp only [List.set_cons_succ, wv, Nat.pow_succ]
      simp only [List.getD_eq_getElem?_getD, List.getElem?_cons_succ] at this ⊢
      grind
theorem wds_length (n : Nat) : (wds n).length = nw n := by simp [wds]
theorem wds_lt {n d : Nat} (h : d ∈ wds n) : d < 18446744073709551616 := by
  obtain ⟨i, _, rfl⟩ := List.mem_map.1 h; exact wdg_lt n i
theorem wv_range (n : Nat) : ∀ k, wv ((List.range k).map (wdg n)) = n % 18446744073709551616 ^ k
  | 0 => by simp [wv, Nat.mod_one]
  | k + 1 => by
    rw [List.range_succ, List.map_append, List.map_cons, List.map_nil, wv_snoc, wv_range n k, wmod_succ]
    simp
theorem wv_wds (n : Nat) : wv (wds n) = n := by rw [wds, wv_range, wmod_nw (Nat.le_refl _)]
theorem wds_getD (n i : Nat) : (wds n).getD i 0 = wdg n i := by
  by_cases h : i < nw n
  · simp [wds, List.getD_eq_getElem?_getD, h]
  · rw [wdg_ge (by omega), List.getD_eq_getElem?_getD, List.getElem?_eq_none (by rw [wds_length]; omega)]; rfl
theorem list_ext_getD {a b : List Nat} (hl : a.length = b.length) (h : ∀ i, a.getD i 0 = b.getD i 0) : a = b := by
  apply List.ext_getElem hl
  intro i h1 h2
  have := h i
  simpa [List.getD_eq_getElem?_getD, List.getElem?_eq_getElem h1, List.getElem?_eq_getElem h2] using this
/-- Words of the least number are the words of their number. -/
theorem wds_of {a : List Nat} (h : ∀ d ∈ a, d < 18446744073709551616) (hl : a.length = nw (wv a)) : a = wds (wv a) :=
  list_ext_getD (by rw [wds_length]; exact hl) fun i => by rw [wds_getD, wv_dig h]
theorem wv_inj {a b : List Nat} (ha : ∀ d ∈ a, d < 18446744073709551616) (hb : ∀ d ∈ b, d < 18446744073709551616) (hl : a.length = b.length) (h : wv a = wv b) : a = b :=
  list_ext_getD hl fun i => by rw [← wv_dig ha, ← wv_dig hb, h]
/-- A list of words whose last one is not 0 is the words of its number. -/
theorem wds_norm {a : List Nat} (h : ∀ d ∈ a, d < 18446744073709551616) (hl : a = [] ∨ a.getD (a.length - 1) 0 ≠ 0) : a = wds (wv a) := by
  refine wds_of h ?_
  rcases hl with rfl | hl
  · rfl
  · have h1 := nw_le (wv_lt h)
    refine Nat.le_antisymm (Nat.le_of_not_lt fun hc => hl ?_) h1
    rw [← wv_dig h]
    exact wdg_ge (by omega)

def cellsW (ds : List Nat) : List Value := ds.map fun (d : Nat) => Value.int .u64 (d : Int)
theorem cellsW_length (ds : List Nat) : (cellsW ds).length = ds.length := by simp [cellsW]
theorem cellsW_eq (ds : List Nat) : cellsW ds = (ints ds).map (Value.int .u64) := by simp [cellsW, ints]
theorem cellsW_snoc (ds : List Nat) (d : Nat) : cellsW ds ++ [.int .u64 (d : Int)] = cellsW (ds ++ [d]) := by simp [cellsW]
theorem cellsW_set (os : List Nat) (i d : Nat) : (cellsW os).set i (.int .u64 (d : Int)) = cellsW (os.set i d) := by simp [cellsW, List.map_set]
theorem cellsW_append (a b : List Nat) : cellsW a ++ cellsW b = cellsW (a ++ b) := by simp [cellsW]
/-- v reads as the words ds. -/
structure RW (w : World) (v : Value) (ds : List Nat) : Prop where
  ri : RI .u64 w v (ints ds)
  lt : ∀ d ∈ ds, d < 18446744073709551616
theorem RW.isS {w : World} {v : Value} {ds : List Nat} (h : RW w v ds) : IsS v := h.ri.isS
theorem RW.len {w : World} {v : Value} {ds : List Nat} (h : RW w v ds) : sLen v = ds.length := h.ri.len.trans (ints_length ds)
theorem RW.cell {w : World} {v : Value} {ds : List Nat} (h : RW w v ds) (i : Nat) (hi : i < ds.length) : w.cell? ⟨sBlk v, sOff v + i, none⟩ = some (.int .u64 ((ds.getD i 0 : Nat) : Int)) := by
  rw [h.ri.cell i (by rw [ints_length]; exact hi)]
  simp [ints, List.getD_eq_getElem?_getD, List.getElem?_eq_getElem hi]
theorem getD_ltW {os : List Nat} (h : ∀ d ∈ os, d < 18446744073709551616) (i : Nat) : os.getD i 0 < 18446744073709551616 := by
  by_cases hi : i < os.length
  · rw [List.getD_eq_getElem?_getD, List.getElem?_eq_getElem hi]; exact h _ (List.getElem_mem hi)
  · rw [List.getD_eq_getElem?_getD, List.getElem?_eq_none (by omega)]; decide
theorem RW.below {w w' : World} {v : Value} {ds : List Nat} (h : RW w v ds) (hb : Below w.heap.size w w') : RW w' v ds := ⟨h.ri.below hb, h.lt⟩
theorem RW.take {w : World} {v : Value} {ds : List Nat} (h : RW w v ds) {n : Nat} (hn : n ≤ ds.length) : RW w (subS v 0 n) (ds.take n) := by
  refine ⟨?_, fun d hd => h.lt d (List.mem_of_mem_take hd)⟩
  have := h.ri.sub (l := 0) (n := n) (Nat.zero_le _) (by rw [ints_length]; exact hn)
  simpa [ints, List.map_take] using this
theorem Own.rw' {w : World} {B e : Nat} {v : Value} {ds : List Nat} (h : Own w B e v (cellsW ds)) (hd : ∀ d ∈ ds, d < 18446744073709551616) : RW w v ds := by
  rw [cellsW_eq] at h; exact ⟨h.rd, hd⟩
theorem RW.src {w : World} {v : Value} {ds : List Nat} {tx e : TypeId} (h : RW w v ds) (hk : Try.prog.underlying tx = some (.slice e)) : Src Try.prog 1 tx v ds.length (cellsW ds) w := by
  rw [cellsW_eq, ← ints_length]; exact RI.src h.ri hk
theorem elemU : ElemT Try.prog 25 24 8 (.int .u64 0) := .of (z := .int .u64 0) Try.underlying25 rfl (by kernel_rfl)
theorem elemW : ElemT Try.prog 71 132 8 (.int .u64 0) := .of (z := .int .u64 0) Try.underlying71 rfl (by kernel_rfl)
theorem elemT : ElemT Try.prog 72 132 8 (.int .u64 0) := .of (z := .int .u64 0) Try.underlying72 rfl (by kernel_rfl)
end Go.Proofs.Ytniingblgkghgaa
