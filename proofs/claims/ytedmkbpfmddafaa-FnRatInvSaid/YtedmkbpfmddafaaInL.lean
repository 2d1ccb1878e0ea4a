/-
Signs: SignOf, the thin package's RatSign, RatIsInt. No condition.
-/
import Derived.Test.YtedmkbpfmddafaaInK
import Derived.Test.YtedmkbpfmddafaaWdG
namespace Go.Proofs.Ytedmkbpfmddafaa
open Go.RowKit

def sg (neg : Bool) (n : Nat) : Int := if n = 0 then 0 else if neg then -1 else 1
theorem sg_nw (neg : Bool) (n : Nat) : sgnI neg (nw n) = sg neg n := by
  unfold sgnI sg
  by_cases h : n = 0
  · rw [if_pos h, if_pos (nw_eq_zero.2 h)]
  · rw [if_neg h, if_neg (fun e => h (nw_eq_zero.1 e))]
theorem nl_eq_zero {n : Nat} : nl n = 0 ↔ n = 0 := ⟨fun h => by rcases Nat.eq_zero_or_pos n with h' | h'; exact h'; have := nl_pos h'; omega, fun h => by rw [h]; rfl⟩
theorem sg_nl (neg : Bool) (n : Nat) : sgnI neg (nl n) = sg neg n := by
  unfold sgnI sg
  by_cases h : n = 0
  · rw [if_pos h, if_pos (nl_eq_zero.2 h)]
  · rw [if_neg h, if_neg (fun e => h (nl_eq_zero.1 e))]
theorem sg_and (neg : Bool) (n : Nat) : sg (neg && decide (0 < n)) n = sg neg n := by
  unfold sg
  by_cases h : n = 0
  · rw [if_pos h, if_pos h]
  · rw [decide_eq_true (show 0 < n by omega), Bool.and_true]
theorem sg_bd (neg : Bool) (n : Nat) : -1 ≤ sg neg n ∧ sg neg n ≤ 1 := by unfold sg; split; omega; split <;> omega
set_option maxRecDepth 100000 in
theorem signOf_any (neg : Bool) (a1 a2 : Value) (n : Nat) (w : World) (hS1 : IsS a1) (hS2 : IsS a2) (hL : sLen a1 = nl n) :
    Calls Try.prog 32 #[.agg #[.bool neg, a1, a2]] w fun e w' => e = .returned (.int .i64 (sg neg n)) ∧ Below w.heap.size w w' := by
  obtain ⟨l, hl⟩ : ∃ l, l = nl n := ⟨_, rfl⟩
  rw [← sg_nl, ← hl]
  rw [← hl] at hL
  clear hl
  have hab := (Below.refl w.heap.size w).alloc (Nat.le_refl _) (.cells #[.bool neg, a1, a2] 58)
  by_cases h0 : l = 0
  · subst h0
    go_enter Try.func32, Try.ntmps32
    go_wp2
    go_ret
    exact ⟨rfl, hab⟩
  · have t1 : ((l : Int) == 0) = false := by rw [beq_eq_false_iff_ne]; omega
    have H0 := Lib.hid h0
    clear h0
    cases neg
    · have E : Hid (sgnI false l = 1) := Lib.hid (by unfold sgnI; rw [if_neg H0.out]; rfl)
      go_enter Try.func32, Try.ntmps32
      go_wp2
      go_ret
      exact ⟨congrArg (fun z => Ending.returned (.int .i64 z)) E.out.symm, hab⟩
    · have E : Hid (sgnI true l = -1) := Lib.hid (by unfold sgnI; rw [if_neg H0.out]; rfl)
      go_enter Try.func32, Try.ntmps32
      go_wp2
      go_ret
      exact ⟨congrArg (fun z => Ending.returned (.int .i64 z)) E.out.symm, hab⟩
set_option maxRecDepth 100000 in
theorem impSign (b : Bool) (v1 v2 : Value) (ns ds : List Nat) (w : World) (h1 : RW w v1 ns) (h2 : RW w v2 ds) (hl1 : ns.length ≤ 100000) (hl2 : ds.length ≤ 100000) :
    Calls Try.prog 31 #[.agg #[.bool b, v1, v2]] w fun e w' => e = .returned (.int .i64 (sg b (wv ns))) ∧ Below w.heap.size w w' := by
  have hS1 := h1.isS
  have hS2 := h2.isS
  have hab := (Below.refl w.heap.size w).alloc (Nat.le_refl _) (.cells #[.bool b, v1, v2] 55)
  have R1 := Lib.hid (h1.below hab)
  have R2 := Lib.hid (h2.below hab)
  clear h1 h2
  go_enter Try.func31, Try.ntmps31
  go_wp2_with fail
  refine (rat_any b v1 v2 ns ds _ R1.out R2.out hl1 hl2).mono ?_
  rintro _ w1 ⟨g, rfl, ⟨u1, u2, hB, hr, ho1, ho2⟩, hb1⟩
  have k0 := (row_at (i := 0) hr rfl).1
  have k1 := (row_at (i := 1) hr rfl).1
  have hSu := ho1.isS
  have hLu : sLen u1 = nw (wv ns) := by rw [ho1.len, cellsW_length, wds_length]
  have bb := bthen hab hb1
  clear hr ho1 ho2 hb1 hB
  have HLu := Lib.hid hLu
  clear hLu
  go_wp2_with fail
  refine (ratSign g _ u1 (wv ns) w1 k0 k1 hSu HLu.out).mono ?_
  rintro _ _ ⟨rfl, rfl⟩
  rw [sg_nw, sg_and]
  go_wp2
  go_ret
  exact ⟨rfl, bb⟩
set_option maxRecDepth 100000 in
theorem impIsInt (b : Bool) (v1 v2 : Value) (ns ds : List Nat) (w : World) (h1 : RW w v1 ns) (h2 : RW w v2 ds) (hl1 : ns.length ≤ 100000) (hl2 : ds.length ≤ 100000) (h0 : 0 < wv ds) :
    Calls Try.prog 33 #[.agg #[.bool b, v1, v2]] w fun e w' => e = .returned (.bool (cmpN (wv ds) 1 == 0)) ∧ Below w.heap.size w w' := by
  have hS1 := h1.isS
  have hS2 := h2.isS
  have hab := (Below.refl w.heap.size w).alloc (Nat.le_refl _) (.cells #[.bool b, v1, v2] 55)
  have R1 := Lib.hid (h1.below hab)
  have R2 := Lib.hid (h2.below hab)
  have hnd : nw (wv ds) ≤ 1000000000 := Nat.le_trans (nw_le (wv_lt h2.lt)) (by omega)
  clear h1 h2
  go_enter Try.func33, Try.ntmps33
  go_wp2_with fail
  refine (rat_any b v1 v2 ns ds _ R1.out R2.out hl1 hl2).mono ?_
  rintro _ w1 ⟨g, rfl, ⟨u1, u2, hB, hr, ho1, ho2⟩, hb1⟩
  have k3 := (row_at (i := 3) hr rfl).1
  have O2 := Lib.hid (ho2.rw' (wds_all _))
  have bb := bthen hab hb1
  clear hr ho1 ho2 hb1 hB
  go_wp2_with fail
  refine (ratIsInt g u2 (wv ds) w1 k3 O2.out h0 hnd).mono ?_
  rintro _ w2 ⟨rfl, hb2⟩
  have bb2 := bthen bb hb2
  go_wp2
  go_ret
  exact ⟨rfl, bb2⟩
end Go.Proofs.Ytedmkbpfmddafaa
