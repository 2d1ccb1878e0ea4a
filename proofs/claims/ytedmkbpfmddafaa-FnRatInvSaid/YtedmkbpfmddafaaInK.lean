/-
The package's fractions: Sign, IsInt. No condition.
-/
import Derived.Test.YtedmkbpfmddafaaInJ
namespace Go.Proofs.Ytedmkbpfmddafaa
open Go.RowKit

set_option maxRecDepth 100000 in
theorem natOne_any (w : World) : Calls Try.prog 81 #[] w fun e w' => ∃ r, e = .returned r ∧ Own w' w.heap.size 74 r (cellsW (wds 1)) ∧ Below w.heap.size w w' := by
  have ho : Own (w.alloc (.cells #[.int .u64 1] 74)) w.heap.size 74 (.slice (some ⟨w.heap.size, 0, none⟩) 1 1) (cellsW (wds 1)) := by
    rw [wds_one]
    exact ⟨IsS.mk (Nat.le_refl _), rfl, by rw [sCap_mk]; unfold maxLen; omega, .inr ⟨Nat.le_refl _, _, heap_alloc_new w _, by simp, by simp [cellsW]⟩⟩
  have HO := Lib.hid ho
  clear ho
  go_enter Try.func81, Try.ntmps81
  go_wp2
  go_ret
  exact ⟨_, rfl, HO.out, (Below.refl _ _).alloc (Nat.le_refl _) _⟩
set_option maxRecDepth 100000 in
theorem ratSign (b : Nat) (neg : Bool) (v : Value) (n : Nat) (w : World) (h0 : w.cell? ⟨b, 0, none⟩ = some (.bool neg)) (h1 : w.cell? ⟨b, 1, none⟩ = some v) (hS : IsS v) (hL : sLen v = nw n) :
    Calls Try.prog 57 #[.pointer (some ⟨b, 0, none⟩)] w fun e w' => e = .returned (.int .i64 (sgnI neg (nw n))) ∧ w = w' := by
  have HL := Lib.hid hL
  clear hL
  go_enter Try.func57, Try.ntmps57
  go_wp2_with fail
  refine (intSign b 0 neg v w h0 h1 hS).mono ?_
  rintro _ _ ⟨rfl, rfl⟩
  rw [HL.out]
  go_wp2
  go_ret
  exact ⟨rfl, rfl⟩
theorem keepc {w w' : World} {b i : Nat} {v : Value} (h : w.cell? ⟨b, i, none⟩ = some v) (hb : Below w.heap.size w w') : w'.cell? ⟨b, i, none⟩ = some v :=
  (hb.cell (p := ⟨b, i, none⟩) (World.block_lt_of_cell? w _ h)).trans h
set_option maxRecDepth 100000 in
set_option maxHeartbeats 800000 in
theorem ratIsInt (b : Nat) (v : Value) (d : Nat) (w : World) (h : w.cell? ⟨b, 3, none⟩ = some v) (hv : RW w v (wds d)) (h0 : 0 < d) (hl : nw d ≤ 1000000000) :
    Calls Try.prog 58 #[.pointer (some ⟨b, 0, none⟩)] w fun e w' => e = .returned (.bool (cmpN d 1 == 0)) ∧ Below w.heap.size w w' := by
  have hS := hv.isS
  have hL := hv.len
  rw [wds_length] at hL
  have hp := nw_pos h0
  obtain ⟨l, hl'⟩ : ∃ l, l = nw d := ⟨_, rfl⟩
  rw [← hl'] at hL hp hl
  have HL := Lib.hid hl'
  have HV := Lib.hid hv
  have hbw := Below.refl w.heap.size w
  have t1 : ((l : Int) == 0) = false := by rw [beq_eq_false_iff_ne]; omega
  have hcb := cmpN_bd d 1
  obtain ⟨c, hc⟩ : ∃ c, c = cmpN d 1 := ⟨_, rfl⟩
  rw [← hc] at hcb ⊢
  obtain ⟨hc1, hc2⟩ := hcb
  have HC := Lib.hid hc
  clear hv hl' hc
  go_enter Try.func58, Try.ntmps58
  go_wp2
  first
    | (go_region_held3 (fun w' => Below w.heap.size w w' ∧ w'.cell? ⟨b, 3, none⟩ = some v)
        ((first | exact ⟨Below.drew hbw, h⟩ | exact ⟨by assumption, keepc h (by assumption)⟩ | exact ⟨undrewN' (by assumption), keepc h (undrewN' (by assumption))⟩))
        (first
          | (go_at_call 81; refine (natOne_any _).mono ?_; rintro _ w1 ⟨r, rfl, ho, hb1⟩; have hSr := ho.isS; have hbx := bthen (And.left (by assumption)) hb1)
          | (go_at_call 80; refine (cmp_any _ _ _ _ _ (HV.out.below hbx) (ho.rw' (wds_all 1)) (by rw [← HL.out]; omega) (by decide)).mono ?_; rintro _ _ ⟨rfl, nc, rfl⟩; rw [← HC.out])))
    | fail
  go_wp2
  go_ret
  exact ⟨rfl, undrewN' hbx⟩
end Go.Proofs.Ytedmkbpfmddafaa
