/-
The package's fractions: Inv; what calls it and tells of a panic. No condition.
-/
import Derived.Test.YtedmkbpfmddafaaInO
import Derived.Defers
import Derived.Recover
import Derived.Laws.Pointers
namespace Go.Proofs.Ytedmkbpfmddafaa
open Go.RowKit

/-- The panic's text: division by zero. -/
def divZero : List PanicEntry := [{ v := .iface 9 (.string ⟨#[100, 105, 118, 105, 115, 105, 111, 110, 32, 98, 121, 32, 122, 101, 114, 111]⟩), recovered := false }]
set_option maxRecDepth 100000 in
theorem ratInv_zero (b c B' : Nat) (neg : Bool) (d : Nat) (w : World) (hx : RatP w B' c neg 0 d) :
    Calls Try.prog 65 #[.pointer (some ⟨b, 0, none⟩), .pointer (some ⟨c, 0, none⟩)] w fun e w' => e = .panicked divZero ∧ w = w' := by
  obtain ⟨v1, v2, hc1, hrc, ho1, ho2⟩ := hx
  have k1 : w.cell? ⟨c, 1, none⟩ = some v1 := (row_at (i := 1) hrc rfl).1
  have hS1 := ho1.isS
  have hL1 : sLen v1 = 0 := ho1.len
  clear hrc ho1 ho2
  go_enter Try.func65, Try.ntmps65
  go_wp2
  exact ⟨rfl, rfl, rfl⟩
set_option maxRecDepth 100000 in
set_option maxHeartbeats 800000 in
theorem ratInv (b c B B' : Nat) (neg : Bool) (n d : Nat) (w : World) (hz : w.heap[b]? = some (.cells #[.bool false, .slice none 0 0, .bool false, .slice none 0 0] 92 (0, 0)))
    (hx : RatP w B' c neg n d) (hbc : b ≠ c) (hn : nw n ≤ 100000000) (hd : nw d ≤ 100000000) (hd0 : 0 < d) (hn0 : 0 < n) (hB : B ≤ b) :
    Calls Try.prog 65 #[.pointer (some ⟨b, 0, none⟩), .pointer (some ⟨c, 0, none⟩)] w fun e w' => e = .returned (.pointer (some ⟨b, 0, none⟩)) ∧ RatP w' B b neg d n ∧ Below B w w' := by
  have hx' := hx
  obtain ⟨v1, v2, hc1, hrc, ho1, ho2⟩ := hx'
  have k1 : w.cell? ⟨c, 1, none⟩ = some v1 := (row_at (i := 1) hrc rfl).1
  have hS1 := ho1.isS
  have hL1 : sLen v1 = nw n := by rw [ho1.len, cellsW_length, wds_length]
  have hp := nw_pos hn0
  obtain ⟨l, hl⟩ : ∃ l, l = nw n := ⟨_, rfl⟩
  rw [← hl] at hL1 hp
  have t1 : ((l : Int) == 0) = false := by rw [beq_eq_false_iff_ne]; omega
  have HX := Lib.hid hx
  have HZ := Lib.hid hz
  clear hrc ho1 ho2 hx hz hl
  go_enter Try.func65, Try.ntmps65
  go_wp2_with fail
  refine (ratSet b c B B' neg n d w HZ.out HX.out hbc hn hd hd0 hB).mono ?_
  rintro _ w1 ⟨rfl, ⟨u1, u2, -, hr, hq1, hq2⟩, hb1⟩
  have hSu1 := hq1.isS
  have hSu2 := hq2.isS
  have m10 : w1.cell? ⟨b, 1, none⟩ = some u1 := (row_at (i := 1) hr rfl).1
  have m11 := (row_at (i := 1) hr rfl).2
  have m30 : w1.cell? ⟨b, 3, none⟩ = some u2 := (row_at (i := 3) hr rfl).1
  have m31 := (row_at (i := 3) hr rfl).2
  have HR := Lib.hid hr
  have Q1 := Lib.hid hq1
  have Q2 := Lib.hid hq2
  have B1 := Lib.hid hb1
  clear hr hq1 hq2 hb1
  go_wp2
  (refine wp_region_hoistP [0, 1, 2, 3, 4, 5, 7, 8, 9, 10] [6, 11] [] [12, 13, 14, 15, 16, 17, 18, 19] (by kernel_rfl) (by kernel_rfl) ⟨fun _ _ _ h => (by first | cases h.2.1 | (obtain ⟨_, h3, _⟩ := h.2; cases h3)), fun _ _ h => (by first | cases h.1 | (obtain ⟨_, h3, _⟩ := h; cases h3))⟩ ?_; simp only [pickOps, List.flatMap_cons, List.flatMap_nil, Option.toList_some, List.cons_append, List.nil_append, List.getElem?_toArray, List.getElem?_cons_zero, List.getElem?_cons_succ]; (repeat (go_big_quiet_step (fail))); refine wpQuiet_nil ?_; (repeat (go_big_quiet_step (fail))); refine wpQuiet_nil ?_; rintro _ ⟨nq, rfl⟩; (repeat (go_big_quiet_step (fail))); refine wpQuiet_nil ?_)
  go_wp2
  go_ret
  have p1 := rowset (i := 1) u2 (w := w1.drewN nq) HR.out
  have p2 := rowset (i := 3) u1 p1
  have o1 := ((Q1.out.drewN nq).away (w := w1.drewN nq) HR.out (by decide) 1 u2).away p1 (by decide) 3 u1
  have o2 := ((Q2.out.drewN nq).away (w := w1.drewN nq) HR.out (by decide) 1 u2).away p1 (by decide) 3 u1
  exact ⟨rfl, ⟨u2, u1, hB, p2, o2, o1⟩, bset (bset (undrewN' B1.out) hB) hB⟩
end Go.Proofs.Ytedmkbpfmddafaa
