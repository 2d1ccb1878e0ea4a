/-
The package's fractions: SetInt, Num, Denom; the thin package's rat, fraction. No condition.
-/
import Derived.Test.YtedmkbpfmddafaaInF
namespace Go.Proofs.Ytedmkbpfmddafaa
open Go.RowKit

/-- A fraction at a block. -/
def RatP (w : World) (B b : Nat) (neg : Bool) (n d : Nat) : Prop :=
  ∃ v1 v2, B ≤ b ∧ w.heap[b]? = some (.cells #[.bool neg, v1, .bool false, v2] 92 (0, 0)) ∧ Own w B 74 v1 (cellsW (wds n)) ∧ Own w B 74 v2 (cellsW (wds d))
theorem RatP.below {w w' : World} {B b : Nat} {neg : Bool} {n d : Nat} (h : RatP w B b neg n d) (hb : Below w.heap.size w w') : RatP w' B b neg n d := by
  obtain ⟨v1, v2, h1, h2, h3, h4⟩ := h
  exact ⟨v1, v2, h1, keep_row hb h2, h3.below hb, h4.below hb⟩
theorem RatP.drewN {w : World} {B b : Nat} {neg : Bool} {n d : Nat} (h : RatP w B b neg n d) (k : Nat) : RatP (w.drewN k) B b neg n d := by
  obtain ⟨v1, v2, h1, h2, h3, h4⟩ := h
  exact ⟨v1, v2, h1, h2, h3.drewN k, h4.drewN k⟩
theorem RatP.mono {w : World} {B B' b n d : Nat} {neg : Bool} (h : RatP w B b neg n d) (hB : B' ≤ B) : RatP w B' b neg n d := by
  obtain ⟨v1, v2, h1, h2, h3, h4⟩ := h
  exact ⟨v1, v2, Nat.le_trans hB h1, h2, h3.mono hB, h4.mono hB⟩
theorem wds_one : wds 1 = [1] := by decide
set_option maxRecDepth 100000 in
theorem ratNum (b : Nat) (w : World) :
    Calls Try.prog 83 #[.pointer (some ⟨b, 0, none⟩)] w fun e w' => e = .returned (.pointer (some ⟨b, 0, none⟩)) ∧ w = w' := by
  go_enter Try.func83, Try.ntmps83
  go_wp2
  go_ret
  exact ⟨rfl, rfl⟩
set_option maxRecDepth 100000 in
theorem ratDenom (b : Nat) (v : Value) (w : World) (hc : w.cell? ⟨b, 3, none⟩ = some v) (hS : IsS v) (hl : 0 < sLen v) :
    Calls Try.prog 77 #[.pointer (some ⟨b, 0, none⟩)] w fun e w' => e = .returned (.pointer (some ⟨b, 2, none⟩)) ∧ w = w' := by
  obtain ⟨l, hl'⟩ : ∃ l, sLen v = l := ⟨_, rfl⟩
  rw [hl'] at hl
  have t1 : ((l : Int) == 0) = false := by rw [beq_eq_false_iff_ne]; omega
  go_enter Try.func77, Try.ntmps77
  go_wp2
  go_ret
  exact ⟨rfl, rfl⟩
theorem IntP.lt {w : World} {B b n : Nat} {neg : Bool} (h : IntP w B b neg n) : b < w.heap.size := by
  obtain ⟨v, _, h2, _⟩ := h
  exact (heap_alloc_lt (o := .cells #[] 0) h2).2
set_option maxRecDepth 100000 in
set_option maxHeartbeats 800000 in
theorem ratSetInt (b c B : Nat) (neg : Bool) (n : Nat) (w : World) (hz : w.heap[b]? = some (.cells #[.bool false, .slice none 0 0, .bool false, .slice none 0 0] 92 (0, 0)))
    (hx : IntP w B c neg n) (hbc : b ≠ c) (hn : nw n ≤ 100000000) (hB : B ≤ b) :
    Calls Try.prog 75 #[.pointer (some ⟨b, 0, none⟩), .pointer (some ⟨c, 0, none⟩)] w fun e w' => e = .returned (.pointer (some ⟨b, 0, none⟩)) ∧ RatP w' B b neg n 1 ∧ Below B w w' := by
  obtain ⟨v, hc1, hrc, hov⟩ := hx
  have HZ := Lib.hid hz
  have HC := Lib.hid hrc
  have HV := Lib.hid (hov.rw' (wds_all n))
  have hbs : b < w.heap.size := (heap_alloc_lt (o := .cells #[] 0) hz).2
  clear hz hrc hov
  go_enter Try.func75, Try.ntmps75
  go_wp2_with fail
  refine (intSet b 0 c 0 (.bool false) v neg _ _ _ _ (wds n) w hbc HZ.out HC.out rfl rfl rfl rfl HV.out (by rw [wds_length]; omega)).mono ?_
  rintro _ w2 ⟨rfl, r, w1, hw2, ho1, hb1⟩
  have q1 := rowset (i := 0 + 1) r (keep_row hb1 HZ.out)
  have q2 := rowset (i := 0) (.bool neg) q1
  have o1 := ((ho1.away (keep_row hb1 HZ.out) (by decide) (0 + 1) r).away q1 (by decide) 0 (.bool neg)).mono (show B ≤ w.heap.size by omega)
  have bb := bset (i := 0) (u := .bool neg) (bset (i := 0 + 1) (u := r) (hb1.mono (show B ≤ w.heap.size by omega)) hB) hB
  rw [← hw2] at q2 o1 bb
  have Q2 := Lib.hid q2
  have O1 := Lib.hid o1
  have BB := Lib.hid bb
  have k3 := (row_at (i := 3) q2 rfl).1
  have hbs2 : b < w2.heap.size := (heap_alloc_lt (o := .cells #[] 0) q2).2
  clear hw2 q1 q2 o1 bb ho1 hb1
  go_wp2_with fail
  refine (setWord_nil 1 _ (by decide) (by decide)).mono ?_
  rintro _ w3 ⟨r2, rfl, ho3, hb3⟩
  have hS3 := ho3.isS
  have ho3' := ho3.mono (show B ≤ w2.heap.size by omega)
  have hb3' := hb3
  have q3 := keep_row hb3' Q2.out
  have m3 := row_at (i := 3) q3 rfl
  obtain ⟨m30, m31⟩ := m3
  have q4 := rowset (i := 3) r2 q3
  have o4 := (O1.out.below hb3').away q3 (by decide) 3 r2
  have o5 := ho3'.away q3 (by decide) 3 r2
  have bb4 := bset (i := 3) (u := r2) (BB.out.trans (hb3'.mono (show B ≤ w2.heap.size by omega))) hB
  have Q4 := Lib.hid q4
  have O4 := Lib.hid o4
  have O5 := Lib.hid o5
  have B4 := Lib.hid bb4
  clear hb3 hb3' ho3 ho3' q3 q4 o4 o5 bb4 k3
  go_wp2
  go_ret
  exact ⟨rfl, ⟨r, r2, hB, Q4.out, O4.out, by rw [wds_one]; exact O5.out⟩, B4.out⟩
end Go.Proofs.Ytedmkbpfmddafaa
