/-
The thin package's fractions: rat, fraction. No condition.
-/
import Derived.Test.YtedmkbpfmddafaaInG
namespace Go.Proofs.Ytedmkbpfmddafaa
open Go.RowKit

theorem RW.belowB {w w' : World} {v : Value} {ds : List Nat} {B : Nat} (h : RW w v ds) (hb : Below B w w') (hlt : 0 < ds.length → sBlk v < B) : RW w' v ds := ⟨h.ri.belowB hb (by rw [ints_length]; exact hlt), h.lt⟩
set_option maxRecDepth 100000 in
set_option maxHeartbeats 800000 in
theorem rat_any (b : Bool) (v1 v2 : Value) (ns ds : List Nat) (w : World) (h1 : RW w v1 ns) (h2 : RW w v2 ds) (hl1 : ns.length ≤ 100000) (hl2 : ds.length ≤ 100000) :
    Calls Try.prog 56 #[.agg #[.bool b, v1, v2]] w fun e w' => ∃ g, e = .returned (.pointer (some ⟨g, 0, none⟩)) ∧ RatP w' w.heap.size g (b && decide (0 < wv ns)) (wv ns) (wv ds) ∧ Below w.heap.size w w' := by
  have hS1 := h1.isS
  have hS2 := h2.isS
  have hL2 := h2.len
  obtain ⟨la, hla⟩ : ∃ la, la = ds.length := ⟨_, rfl⟩
  rw [← hla] at hL2 hl2
  have Hla := Lib.hid hla
  have H1 := Lib.hid h1
  have H2 := Lib.hid h2
  clear h1 h2 hla
  have hab := (Below.refl w.heap.size w).alloc (Nat.le_refl _) (.cells #[.bool b, v1, v2] 55)
  obtain ⟨W, hW⟩ : ∃ W, W = w.alloc (.cells #[.bool b, v1, v2] 55) := ⟨_, rfl⟩
  have hrow : W.heap[w.heap.size]? = some (.cells #[.bool b, v1, v2] 55 (0, 0)) := by rw [hW]; exact box_row (Below.refl _ _)
  rw [← hW] at hab
  have hWs : w.heap.size ≤ W.heap.size := hab.size
  have hx : W.cell? ⟨w.heap.size, 0, none⟩ = some (.bool b) := (row_at (i := 0) hrow rfl).1
  have hy : W.cell? ⟨w.heap.size, 1, none⟩ = some v1 := (row_at (i := 1) hrow rfl).1
  have hWlt : w.heap.size < W.heap.size := (heap_alloc_lt (o := .cells #[] 0) hrow).2
  have ha1 := (Below.refl W.heap.size W).alloc (Nat.le_refl _) (.cells #[.bool false, .slice none 0 0, .bool false, .slice none 0 0] 92)
  have hrow1 := box_row (Below.refl _ (W.alloc (.cells #[.bool false, .slice none 0 0, .bool false, .slice none 0 0] 92)))
  have HR := Lib.hid hrow
  have R1 := Lib.hid (H1.out.below hab)
  have R2 := Lib.hid (H2.out.below hab)
  clear hrow
  go_enter Try.func56, Try.ntmps56
  go_upto_region 1 with fail
  rw [← hW]
  clear hW
  have HR1 := Lib.hid hrow1
  clear hrow1
  go_wp2_with fail
  refine (of_any b v1 ns _ (R1.out.below ha1) (by omega)).mono ?_
  rintro _ w1 ⟨c, rfl, hI, hb1⟩
  have hIW := hI.mono (show W.heap.size ≤ (W.alloc (.cells #[.bool false, .slice none 0 0, .bool false, .slice none 0 0] 92)).heap.size from ha1.size)
  have hr1 := keep_row hb1 HR1.out
  have hcb : W.heap.size ≠ c := by
    obtain ⟨_, hc, _, _⟩ := hI
    have : W.heap.size < (W.alloc (.cells #[.bool false, .slice none 0 0, .bool false, .slice none 0 0] 92)).heap.size := by simp
    omega
  have hnn : nw (wv ns) ≤ 100000000 := Nat.le_trans (nw_le (wv_lt R1.out.lt)) (by omega)
  have HI := Lib.hid hIW
  have HB1 := Lib.hid (bthen ha1 hb1)
  have Hr1 := Lib.hid hr1
  clear hI hIW hb1 hr1
  go_wp2_with fail
  refine (ratSetInt W.heap.size c W.heap.size _ _ w1 Hr1.out HI.out hcb hnn (Nat.le_refl _)).mono ?_
  rintro _ w2 ⟨rfl, hR2, hb2⟩
  have HR2 := Lib.hid hR2
  have HB2 := Lib.hid (HB1.out.trans hb2)
  clear hR2 hb2
  have hy2 : w2.cell? ⟨w.heap.size, 2, none⟩ = some v2 := (row_at (i := 2) (keep_row HB2.out HR.out) rfl).1
  go_wp2
  have hR2d := Lib.hid (R2.out.belowB HB2.out (fun h => by have := R2.out.ri.lt (by rw [ints_length]; exact h); omega))
  go_loopw [4, 15] (fun v i wr => ∃ k : Nat, k ≤ la ∧ i = .int .i64 k ∧ OfW ds w2.heap.size k w2 v wr) (fun _ i _ => la - (intOf i).toNat)
  case atStart => exact ⟨0, Nat.zero_le _, rfl, Own.nil _ _ _, Below.refl _ _⟩
  case round =>
    obtain ⟨i, hi, rfl, hO, hbl⟩ := hrel
    have hbz := hbl.size
    have hSo : IsS u4 := hO.isS
    have HO := Lib.hid hO
    clear hO hy2 hx hy
    by_cases hia : i < la
    · have ca := (hR2d.out.below hbl).cell i (by rw [← Hla.out]; exact hia)
      obtain ⟨d, hd⟩ : ∃ d, d = ds.getD i 0 := ⟨_, rfl⟩
      rw [← hd] at ca
      have Hd := Lib.hid hd
      clear hd
      have hlk : (cellsW (ds.take i)).length = i := by rw [cellsW_length]; have := Hla.out; simp; omega
      have Hlk := Lib.hid hlk
      clear hlk
      go_wp2_with (at_builtin; refine wpList_append_O rfl _ _ _ _ rfl elemW w2.heap.size _ _ rfl (HO.out.alloc _) _ rfl 1 [.int .u64 (d : Int)] (srcOne Try.underlying73 wr _ _) ?c3 ?c4 ?c5 ?_)
      case c3 => rw [Hlk.out]; unfold maxLen; omega
      case c4 => rw [Hlk.out]; omega
      case c5 => simp; omega
      rintro v1 w1 ho1 hb1 - - -
      have hs := OfW.step (by rw [← Hla.out]; exact hia) (by rw [← Hd.out]; exact ho1) ((hbl.alloc hbz _).trans hb1)
      have Hs := Lib.hid hs
      clear hs ho1
      go_wp2
      go_roundw
      case rel => exact ⟨i + 1, by omega, by go_num, Hs.out⟩
      case measure => simp [intOf]; omega
    · have hil : i = la := by omega
      subst hil
      have hfull : ds.take i = ds := List.take_of_length_le (by rw [Hla.out]; exact Nat.le_refl _)
      have ho := HO.out
      rw [hfull] at ho
      have Ho := Lib.hid ho
      have Hrw := Lib.hid (ho.rw' R2.out.lt)
      obtain ⟨a1, a2, hA, hrow, hoA, hoB⟩ := HR2.out.below hbl
      have hSa := hoB.isS
      have hLa : 0 < sLen a2 := by rw [hoB.len, cellsW_length, wds_one]; decide
      have k3 := row_at (i := 3) hrow rfl
      have k2 := row_at (i := 2) hrow rfl
      have HRow := Lib.hid hrow
      have HA := Lib.hid hoA
      clear hfull ho hrow hoA hoB
      go_wp2_with fail
      refine (ratDenom W.heap.size a2 wr k3.1 hSa hLa).mono ?_
      rintro _ _ ⟨rfl, rfl⟩
      go_wp2_with fail
      refine (intSetBits W.heap.size 2 (.bool false) a2 u4 ds wr k2 k3 Hrw.out (by rw [← Hla.out]; omega)).mono ?_
      rintro _ w3 ⟨rfl, hw3⟩
      have q1 := rowset (i := 2 + 1) (subS u4 0 (nw (wv ds))) HRow.out
      have q2 := rowset (i := 2) (.bool false) q1
      have hgs : W.heap.size ≤ w2.heap.size := HB2.out.size
      have o1 := (HA.out.away HRow.out (by decide) (2 + 1) (subS u4 0 (nw (wv ds)))).away q1 (by decide) 2 (.bool false)
      have o2 := (((Ho.out.takeW R2.out.lt).away HRow.out (by decide) (2 + 1) (subS u4 0 (nw (wv ds)))).away q1 (by decide) 2 (.bool false)).mono hgs
      have bb := bset (i := 2) (u := .bool false) (bset (i := 2 + 1) (u := subS u4 0 (nw (wv ds))) (HB2.out.trans (hbl.mono hgs)) (Nat.le_refl _)) (Nat.le_refl _)
      have bW := hab.trans (bb.mono hWs)
      have fin : RatP w3 w.heap.size W.heap.size (b && decide (0 < wv ns)) (wv ns) (wv ds) := by
        rw [hw3]
        exact ⟨a1, _, hWs, q2, o1.mono hWs, o2.mono hWs⟩
      rw [← hw3] at bW
      have F := Lib.hid fin
      have BW := Lib.hid bW
      clear hw3 q1 q2 o1 o2 bb fin bW k2 k3
      go_wp2
      go_ret
      exact ⟨W.heap.size, rfl, F.out, BW.out⟩
end Go.Proofs.Ytedmkbpfmddafaa
