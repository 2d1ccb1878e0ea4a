/-
The thin package's integers: wordsOf, told. No condition.
-/
import Derived.Test.YtedmkbpfmddafaaInE
namespace Go.Proofs.Ytedmkbpfmddafaa
open Go.RowKit

def WoU (ws : List Nat) (B k : Nat) (w : World) (v : Value) (wr : World) : Prop := Own wr B 29 v (cellsW (ws.take k)) ∧ Below B w wr
theorem WoU.step {ws : List Nat} {B k : Nat} {w w1 : World} {v1 : Value} (hk : k < ws.length) (h : Own w1 B 29 v1 (cellsW (ws.take k) ++ [.int .u64 ((ws.getD k 0 : Nat) : Int)])) (hb : Below B w w1) : WoU ws B (k + 1) w v1 w1 := by
  refine ⟨?_, hb⟩
  rw [cellsW_snoc] at h
  rw [List.take_succ_eq_append_getElem hk]
  simpa [List.getD_eq_getElem?_getD, List.getElem?_eq_getElem hk] using h
set_option maxRecDepth 100000 in
set_option maxHeartbeats 800000 in
theorem wordsOf_any (b o : Nat) (v : Value) (ws : List Nat) (w : World) (hc : w.cell? ⟨b, o + 1, none⟩ = some v) (hv : RW w v ws) (hl : ws.length ≤ 100000000) :
    Calls Try.prog 84 #[.pointer (some ⟨b, o, none⟩)] w fun e w' => ∃ r, e = .returned r ∧ Own w' w.heap.size 29 r (cellsW ws) ∧ Below w.heap.size w w' := by
  have hSv := hv.isS
  have hLv := hv.len
  obtain ⟨la, hla⟩ : ∃ la, la = ws.length := ⟨_, rfl⟩
  rw [← hla] at hLv hl
  have Hla := Lib.hid hla
  have Hv := Lib.hid hv
  clear hla hv
  go_enter Try.func84, Try.ntmps84
  go_wp2_with fail
  refine (intBits b o v w hc hSv).mono ?_
  rintro _ _ ⟨rfl, rfl⟩
  go_wp2
  go_loopw [3, 9] (fun v i wr => ∃ k : Nat, k ≤ la ∧ i = .int .i64 k ∧ WoU ws w.heap.size k w v wr) (fun _ i _ => la - (intOf i).toNat)
  case atStart => exact ⟨0, Nat.zero_le _, rfl, Own.nil _ _ _, Below.refl _ _⟩
  case round =>
    obtain ⟨i, hi, rfl, hO, hbl⟩ := hrel
    have hbz := hbl.size
    have hSo : IsS u3 := hO.isS
    have HO := Lib.hid hO
    clear hO
    by_cases hia : i < la
    · have ca := (Hv.out.below hbl).cell i (by rw [← Hla.out]; exact hia)
      obtain ⟨d, hd⟩ : ∃ d, d = ws.getD i 0 := ⟨_, rfl⟩
      rw [← hd] at ca
      have Hd := Lib.hid hd
      clear hd
      have hlk : (cellsW (ws.take i)).length = i := by rw [cellsW_length]; have := Hla.out; simp; omega
      have Hlk := Lib.hid hlk
      clear hlk
      go_wp2_with (at_builtin; refine wpList_append_O rfl _ _ _ _ rfl elemU w.heap.size _ _ rfl (HO.out.alloc _) _ rfl 1 [.int .u64 (d : Int)] (srcOne Try.underlying42 wr _ _) ?c3 ?c4 ?c5 ?_)
      case c3 => rw [Hlk.out]; unfold maxLen; omega
      case c4 => rw [Hlk.out]; omega
      case c5 => simp; omega
      rintro v1 w1 ho1 hb1 - - -
      have hs := WoU.step (by rw [← Hla.out]; exact hia) (by rw [← Hd.out]; exact ho1) ((hbl.alloc hbz _).trans hb1)
      have Hs := Lib.hid hs
      clear hs ho1
      go_wp2
      go_roundw
      case rel => exact ⟨i + 1, by omega, by go_num, Hs.out⟩
      case measure => simp [intOf]; omega
    · have hil : i = la := by omega
      subst hil
      have hfull : ws.take i = ws := List.take_of_length_le (by rw [Hla.out]; exact Nat.le_refl _)
      have ho := HO.out
      rw [hfull] at ho
      have Ho := Lib.hid ho
      clear hfull ho
      go_wp2
      go_ret
      exact ⟨_, rfl, Ho.out, hbl⟩
theorem sgn_lt (neg : Bool) (n : Nat) : decide (sgnI neg (nw n) < 0) = (neg && decide (0 < n)) := by
  rcases Nat.eq_zero_or_pos n with h | h
  · subst h; cases neg <;> rfl
  · have := nw_pos h
    unfold sgnI
    rw [if_neg (by omega)]
    cases neg
    · rfl
    · simp [h]
set_option maxRecDepth 100000 in
theorem told_any (b o : Nat) (neg : Bool) (v : Value) (n : Nat) (w : World) (h0 : w.cell? ⟨b, o, none⟩ = some (.bool neg)) (hc : w.cell? ⟨b, o + 1, none⟩ = some v) (hv : RW w v (wds n)) (hl : nw n ≤ 100000000) :
    Calls Try.prog 82 #[.pointer (some ⟨b, o, none⟩)] w fun e w' => ∃ r, e = .returned (.agg #[.bool (neg && decide (0 < n)), r]) ∧ Own w' w.heap.size 29 r (cellsW (wds n)) ∧ Below w.heap.size w w' := by
  have hSv := hv.isS
  have hLv := hv.len
  rw [wds_length] at hLv
  have hlt := World.block_lt_of_cell? w _ hc
  have Hv := Lib.hid hv
  clear hv
  have hab := (Below.refl w.heap.size w).alloc (Nat.le_refl _) (.cells #[.bool false, .slice none 0 0] 53)
  have hrow0 := box_row (Below.refl _ (w.alloc (.cells #[.bool false, .slice none 0 0] 53)))
  obtain ⟨W, hW⟩ : ∃ W, W = w.alloc (.cells #[.bool false, .slice none 0 0] 53) := ⟨_, rfl⟩
  rw [← hW] at hab hrow0
  have h0' := (hab.cell (p := ⟨b, o, none⟩) hlt).trans h0
  have hc' := (hab.cell (p := ⟨b, o + 1, none⟩) hlt).trans hc
  have HR := Lib.hid hrow0
  have hWs := hab.size
  clear hrow0
  have t1 := sgn_lt neg n
  obtain ⟨x, hx⟩ : ∃ x, x = (neg && decide (0 < n)) := ⟨_, rfl⟩
  obtain ⟨z, hz⟩ : ∃ z, z = sgnI neg (nw n) := ⟨_, rfl⟩
  rw [← hx]
  rw [← hx, ← hz] at t1
  have hzb : -1 ≤ z ∧ z ≤ 1 := by rw [hz]; unfold sgnI; split <;> (try split) <;> omega
  obtain ⟨hz1, hz2⟩ := hzb
  have HZ := Lib.hid hz
  clear hx hz
  go_enter Try.func82, Try.ntmps82
  go_upto_region 1 with fail
  rw [← hW]
  clear hW
  go_wp2_with fail
  refine (intSign b o neg v W h0' hc' hSv).mono ?_
  rintro _ _ ⟨rfl, rfl⟩
  rw [hLv]
  have Z := HZ.out
  rw [← Z]
  clear Z h0 hc h0' hLv
  go_wp2_with fail
  refine (wordsOf_any b o v (wds n) W hc' (Hv.out.below hab) (by rw [wds_length]; exact hl)).mono ?_
  rintro _ w2 ⟨r, rfl, hr, hb2⟩
  have hSr := hr.isS
  have hrow2 := keep_row hb2 HR.out
  have k0 := row_at (i := 0) hrow2 rfl
  have k1 := row_at (i := 1) hrow2 rfl
  obtain ⟨k00, k01⟩ := k0
  obtain ⟨k10, k11⟩ := k1
  have q2 := rowset (i := 1) r (rowset (i := 0) (.bool x) hrow2)
  have e0 := (row_at (i := 0) q2 rfl).1
  have e1 := (row_at (i := 1) q2 rfl).1
  have o1 := ((hr.away hrow2 (by decide) 0 (.bool x)).away (rowset (i := 0) (.bool x) hrow2) (by decide) 1 r).mono hWs
  have b1 := bset (i := 1) (u := r) (bset (i := 0) (u := .bool x) (hab.trans (hb2.mono hWs)) (Nat.le_refl _)) (Nat.le_refl _)
  have O1 := Lib.hid o1
  have B1 := Lib.hid b1
  clear hr hrow2 q2 o1 b1
  go_wp2
  refine bodyPost_ret (v := .agg #[.bool x, r]) ?_ rfl ⟨r, rfl, O1.out, B1.out⟩
  simp [results, Try.results82, go_sem, e0, e1]
end Go.Proofs.Ytedmkbpfmddafaa
