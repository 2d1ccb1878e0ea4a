/-
Floats: setBits64, SetInt64 of a new receiver. No condition.
-/
import Derived.Test.YtniingblgkghgaaFlB
namespace Go.Proofs.Ytniingblgkghgaa
open Go.RowKit

theorem shl_top {x : Nat} (h0 : 0 < x) (hx : x < 18446744073709551616) : x * 2 ^ (64 - bl x) < 18446744073709551616 ∧ 9223372036854775808 ≤ x * 2 ^ (64 - bl x) := by
  have h1 := lt_bl x
  have h2 := bl_ge h0
  have h3 := bl_le64 hx
  have h4 := bl_pos h0
  have hP : 0 < 2 ^ (64 - bl x) := Nat.pow_pos (by decide)
  have e1 : 2 ^ bl x * 2 ^ (64 - bl x) = 18446744073709551616 := by rw [← Nat.pow_add, show bl x + (64 - bl x) = 64 by omega]
  have e2 : 2 ^ (bl x - 1) * 2 ^ (64 - bl x) = 9223372036854775808 := by rw [← Nat.pow_add, show bl x - 1 + (64 - bl x) = 63 by omega]
  exact ⟨by rw [← e1]; exact Nat.mul_lt_mul_of_pos_right h1 hP, by rw [← e2]; exact Nat.mul_le_mul_right _ h2⟩
set_option maxRecDepth 100000 in
set_option maxHeartbeats 800000 in
theorem setBits64_zero (b B m f : Nat) (a e : Int) (neg neg0 : Bool) (v : Value) (w : World) (h : FltR w b 0 m a f neg0 v e) (hB : B ≤ b) :
    Calls Try.prog 58 #[.pointer (some ⟨b, 0, none⟩), .bool neg, .int .u64 0] w fun e' w' => e' = .returned (.pointer (some ⟨b, 0, none⟩)) ∧ FltR w' b 64 m 0 0 neg v e ∧ Below B w w' := by
  obtain ⟨c0, c1, c2, c3, c4, -, c6⟩ := h.cells
  obtain ⟨f0, f1, f2, f3, f4, -, f6⟩ := h.free
  have c0' : w.cell? ⟨b, 0, none⟩ = some (.int .u32 0) := c0
  have F := Lib.hid ((((h.s0 64).s2 0).s4 neg).s3 0)
  have BB := Lib.hid (bset (i := 3) (u := .int .u8 (0 : Int)) (bset (i := 4) (u := .bool neg) (bset (i := 2) (u := .int .i8 0) (bset (i := 0) (u := .int .u32 (64 : Int)) (Below.refl B w) hB) hB) hB) hB)
  clear c0 h
  go_enter Try.func58, Try.ntmps58
  go_wp2
  go_ret
  exact ⟨rfl, F.out, BB.out⟩
set_option maxRecDepth 100000 in
set_option maxHeartbeats 800000 in
theorem setBits64_pos (b B m f : Nat) (a e : Int) (neg neg0 : Bool) (x : Nat) (w : World) (h : FltR w b 0 m a f neg0 (.slice none 0 0) e) (hB : B ≤ b) (h0 : 0 < x) (hx : x < 18446744073709551616) :
    Calls Try.prog 58 #[.pointer (some ⟨b, 0, none⟩), .bool neg, .int .u64 x] w fun e' w' => e' = .returned (.pointer (some ⟨b, 0, none⟩)) ∧ ∃ v, FltR w' b 64 m 0 1 neg v (bl x : Nat) ∧ Own w' B 132 v (cellsW [x * 2 ^ (64 - bl x)]) ∧ Below B w w' := by
  obtain ⟨c0, c1, c2, c3, c4, c5, c6⟩ := h.cells
  obtain ⟨f0, f1, f2, f3, f4, f5, f6⟩ := h.free
  have hlt := h.lt
  have c0' : w.cell? ⟨b, 0, none⟩ = some (.int .u32 0) := c0
  have R4 := Lib.hid ((((h.s0 64).s2 0).s4 neg).s3 1)
  have B4 := Lib.hid (bset (i := 3) (u := .int .u8 (1 : Int)) (bset (i := 4) (u := .bool neg) (bset (i := 2) (u := .int .i8 0) (bset (i := 0) (u := .int .u32 (64 : Int)) (Below.refl B w) hB) hB) hB) hB)
  have t1 : ((x : Int) == 0) = false := by rw [beq_eq_false_iff_ne]; omega
  have hst := shl_top h0 hx
  have hbl := bl_le64 hx
  have hbp := bl_pos h0
  obtain ⟨l, hl⟩ : ∃ l, l = bl x := ⟨_, rfl⟩
  have HX := Lib.hid hx
  rw [← hl] at hst hbl hbp ⊢
  have hs64 : 64 - l < 64 := by omega
  have hP2 : (2 : Int) ^ (64 - l) = ((2 ^ (64 - l) : Nat) : Int) := by simp
  obtain ⟨s, hs⟩ : ∃ s, s = 64 - l := ⟨_, rfl⟩
  rw [← hs] at hst hs64 hP2 ⊢
  obtain ⟨S, hS⟩ : ∃ S, S = 2 ^ s := ⟨_, rfl⟩
  rw [← hS] at hst hP2 ⊢
  obtain ⟨y, hy⟩ : ∃ y, y = x * S := ⟨_, rfl⟩
  rw [← hy] at hst ⊢
  have hxy : (x : Int) * (S : Int) = (y : Int) := by rw [hy]; simp
  obtain ⟨hy1, hy2⟩ := hst
  have HL := Lib.hid hl
  have HSl := Lib.hid hs
  have hls : (64 : Int) - (s : Int) = (l : Int) := by omega
  have hl2 : l ≤ 64 := hbl
  clear c0 h hl hs hS hy h0 hx hbl
  go_enter Try.func58, Try.ntmps58
  go_wp2_with fail
  refine (lz64 x _ HX.out).mono ?_
  rintro _ _ ⟨rfl, rfl⟩
  rw [← HL.out, ← HSl.out]
  go_wp2_with fail
  refine (setUint64_nil y _ (by omega) hy1).mono ?_
  rintro _ w5 ⟨v, rfl, ho, hb⟩
  have hSv := ho.isS
  have R5 := R4.out.below hb
  have B5 := B4.out.trans (hb.mono (by simp; omega))
  obtain ⟨d0, d1, d2, d3, d4, d5, d6⟩ := R5.cells
  obtain ⟨g0, g1, g2, g3, g4, g5, g6⟩ := R5.free
  have d0' : w5.cell? ⟨b, 0, none⟩ = some (.int .u32 64) := d0
  have F := Lib.hid ((R5.s5 v).s6 (l : Int))
  have O := Lib.hid ((R5.s5 v).own (R5.own (ho.mono (show B ≤ _ by simp; omega)) 5 v) 6 (.int .i32 (l : Int)))
  have BF := Lib.hid (bset (i := 6) (u := .int .i32 (l : Int)) (bset (i := 5) (u := v) B5 hB) hB)
  clear c0' c1 c2 c3 c4 c5 c6 f0 f1 f2 f3 f4 f5 f6 d0 R5 ho hb B5
  go_wp2
  go_ret
  exact ⟨rfl, v, F.out, O.out, BF.out⟩
end Go.Proofs.Ytniingblgkghgaa
