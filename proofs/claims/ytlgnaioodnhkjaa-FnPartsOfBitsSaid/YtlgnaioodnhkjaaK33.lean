/-
Texts of this proof, joined: FdJ. No condition.
-/
import Derived.Test.YtlgnaioodnhkjaaK21
import Derived.Test.YtlgnaioodnhkjaaK32
/-
The statement on the float64 that is nearest to a number of 64 bits. No condition.
-/
namespace Go.Proofs.Ytlgnaioodnhkjaa
open Go.RowKit

theorem bf_bd (n : Bool) (M : Nat) (E : Int) : bfV n M E < 18446744073709551616 ∧ -1 ≤ bfA n M E ∧ bfA n M E ≤ 1 := by
  rw [← (bf_f64 n M E).1, ← (bf_f64 n M E).2]
  exact f64_bd _ _ _ _
set_option maxRecDepth 100000 in
set_option maxHeartbeats 1600000 in
theorem impBitsOfInt (x : Int) (w : World) (hx1 : -9223372036854775808 ≤ x) (hx2 : x ≤ 9223372036854775807) :
    Calls Try.prog 13 #[.int .i64 x] w fun e' w' => e' = .returned (.tuple #[.int .u64 (bfV (decide (x < 0)) x.natAbs 0 : Nat), .int .i64 (bfA (decide (x < 0)) x.natAbs 0)]) ∧ Below w.heap.size w w' := by
  have HR : Hid (FltR (w.alloc newF) w.heap.size 0 0 0 0 false (.slice none 0 0) 0) := Lib.hid (newF_row w)
  have HBA : Hid (Below w.heap.size w (w.alloc newF)) := Lib.hid (fbone newF)
  have hbl : bl x.natAbs ≤ 64 := bl_le (k := 64) (by omega)
  obtain ⟨k0, k1, k2⟩ := rQ_fits (p := 64) (m := 0) (decide (x < 0)) hbl
  have HS : Hid (∀ W b B, FltR W b 0 0 0 0 false (.slice none 0 0) 0 → B ≤ b → Calls Try.prog 43 #[.pointer (some ⟨b, 0, none⟩), .int .i64 x] W fun e' w' => e' = .returned (.pointer (some ⟨b, 0, none⟩)) ∧ FVal w' B b 64 0 (sbA 64 0 (decide (x < 0)) x.natAbs) (fO x.natAbs) (decide (x < 0)) x.natAbs 0 ∧ Below B W w') := Lib.hid (fun W b B h hB => by
    have := setInt64_val b B 0 0 0 0 0 false x W h hB (by decide) (by decide) hx1 hx2
    rw [show pD 0 64 = 64 from rfl, k0, k1, show (0 : Int) + ((0 : Nat) : Int) = 0 from rfl] at this
    exact this)
  have hfo : fO x.natAbs ≤ 2 := by unfold fO; split <;> omega
  have hfp : fO x.natAbs = 1 → 0 < x.natAbs := fun h => by unfold fO at h; split at h <;> omega
  have HF := Lib.hid (fun W B b a (h : FVal W B b 64 0 a (fO x.natAbs) (decide (x < 0)) x.natAbs 0) => float64_val b B 64 0 (fO x.natAbs) a (decide (x < 0)) x.natAbs 0 W h hfo (fun _ => by decide) (by decide) (fun _ => by omega))
  rw [(bf_f64 _ _ _).1, (bf_f64 _ _ _).2] at HF
  obtain ⟨hb1, hb2⟩ := bf_bd (decide (x < 0)) x.natAbs 0
  obtain ⟨V, hV⟩ : ∃ V, V = bfV (decide (x < 0)) x.natAbs 0 := ⟨_, rfl⟩
  obtain ⟨A, hA⟩ : ∃ A, A = bfA (decide (x < 0)) x.natAbs 0 := ⟨_, rfl⟩
  rw [← hV, ← hA] at HF
  rw [← hV] at hb1
  rw [← hA] at hb2
  rw [← hV, ← hA]
  clear hV hA hbl k0 k1 k2 hfo hfp
  go_enter Try.func13, Try.ntmps13
  go_wp2_with fail
  refine (HS.out _ w.heap.size w.heap.size HR.out (Nat.le_refl _)).mono ?_
  rintro _ w2 ⟨rfl, hv, hb2'⟩
  have F2 := Lib.hid hv
  have B2 := Lib.hid (HBA.out.trans hb2')
  have h2s := B2.out.size
  clear hv hb2'
  go_wp2_with fail
  refine (HF.out w2 _ _ _ F2.out).mono ?_
  rintro _ w3 ⟨rfl, hb3⟩
  have B3 := Lib.hid (B2.out.trans (hb3.mono h2s))
  clear hb3
  go_wp2_with (simp only)
  go_ret2
  exact ⟨rfl, B3.out⟩
set_option maxRecDepth 100000 in
set_option maxHeartbeats 1600000 in
theorem lawBitsOfInt (a0 : Int) (w : World) (l0 : -9223372036854775808 ≤ a0) (h0 : a0 ≤ 9223372036854775807) :
    Calls Try.prog 4 #[.int .i64 a0] w fun e' w' => e' = .returned (.bool true) ∧ Below w.heap.size w w' := by
  have HI := Lib.hid (impBitsOfInt a0 w l0 h0)
  have HFO := Lib.hid (fun (a : Value) (W : World) (h : NatV W a a0.natAbs) => flo_any (decide (a0 < 0)) a 0 a0.natAbs W h (Nat.le_trans (bl_le (k := 64) (by omega)) (by decide)) (by decide))
  obtain ⟨hb1, hb2⟩ := bf_bd (decide (a0 < 0)) a0.natAbs 0
  obtain ⟨V, hV⟩ : ∃ V, V = bfV (decide (a0 < 0)) a0.natAbs 0 := ⟨_, rfl⟩
  obtain ⟨A, hA⟩ : ∃ A, A = bfA (decide (a0 < 0)) a0.natAbs 0 := ⟨_, rfl⟩
  rw [← hV, ← hA] at HI HFO
  rw [← hV] at hb1
  rw [← hA] at hb2
  clear hV hA
  go_enter Try.func4, Try.ntmps4
  go_wp2_with fail
  refine HI.out.mono ?_
  rintro _ w1 ⟨rfl, hb1'⟩
  have HB1 := Lib.hid hb1'
  have h1s := HB1.out.size
  clear hb1'
  go_wp2_with fail
  refine (whole_any a0 w1 l0 h0).mono ?_
  rintro _ w2 ⟨_, rfl, ⟨a, rfl, hd⟩, hb⟩
  have hTa := hd.isS
  have HD := Lib.hid hd
  have HB2 := Lib.hid (HB1.out.trans (hb.mono h1s))
  have h2s := HB2.out.size
  clear hd hb
  go_wp2_with fail
  refine (HFO.out a w2 HD.out).mono ?_
  rintro _ w3 ⟨rfl, hb3⟩
  have HB3 := Lib.hid (HB2.out.trans (hb3.mono h2s))
  clear hb3
  go_wp2
  go_ret
  exact ⟨rfl, HB3.out⟩
end Go.Proofs.Ytlgnaioodnhkjaa
