/-
Texts of this proof, joined: LsA RoA RoB. No condition.
-/
import Derived.Test.YtnanhjaficnncaaDoorK02
import Derived.Test.YtnanhjaficnncaaDoorK18
import Derived.ProofKit
import Derived.OpenShut
import Derived.ChangeOld
/-
The statements on SetInt64 and SetUint64. No condition.
-/
namespace Go.Proofs.YtnanhjaficnncaaDoor
open Go.RowKit

set_option maxRecDepth 100000 in
set_option maxHeartbeats 3200000 in
theorem lawSetInt64 (a0 a1 a2 : Int) (w : World) (hT : TabW w) (l0 : 0 ≤ a0) (h0 : a0 ≤ 255) (l1 : 0 ≤ a1) (h1 : a1 ≤ 255) (l2 : -9223372036854775808 ≤ a2) (h2 : a2 ≤ 9223372036854775807) :
    Calls Tryd.prog 4 #[.int .u8 a0, .int .u8 a1, .int .i64 a2] w fun e' w' => e' = .returned (.bool true) ∧ Below w.heap.size w w' := by
  obtain ⟨b0, rfl⟩ := Int.eq_ofNat_of_zero_le l0
  obtain ⟨b1, rfl⟩ := Int.eq_ofNat_of_zero_le l1
  obtain ⟨x, hxx⟩ : ∃ x, x = a2 := ⟨_, rfl⟩
  subst hxx
  have HW := Lib.hid (Below.refl w.heap.size w)
  have hWs := HW.out.size
  have T0 := Lib.hid hT
  have e0 : (b0 : Int) % 70 = ((b0 % 70 : Nat) : Int) := by omega
  have e1 : (b1 : Int) % 6 = ((b1 % 6 : Nat) : Int) := by omega
  have hqb : b0 % 70 ≤ 69 := by omega
  have hkb : b1 % 6 ≤ 5 := by omega
  have hX : -9223372036854775808 ≤ x ∧ x ≤ 9223372036854775807 := by omega
  obtain ⟨q, hq⟩ : ∃ q, q = b0 % 70 := ⟨_, rfl⟩
  obtain ⟨k, hk⟩ : ∃ k, k = b1 % 6 := ⟨_, rfl⟩
  rw [← hq] at hqb e0
  rw [← hk] at hkb e1
  have HBX : Hid (bl x.natAbs ≤ 64) := Lib.hid (bl_le (k := 64) (by omega))
  have HBL : Hid (bl x.natAbs ≤ 9000000) := Lib.hid (by have := HBX.out; omega)
  clear hT hq hk l2 h2
  have hZp : 0 < pD q 64 := pD_pos (by decide)
  have hZ2 : pD q 64 ≤ 69 := pD_le hqb (by decide)
  by_cases hq0 : q = 0
  · have t : ((q : Int) == 0) = true := by rw [hq0]; rfl
    have hZD : pD q 64 = 64 := by unfold pD; rw [if_pos hq0]
    rw [hZD] at hZp hZ2
    clear hq0
    go_enter Tryd.func4, Tryd.ntmps4
    go_wp2_with fail
    with_reducible refine (impSetInt64 q k x w (by omega) hkb hX.1 hX.2 T0.out).mono ?_
    rintro _ wN ⟨z, rfl, hz, hb1⟩
    obtain ⟨n1, hn1⟩ : ∃ n1, n1 = (decide (x < 0)) := ⟨_, rfl⟩
    rw [← hn1] at hz ⊢
    obtain ⟨A, hA⟩ : ∃ A, A = sbA (pD q 64) k n1 (x.natAbs) := ⟨_, rfl⟩
    rw [← hA]
    rw [sbA_eq] at hA
    have htd := told_fO hz (by rw [hZD]; exact hZp)
    obtain ⟨f, hf⟩ : ∃ f, f = fO (x.natAbs) := ⟨_, rfl⟩
    rw [← hf] at hz
    rw [hZD] at hz hA htd
    have HA := Lib.hid hA
    have HTD0 := Lib.hid htd
    have HN := Lib.hid hn1
    clear hA hf hn1 hZD htd
    obtain ⟨vz, Ez, rfl, hSz⟩ := hz.formW
    obtain ⟨Y, hY⟩ : ∃ Y, Y = wN.alloc (.cells #[.int .u64 64, .int .i64 (k : Int), .int .i64 (f : Int), .bool n1, vz, .int .i64 Ez] 32) := ⟨_, rfl⟩
    have hbY : Below wN.heap.size wN Y := by rw [hY]; exact fbone _
    have hrz : Y.heap[wN.heap.size]? = some (.cells #[.int .u64 64, .int .i64 (k : Int), .int .i64 (f : Int), .bool n1, vz, .int .i64 Ez] 32 (0, 0)) := by rw [hY]; exact row_chain11
    have hbX := bthen hb1 hbY
    have HRz := Lib.hid hrz
    have HZ := Lib.hid (hz.below hbY)
    have HWY := Lib.hid (HW.out.trans (hbX.mono hWs))
    have TY := Lib.hid (T0.out.below hbX)
    have hYs := HWY.out.size
    have hcc := Below.refl Y.heap.size Y
    have HTD := Lib.hid (HTD0.out.below hbY)
    clear HTD0 hb1 hbY hrz hbX hz  HW hWs T0 
    go_upto_region 5 with fail
    rw [← hY]
    clear hY
    first
      | (go_region_held3 (fun w' => Below Y.heap.size Y w' ∧ w'.cell? ⟨wN.heap.size, 0, none⟩ = some (.int .u64 64) ∧ w'.cell? ⟨wN.heap.size, 1, none⟩ = some (.int .i64 (k : Int)) ∧ w'.cell? ⟨wN.heap.size, 2, none⟩ = some (.int .i64 (f : Int)) ∧ w'.cell? ⟨wN.heap.size, 3, none⟩ = some (.bool n1) ∧ w'.cell? ⟨wN.heap.size, 4, none⟩ = some (vz) ∧ w'.cell? ⟨wN.heap.size, 5, none⟩ = some (.int .i64 Ez))
          ((refine ksR1 HRz.out ?_; first | with_reducible assumption | with_reducible exact Below.drew hcc))
          (first
            | (go_at_call 22; refine (whole_any x _ hX.1 hX.2).mono ?_; rintro _ w8 ⟨_, rfl, ⟨b, rfl, hd1⟩, hb8⟩; have hT1 := hd1.isS; have hb8 := bthen (Below.drew hcc) hb8; rw [← HN.out]; have D1 := Lib.hid hd1; clear hd1)
            | (go_at_call 20; refine (rounds_any _ A n1 b (x.natAbs) 0 64 k _ (HTD.out.below hb8) HA.out D1.out HBL.out (by omega) hkb (by decide) (by decide)).mono ?_; rintro _ w10 ⟨rfl, hb10⟩; have hb10 := bthen hb8 hb10)))
      | fail
    all_goals
      go_wp2
      go_ret
      exact ⟨rfl, HWY.out.trans (hb10.mono hYs)⟩
  · have t : ((q : Int) == 0) = false := by rw [beq_eq_false_iff_ne]; omega
    have hZD : pD q 64 = q := by unfold pD; rw [if_neg hq0]
    rw [hZD] at hZp hZ2
    clear hq0
    go_enter Tryd.func4, Tryd.ntmps4
    go_wp2_with fail
    with_reducible refine (impSetInt64 q k x w (by omega) hkb hX.1 hX.2 T0.out).mono ?_
    rintro _ wN ⟨z, rfl, hz, hb1⟩
    obtain ⟨n1, hn1⟩ : ∃ n1, n1 = (decide (x < 0)) := ⟨_, rfl⟩
    rw [← hn1] at hz ⊢
    obtain ⟨A, hA⟩ : ∃ A, A = sbA (pD q 64) k n1 (x.natAbs) := ⟨_, rfl⟩
    rw [← hA]
    rw [sbA_eq] at hA
    have htd := told_fO hz (by rw [hZD]; exact hZp)
    obtain ⟨f, hf⟩ : ∃ f, f = fO (x.natAbs) := ⟨_, rfl⟩
    rw [← hf] at hz
    rw [hZD] at hz hA htd
    have HA := Lib.hid hA
    have HTD0 := Lib.hid htd
    have HN := Lib.hid hn1
    clear hA hf hn1 hZD htd
    obtain ⟨vz, Ez, rfl, hSz⟩ := hz.formW
    obtain ⟨Y, hY⟩ : ∃ Y, Y = wN.alloc (.cells #[.int .u64 (q : Int), .int .i64 (k : Int), .int .i64 (f : Int), .bool n1, vz, .int .i64 Ez] 32) := ⟨_, rfl⟩
    have hbY : Below wN.heap.size wN Y := by rw [hY]; exact fbone _
    have hrz : Y.heap[wN.heap.size]? = some (.cells #[.int .u64 (q : Int), .int .i64 (k : Int), .int .i64 (f : Int), .bool n1, vz, .int .i64 Ez] 32 (0, 0)) := by rw [hY]; exact row_chain11
    have hbX := bthen hb1 hbY
    have HRz := Lib.hid hrz
    have HZ := Lib.hid (hz.below hbY)
    have HWY := Lib.hid (HW.out.trans (hbX.mono hWs))
    have TY := Lib.hid (T0.out.below hbX)
    have hYs := HWY.out.size
    have hcc := Below.refl Y.heap.size Y
    have HTD := Lib.hid (HTD0.out.below hbY)
    clear HTD0 hb1 hbY hrz hbX hz  HW hWs T0 
    go_upto_region 5 with fail
    rw [← hY]
    clear hY
    first
      | (go_region_held3 (fun w' => Below Y.heap.size Y w' ∧ w'.cell? ⟨wN.heap.size, 0, none⟩ = some (.int .u64 (q : Int)) ∧ w'.cell? ⟨wN.heap.size, 1, none⟩ = some (.int .i64 (k : Int)) ∧ w'.cell? ⟨wN.heap.size, 2, none⟩ = some (.int .i64 (f : Int)) ∧ w'.cell? ⟨wN.heap.size, 3, none⟩ = some (.bool n1) ∧ w'.cell? ⟨wN.heap.size, 4, none⟩ = some (vz) ∧ w'.cell? ⟨wN.heap.size, 5, none⟩ = some (.int .i64 Ez))
          ((refine ksR1 HRz.out ?_; first | with_reducible assumption | with_reducible exact Below.drew hcc))
          (first
            | (go_at_call 22; refine (whole_any x _ hX.1 hX.2).mono ?_; rintro _ w8 ⟨_, rfl, ⟨b, rfl, hd1⟩, hb8⟩; have hT1 := hd1.isS; have hb8 := bthen (Below.drew hcc) hb8; rw [← HN.out]; have D1 := Lib.hid hd1; clear hd1)
            | (go_at_call 20; refine (rounds_any _ A n1 b (x.natAbs) 0 q k _ (HTD.out.below hb8) HA.out D1.out HBL.out (by omega) hkb (by decide) (by decide)).mono ?_; rintro _ w10 ⟨rfl, hb10⟩; have hb10 := bthen hb8 hb10)))
      | fail
    all_goals
      go_wp2
      go_ret
      exact ⟨rfl, HWY.out.trans (hb10.mono hYs)⟩
set_option maxRecDepth 100000 in
set_option maxHeartbeats 3200000 in
theorem lawSetUint64 (a0 a1 a2 : Int) (w : World) (hT : TabW w) (l0 : 0 ≤ a0) (h0 : a0 ≤ 255) (l1 : 0 ≤ a1) (h1 : a1 ≤ 255) (l2 : 0 ≤ a2) (h2 : a2 ≤ 18446744073709551615) :
    Calls Tryd.prog 5 #[.int .u8 a0, .int .u8 a1, .int .u64 a2] w fun e' w' => e' = .returned (.bool true) ∧ Below w.heap.size w w' := by
  obtain ⟨b0, rfl⟩ := Int.eq_ofNat_of_zero_le l0
  obtain ⟨b1, rfl⟩ := Int.eq_ofNat_of_zero_le l1
  obtain ⟨x, rfl⟩ := Int.eq_ofNat_of_zero_le l2
  have HW := Lib.hid (Below.refl w.heap.size w)
  have hWs := HW.out.size
  have T0 := Lib.hid hT
  have e0 : (b0 : Int) % 70 = ((b0 % 70 : Nat) : Int) := by omega
  have e1 : (b1 : Int) % 6 = ((b1 % 6 : Nat) : Int) := by omega
  have hqb : b0 % 70 ≤ 69 := by omega
  have hkb : b1 % 6 ≤ 5 := by omega
  have hX : x < 18446744073709551616 := by omega
  obtain ⟨q, hq⟩ : ∃ q, q = b0 % 70 := ⟨_, rfl⟩
  obtain ⟨k, hk⟩ : ∃ k, k = b1 % 6 := ⟨_, rfl⟩
  rw [← hq] at hqb e0
  rw [← hk] at hkb e1
  have HBX : Hid (bl x ≤ 64) := Lib.hid (bl_le (k := 64) (by omega))
  have HBL : Hid (bl x ≤ 9000000) := Lib.hid (by have := HBX.out; omega)
  clear hT hq hk l2 h2
  have hZp : 0 < pD q 64 := pD_pos (by decide)
  have hZ2 : pD q 64 ≤ 69 := pD_le hqb (by decide)
  by_cases hq0 : q = 0
  · have t : ((q : Int) == 0) = true := by rw [hq0]; rfl
    have hZD : pD q 64 = 64 := by unfold pD; rw [if_pos hq0]
    rw [hZD] at hZp hZ2
    clear hq0
    go_enter Tryd.func5, Tryd.ntmps5
    go_wp2_with fail
    with_reducible refine (impSetUint64 q k x w (by omega) hkb hX T0.out).mono ?_
    rintro _ wN ⟨z, rfl, hz, hb1⟩
    obtain ⟨A, hA⟩ : ∃ A, A = sbA (pD q 64) k false (x) := ⟨_, rfl⟩
    rw [← hA]
    rw [sbA_eq] at hA
    have htd := told_fO hz (by rw [hZD]; exact hZp)
    obtain ⟨f, hf⟩ : ∃ f, f = fO (x) := ⟨_, rfl⟩
    rw [← hf] at hz
    rw [hZD] at hz hA htd
    have HA := Lib.hid hA
    have HTD0 := Lib.hid htd
    clear hA hf hZD htd
    obtain ⟨vz, Ez, rfl, hSz⟩ := hz.formW
    obtain ⟨Y, hY⟩ : ∃ Y, Y = wN.alloc (.cells #[.int .u64 64, .int .i64 (k : Int), .int .i64 (f : Int), .bool false, vz, .int .i64 Ez] 32) := ⟨_, rfl⟩
    have hbY : Below wN.heap.size wN Y := by rw [hY]; exact fbone _
    have hrz : Y.heap[wN.heap.size]? = some (.cells #[.int .u64 64, .int .i64 (k : Int), .int .i64 (f : Int), .bool false, vz, .int .i64 Ez] 32 (0, 0)) := by rw [hY]; exact row_chain11
    have hbX := bthen hb1 hbY
    have HRz := Lib.hid hrz
    have HZ := Lib.hid (hz.below hbY)
    have HWY := Lib.hid (HW.out.trans (hbX.mono hWs))
    have TY := Lib.hid (T0.out.below hbX)
    have hYs := HWY.out.size
    have hcc := Below.refl Y.heap.size Y
    have HTD := Lib.hid (HTD0.out.below hbY)
    clear HTD0 hb1 hbY hrz hbX hz  HW hWs T0 
    have HLX : Hid ([x].length ≤ 200000000) := Lib.hid (by simp)
    have HRW : Hid (RW (Y.alloc (.cells #[.int .u64 (x : Int)] 28)).drew (.slice (some ⟨Y.heap.size, 0, none⟩) 1 1) [x]) := Lib.hid ((rw_one (w := Y) hX).below (Below.drew (Below.refl _ _)))
    have HBB : Hid (Below Y.heap.size Y (Y.alloc (.cells #[.int .u64 (x : Int)] 28))) := Lib.hid (hcc.alloc (Nat.le_refl _) _)
    have HBA : Hid (Below Y.heap.size Y (Y.alloc (.cells #[.int .u64 (x : Int)] 28)).drew) := Lib.hid (Below.drew HBB.out)
    go_upto_region 5 with fail
    rw [← hY]
    clear hY
    first
      | (go_region_held3 (fun w' => Below Y.heap.size Y w' ∧ w'.cell? ⟨wN.heap.size, 0, none⟩ = some (.int .u64 64) ∧ w'.cell? ⟨wN.heap.size, 1, none⟩ = some (.int .i64 (k : Int)) ∧ w'.cell? ⟨wN.heap.size, 2, none⟩ = some (.int .i64 (f : Int)) ∧ w'.cell? ⟨wN.heap.size, 3, none⟩ = some (.bool false) ∧ w'.cell? ⟨wN.heap.size, 4, none⟩ = some (vz) ∧ w'.cell? ⟨wN.heap.size, 5, none⟩ = some (.int .i64 Ez))
          ((refine ksR1 HRz.out ?_; first | with_reducible assumption | with_reducible exact Below.drew hcc | with_reducible exact HBA.out | with_reducible exact HBB.out))
          (first
            | (go_at_call 18; (with_reducible refine (spOf _ [x] _ HRW.out HLX.out).mono ?_); rintro _ w8 ⟨b, rfl, hd1, hb8⟩; rw [wv_one] at hd1; have hT1 := hd1.isS; have hb8 := bthen HBA.out hb8; have D1 := Lib.hid hd1; clear hd1)
            | (go_at_call 20; refine (rounds_any _ A false b (x) 0 64 k _ (HTD.out.below hb8) HA.out D1.out HBL.out (by omega) hkb (by decide) (by decide)).mono ?_; rintro _ w10 ⟨rfl, hb10⟩; have hb10 := bthen hb8 hb10)))
      | fail
    all_goals
      go_wp2
      go_ret
      exact ⟨rfl, HWY.out.trans (hb10.mono hYs)⟩
  · have t : ((q : Int) == 0) = false := by rw [beq_eq_false_iff_ne]; omega
    have hZD : pD q 64 = q := by unfold pD; rw [if_neg hq0]
    rw [hZD] at hZp hZ2
    clear hq0
    go_enter Tryd.func5, Tryd.ntmps5
    go_wp2_with fail
    with_reducible refine (impSetUint64 q k x w (by omega) hkb hX T0.out).mono ?_
    rintro _ wN ⟨z, rfl, hz, hb1⟩
    obtain ⟨A, hA⟩ : ∃ A, A = sbA (pD q 64) k false (x) := ⟨_, rfl⟩
    rw [← hA]
    rw [sbA_eq] at hA
    have htd := told_fO hz (by rw [hZD]; exact hZp)
    obtain ⟨f, hf⟩ : ∃ f, f = fO (x) := ⟨_, rfl⟩
    rw [← hf] at hz
    rw [hZD] at hz hA htd
    have HA := Lib.hid hA
    have HTD0 := Lib.hid htd
    clear hA hf hZD htd
    obtain ⟨vz, Ez, rfl, hSz⟩ := hz.formW
    obtain ⟨Y, hY⟩ : ∃ Y, Y = wN.alloc (.cells #[.int .u64 (q : Int), .int .i64 (k : Int), .int .i64 (f : Int), .bool false, vz, .int .i64 Ez] 32) := ⟨_, rfl⟩
    have hbY : Below wN.heap.size wN Y := by rw [hY]; exact fbone _
    have hrz : Y.heap[wN.heap.size]? = some (.cells #[.int .u64 (q : Int), .int .i64 (k : Int), .int .i64 (f : Int), .bool false, vz, .int .i64 Ez] 32 (0, 0)) := by rw [hY]; exact row_chain11
    have hbX := bthen hb1 hbY
    have HRz := Lib.hid hrz
    have HZ := Lib.hid (hz.below hbY)
    have HWY := Lib.hid (HW.out.trans (hbX.mono hWs))
    have TY := Lib.hid (T0.out.below hbX)
    have hYs := HWY.out.size
    have hcc := Below.refl Y.heap.size Y
    have HTD := Lib.hid (HTD0.out.below hbY)
    clear HTD0 hb1 hbY hrz hbX hz  HW hWs T0 
    have HLX : Hid ([x].length ≤ 200000000) := Lib.hid (by simp)
    have HRW : Hid (RW (Y.alloc (.cells #[.int .u64 (x : Int)] 28)).drew (.slice (some ⟨Y.heap.size, 0, none⟩) 1 1) [x]) := Lib.hid ((rw_one (w := Y) hX).below (Below.drew (Below.refl _ _)))
    have HBB : Hid (Below Y.heap.size Y (Y.alloc (.cells #[.int .u64 (x : Int)] 28))) := Lib.hid (hcc.alloc (Nat.le_refl _) _)
    have HBA : Hid (Below Y.heap.size Y (Y.alloc (.cells #[.int .u64 (x : Int)] 28)).drew) := Lib.hid (Below.drew HBB.out)
    go_upto_region 5 with fail
    rw [← hY]
    clear hY
    first
      | (go_region_held3 (fun w' => Below Y.heap.size Y w' ∧ w'.cell? ⟨wN.heap.size, 0, none⟩ = some (.int .u64 (q : Int)) ∧ w'.cell? ⟨wN.heap.size, 1, none⟩ = some (.int .i64 (k : Int)) ∧ w'.cell? ⟨wN.heap.size, 2, none⟩ = some (.int .i64 (f : Int)) ∧ w'.cell? ⟨wN.heap.size, 3, none⟩ = some (.bool false) ∧ w'.cell? ⟨wN.heap.size, 4, none⟩ = some (vz) ∧ w'.cell? ⟨wN.heap.size, 5, none⟩ = some (.int .i64 Ez))
          ((refine ksR1 HRz.out ?_; first | with_reducible assumption | with_reducible exact Below.drew hcc | with_reducible exact HBA.out | with_reducible exact HBB.out))
          (first
            | (go_at_call 18; (with_reducible refine (spOf _ [x] _ HRW.out HLX.out).mono ?_); rintro _ w8 ⟨b, rfl, hd1, hb8⟩; rw [wv_one] at hd1; have hT1 := hd1.isS; have hb8 := bthen HBA.out hb8; have D1 := Lib.hid hd1; clear hd1)
            | (go_at_call 20; refine (rounds_any _ A false b (x) 0 q k _ (HTD.out.below hb8) HA.out D1.out HBL.out (by omega) hkb (by decide) (by decide)).mono ?_; rintro _ w10 ⟨rfl, hb10⟩; have hb10 := bthen hb8 hb10)))
      | fail
    all_goals
      go_wp2
      go_ret
      exact ⟨rfl, HWY.out.trans (hb10.mono hYs)⟩
end Go.Proofs.YtnanhjaficnncaaDoor

/-
A statement's argument that is a fraction: what it reads as. No condition.
-/
namespace Go.Proofs.YtnanhjaficnncaaDoor
open Go.ChangeShapes Go.WideShapes Go.ChangeAt Go.RowKit

theorem words_of {zs : List Int} (h : ∀ n ∈ zs, (Lit.int .u64 n).wf = true) : ∃ us : List Nat, zs = ints us ∧ ∀ d ∈ us, d < 18446744073709551616 := by
  have hb : ∀ n ∈ zs, 0 ≤ n ∧ n ≤ 18446744073709551615 := fun n hn => by simpa [Lit.wf, IntKind.min, IntKind.max, IntKind.signed, IntKind.bits] using h n hn
  refine ⟨zs.map Int.toNat, ?_, ?_⟩
  · simp only [ints, List.map_map]
    refine ((List.map_congr_left (g := id) fun n hn => ?_).trans (List.map_id zs)).symm
    have := hb n hn
    simp only [Function.comp, id]; omega
  · intro d hd
    obtain ⟨n, hn, rfl⟩ := List.mem_map.1 hd
    have := hb n hn
    omega
section
variable {H : Type} {enc : TypeId × Value → H} {W : World} {base : Nat} {held : Bool}
theorem open_words {v : Value} {fuel : Nat} {x : DataW H × List MemPlace} (h : DataW.trod enc Tryd.prog W base (fun _ => true) held fuel 23 [v] = some x) : ∃ ws, RW W v ws := by
  have key : ∃ a len cap zs, v = .slice a len cap ∧ ((a = none ∧ len = 0 ∧ cap = 0 ∧ zs = []) ∨ ∃ x, a = some x ∧ len ≤ cap ∧ cap ≤ maxLen ∧ zs.length = cap ∧ (∀ i, i < zs.length → W.cell? (x.add i) = some (.int .u64 (zs.getD i 0))) ∧ ∀ n ∈ zs, (Lit.int .u64 n).wf = true) := by
    rcases open_ints Tryd.underlying23 Tryd.underlying28 (by kernel_rfl) h with ⟨hcs, _⟩ | ⟨x, l, c, zs, hcs, _, hl, hm, hz, _, hcell, hwz⟩
    · simp at hcs; exact ⟨_, _, _, [], hcs, .inl ⟨rfl, rfl, rfl, rfl⟩⟩
    · simp at hcs
      exact ⟨_, _, _, zs, hcs, .inr ⟨_, rfl, hl, hm, by simpa using hz, hcell, hwz⟩⟩
  obtain ⟨a, len, cap, zs, rfl, hr⟩ := key
  obtain ⟨h1, h2, _, _⟩ := row_RI hr
  obtain ⟨us, hus, hd⟩ := words_of h2
  rw [hus] at h1
  exact ⟨us, h1, hd⟩
set_option maxRecDepth 100000 in
theorem open_number {cs : List Value} {fuel : Nat} {x : DataW H × List MemPlace} (h : DataW.trod enc Tryd.prog W base (fun _ => true) held fuel 25 cs = some x) : ∃ b v ws, cs = [.bool b, v] ∧ RW W v ws := by
  obtain ⟨y0, y1, n, rfl, hl, h0, h1⟩ := trod_struct2 Tryd.underlying25 h
  have hc : Tryd.prog.cellsOf 25 = 2 := by kernel_rfl
  rw [hc] at hl
  match cs, hl with
  | [c0, c1], _ =>
    obtain ⟨b', hb, _⟩ := DataW.trod_bool Tryd.underlying4 h0
    have e0 : c0 = .bool b' := by
      have := hb
      have hcb : Tryd.prog.cellsOf 4 = 1 := by kernel_rfl
      simpa [hcb] using this
    subst e0
    have hcs : Tryd.prog.cellsOf 23 = 1 := by kernel_rfl
    have h1' : DataW.trod enc Tryd.prog W base (fun _ => true) held n 23 [c1] = some y1 := by simpa [hcs] using h1
    obtain ⟨ws, hw⟩ := open_words h1'
    exact ⟨b', c1, ws, rfl, hw⟩
end
end Go.Proofs.YtnanhjaficnncaaDoor

/-
A statement's argument that is a Real: what it reads as. No condition.
-/
namespace Go.Proofs.YtnanhjaficnncaaDoor
open Go.ChangeShapes Go.WideShapes Go.ChangeAt Go.RowKit

section
variable {H : Type} {enc : TypeId × Value → H} {P : Program} {w : World} {base : Nat} {spare : Nat → Bool} {held : Bool}
theorem trod_struct6 {t : TypeId} {f0 f1 f2 f3 f4 f5 : Field} {fuel : Nat} {cs : List Value} {x : DataW H × List MemPlace} (ht : P.underlying t = some (.struct #[f0, f1, f2, f3, f4, f5])) (h : DataW.trod enc P w base spare held fuel t cs = some x) :
    ∃ y0 y1 y2 y3 y4 y5 n, cs.length = P.cellsOf t ∧ DataW.trod enc P w base spare held n f0.type ((cs.drop f0.offset).take (P.cellsOf f0.type)) = some y0 ∧
      DataW.trod enc P w base spare held n f1.type ((cs.drop f1.offset).take (P.cellsOf f1.type)) = some y1 ∧ DataW.trod enc P w base spare held n f2.type ((cs.drop f2.offset).take (P.cellsOf f2.type)) = some y2 ∧
      DataW.trod enc P w base spare held n f3.type ((cs.drop f3.offset).take (P.cellsOf f3.type)) = some y3 ∧ DataW.trod enc P w base spare held n f4.type ((cs.drop f4.offset).take (P.cellsOf f4.type)) = some y4 ∧
      DataW.trod enc P w base spare held n f5.type ((cs.drop f5.offset).take (P.cellsOf f5.type)) = some y5 := by
  obtain ⟨xs, n, _, rfl, hl, hlen, hf⟩ := DataW.trod_struct ht h
  match xs, hlen with
  | [y0, y1, y2, y3, y4, y5], _ => exact ⟨y0, y1, y2, y3, y4, y5, n, hl, by simpa using hf 0 f0 rfl, by simpa using hf 1 f1 rfl, by simpa using hf 2 f2 rfl, by simpa using hf 3 f3 rfl, by simpa using hf 4 f4 rfl, by simpa using hf 5 f5 rfl⟩
end
section
variable {H : Type} {enc : TypeId × Value → H} {W : World} {base : Nat} {held : Bool}
theorem open_i64 {c : Value} {fuel : Nat} {x : DataW H × List MemPlace} (h : DataW.trod enc Tryd.prog W base (fun _ => true) held fuel 3 [c] = some x) : ∃ n : Int, c = .int .i64 n ∧ -9223372036854775808 ≤ n ∧ n ≤ 9223372036854775807 := by
  obtain ⟨n, hc, _, hw⟩ := DataW.trod_int Tryd.underlying3 h
  exact ⟨n, by simpa using hc, by simpa [Lit.wf, IntKind.min, IntKind.max, IntKind.signed, IntKind.bits] using hw⟩
theorem open_u64 {c : Value} {fuel : Nat} {x : DataW H × List MemPlace} (h : DataW.trod enc Tryd.prog W base (fun _ => true) held fuel 28 [c] = some x) : ∃ n : Nat, c = .int .u64 n ∧ n ≤ 18446744073709551615 := by
  obtain ⟨n, hc, _, hw⟩ := DataW.trod_int Tryd.underlying28 h
  have hb : 0 ≤ n ∧ n ≤ 18446744073709551615 := by simpa [Lit.wf, IntKind.min, IntKind.max, IntKind.signed, IntKind.bits] using hw
  obtain ⟨k, rfl⟩ := Int.eq_ofNat_of_zero_le hb.1
  exact ⟨k, by simpa using hc, by omega⟩
set_option maxRecDepth 100000 in
theorem open_real {v : Value} {r : Reach} {b0 : Nat} {d : DataW H} {p : List MemPlace} (hval : Value.okWide Tryd.prog W r b0 32 v) (h : DataW.Trod enc Tryd.prog W base (fun _ => true) held 32 v d p) :
    ∃ (q : Nat) (m f : Int) (n : Bool) (x : Value) (e : Int) (ws : List Nat), v = .agg #[.int .u64 q, .int .i64 m, .int .i64 f, .bool n, x, .int .i64 e] ∧ RW W x ws ∧
      (q ≤ 18446744073709551615 ∧ (-9223372036854775808 ≤ m ∧ m ≤ 9223372036854775807) ∧ (-9223372036854775808 ≤ f ∧ f ≤ 9223372036854775807) ∧ (-9223372036854775808 ≤ e ∧ e ≤ 9223372036854775807)) := by
  obtain ⟨cs, rfl, hsz⟩ := okWide_struct Tryd.underlying32 hval
  have hc : Tryd.prog.cellsOf 32 = 6 := by kernel_rfl
  rw [hc] at hsz
  obtain ⟨fuel, hf⟩ := h
  obtain ⟨y0, y1, y2, y3, y4, y5, n, hl, h0, h1, h2, h3, h4, h5⟩ := trod_struct6 Tryd.underlying32 hf
  match cs, hsz with
  | ⟨[c0, c1, c2, c3, c4, c5]⟩, _ =>
    have hcu : Tryd.prog.cellsOf 28 = 1 := by kernel_rfl
    have hci : Tryd.prog.cellsOf 3 = 1 := by kernel_rfl
    have hcb : Tryd.prog.cellsOf 4 = 1 := by kernel_rfl
    have hcs : Tryd.prog.cellsOf 23 = 1 := by kernel_rfl
    obtain ⟨q, rfl, hq⟩ := open_u64 (c := c0) (by simpa [hcu, Value.cells] using h0)
    obtain ⟨m, rfl, hm⟩ := open_i64 (c := c1) (by simpa [hci, Value.cells] using h1)
    obtain ⟨f, rfl, hf'⟩ := open_i64 (c := c2) (by simpa [hci, Value.cells] using h2)
    obtain ⟨b, hb, _⟩ := DataW.trod_bool Tryd.underlying4 h3
    have e3 : c3 = .bool b := by simpa [hcb, Value.cells] using hb
    subst e3
    obtain ⟨ws, hw⟩ := open_words (v := c4) (by simpa [hcs, Value.cells] using h4)
    obtain ⟨e, rfl, he⟩ := open_i64 (c := c5) (by simpa [hci, Value.cells] using h5)
    exact ⟨q, m, f, b, c4, e, ws, rfl, hw, hq, hm, hf', he⟩
end
end Go.Proofs.YtnanhjaficnncaaDoor
