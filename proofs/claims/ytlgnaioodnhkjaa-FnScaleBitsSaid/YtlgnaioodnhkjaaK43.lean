/-
Texts of this proof, joined: FdL. No condition.
-/
import Derived.Test.YtlgnaioodnhkjaaK21
import Derived.Test.YtlgnaioodnhkjaaK33
import Derived.Test.YtlgnaioodnhkjaaK34
import Derived.Test.YtlgnaioodnhkjaaK41
/-
The statement on a float64 times a power of 2. No condition.
-/
namespace Go.Proofs.Ytlgnaioodnhkjaa
open Go.RowKit

set_option maxRecDepth 100000 in
set_option maxHeartbeats 1600000 in
theorem impScaleBits (x : Nat) (k : Int) (w : World) (hx : x < 18446744073709551616) (hf : obF x) (hk1 : -10000 ≤ k) (hk2 : k ≤ 10000) (hne : 0 < obM x → obE x + k + bl (obM x) ≠ -1074) :
    Calls Try.prog 23 #[.int .u64 x, .int .i64 k] w fun e' w' => e' = .returned (.tuple #[.int .u64 (bfV (obN x) (obM x) (obE x + k) : Nat), .int .i64 (bfA (obN x) (obM x) (obE x + k))]) ∧ Below w.heap.size w w' := by
  have hbx := bl_obM x
  have hE := obE_bd hf
  have hfo : fO (obM x) ≤ 2 := fO_le _
  obtain ⟨k0, k1, k2⟩ := rQ_fits (p := 53) (m := 0) (obN x) hbx
  have HS : Hid (∀ W b B, FltR W b 0 0 0 0 false (.slice none 0 0) 0 → B ≤ b → Calls Try.prog 40 #[.pointer (some ⟨b, 0, none⟩), .float .f64 x] W fun e' w' => e' = .returned (.pointer (some ⟨b, 0, none⟩)) ∧ FVal w' B b 53 0 (sbA 53 0 (obN x) (obM x)) (fO (obM x)) (obN x) (obM x) (obE x) ∧ Below B W w') := Lib.hid (fun W b B h hB => by
    have := setF64_val b B 0 0 0 0 0 false x W h hB (by decide) (by decide) hx hf
    rw [show pD 0 53 = 53 from rfl, k0, k1, show obE x + ((0 : Nat) : Int) = obE x by omega] at this
    exact this)
  have HSM := Lib.hid (fun (W : World) (b B c Bx : Nat) (a : Int) (h : FltR W b 0 0 0 0 false (.slice none 0 0) 0) (hB : B ≤ b) (hx : FVal W Bx c 53 0 a (fO (obM x)) (obN x) (obM x) (obE x)) (hbc : b ≠ c) =>
    setMantExp_val b B c Bx 0 0 0 53 0 (fO (obM x)) 0 0 a false (obN x) (obM x) (obE x) k W h hB hx hbc hfo (fun _ => by decide) (by decide) (fun _ => by omega) (by omega) (by omega))
  have HF := Lib.hid (fun W B b a (h : FVal W B b 53 0 a (fO (obM x)) (obN x) (obM x) (obE x + k)) => float64_val b B 53 0 (fO (obM x)) a (obN x) (obM x) (obE x + k) W h hfo (fun _ => by decide) (by decide) (fun h1 => by
    have hM : 0 < obM x := by unfold fO at h1; split at h1 <;> omega
    have := hne hM
    omega))
  rw [(bf_f64 _ _ _).1, (bf_f64 _ _ _).2] at HF
  obtain ⟨hb1, hb2⟩ := bf_bd (obN x) (obM x) (obE x + k)
  obtain ⟨V, hV⟩ : ∃ V, V = bfV (obN x) (obM x) (obE x + k) := ⟨_, rfl⟩
  obtain ⟨A, hA⟩ : ∃ A, A = bfA (obN x) (obM x) (obE x + k) := ⟨_, rfl⟩
  rw [← hV, ← hA] at HF
  rw [← hV] at hb1
  rw [← hA] at hb2
  rw [← hV, ← hA]
  clear hV hA hbx k0 k1 k2 hfo hne hf hE
  have HR2 : Hid (FltR ((w.alloc newF).alloc newF) (w.heap.size + 1) 0 0 0 0 false (.slice none 0 0) 0) := Lib.hid (by
    have := newF_row (w.alloc newF)
    simpa using this)
  have HR1 : Hid (FltR ((w.alloc newF).alloc newF) w.heap.size 0 0 0 0 false (.slice none 0 0) 0) := Lib.hid ((newF_row w).below (fbone newF))
  have HBA : Hid (Below w.heap.size w ((w.alloc newF).alloc newF)) := Lib.hid (bthen (fbone newF) (fbone newF))
  go_enter Try.func23, Try.ntmps23
  go_wp2_with (simp only [f64from])
  refine (HS.out _ (w.heap.size + 1) (w.heap.size + 1) HR2.out (Nat.le_refl _)).mono ?_
  rintro _ w2 ⟨rfl, hv, hb2'⟩
  have GX := Lib.hid hv
  have G0 : Hid (FltR w2 w.heap.size 0 0 0 0 false (.slice none 0 0) 0) := Lib.hid (keep_row' hb2' HR1.out (Nat.lt_succ_self _))
  have B2 := Lib.hid (HBA.out.trans (hb2'.mono (Nat.le_succ _)))
  have hgx : Hid (w.heap.size ≠ w.heap.size + 1) := Lib.hid (by omega)
  clear hv hb2'
  go_wp2_with fail
  refine (HSM.out w2 w.heap.size w.heap.size _ _ _ G0.out (Nat.le_refl _) GX.out hgx.out).mono ?_
  rintro _ w3 ⟨rfl, hv, hb3⟩
  have F3 := Lib.hid hv
  have B3 := Lib.hid (B2.out.trans hb3)
  have h3s := B3.out.size
  clear hv hb3
  go_wp2_with fail
  refine (HF.out w3 _ _ _ F3.out).mono ?_
  rintro _ w4 ⟨rfl, hb4⟩
  have B4 := Lib.hid (B3.out.trans (hb4.mono h3s))
  clear hb4
  go_wp2_with (simp only)
  go_ret2
  exact ⟨rfl, B4.out⟩
set_option maxRecDepth 100000 in
set_option maxHeartbeats 3200000 in
theorem lawScaleBits (a0 a1 : Int) (w : World) (l0 : 0 ≤ a0) (h0 : a0 ≤ 18446744073709551615) (l1 : -32768 ≤ a1) (h1 : a1 ≤ 32767) :
    Calls Try.prog 7 #[.int .u64 a0, .int .i16 a1] w fun e' w' => e' = .returned (.bool true) ∧ Below w.heap.size w w' := by
  obtain ⟨x, rfl⟩ := Int.eq_ofNat_of_zero_le l0
  have hx : x < 18446744073709551616 := by omega
  obtain ⟨k, hk⟩ : ∃ k : Int, k = a1.tmod 3001 := ⟨_, rfl⟩
  have hkb : -3001 < k ∧ k < 3001 := by
    have h1 := Int.natAbs_tmod a1 3001
    have h2 := Nat.mod_lt a1.natAbs (show 0 < (3001 : Int).natAbs by decide)
    rw [← h1, ← hk] at h2
    have h3 : (3001 : Int).natAbs = 3001 := rfl
    omega
  have hk' : a1.tmod 3001 = k := hk.symm
  obtain ⟨hk1, hk2⟩ := hkb
  have HFN := Lib.hid (fun W => finite_any x W hx)
  have HO := Lib.hid (fun W => spOfBits' x W hx)
  have hbx := bl_obM x
  have hE : -1074 ≤ obE x ∧ obE x ≤ 972 := by unfold obE; omega
  have HBW := Lib.hid (fun (a : Value) (W : World) (h : NatV W a (obM x)) => between_any (obN x) a (obE x + k) (obM x) (-1074) 971 53 W h (by omega) (by omega) (by decide) (by decide) (by decide))
  have HFO := Lib.hid (fun (a : Value) (W : World) (h : NatV W a (obM x)) => flo_any (obN x) a (obE x + k) (obM x) W h (by omega) (by omega))
  have HIM := Lib.hid (fun (W : World) (hf : obF x) (hne : 0 < obM x → obE x + k + bl (obM x) ≠ -1074) => impScaleBits x k W hx hf (by omega) (by omega) hne)
  obtain ⟨hb1, hb2⟩ := bf_bd (obN x) (obM x) (obE x + k)
  obtain ⟨V, hV⟩ : ∃ V, V = bfV (obN x) (obM x) (obE x + k) := ⟨_, rfl⟩
  obtain ⟨A, hA⟩ : ∃ A, A = bfA (obN x) (obM x) (obE x + k) := ⟨_, rfl⟩
  rw [← hV, ← hA] at HFO HIM
  rw [← hV] at hb1
  rw [← hA] at hb2
  obtain ⟨n, hn⟩ : ∃ n, n = obN x := ⟨_, rfl⟩
  obtain ⟨M, hM⟩ : ∃ M, M = obM x := ⟨_, rfl⟩
  obtain ⟨E, hEE⟩ : ∃ E, E = obE x := ⟨_, rfl⟩
  rw [← hn, ← hM, ← hEE] at HO HBW HFO
  rw [← hM, ← hEE] at HIM
  rw [← hEE] at hE
  have hEk : E + k = k + E := Int.add_comm _ _
  obtain ⟨X, hX⟩ : ∃ X : Int, X = E + k := ⟨_, rfl⟩
  have hX' : E + k = X := hX.symm
  have hXb : -5000 ≤ X ∧ X ≤ 5000 := by omega
  rw [← hX] at HBW HFO HIM
  have HFG : Hid (x / 4503599627370496 % 2048 < 2047 → obF x) := Lib.hid (fun h => obF_field.2 (by omega))
  clear hV hA hn hM hEE hX hk hEk hbx
  go_enter Try.func7, Try.ntmps7
  go_wp2_with fail
  refine (HO.out w).mono ?_
  rintro _ w1 ⟨a, rfl, hd, hb⟩
  have hTa := hd.isS
  obtain ⟨Y, hY⟩ : ∃ Y, Y = w1.alloc (.cells #[.bool n, a, .int .i64 E] 32) := ⟨_, rfl⟩
  have hbY : Below w1.heap.size w1 Y := by rw [hY]; exact fbone _
  have hrY : Y.heap[w1.heap.size]? = some (.cells #[.bool n, a, .int .i64 E] 32 (0, 0)) := by rw [hY]; exact row_chain11
  have hw1 : w.heap.size ≤ w1.heap.size := hb.size
  obtain ⟨Z, hZ⟩ : ∃ Z, Z = Y.setCell ⟨w1.heap.size, 2, none⟩ (.int .i64 X) := ⟨_, rfl⟩
  have hrZ : Z.heap[w1.heap.size]? = some (.cells #[.bool n, a, .int .i64 X] 32 (0, 0)) := by rw [hZ]; exact rowset (i := 2) (.int .i64 X) hrY
  have HNZ : Hid (NatV Z a M) := Lib.hid (by rw [hZ]; exact natv_set2' hd hY)
  have HBZ : Hid (Below w.heap.size w Z) := Lib.hid (by rw [hZ]; exact bset (i := 2) (u := .int .i64 X) (bthen hb hbY) hw1)
  have HRZ := Lib.hid hrZ
  have hZs := HBZ.out.size
  obtain ⟨x0, x1, x2, f0, f1, f2⟩ := row3 hrY
  clear hd hb hbY hrY hrZ hw1
  go_upto_region 3 with fail
  rw [← hY]
  clear hY
  go_upto_region 4 with fail
  rw [← hZ]
  clear hZ x0 x1 x2 f0 f1 f2
  obtain ⟨x0, x1, x2, -, -, -⟩ := row3 HRZ.out
  go_wp2_with fail
  refine (HFN.out Z).mono ?_
  rintro _ _ ⟨rfl, rfl⟩
  by_cases hg : x / 4503599627370496 % 2048 < 2047
  case neg =>
    rw [decide_eq_false hg]
    clear hg
    go_wp2
    go_ret
    exact ⟨rfl, HBZ.out⟩
  rw [decide_eq_true hg]
  have HOF := Lib.hid (HFG.out hg)
  clear hg
  go_wp2_with fail
  refine (HBW.out a _ HNZ.out).mono ?_
  rintro _ w5 ⟨r, rfl, hne, hb5⟩
  have HNE := Lib.hid hne
  have HB5 := Lib.hid (HBZ.out.trans (hb5.mono hZs))
  have HR5 := Lib.hid (keep_row hb5 HRZ.out)
  have HN5 := Lib.hid (HNZ.out.below hb5)
  have h5s := HB5.out.size
  clear hb5 hne x0 x1 x2
  cases r with
  | true =>
    go_wp2
    go_ret
    exact ⟨rfl, HB5.out⟩
  | false =>
  have HIM2 := Lib.hid (HIM.out w5 HOF.out (HNE.out rfl))
  clear HNE HIM
  go_wp2_with fail
  refine HIM2.out.mono ?_
  rintro _ w6 ⟨rfl, hb6⟩
  have HB6 := Lib.hid (HB5.out.trans (hb6.mono h5s))
  have h6s := HB6.out.size
  have HN6 := Lib.hid (HN5.out.below hb6)
  obtain ⟨x0, x1, x2, -, -, -⟩ := row3 (keep_row hb6 HR5.out)
  clear hb6
  go_wp2_with fail
  refine (HFO.out a w6 HN6.out).mono ?_
  rintro _ w7 ⟨rfl, hb7⟩
  have HB7 := Lib.hid (HB6.out.trans (hb7.mono h6s))
  clear hb7
  go_wp2
  go_ret
  exact ⟨rfl, HB7.out⟩
end Go.Proofs.Ytlgnaioodnhkjaa
