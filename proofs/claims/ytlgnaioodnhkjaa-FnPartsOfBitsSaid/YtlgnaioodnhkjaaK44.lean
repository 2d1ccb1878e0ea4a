/-
Texts of this proof, joined: FdM. No condition.
-/
import Derived.Test.YtlgnaioodnhkjaaK21
import Derived.Test.YtlgnaioodnhkjaaK33
import Derived.Test.YtlgnaioodnhkjaaK36
import Derived.Test.YtlgnaioodnhkjaaK38
import Derived.Test.YtlgnaioodnhkjaaK41
/-
The statement on the mantissa and the exponent of a float64. No condition.
-/
namespace Go.Proofs.Ytlgnaioodnhkjaa
open Go.RowKit

/-- What MantExp and Float64 answer. -/
def ptV (x : Nat) : Nat := f64V (obO x) (obN x) (obM x) (-(bl (obM x) : Int))
def ptE (x : Nat) : Int := mxE (obO x) (obM x) (obE x)
set_option maxRecDepth 100000 in
set_option maxHeartbeats 1600000 in
theorem impPartsOfBits (x : Nat) (w : World) (hx : x < 18446744073709551616) (hx2 : x % 9223372036854775808 ≤ 9218868437227405312) :
    Calls Try.prog 16 #[.int .u64 x] w fun e' w' => e' = .returned (.tuple #[.int .u64 (ptV x : Nat), .int .i64 (ptE x)]) ∧ Below w.heap.size w w' := by
  have hbx := bl_obM x
  have hE := obE_bd' x
  have hfo := obO_le x
  have HS := Lib.hid (setF64_all x hx hx2)
  have HME := Lib.hid (fun (W : World) (b B c Bx : Nat) (a : Int) (h : FltR W b 0 0 0 0 false (.slice none 0 0) 0) (hB : B ≤ b) (hx : FVal W Bx c 53 0 a (obO x) (obN x) (obM x) (obE x)) (hbc : b ≠ c) =>
    mantExp_val b B c Bx 0 0 0 53 0 (obO x) 0 0 a false (obN x) (obM x) (obE x) W h hB hx hbc hfo (fun _ => by omega))
  have HF := Lib.hid (fun W B b a (h : FVal W B b 53 0 a (obO x) (obN x) (obM x) (-(bl (obM x) : Int))) => float64_val b B 53 0 (obO x) a (obN x) (obM x) (-(bl (obM x) : Int)) W h hfo (fun _ => by decide) (by decide) (fun _ => by omega))
  obtain ⟨hb1, hb2⟩ := f64_bd (obO x) (obN x) (obM x) (-(bl (obM x) : Int))
  have hpe : -2000 ≤ ptE x ∧ ptE x ≤ 2000 := by unfold ptE mxE; split <;> omega
  obtain ⟨A, hA⟩ : ∃ A, A = f64A (obO x) (obN x) (obM x) (-(bl (obM x) : Int)) := ⟨_, rfl⟩
  rw [← hA] at HF hb2
  obtain ⟨V, hV⟩ : ∃ V, V = ptV x := ⟨_, rfl⟩
  rw [show f64V (obO x) (obN x) (obM x) (-(bl (obM x) : Int)) = ptV x from rfl, ← hV] at HF hb1
  obtain ⟨X, hX⟩ : ∃ X, X = ptE x := ⟨_, rfl⟩
  rw [show mxE (obO x) (obM x) (obE x) = ptE x from rfl, ← hX] at HME
  rw [← hX] at hpe
  rw [← hV, ← hX]
  clear hV hX hA hbx hE hfo
  have HR2 : Hid (FltR ((w.alloc newF).alloc newF) (w.heap.size + 1) 0 0 0 0 false (.slice none 0 0) 0) := Lib.hid (by
    have := newF_row (w.alloc newF)
    simpa using this)
  have HR1 : Hid (FltR ((w.alloc newF).alloc newF) w.heap.size 0 0 0 0 false (.slice none 0 0) 0) := Lib.hid ((newF_row w).below (fbone newF))
  have HBA : Hid (Below w.heap.size w ((w.alloc newF).alloc newF)) := Lib.hid (bthen (fbone newF) (fbone newF))
  go_enter Try.func16, Try.ntmps16
  go_wp2_with (simp only [f64from])
  refine (HS.out _ (w.heap.size + 1) (w.heap.size + 1) HR2.out (Nat.le_refl _)).mono ?_
  rintro _ w2 ⟨rfl, ⟨a, hv⟩, hb2'⟩
  have GX := Lib.hid hv
  have G0 : Hid (FltR w2 w.heap.size 0 0 0 0 false (.slice none 0 0) 0) := Lib.hid (keep_row' hb2' HR1.out (Nat.lt_succ_self _))
  have B2 := Lib.hid (HBA.out.trans (hb2'.mono (Nat.le_succ _)))
  have hgx : Hid (w.heap.size ≠ w.heap.size + 1) := Lib.hid (by omega)
  clear hv hb2'
  go_wp2_with fail
  refine (HME.out w2 w.heap.size w.heap.size _ _ _ G0.out (Nat.le_refl _) GX.out hgx.out).mono ?_
  rintro _ w3 ⟨rfl, hv, hb3⟩
  have F3 := Lib.hid hv
  have B3 := Lib.hid (B2.out.trans hb3)
  have h3s := B3.out.size
  clear hv hb3
  go_wp2_with fail
  refine (HF.out w3 _ _ _ F3.out).mono ?_
  rintro _ w4 ⟨rfl, hb4⟩
  have B4 := Lib.hid (B3.out.trans (hb4.mono h3s))
  clear hb4
  go_wp2_with (simp only)
  go_ret2
  exact ⟨rfl, B4.out⟩
/-- What is neither 0 nor infinite. -/
theorem pt_one {x : Nat} (hf : obF x) (hM : 0 < obM x) : ptV x = bfV (obN x) (obM x) (-(bl (obM x) : Int)) ∧ ptE x = obE x + bl (obM x) := by
  have h1 : fO (obM x) = 1 := if_neg (by omega)
  unfold ptV ptE
  rw [obO_fin hf]
  refine ⟨(bf_f64 _ _ _).1, ?_⟩
  rw [h1]; exact if_pos rfl
/-- 0 and infinities. -/
theorem pt_other {x : Nat} (hx : x < 18446744073709551616) (hx2 : x % 9223372036854775808 ≤ 9218868437227405312) (h : ¬ obF x ∨ obM x = 0) : ptV x = x ∧ ptE x = 0 := by
  have hS : (if obN x = true then 9223372036854775808 else 0) + x % 9223372036854775808 = x := by
    unfold obN
    by_cases h : 9223372036854775808 ≤ x
    · rw [decide_eq_true h, if_pos rfl]; omega
    · rw [decide_eq_false h, if_neg (by decide)]; omega
  by_cases hi : x % 9223372036854775808 = 9218868437227405312
  · unfold ptV ptE
    rw [obO_inf hi]
    rw [hi] at hS
    exact ⟨by simpa [f64V] using hS, by simp [mxE]⟩
  · have hf : obF x := by unfold obF; omega
    have hM : obM x = 0 := by rcases h with h | h; exact absurd hf h; exact h
    have h0 : x % 9223372036854775808 = 0 := by unfold obM at hM; split at hM <;> omega
    unfold ptV ptE
    rw [obO_fin hf, hM]
    rw [h0] at hS
    exact ⟨by simpa [f64V, fO] using hS, by simp [mxE, fO]⟩
set_option maxRecDepth 100000 in
set_option maxHeartbeats 3200000 in
theorem lawPartsOfBits (a0 : Int) (w : World) (l0 : 0 ≤ a0) (h0 : a0 ≤ 18446744073709551615) :
    Calls Try.prog 5 #[.int .u64 a0] w fun e' w' => e' = .returned (.bool true) ∧ Below w.heap.size w w' := by
  obtain ⟨x, rfl⟩ := Int.eq_ofNat_of_zero_le l0
  have hx : x < 18446744073709551616 := by omega
  have hand := and_top64 hx
  obtain ⟨r, hr⟩ : ∃ r, r = x % 9223372036854775808 := ⟨_, rfl⟩
  rw [← hr] at hand
  by_cases hnan : r ≤ 9218868437227405312
  case neg =>
    have t1 : decide (9218868437227405312 < r) = true := decide_eq_true (by omega)
    have t1' : decide ((9218868437227405312 : Int) < (r : Int)) = true := decide_eq_true (by omega)
    have HW := Lib.hid (Below.refl w.heap.size w)
    clear hnan hr
    go_enter Try.func5, Try.ntmps5
    go_wp2
    go_ret
    exact ⟨rfl, HW.out⟩
  have t1 : decide (9218868437227405312 < r) = false := decide_eq_false (by omega)
  have t1' : decide ((9218868437227405312 : Int) < (r : Int)) = false := decide_eq_false (by omega)
  have hx2 : x % 9223372036854775808 ≤ 9218868437227405312 := by omega
  have HI := Lib.hid (fun W => impPartsOfBits x W hx hx2)
  have HO := Lib.hid (fun W => spOfBits' x W hx)
  have HFN := Lib.hid (fun W => finite_any x W hx)
  have hbx := bl_obM x
  have hE := obE_bd' x
  have hnl : nl (obM x) ≤ 1000 := nl_of_bl (by omega)
  have HLN := Lib.hid (fun (a : Value) (W : World) (h : NatV W a (obM x)) => spLen a (obM x) W h (by omega))
  have HFO := Lib.hid (fun (a : Value) (W : World) (h : NatV W a (obM x)) => flo_any (obN x) a (-(bl (obM x) : Int)) (obM x) W h (by omega) (by omega))
  obtain ⟨hc1, hc2⟩ := bf_bd (obN x) (obM x) (-(bl (obM x) : Int))
  have HONE : Hid (obF x → 0 < obM x → ptV x = bfV (obN x) (obM x) (-(bl (obM x) : Int)) ∧ ptE x = obE x + bl (obM x)) := Lib.hid pt_one
  have HOTH : Hid ((¬ obF x ∨ obM x = 0) → ptV x = x ∧ ptE x = 0) := Lib.hid (pt_other hx hx2)
  have hpe : -2000 ≤ ptE x ∧ ptE x ≤ 2000 := by unfold ptE mxE; split <;> omega
  have hpv : ptV x < 18446744073709551616 := (f64_bd _ _ _ _).1
  obtain ⟨V, hV⟩ : ∃ V, V = bfV (obN x) (obM x) (-(bl (obM x) : Int)) := ⟨_, rfl⟩
  obtain ⟨A, hA⟩ : ∃ A, A = bfA (obN x) (obM x) (-(bl (obM x) : Int)) := ⟨_, rfl⟩
  rw [← hV, ← hA] at HFO
  rw [← hV] at HONE hc1
  rw [← hA] at hc2
  obtain ⟨PV, hPV⟩ : ∃ V, V = ptV x := ⟨_, rfl⟩
  obtain ⟨PE, hPE⟩ : ∃ V, V = ptE x := ⟨_, rfl⟩
  rw [← hPV, ← hPE] at HI HONE HOTH
  rw [← hPV] at hpv
  rw [← hPE] at hpe
  obtain ⟨n, hn⟩ : ∃ n, n = obN x := ⟨_, rfl⟩
  obtain ⟨M, hM⟩ : ∃ M, M = obM x := ⟨_, rfl⟩
  obtain ⟨E, hEE⟩ : ∃ E, E = obE x := ⟨_, rfl⟩
  rw [← hn, ← hM, ← hEE] at HO
  rw [← hn, ← hM] at HFO
  rw [← hM] at HLN HOTH
  rw [← hM, ← hEE] at HONE
  rw [← hEE] at hE
  rw [← hM] at hbx
  obtain ⟨l, hl⟩ : ∃ l, l = bl M := ⟨_, rfl⟩
  rw [← hl] at HLN HFO HONE hbx
  have HM0 : Hid (l = 0 ↔ M = 0) := Lib.hid (by
    rw [hl]
    constructor
    · intro h
      rcases Nat.eq_zero_or_pos M with h' | h'
      · exact h'
      · have := bl_pos h'; omega
    · intro h; rw [h]; exact bl_zero)
  have HFG : Hid (x / 4503599627370496 % 2048 < 2047 ↔ obF x) := Lib.hid (by rw [obF_field]; omega)
  obtain ⟨L, hL⟩ : ∃ L : Int, L = -(l : Int) := ⟨_, rfl⟩
  have hL' : -(l : Int) = L := hL.symm
  have hLb : -60 ≤ L ∧ L ≤ 0 := by omega
  rw [hL'] at HFO
  clear hV hA hPV hPE hn hM hEE hl hL hx2 hnan hnl hr
  go_enter Try.func5, Try.ntmps5
  go_wp2_with fail
  refine (HI.out w).mono ?_
  rintro _ w1 ⟨rfl, hb1'⟩
  have HB1 := Lib.hid hb1'
  have h1s := HB1.out.size
  clear hb1'
  go_wp2_with fail
  refine (HO.out w1).mono ?_
  rintro _ w2 ⟨a, rfl, hd, hb⟩
  have hTa := hd.isS
  obtain ⟨Y, hY⟩ : ∃ Y, Y = w2.alloc (.cells #[.bool n, a, .int .i64 E] 32) := ⟨_, rfl⟩
  have hbY : Below w2.heap.size w2 Y := by rw [hY]; exact fbone _
  have hrY : Y.heap[w2.heap.size]? = some (.cells #[.bool n, a, .int .i64 E] 32 (0, 0)) := by rw [hY]; exact row_chain11
  have HNY := Lib.hid (hd.below hbY)
  have HBY := Lib.hid (HB1.out.trans ((bthen hb hbY).mono h1s))
  have hYs := HBY.out.size
  obtain ⟨x0, x1, x2, -, -, -⟩ := row3 hrY
  have HROW := Lib.hid hrY
  clear hd hb hbY hrY
  go_upto_region 5 with fail
  rw [← hY]
  clear hY
  go_wp2_with fail
  refine (HLN.out a Y HNY.out).mono ?_
  rintro _ _ ⟨rfl, rfl⟩
  by_cases hl0 : l = 0
  · have t2 : ((l : Int) == 0) = true := by rw [hl0]; rfl
    have K := Lib.hid (HOTH.out (.inr (HM0.out.1 hl0)))
    have k1 : ((PV : Int) == (x : Int)) = true := by rw [K.out.1]; simp
    have k2 : (PE == 0) = true := by rw [K.out.2]; rfl
    clear hl0
    go_wp2
    go_ret
    exact ⟨rfl, HBY.out⟩
  · have t2 : ((l : Int) == 0) = false := by rw [beq_eq_false_iff_ne]; omega
    have HMP : Hid (0 < M) := Lib.hid (by have := HM0.out; omega)
    clear hl0
    go_wp2_with fail
    refine (HFN.out Y).mono ?_
    rintro _ _ ⟨rfl, rfl⟩
    by_cases hg : x / 4503599627370496 % 2048 < 2047
    · rw [decide_eq_true hg]
      have K := Lib.hid (HONE.out (HFG.out.1 hg) HMP.out)
      clear hg
      have k1 : ((PV : Int) == (V : Int)) = true := by rw [K.out.1]; simp
      have k2 : (PE == E + (l : Int)) = true := by rw [K.out.2]; simp
      go_wp2_with fail
      refine (HFO.out a Y HNY.out).mono ?_
      rintro _ w3 ⟨rfl, hb3⟩
      have HB3 := Lib.hid (HBY.out.trans (hb3.mono hYs))
      obtain ⟨y0, y1, y2, -, -, -⟩ := row3 (keep_row hb3 HROW.out)
      clear hb3 x0 x1 x2
      go_wp2
      go_ret
      exact ⟨rfl, HB3.out⟩
    · rw [decide_eq_false hg]
      have K := Lib.hid (HOTH.out (.inl (fun h => hg (HFG.out.2 h))))
      have k1 : ((PV : Int) == (x : Int)) = true := by rw [K.out.1]; simp
      have k2 : (PE == 0) = true := by rw [K.out.2]; rfl
      clear hg
      go_wp2
      go_ret
      exact ⟨rfl, HBY.out⟩
end Go.Proofs.Ytlgnaioodnhkjaa
