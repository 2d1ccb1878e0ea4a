/-
Texts of this proof, joined: FdK. No condition.
-/
import Derived.Test.YtlgnaioodnhkjaaK15
import Derived.Test.YtlgnaioodnhkjaaK21
import Derived.Test.YtlgnaioodnhkjaaK33
import Derived.Test.YtlgnaioodnhkjaaK40
import Derived.Test.YtlgnaioodnhkjaaK41
import Derived.OwnWalk
/-
The statement on rounding a float64. No condition.
-/
namespace Go.Proofs.Ytlgnaioodnhkjaa
open Go.RowKit

theorem fO_rQ {p m M : Nat} (n : Bool) (hp : 0 < p) : fO (rQ p m n 0 M) = fO M := by
  by_cases h : M = 0
  · subst h; rw [(rQ_fits (p := p) (m := m) n (show bl 0 ≤ p by rw [bl_zero]; omega)).2.1]
  · have := rQ_pos (M := M) (p := p) (m := m) n 0 hp (by omega)
    unfold fO; rw [if_neg h, if_neg (by omega)]
set_option maxRecDepth 100000 in
set_option maxHeartbeats 1600000 in
theorem impRoundBits (q k : Nat) (x : Nat) (w : World) (hq : q ≤ 100) (hk : k ≤ 5) (hx : x < 18446744073709551616) (hf : obF x) :
    Calls Try.prog 20 #[.int .u64 q, .int .i64 k, .int .u64 x] w fun e' w' => e' = .returned (.tuple #[.int .u64 (bfV (obN x) (rQ (pD q 53) k (obN x) 0 (obM x)) (obE x + (rk (pD q 53) (obM x) : Nat)) : Nat), .int .i64 (bfA (obN x) (rQ (pD q 53) k (obN x) 0 (obM x)) (obE x + (rk (pD q 53) (obM x) : Nat))), .int .i64 (rA (pD q 53) k (obN x) 0 (obM x))]) ∧ Below w.heap.size w w' := by
  have hpo : pD q 53 ≤ 100 ∧ 0 < pD q 53 := ⟨pD_le hq (by decide), pD_pos (by decide)⟩
  have hbx := bl_obM x
  have hE := obE_bd hf
  have hrk := rk_le (pD q 53) (obM x)
  have hbr := bl_rQ (pD q 53) k (obN x) 0 (obM x)
  have hfo : fO (obM x) ≤ 2 := fO_le _
  have HSV := Lib.hid (fun (W : World) (b B : Nat) (h : FltR W b q k 0 0 false (.slice none 0 0) 0) (hB : B ≤ b) => setF64_val b B q k 0 0 0 false x W h hB (by omega) hk hx hf)
  rw [sbA_eq] at HSV
  have HF := Lib.hid (fun (W : World) (B g : Nat) (a : Int) (h : FVal W B g (pD q 53) k a (fO (obM x)) (obN x) (rQ (pD q 53) k (obN x) 0 (obM x)) (obE x + (rk (pD q 53) (obM x) : Nat))) => float64_val g B (pD q 53) k (fO (obM x)) a (obN x) _ _ W h hfo (fun _ => hpo.2) (by omega) (fun h1 => by
    have hM : 0 < obM x := by unfold fO at h1; split at h1 <;> omega
    have := bl_pos (rQ_pos (M := obM x) (p := pD q 53) (m := k) (obN x) 0 hpo.2 hM)
    omega))
  rw [← fO_rQ (p := pD q 53) (m := k) (M := obM x) (obN x) hpo.2] at HF
  rw [(bf_f64 _ _ _).1, (bf_f64 _ _ _).2] at HF
  rw [fO_rQ (p := pD q 53) (m := k) (M := obM x) (obN x) hpo.2] at HF
  obtain ⟨hb1, hb2⟩ := bf_bd (obN x) (rQ (pD q 53) k (obN x) 0 (obM x)) (obE x + (rk (pD q 53) (obM x) : Nat))
  have hra := rA_bd (pD q 53) k (obN x) 0 (obM x)
  obtain ⟨V, hV⟩ : ∃ V, V = bfV (obN x) (rQ (pD q 53) k (obN x) 0 (obM x)) (obE x + (rk (pD q 53) (obM x) : Nat)) := ⟨_, rfl⟩
  obtain ⟨A, hA⟩ : ∃ A, A = bfA (obN x) (rQ (pD q 53) k (obN x) 0 (obM x)) (obE x + (rk (pD q 53) (obM x) : Nat)) := ⟨_, rfl⟩
  obtain ⟨D, hD⟩ : ∃ D, D = rA (pD q 53) k (obN x) 0 (obM x) := ⟨_, rfl⟩
  rw [← hV, ← hA] at HF
  rw [← hD] at HSV
  rw [← hV, ← hA, ← hD]
  rw [← hV] at hb1
  rw [← hA] at hb2
  rw [← hD] at hra
  clear hV hA hD hbx hE hrk hbr hpo hf
  go_enter Try.func20, Try.ntmps20
  go_wp2_with fail
  refine (fresh_all q k w (by omega) (by omega)).mono ?_
  rintro _ w1 ⟨g, rfl, ⟨hg, hF0⟩, hb1'⟩
  have GF := Lib.hid hF0
  have hgB : w.heap.size ≤ g := by omega
  have B1 := Lib.hid hb1'
  clear hF0 hb1' hg
  go_wp2_with (simp only)
  refine (HSV.out w1 g w.heap.size GF.out hgB).mono ?_
  rintro _ w2 ⟨rfl, hv, hb2'⟩
  have F2 := Lib.hid hv
  have B2 := Lib.hid (B1.out.trans hb2')
  have h2s := B2.out.size
  clear hv hb2'
  go_wp2_with fail
  refine (HF.out w2 _ g _ F2.out).mono ?_
  rintro _ w3 ⟨rfl, hb3⟩
  have F3 := Lib.hid (F2.out.below hb3)
  have B3 := Lib.hid (B2.out.trans (hb3.mono h2s))
  clear hb3
  obtain ⟨vv, ee, hr⟩ := F3.out.form
  have HR := Lib.hid hr
  clear hr
  go_wp2_with (simp only)
  refine (fAcc HR.out).mono ?_
  rintro _ _ ⟨rfl, rfl⟩
  go_wp2
  go_ret3
  exact ⟨rfl, B3.out⟩
set_option maxRecDepth 100000 in
set_option maxHeartbeats 3200000 in
theorem lawRoundBits (a0 a1 a2 : Int) (w : World) (l0 : 0 ≤ a0) (h0 : a0 ≤ 255) (l1 : 0 ≤ a1) (h1 : a1 ≤ 255) (l2 : 0 ≤ a2) (h2 : a2 ≤ 18446744073709551615) :
    Calls Try.prog 6 #[.int .u8 a0, .int .u8 a1, .int .u64 a2] w fun e' w' => e' = .returned (.bool true) ∧ Below w.heap.size w w' := by
  obtain ⟨b0, rfl⟩ := Int.eq_ofNat_of_zero_le l0
  obtain ⟨b1, rfl⟩ := Int.eq_ofNat_of_zero_le l1
  obtain ⟨x, rfl⟩ := Int.eq_ofNat_of_zero_le l2
  have hx : x < 18446744073709551616 := by omega
  have HFN := Lib.hid (finite_any x w hx)
  by_cases hg : x / 4503599627370496 % 2048 < 2047
  case neg =>
    rw [decide_eq_false hg] at HFN
    have HW := Lib.hid (Below.refl w.heap.size w)
    clear hg
    go_enter Try.func6, Try.ntmps6
    go_wp2_with fail
    refine HFN.out.mono ?_
    rintro _ _ ⟨rfl, rfl⟩
    go_wp2
    go_ret
    exact ⟨rfl, HW.out⟩
  have hf : obF x := obF_field.2 (by omega)
  rw [decide_eq_true hg] at HFN
  have e0 : (b0 : Int) % 70 = ((b0 % 70 : Nat) : Int) := by omega
  have e1 : (b1 : Int) % 6 = ((b1 % 6 : Nat) : Int) := by omega
  have hqb : b0 % 70 ≤ 69 := by omega
  have hkb : b1 % 6 ≤ 5 := by omega
  obtain ⟨q, hq⟩ : ∃ q, q = b0 % 70 := ⟨_, rfl⟩
  obtain ⟨k, hk⟩ : ∃ k, k = b1 % 6 := ⟨_, rfl⟩
  rw [← hq] at hqb e0
  rw [← hk] at hkb e1
  have hI := impRoundBits q k x w (by omega) hkb hx hf
  have hpo : pD q 53 ≤ 69 ∧ 0 < pD q 53 := ⟨pD_le hqb (by decide), pD_pos (by decide)⟩
  have hbx := bl_obM x
  have hE := obE_bd hf
  have hrk := rk_le (pD q 53) (obM x)
  have hbr := bl_rQ (pD q 53) k (obN x) 0 (obM x)
  have HO := Lib.hid (fun W => spOfBits x W hx hf)
  have HSR := Lib.hid (fun (W : World) (a : Value) (h : NatV W a (obM x)) => spRound (obN x) a (obE x) (obM x) (pD q 53) k W h (by omega) (by omega) hkb (by omega) (by omega))
  have HFO := Lib.hid (fun (W : World) (a : Value) (h : NatV W a (rQ (pD q 53) k (obN x) 0 (obM x))) => flo_any (obN x) a (obE x + (rk (pD q 53) (obM x) : Nat)) _ W h (by omega) (by omega))
  obtain ⟨hb1, hb2⟩ := bf_bd (obN x) (rQ (pD q 53) k (obN x) 0 (obM x)) (obE x + (rk (pD q 53) (obM x) : Nat))
  have hra := rA_bd (pD q 53) k (obN x) 0 (obM x)
  obtain ⟨V, hV⟩ : ∃ V, V = bfV (obN x) (rQ (pD q 53) k (obN x) 0 (obM x)) (obE x + (rk (pD q 53) (obM x) : Nat)) := ⟨_, rfl⟩
  obtain ⟨A, hA⟩ : ∃ A, A = bfA (obN x) (rQ (pD q 53) k (obN x) 0 (obM x)) (obE x + (rk (pD q 53) (obM x) : Nat)) := ⟨_, rfl⟩
  obtain ⟨D, hD⟩ : ∃ D, D = rA (pD q 53) k (obN x) 0 (obM x) := ⟨_, rfl⟩
  rw [← hV, ← hA] at HFO
  rw [← hV, ← hA, ← hD] at hI
  rw [← hD] at HSR
  rw [← hV] at hb1
  rw [← hA] at hb2
  rw [← hD] at hra
  obtain ⟨N, hN⟩ : ∃ N, N = rQ (pD q 53) k (obN x) 0 (obM x) := ⟨_, rfl⟩
  rw [← hN] at HSR HFO
  obtain ⟨E, hEE⟩ : ∃ E, E = obE x := ⟨_, rfl⟩
  rw [← hEE] at HO HSR HFO hE
  obtain ⟨M, hM⟩ : ∃ M, M = obM x := ⟨_, rfl⟩
  rw [← hM] at HO HSR HFO hrk hbx
  obtain ⟨n, hn⟩ : ∃ n, n = obN x := ⟨_, rfl⟩
  rw [← hn] at HO HSR HFO
  obtain ⟨F, hF⟩ : ∃ F : Int, F = E + (rk (pD q 53) M : Nat) := ⟨_, rfl⟩
  rw [← hF] at HSR HFO
  have hFb : -2000 ≤ F ∧ F ≤ 2000 := by omega
  have HI := Lib.hid hI
  clear hI hV hA hD hN hEE hM hn hF hrk hbr hbx hf hg hq hk l2 h2
  by_cases hq0 : q = 0
  · have t : ((q : Int) == 0) = true := by rw [hq0]; rfl
    have hZD : pD q 53 = 53 := by unfold pD; rw [if_pos hq0]
    rw [hZD] at hpo HSR
    clear hq0 hZD
    go_enter Try.func6, Try.ntmps6
    go_wp2_with fail
    refine HFN.out.mono ?_
    rintro _ _ ⟨rfl, rfl⟩
    go_wp2_with fail
    refine HI.out.mono ?_
    rintro _ w1 ⟨rfl, hb1'⟩
    have HB1 := Lib.hid hb1'
    have h1s := HB1.out.size
    clear hb1'
    go_wp2_with fail
    refine (HO.out w1).mono ?_
    rintro _ w2 ⟨b, rfl, hnb, hb2'⟩
    have hSb := hnb.isS
    have HNB := Lib.hid hnb
    have HB2 := Lib.hid (HB1.out.trans (hb2'.mono h1s))
    have h2s := HB2.out.size
    clear hnb hb2'
    go_wp2_with fail
    refine (HSR.out w2 b HNB.out).mono ?_
    rintro _ w3 ⟨r, rfl, hnr, hb3⟩
    have hSr := hnr.isS
    obtain ⟨Y, hY⟩ : ∃ Y, Y = w3.alloc (.cells #[.bool n, r, .int .i64 F] 32) := ⟨_, rfl⟩
    have hbY : Below w3.heap.size w3 Y := by rw [hY]; exact fbone _
    have hrY : Y.heap[w3.heap.size]? = some (.cells #[.bool n, r, .int .i64 F] 32 (0, 0)) := by rw [hY]; exact row_chain11
    obtain ⟨x0, x1, x2, -, -, -⟩ := row3 hrY
    have HNY := Lib.hid (hnr.below hbY)
    have HBY := Lib.hid (HB2.out.trans ((bthen hb3 hbY).mono h2s))
    have hYs := HBY.out.size
    clear hnr hb3 hbY hrY
    go_upto_region 8 with fail
    rw [← hY]
    clear hY
    go_wp2_with fail
    refine (HFO.out Y r HNY.out).mono ?_
    rintro _ w4 ⟨rfl, hb4⟩
    have HB4 := Lib.hid (HBY.out.trans (hb4.mono hYs))
    clear hb4
    go_wp2
    go_ret
    exact ⟨rfl, HB4.out⟩
  · have t : ((q : Int) == 0) = false := by rw [beq_eq_false_iff_ne]; omega
    have hZD : pD q 53 = q := by unfold pD; rw [if_neg hq0]
    rw [hZD] at hpo HSR
    clear hq0 hZD
    go_enter Try.func6, Try.ntmps6
    go_wp2_with fail
    refine HFN.out.mono ?_
    rintro _ _ ⟨rfl, rfl⟩
    go_wp2_with fail
    refine HI.out.mono ?_
    rintro _ w1 ⟨rfl, hb1'⟩
    have HB1 := Lib.hid hb1'
    have h1s := HB1.out.size
    clear hb1'
    go_wp2_with fail
    refine (HO.out w1).mono ?_
    rintro _ w2 ⟨b, rfl, hnb, hb2'⟩
    have hSb := hnb.isS
    have HNB := Lib.hid hnb
    have HB2 := Lib.hid (HB1.out.trans (hb2'.mono h1s))
    have h2s := HB2.out.size
    clear hnb hb2'
    go_wp2_with fail
    refine (HSR.out w2 b HNB.out).mono ?_
    rintro _ w3 ⟨r, rfl, hnr, hb3⟩
    have hSr := hnr.isS
    obtain ⟨Y, hY⟩ : ∃ Y, Y = w3.alloc (.cells #[.bool n, r, .int .i64 F] 32) := ⟨_, rfl⟩
    have hbY : Below w3.heap.size w3 Y := by rw [hY]; exact fbone _
    have hrY : Y.heap[w3.heap.size]? = some (.cells #[.bool n, r, .int .i64 F] 32 (0, 0)) := by rw [hY]; exact row_chain11
    obtain ⟨x0, x1, x2, -, -, -⟩ := row3 hrY
    have HNY := Lib.hid (hnr.below hbY)
    have HBY := Lib.hid (HB2.out.trans ((bthen hb3 hbY).mono h2s))
    have hYs := HBY.out.size
    clear hnr hb3 hbY hrY
    go_upto_region 8 with fail
    rw [← hY]
    clear hY
    go_wp2_with fail
    refine (HFO.out Y r HNY.out).mono ?_
    rintro _ w4 ⟨rfl, hb4⟩
    have HB4 := Lib.hid (HBY.out.trans (hb4.mono hYs))
    clear hb4
    go_wp2
    go_ret
    exact ⟨rfl, HB4.out⟩
end Go.Proofs.Ytlgnaioodnhkjaa
