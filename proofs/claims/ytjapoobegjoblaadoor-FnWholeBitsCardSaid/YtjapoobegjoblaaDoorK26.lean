/-
Texts of this proof, joined: IfF. No condition.
-/
import Derived.Test.YtjapoobegjoblaaDoorK24
import Derived.OwnWalk
/-
The statement on rounding a number of 64 bits. No condition.
-/
namespace Go.Proofs.YtjapoobegjoblaaDoor
open Go.RowKit

theorem sI_decide (x : Int) : sI (decide (x < 0)) x.natAbs = x := by
  by_cases h : x < 0
  · rw [decide_eq_true h]; simp only [sI, if_true]; omega
  · rw [decide_eq_false h]; simp only [sI, Bool.false_eq_true, if_false]; omega
theorem i64_fO {S q k : Nat} {s sg : Bool} {X : Int} (h : S ≠ 0 → sg = s) : i64V sg (dyM (fO S) (rQ q k s 0 S)) (dyE (fO S) X) = i64V s (rQ q k s 0 S) X ∧ i64A sg (dyM (fO S) (rQ q k s 0 S)) (dyE (fO S) X) = i64A s (rQ q k s 0 S) X := by
  by_cases h0 : S = 0
  · subst h0
    rw [(rQ_zero q k s).2.1, show dyM (fO 0) 0 = 0 from rfl, show dyE (fO 0) X = 0 from rfl]
    rw [(i64_zero sg 0).1, (i64_zero sg 0).2, (i64_zero s X).1, (i64_zero s X).2]
    exact ⟨rfl, rfl⟩
  · rw [show fO S = 1 from if_neg h0, h h0]
    exact ⟨rfl, rfl⟩
theorem i64_sum {ng : Bool} {M p m : Nat} {V X : Int} (h : sI ng M = V) :
    rA p m ng 0 M = rA p m (vN V) 0 V.natAbs ∧ rk p M = rk p V.natAbs ∧ i64V ng (rQ p m ng 0 M) X = i64V (vN V) (rQ p m (vN V) 0 V.natAbs) X ∧ i64A ng (rQ p m ng 0 M) X = i64A (vN V) (rQ p m (vN V) 0 V.natAbs) X := by
  subst h
  rw [natAbs_sI]
  rcases Nat.eq_zero_or_pos M with h0 | h0
  · subst h0
    obtain ⟨a1, a2, a3⟩ := rQ_zero p m ng
    obtain ⟨b1, b2, b3⟩ := rQ_zero p m (vN (sI ng 0))
    rw [a2, a3, b2, b3, (i64_zero _ X).1, (i64_zero _ X).2, (i64_zero _ X).1, (i64_zero _ X).2]
    exact ⟨rfl, rfl, rfl, rfl⟩
  · rw [vN_sI h0]
    exact ⟨rfl, rfl, rfl, rfl⟩
set_option maxRecDepth 100000 in
set_option maxHeartbeats 1600000 in
theorem impRoundInt (q k : Nat) (x V : Int) (hV : V = x) (w : World) (hq : q ≤ 1000000) (hk : k ≤ 5) (hx1 : -9223372036854775808 ≤ x) (hx2 : x ≤ 9223372036854775807) (hT : TabW w) :
    Calls Tryd.prog 36 #[.int .u64 q, .int .i64 k, .int .i64 x] w fun e' w' => e' = .returned (.tuple #[.int .i64 (i64V (vN V) (rQ (pD q 64) k (vN V) 0 V.natAbs) (0 + (rk (pD q 64) V.natAbs : Nat))), .int .i64 (i64A (vN V) (rQ (pD q 64) k (vN V) 0 V.natAbs) (0 + (rk (pD q 64) V.natAbs : Nat))), .int .i64 (rA (pD q 64) k (vN V) 0 V.natAbs)]) ∧ Below w.heap.size w w' := by
  obtain rfl : x = V := hV.symm
  have hZ : pD q 64 ≤ 1000000 := pD_le hq (by decide)
  have hbx : bl x.natAbs ≤ 64 := bl_le (k := 64) (by omega)
  have hrk := rk_le (pD q 64) x.natAbs
  have hbr := bl_rQ (pD q 64) k (vN x) 0 x.natAbs
  have HE : Hid (sbA (pD q 64) k (decide (x < 0)) x.natAbs = rA (pD q 64) k (vN x) 0 x.natAbs ∧ fO x.natAbs ≤ 1) := Lib.hid ⟨sbA_eq _ _ _ _, by unfold fO; split <;> omega⟩
  have HI := Lib.hid (fun (W : World) (B g : Nat) (a : Int) (h : FVal W B g (pD q 64) k a (fO x.natAbs) (vN x) (rQ (pD q 64) k (vN x) 0 x.natAbs) (0 + (rk (pD q 64) x.natAbs : Nat))) (hT : TabW W) => int64_val g B (pD q 64) k (fO x.natAbs) a (vN x) _ _ W h HE.out.2 (fun _ => by omega) hT)
  rw [(i64_fO (fun _ => rfl)).1, (i64_fO (fun _ => rfl)).2] at HI
  obtain ⟨hbv, hba⟩ := i64_bd (vN x) (rQ (pD q 64) k (vN x) 0 x.natAbs) (0 + (rk (pD q 64) x.natAbs : Nat))
  have hra := rA_bd (pD q 64) k (vN x) 0 x.natAbs
  have HSV := Lib.hid (fun (W : World) (b B : Nat) (h : FltR W b q k 0 0 false (.slice none 0 0) 0) (hB : B ≤ b) => setInt64_val b B q k 0 0 0 false x W h hB (by omega) hk hx1 hx2)
  rw [HE.out.1] at HSV
  rw [show decide (x < 0) = vN x from rfl] at HSV
  obtain ⟨N, hN⟩ : ∃ N, N = i64V (vN x) (rQ (pD q 64) k (vN x) 0 x.natAbs) (0 + (rk (pD q 64) x.natAbs : Nat)) := ⟨_, rfl⟩
  obtain ⟨A, hA⟩ : ∃ A, A = i64A (vN x) (rQ (pD q 64) k (vN x) 0 x.natAbs) (0 + (rk (pD q 64) x.natAbs : Nat)) := ⟨_, rfl⟩
  obtain ⟨D, hD⟩ : ∃ D, D = rA (pD q 64) k (vN x) 0 x.natAbs := ⟨_, rfl⟩
  rw [← hN, ← hA] at HI
  rw [← hD] at HSV
  rw [← hN, ← hA, ← hD]
  rw [← hN] at hbv
  rw [← hA] at hba
  rw [← hD] at hra
  have HT := Lib.hid hT
  clear hN hA hD hT hZ hbx hrk hbr
  go_enter Tryd.func36, Tryd.ntmps36
  go_wp2_with fail
  refine (fresh_all q k w (by omega) (by omega)).mono ?_
  rintro _ w1 ⟨g, rfl, ⟨hg, hF0⟩, hb1⟩
  have GF := Lib.hid hF0
  have hgB : w.heap.size ≤ g := by omega
  have B1 := Lib.hid hb1
  clear hF0 hb1 hg
  go_wp2_with fail
  refine (HSV.out w1 g w.heap.size GF.out hgB).mono ?_
  rintro _ w2 ⟨rfl, hv, hb2⟩
  have F2 := Lib.hid hv
  have B2 := Lib.hid (B1.out.trans hb2)
  have T2 := Lib.hid (HT.out.below B2.out)
  clear hv hb2
  go_wp2_with fail
  refine (HI.out w2 _ g _ F2.out T2.out).mono ?_
  rintro _ _ ⟨rfl, n1, rfl⟩
  obtain ⟨vv, ee, hr⟩ := F2.out.form
  have HR := Lib.hid (hr.drewN n1)
  clear hr
  go_wp2_with fail
  refine (fAcc HR.out).mono ?_
  rintro _ _ ⟨rfl, rfl⟩
  have B3 := Lib.hid (undrewN' (n := n1) B2.out)
  go_wp2
  go_ret3
  exact ⟨rfl, B3.out⟩
set_option maxRecDepth 100000 in
set_option maxHeartbeats 3200000 in
theorem lawRoundInt (a0 a1 a2 : Int) (w : World) (hT : TabW w) (l0 : 0 ≤ a0) (h0 : a0 ≤ 255) (l1 : 0 ≤ a1) (h1 : a1 ≤ 255) (l2 : -9223372036854775808 ≤ a2) (h2 : a2 ≤ 9223372036854775807) :
    Calls Tryd.prog 7 #[.int .u8 a0, .int .u8 a1, .int .i64 a2] w fun e' w' => e' = .returned (.bool true) ∧ Below w.heap.size w w' := by
  obtain ⟨b0, rfl⟩ := Int.eq_ofNat_of_zero_le l0
  obtain ⟨b1, rfl⟩ := Int.eq_ofNat_of_zero_le l1
  obtain ⟨x, hx⟩ : ∃ x, x = a2 := ⟨_, rfl⟩
  subst hx
  have e0 : (b0 : Int) % 70 = ((b0 % 70 : Nat) : Int) := by omega
  have e1 : (b1 : Int) % 6 = ((b1 % 6 : Nat) : Int) := by omega
  have hqb : b0 % 70 ≤ 69 := by omega
  have hkb : b1 % 6 ≤ 5 := by omega
  obtain ⟨q, hq⟩ : ∃ q, q = b0 % 70 := ⟨_, rfl⟩
  obtain ⟨k, hk⟩ : ∃ k, k = b1 % 6 := ⟨_, rfl⟩
  rw [← hq] at hqb e0
  rw [← hk] at hkb e1
  have hpd : 0 < pD q 64 ∧ pD q 64 ≤ 69 := ⟨pD_pos (by decide), pD_le hqb (by decide)⟩
  obtain ⟨V, hV⟩ : ∃ V : Int, V = x := ⟨_, rfl⟩
  have hVb : V.natAbs < 2 ^ 65 := by rw [hV]; omega
  have hblV := bl_le hVb
  have hI := impRoundInt q k x V hV w (by omega) hkb l2 h2 hT
  clear hq hk
  by_cases hq0 : q = 0
  · have t : ((q : Int) == 0) = true := by rw [hq0]; rfl
    have hZD : pD q 64 = 64 := by unfold pD; rw [if_pos hq0]
    rw [hZD] at hpd hI
    obtain ⟨hbv, hba⟩ := i64_bd (vN V) (rQ 64 k (vN V) 0 V.natAbs) (0 + (rk 64 V.natAbs : Nat))
    have hra := rA_bd 64 k (vN V) 0 V.natAbs
    have hrk := rk_le 64 V.natAbs
    have hbr := bl_rQ 64 k (vN V) 0 V.natAbs
    have hblM : ∀ (ng : Bool) (M : Nat), sI ng M = V → bl M = bl V.natAbs := fun ng M hs => by rw [← hs, natAbs_sI]
    have HBM := Lib.hid hblM
    have HSP := Lib.hid (fun (W : World) (ng : Bool) (a : Value) (M : Nat) (hs : sI ng M = V) (h : NatV W a (rQ 64 k ng 0 M)) => spInt64 ng a (0 + (rk 64 M : Nat)) (rQ 64 k ng 0 M) W h (by have := bl_rQ 64 k ng 0 M; have := hblM ng M hs; omega) (by have := rk_le 64 M; have := hblM ng M hs; omega))
    have HSR := Lib.hid (fun (W : World) (ng : Bool) (a : Value) (M : Nat) (hs : sI ng M = V) (h : NatV W a M) => spRound ng a 0 M 64 k W h (by have := hblM ng M hs; omega) (by omega) hkb (by omega) (by omega))
    have HI := Lib.hid hI
    have HBX : Hid (bl V.natAbs ≤ 65) := Lib.hid hblV
    have HVV := Lib.hid hV
    obtain ⟨N, hN⟩ : ∃ N, N = i64V (vN V) (rQ 64 k (vN V) 0 V.natAbs) (0 + (rk 64 V.natAbs : Nat)) := ⟨_, rfl⟩
    obtain ⟨A, hA⟩ : ∃ A, A = i64A (vN V) (rQ 64 k (vN V) 0 V.natAbs) (0 + (rk 64 V.natAbs : Nat)) := ⟨_, rfl⟩
    obtain ⟨D, hD⟩ : ∃ D, D = rA 64 k (vN V) 0 V.natAbs := ⟨_, rfl⟩
    rw [← hN, ← hA, ← hD] at HI
    rw [← hN] at hbv
    rw [← hA] at hba
    rw [← hD] at hra
    have HN := Lib.hid hN
    have HA := Lib.hid hA
    have HD := Lib.hid hD
    clear hI hN hA hD hV hVb hblV hrk hbr hpd hZD hq0 hT hblM
    go_enter Tryd.func7, Tryd.ntmps7
    go_wp2_with fail
    refine HI.out.mono ?_
    rintro _ w1 ⟨rfl, hb1⟩
    have HB1 := Lib.hid hb1
    have h1s := HB1.out.size
    clear hb1
    go_wp2_with fail
    refine (whole_any x w1 l2 h2).mono ?_
    rintro _ w4 ⟨_, rfl, ⟨c, rfl, hd⟩, hb⟩
    obtain ⟨M, hM⟩ : ∃ M, M = x.natAbs := ⟨_, rfl⟩
    obtain ⟨ng, hng⟩ : ∃ ng, ng = decide (x < 0) := ⟨_, rfl⟩
    have HS : Hid (sI ng M = V) := Lib.hid (by rw [hM, hng, sI_decide, HVV.out])
    rw [← hM] at hd
    rw [← hng]
    have hTc := hd.isS
    have HC := Lib.hid hd
    have HB4 := Lib.hid (HB1.out.trans (hb.mono h1s))
    have h4s := HB4.out.size
    clear hd hb hM hng
    go_wp2_with fail
    refine (HSR.out w4 ng c M HS.out HC.out).mono ?_
    rintro _ w5 ⟨r, rfl, hr, hb5⟩
    have hTr := hr.isS
    have hk1 := (i64_sum (p := 64) (m := k) (X := 0 + (rk 64 M : Nat)) HS.out)
    have hrA : rA 64 k ng 0 M = D := by rw [hk1.1, HD.out]
    rw [hrA]
    have hN' : i64V ng (rQ 64 k ng 0 M) (0 + (rk 64 M : Nat)) = N := by rw [hk1.2.2.1, hk1.2.1, HN.out]
    have hA' : i64A ng (rQ 64 k ng 0 M) (0 + (rk 64 M : Nat)) = A := by rw [hk1.2.2.2, hk1.2.1, HA.out]
    have hrkb : rk 64 M ≤ 100 := by have := rk_le 64 M; have := HBM.out ng M HS.out; have := HBX.out; omega
    have HSI := Lib.hid (fun (W : World) (h : NatV W r (rQ 64 k ng 0 M)) => HSP.out W ng r M HS.out h)
    rw [hN', hA'] at HSI
    obtain ⟨E, hE⟩ : ∃ E : Nat, E = rk 64 M := ⟨_, rfl⟩
    rw [← hE] at HSI hrkb ⊢
    have hz : (0 : Int) + (E : Int) = (E : Int) := Int.zero_add _
    rw [hz] at HSI ⊢
    clear hk1 hrA hN' hA' hE hz
    obtain ⟨Y, hY⟩ : ∃ Y, Y = w5.alloc (.cells #[.bool ng, r, .int .i64 (E : Int)] 33) := ⟨_, rfl⟩
    have hbY : Below w5.heap.size w5 Y := by rw [hY]; exact fbone _
    have hrY : Y.heap[w5.heap.size]? = some (.cells #[.bool ng, r, .int .i64 (E : Int)] 33 (0, 0)) := by rw [hY]; exact row_chain11
    obtain ⟨x0, x1, x2, -, -, -⟩ := row3 hrY
    have HRY := Lib.hid (hr.below hbY)
    have HBY := Lib.hid (HB4.out.trans ((bthen hb5 hbY).mono h4s))
    have hYs := HBY.out.size
    clear hr hb5 hbY hrY
    go_upto_region 6 with fail
    rw [← hY]
    clear hY
    go_wp2_with fail
    refine (HSI.out Y HRY.out).mono ?_
    rintro _ w6 ⟨rfl, hb6⟩
    have HB6 := Lib.hid (HBY.out.trans (hb6.mono hYs))
    clear hb6
    go_wp2
    go_ret
    exact ⟨rfl, HB6.out⟩
  · have t : ((q : Int) == 0) = false := by rw [beq_eq_false_iff_ne]; omega
    have hZD : pD q 64 = q := by unfold pD; rw [if_neg hq0]
    rw [hZD] at hpd hI
    obtain ⟨hbv, hba⟩ := i64_bd (vN V) (rQ q k (vN V) 0 V.natAbs) (0 + (rk q V.natAbs : Nat))
    have hra := rA_bd q k (vN V) 0 V.natAbs
    have hrk := rk_le q V.natAbs
    have hbr := bl_rQ q k (vN V) 0 V.natAbs
    have hblM : ∀ (ng : Bool) (M : Nat), sI ng M = V → bl M = bl V.natAbs := fun ng M hs => by rw [← hs, natAbs_sI]
    have HBM := Lib.hid hblM
    have HSP := Lib.hid (fun (W : World) (ng : Bool) (a : Value) (M : Nat) (hs : sI ng M = V) (h : NatV W a (rQ q k ng 0 M)) => spInt64 ng a (0 + (rk q M : Nat)) (rQ q k ng 0 M) W h (by have := bl_rQ q k ng 0 M; have := hblM ng M hs; omega) (by have := rk_le q M; have := hblM ng M hs; omega))
    have HSR := Lib.hid (fun (W : World) (ng : Bool) (a : Value) (M : Nat) (hs : sI ng M = V) (h : NatV W a M) => spRound ng a 0 M q k W h (by have := hblM ng M hs; omega) (by omega) hkb (by omega) (by omega))
    have HI := Lib.hid hI
    have HBX : Hid (bl V.natAbs ≤ 65) := Lib.hid hblV
    have HVV := Lib.hid hV
    obtain ⟨N, hN⟩ : ∃ N, N = i64V (vN V) (rQ q k (vN V) 0 V.natAbs) (0 + (rk q V.natAbs : Nat)) := ⟨_, rfl⟩
    obtain ⟨A, hA⟩ : ∃ A, A = i64A (vN V) (rQ q k (vN V) 0 V.natAbs) (0 + (rk q V.natAbs : Nat)) := ⟨_, rfl⟩
    obtain ⟨D, hD⟩ : ∃ D, D = rA q k (vN V) 0 V.natAbs := ⟨_, rfl⟩
    rw [← hN, ← hA, ← hD] at HI
    rw [← hN] at hbv
    rw [← hA] at hba
    rw [← hD] at hra
    have HN := Lib.hid hN
    have HA := Lib.hid hA
    have HD := Lib.hid hD
    clear hI hN hA hD hV hVb hblV hrk hbr hpd hZD hq0 hT hblM
    go_enter Tryd.func7, Tryd.ntmps7
    go_wp2_with fail
    refine HI.out.mono ?_
    rintro _ w1 ⟨rfl, hb1⟩
    have HB1 := Lib.hid hb1
    have h1s := HB1.out.size
    clear hb1
    go_wp2_with fail
    refine (whole_any x w1 l2 h2).mono ?_
    rintro _ w4 ⟨_, rfl, ⟨c, rfl, hd⟩, hb⟩
    obtain ⟨M, hM⟩ : ∃ M, M = x.natAbs := ⟨_, rfl⟩
    obtain ⟨ng, hng⟩ : ∃ ng, ng = decide (x < 0) := ⟨_, rfl⟩
    have HS : Hid (sI ng M = V) := Lib.hid (by rw [hM, hng, sI_decide, HVV.out])
    rw [← hM] at hd
    rw [← hng]
    have hTc := hd.isS
    have HC := Lib.hid hd
    have HB4 := Lib.hid (HB1.out.trans (hb.mono h1s))
    have h4s := HB4.out.size
    clear hd hb hM hng
    go_wp2_with fail
    refine (HSR.out w4 ng c M HS.out HC.out).mono ?_
    rintro _ w5 ⟨r, rfl, hr, hb5⟩
    have hTr := hr.isS
    have hk1 := (i64_sum (p := q) (m := k) (X := 0 + (rk q M : Nat)) HS.out)
    have hrA : rA q k ng 0 M = D := by rw [hk1.1, HD.out]
    rw [hrA]
    have hN' : i64V ng (rQ q k ng 0 M) (0 + (rk q M : Nat)) = N := by rw [hk1.2.2.1, hk1.2.1, HN.out]
    have hA' : i64A ng (rQ q k ng 0 M) (0 + (rk q M : Nat)) = A := by rw [hk1.2.2.2, hk1.2.1, HA.out]
    have hrkb : rk q M ≤ 100 := by have := rk_le q M; have := HBM.out ng M HS.out; have := HBX.out; omega
    have HSI := Lib.hid (fun (W : World) (h : NatV W r (rQ q k ng 0 M)) => HSP.out W ng r M HS.out h)
    rw [hN', hA'] at HSI
    obtain ⟨E, hE⟩ : ∃ E : Nat, E = rk q M := ⟨_, rfl⟩
    rw [← hE] at HSI hrkb ⊢
    have hz : (0 : Int) + (E : Int) = (E : Int) := Int.zero_add _
    rw [hz] at HSI ⊢
    clear hk1 hrA hN' hA' hE hz
    obtain ⟨Y, hY⟩ : ∃ Y, Y = w5.alloc (.cells #[.bool ng, r, .int .i64 (E : Int)] 33) := ⟨_, rfl⟩
    have hbY : Below w5.heap.size w5 Y := by rw [hY]; exact fbone _
    have hrY : Y.heap[w5.heap.size]? = some (.cells #[.bool ng, r, .int .i64 (E : Int)] 33 (0, 0)) := by rw [hY]; exact row_chain11
    obtain ⟨x0, x1, x2, -, -, -⟩ := row3 hrY
    have HRY := Lib.hid (hr.below hbY)
    have HBY := Lib.hid (HB4.out.trans ((bthen hb5 hbY).mono h4s))
    have hYs := HBY.out.size
    clear hr hb5 hbY hrY
    go_upto_region 6 with fail
    rw [← hY]
    clear hY
    go_wp2_with fail
    refine (HSI.out Y HRY.out).mono ?_
    rintro _ w6 ⟨rfl, hb6⟩
    have HB6 := Lib.hid (HBY.out.trans (hb6.mono hYs))
    clear hb6
    go_wp2
    go_ret
    exact ⟨rfl, HB6.out⟩
end Go.Proofs.YtjapoobegjoblaaDoor
