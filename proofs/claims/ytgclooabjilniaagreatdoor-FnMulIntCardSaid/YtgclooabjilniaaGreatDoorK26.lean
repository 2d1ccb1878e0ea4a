/-
Texts of this proof, joined: MuM. No condition.
-/
import Derived.Test.YtgclooabjilniaaGreatDoorK23
import Derived.Test.YtgclooabjilniaaGreatDoorK24
import Derived.Test.YtgclooabjilniaaGreatDoorK25
/-
The statement on the product of two numbers of 64 bits. No condition.
-/
namespace Go.Proofs.YtgclooabjilniaaGreatDoor
open Go.RowKit

theorem prI_bl {x y : Int} (hx1 : -9223372036854775808 ≤ x) (hx2 : x ≤ 9223372036854775807) (hy1 : -9223372036854775808 ≤ y) (hy2 : y ≤ 9223372036854775807) : bl (x * y).natAbs ≤ 128 := by
  rw [Int.natAbs_mul]
  refine bl_le ?_
  rw [show (128 : Nat) = 64 + 64 from rfl, Nat.pow_add]
  exact Nat.mul_lt_mul'' (by omega) (by omega)
theorem prI0 (x y : Int) : sI (decide (x < 0) != decide (y < 0)) (x.natAbs * y.natAbs) = x * y := by
  have h1 := sI_decide x
  have h2 := sI_decide y
  obtain ⟨a, ha⟩ : ∃ a, a = decide (x < 0) := ⟨_, rfl⟩
  obtain ⟨b, hb⟩ : ∃ b, b = decide (y < 0) := ⟨_, rfl⟩
  rw [← ha] at h1
  rw [← hb] at h2
  rw [← ha, ← hb]
  conv => rhs; rw [← h1, ← h2]
  cases a <;> cases b <;> simp [sI, Int.natCast_mul, Int.neg_mul, Int.mul_neg]
theorem prI (x y : Int) : sI (decide (x < 0) != decide (y < 0)) (dyM (fO x.natAbs) x.natAbs * dyM (fO y.natAbs) y.natAbs) = x * y ∧ dyE (fO x.natAbs) 0 + dyE (fO y.natAbs) 0 = 0 := by
  have hM : ∀ M : Nat, dyM (fO M) M = M := fun M => by
    by_cases h : M = 0
    · subst h; rfl
    · rw [show fO M = 1 from if_neg h]; rfl
  rw [hM, hM]
  refine ⟨prI0 x y, ?_⟩
  unfold dyE; split <;> split <;> rfl
set_option maxRecDepth 100000 in
set_option maxHeartbeats 3200000 in
theorem impMulInt (q k : Nat) (x y : Int) (w : World) (hq : q ≤ 1000000) (hk : k ≤ 5) (hx1 : -9223372036854775808 ≤ x) (hx2 : x ≤ 9223372036854775807) (hy1 : -9223372036854775808 ≤ y) (hy2 : y ≤ 9223372036854775807) (hT : TabW w) (hK : KarW w) :
    Calls Tryz.prog 13 #[.int .u64 q, .int .i64 k, .int .i64 x, .int .i64 y] w fun e' w' => e' = .returned (.tuple #[.int .i64 (i64V (vN (x * y)) (rQ (pD q 64) k (vN (x * y)) 0 (x * y).natAbs) (0 + (rk (pD q 64) (x * y).natAbs : Nat))), .int .i64 (i64A (vN (x * y)) (rQ (pD q 64) k (vN (x * y)) 0 (x * y).natAbs) (0 + (rk (pD q 64) (x * y).natAbs : Nat))), .int .i64 (rA (pD q 64) k (vN (x * y)) 0 (x * y).natAbs)]) ∧ Below w.heap.size w w' := by
  obtain ⟨V, hV⟩ : ∃ V : Int, V = x * y := ⟨_, rfl⟩
  rw [← hV]
  have hZ : pD q 64 ≤ 1000000 := pD_le hq (by decide)
  have hbx : bl V.natAbs ≤ 128 := by rw [hV]; exact prI_bl hx1 hx2 hy1 hy2
  have hblx : bl x.natAbs ≤ 64 := bl_le (k := 64) (by omega)
  have hbly : bl y.natAbs ≤ 64 := bl_le (k := 64) (by omega)
  have hrk := rk_le (pD q 64) V.natAbs
  have hbr := bl_rQ (pD q 64) k (vN V) 0 V.natAbs
  have hfx : fO x.natAbs ≤ 1 := by unfold fO; split <;> omega
  have hfy : fO y.natAbs ≤ 1 := by unfold fO; split <;> omega
  have hfv : fO V.natAbs ≤ 1 := by unfold fO; split <;> omega
  have hpo : pOf q (max 64 64) = pD q 64 := rfl
  have K1 : fO x.natAbs = 1 → 0 < x.natAbs ∧ bl x.natAbs ≤ 64 ∧ bl x.natAbs ≤ 2400 ∧ -5000000 ≤ (0 : Int) ∧ (0 : Int) ≤ 5000000 := fun h => ⟨by unfold fO at h; split at h <;> omega, hblx, by omega, by decide, by decide⟩
  have K2 : fO y.natAbs = 1 → 0 < y.natAbs ∧ bl y.natAbs ≤ 64 ∧ bl y.natAbs ≤ 2400 ∧ -5000000 ≤ (0 : Int) ∧ (0 : Int) ≤ 5000000 := fun h => ⟨by unfold fO at h; split at h <;> omega, hbly, by omega, by decide, by decide⟩
  have HADD := Lib.hid (fun (W : World) (b B g1 g2 B1 B2 : Nat) (h : FltR W b q k 0 0 false (.slice none 0 0) 0) (hB : B ≤ b) (h1 : FloatAt W B1 g1 64 0 (fO x.natAbs) (decide (x < 0)) x.natAbs 0) (h2 : FloatAt W B2 g2 64 0 (fO y.natAbs) (decide (y < 0)) y.natAbs 0) (hb1 : b ≠ g1) (hb2 : b ≠ g2) (hb3 : g1 ≠ g2) (hKW : KarW W) =>
    mulF_any b B B1 B2 g1 g2 q k 64 0 64 0 0 (fO x.natAbs) (fO y.natAbs) x.natAbs y.natAbs 0 0 0 0 false (decide (x < 0)) (decide (y < 0)) W h hB hfx hfy h1 h2 K1 K2 hb1 hb2 hb3 (by omega) (by decide) (by decide) (by decide) (by decide) hk hKW)
  obtain ⟨zn, hzn⟩ : ∃ zn, zn = (decide (x < 0) != decide (y < 0)) := ⟨_, rfl⟩
  rw [(prI x y).1, (prI x y).2, ← hV, hpo, ← hzn] at HADD
  have HI := Lib.hid (fun (W : World) (B g : Nat) (h : AddR W B g (pD q 64) k zn V 0) (hT : TabW W) => int64_val g B (pD q 64) k (fO V.natAbs) _ _ _ _ W h hfv (fun _ => by omega) hT)
  rw [(i64_fO (fun h => by rw [if_neg (by omega)])).1, (i64_fO (fun h => by rw [if_neg (by omega)])).2] at HI
  have HFM := Lib.hid (fun (W : World) (B g : Nat) (h : AddR W B g (pD q 64) k zn V 0) => (FVal.form h))
  obtain ⟨hbv, hba⟩ := i64_bd (vN V) (rQ (pD q 64) k (vN V) 0 V.natAbs) (0 + (rk (pD q 64) V.natAbs : Nat))
  have hra := rA_bd (pD q 64) k (vN V) 0 V.natAbs
  obtain ⟨N, hN⟩ : ∃ N, N = i64V (vN V) (rQ (pD q 64) k (vN V) 0 V.natAbs) (0 + (rk (pD q 64) V.natAbs : Nat)) := ⟨_, rfl⟩
  obtain ⟨A, hA⟩ : ∃ A, A = i64A (vN V) (rQ (pD q 64) k (vN V) 0 V.natAbs) (0 + (rk (pD q 64) V.natAbs : Nat)) := ⟨_, rfl⟩
  obtain ⟨D, hD⟩ : ∃ D, D = rA (pD q 64) k (vN V) 0 V.natAbs := ⟨_, rfl⟩
  rw [← hN, ← hA] at HI
  rw [← hD] at HFM
  rw [← hN, ← hA, ← hD]
  rw [← hN] at hbv
  rw [← hA] at hba
  rw [← hD] at hra
  have HT := Lib.hid hT
  have HK := Lib.hid hK
  have HK1 := Lib.hid K1
  have HK2 := Lib.hid K2
  clear hN hA hD hT hK hZ hbx hblx hbly hrk hbr hV hzn hpo K1 K2 hfx hfy hfv
  go_enter Tryz.func13, Tryz.ntmps13
  go_wp2_with fail
  refine (fresh_all q k w (by omega) (by omega)).mono ?_
  rintro _ w1 ⟨g, rfl, ⟨hg, hF0⟩, hb1⟩
  have GF := Lib.hid hF0
  have hgB : w.heap.size ≤ g := by omega
  have B1 := Lib.hid hb1
  clear hF0 hb1 hg
  go_wp2_with fail
  refine (setInt64_0 w1.heap.size w1.heap.size _ _ _ _ _ x _ (newF_row w1) (Nat.le_refl _) hx1 hx2).mono ?_
  rintro _ w2 ⟨rfl, hS1, hb2⟩
  have hb2 := (fbone (W := w1) newF).trans hb2
  have GX := Lib.hid (hS1.at (Nat.le_refl _) hx1 hx2)
  have GF2 := Lib.hid (GF.out.below hb2)
  have B2 := Lib.hid (B1.out.trans (hb2.mono B1.out.size))
  have hgx := Lib.hid (show g ≠ w1.heap.size by have := GF.out.lt; omega)
  clear hS1 hb2
  go_wp2_with fail
  refine (setInt64_0 w2.heap.size w2.heap.size _ _ _ _ _ y _ (newF_row w2) (Nat.le_refl _) hy1 hy2).mono ?_
  rintro _ w3 ⟨rfl, hS2, hb3⟩
  have hb3 := (fbone (W := w2) newF).trans hb3
  have GY := Lib.hid (hS2.at (Nat.le_refl _) hy1 hy2)
  have GX3 := Lib.hid (GX.out.below hb3)
  have GF3 := Lib.hid (GF2.out.below hb3)
  have B3 := Lib.hid (B2.out.trans (hb3.mono B2.out.size))
  have hgxy := Lib.hid (show w1.heap.size ≠ w2.heap.size by obtain ⟨_, _, hr⟩ := GX.out.row; have := hr.lt; omega)
  have hgy := Lib.hid (show g ≠ w2.heap.size by have := GF2.out.lt; omega)
  clear hS2 hb3
  go_wp2_with fail
  refine (HADD.out w3 g w.heap.size _ _ _ _ GF3.out hgB GX3.out GY.out hgx.out hgy.out hgxy.out (HK.out.below B3.out)).mono ?_
  rintro _ w4 ⟨rfl, hr4, hb4⟩
  have R4 := Lib.hid hr4
  have B4 := Lib.hid (B3.out.trans hb4)
  have T4 := Lib.hid (HT.out.below B4.out)
  clear hr4 hb4
  go_wp2_with fail
  refine (HI.out w4 _ g R4.out T4.out).mono ?_
  rintro _ _ ⟨rfl, n1, rfl⟩
  obtain ⟨vv, ee, hr⟩ := HFM.out _ _ _ R4.out
  have HR := Lib.hid (hr.drewN n1)
  clear hr
  go_wp2_with fail
  refine (fAcc HR.out).mono ?_
  rintro _ _ ⟨rfl, rfl⟩
  have B5 := Lib.hid (undrewN' (n := n1) B4.out)
  go_wp2
  go_ret3
  exact ⟨rfl, B5.out⟩
set_option maxRecDepth 100000 in
set_option maxHeartbeats 3200000 in
theorem lawMulInt (a0 a1 a2 a3 : Int) (w : World) (hT : TabW w) (hK : KarW w) (l0 : 0 ≤ a0) (h0 : a0 ≤ 255) (l1 : 0 ≤ a1) (h1 : a1 ≤ 255) (l2 : -9223372036854775808 ≤ a2) (h2 : a2 ≤ 9223372036854775807) (l3 : -9223372036854775808 ≤ a3) (h3 : a3 ≤ 9223372036854775807) :
    Calls Tryz.prog 3 #[.int .u8 a0, .int .u8 a1, .int .i64 a2, .int .i64 a3] w fun e' w' => e' = .returned (.bool true) ∧ Below w.heap.size w w' := by
  obtain ⟨b0, rfl⟩ := Int.eq_ofNat_of_zero_le l0
  obtain ⟨b1, rfl⟩ := Int.eq_ofNat_of_zero_le l1
  obtain ⟨x, hx⟩ : ∃ x, x = a2 := ⟨_, rfl⟩
  subst hx
  obtain ⟨y, hy⟩ : ∃ y, y = a3 := ⟨_, rfl⟩
  subst hy
  have e0 : (b0 : Int) % 70 = ((b0 % 70 : Nat) : Int) := by omega
  have e1 : (b1 : Int) % 6 = ((b1 % 6 : Nat) : Int) := by omega
  have hqb : b0 % 70 ≤ 69 := by omega
  have hkb : b1 % 6 ≤ 5 := by omega
  obtain ⟨q, hq⟩ : ∃ q, q = b0 % 70 := ⟨_, rfl⟩
  obtain ⟨k, hk⟩ : ∃ k, k = b1 % 6 := ⟨_, rfl⟩
  rw [← hq] at hqb e0
  rw [← hk] at hkb e1
  have hpd : 0 < pD q 64 ∧ pD q 64 ≤ 69 := ⟨pD_pos (by decide), pD_le hqb (by decide)⟩
  obtain ⟨V, hV⟩ : ∃ V : Int, V = x * y := ⟨_, rfl⟩
  have hblV : bl V.natAbs ≤ 128 := by rw [hV]; exact prI_bl l2 h2 l3 h3
  have hI := impMulInt q k x y w (by omega) hkb l2 h2 l3 h3 hT hK
  rw [← hV] at hI
  clear hq hk
  by_cases hq0 : q = 0
  · have t : ((q : Int) == 0) = true := by rw [hq0]; rfl
    have hZD : pD q 64 = 64 := by unfold pD; rw [if_pos hq0]
    rw [hZD] at hpd hI
    obtain ⟨hbv, hba⟩ := i64_bd (vN V) (rQ 64 k (vN V) 0 V.natAbs) (0 + (rk 64 V.natAbs : Nat))
    have hra := rA_bd 64 k (vN V) 0 V.natAbs
    have hrk := rk_le 64 V.natAbs
    have hbr := bl_rQ 64 k (vN V) 0 V.natAbs
    have hblM : ∀ (ng : Bool) (M : Nat), sI ng M = V → bl M = bl V.natAbs := fun ng M hs => by rw [← hs, natAbs_sI]
    have HBM := Lib.hid hblM
    have HSP := Lib.hid (fun (W : World) (ng : Bool) (a : Value) (M : Nat) (hs : sI ng M = V) (h : NatV W a (rQ 64 k ng 0 M)) => spInt64 ng a (0 + (rk 64 M : Nat)) (rQ 64 k ng 0 M) W h (by have := bl_rQ 64 k ng 0 M; have := hblM ng M hs; omega) (by have := rk_le 64 M; have := hblM ng M hs; omega))
    have HSR := Lib.hid (fun (W : World) (ng : Bool) (a : Value) (M : Nat) (hs : sI ng M = V) (h : NatV W a M) => spRound ng a 0 M 64 k W h (by have := hblM ng M hs; omega) (by omega) hkb (by omega) (by omega))
    have HI := Lib.hid hI
    have HBX : Hid (bl V.natAbs ≤ 128) := Lib.hid hblV
    have HVV := Lib.hid hV
    obtain ⟨N, hN⟩ : ∃ N, N = i64V (vN V) (rQ 64 k (vN V) 0 V.natAbs) (0 + (rk 64 V.natAbs : Nat)) := ⟨_, rfl⟩
    obtain ⟨A, hA⟩ : ∃ A, A = i64A (vN V) (rQ 64 k (vN V) 0 V.natAbs) (0 + (rk 64 V.natAbs : Nat)) := ⟨_, rfl⟩
    obtain ⟨D, hD⟩ : ∃ D, D = rA 64 k (vN V) 0 V.natAbs := ⟨_, rfl⟩
    rw [← hN, ← hA, ← hD] at HI
    rw [← hN] at hbv
    rw [← hA] at hba
    rw [← hD] at hra
    have HN := Lib.hid hN
    have HA := Lib.hid hA
    have HD := Lib.hid hD
    clear hI hN hA hD hV hblV hrk hbr hpd hZD hq0 hT hK hblM
    go_enter Tryz.func3, Tryz.ntmps3
    go_wp2_with fail
    refine HI.out.mono ?_
    rintro _ w1 ⟨rfl, hb1⟩
    have HB1 := Lib.hid hb1
    have h1s := HB1.out.size
    clear hb1
    go_wp2_with fail
    refine (whole_any x w1 l2 h2).mono ?_
    rintro _ w2 ⟨_, rfl, ⟨a, rfl, hd⟩, hb⟩
    have hTa := hd.isS
    have HC1 := Lib.hid hd
    have HB2 := Lib.hid (HB1.out.trans (hb.mono h1s))
    have h2s := HB2.out.size
    clear hd hb
    go_wp2_with fail
    refine (whole_any y w2 l3 h3).mono ?_
    rintro _ w3 ⟨_, rfl, ⟨b, rfl, hd⟩, hb⟩
    have hTb := hd.isS
    have HC2 := Lib.hid hd
    have HC3 := Lib.hid (HC1.out.below hb)
    have HB3 := Lib.hid (HB2.out.trans (hb.mono h2s))
    have h3s := HB3.out.size
    clear hd hb
    go_wp2_with fail
    refine (dProd _ _ a b 0 0 x.natAbs y.natAbs w3 HC3.out HC2.out (nl_of_bl (Nat.le_trans (bl_le (k := 64) (by omega)) (by decide))) (nl_of_bl (Nat.le_trans (bl_le (k := 64) (by omega)) (by decide))) (by decide) (by decide) (by decide) (by decide)).mono ?_
    rintro _ w4 ⟨ng, c, M, rfl, hc, hs, hb⟩
    rw [show (0 : Int) + 0 = 0 from rfl]
    have HS : Hid (sI ng M = V) := Lib.hid (by rw [hs, HVV.out]; exact prI0 x y)
    have hTc := hc.isS
    have HC := Lib.hid hc
    have HB4 := Lib.hid (HB3.out.trans (hb.mono h3s))
    have h4s := HB4.out.size
    clear hc hb hs
    go_wp2_with fail
    refine (HSR.out w4 ng c M HS.out HC.out).mono ?_
    rintro _ w5 ⟨r, rfl, hr, hb5⟩
    have hTr := hr.isS
    have hk1 := (i64_sum (p := 64) (m := k) (X := 0 + (rk 64 M : Nat)) HS.out)
    have hrA : rA 64 k ng 0 M = D := by rw [hk1.1, HD.out]
    rw [hrA]
    have hN' : i64V ng (rQ 64 k ng 0 M) (0 + (rk 64 M : Nat)) = N := by rw [hk1.2.2.1, hk1.2.1, HN.out]
    have hA' : i64A ng (rQ 64 k ng 0 M) (0 + (rk 64 M : Nat)) = A := by rw [hk1.2.2.2, hk1.2.1, HA.out]
    have hrkb : rk 64 M ≤ 200 := by have := rk_le 64 M; have := HBM.out ng M HS.out; have := HBX.out; omega
    have HSI := Lib.hid (fun (W : World) (h : NatV W r (rQ 64 k ng 0 M)) => HSP.out W ng r M HS.out h)
    rw [hN', hA'] at HSI
    obtain ⟨E, hE⟩ : ∃ E : Nat, E = rk 64 M := ⟨_, rfl⟩
    rw [← hE] at HSI hrkb ⊢
    have hz : (0 : Int) + (E : Int) = (E : Int) := Int.zero_add _
    rw [hz] at HSI ⊢
    clear hk1 hrA hN' hA' hE hz
    obtain ⟨Y, hY⟩ : ∃ Y, Y = w5.alloc (.cells #[.bool ng, r, .int .i64 (E : Int)] 28) := ⟨_, rfl⟩
    have hbY : Below w5.heap.size w5 Y := by rw [hY]; exact fbone _
    have hrY : Y.heap[w5.heap.size]? = some (.cells #[.bool ng, r, .int .i64 (E : Int)] 28 (0, 0)) := by rw [hY]; exact row_chain11
    obtain ⟨x0, x1, x2, -, -, -⟩ := row3 hrY
    have HRY := Lib.hid (hr.below hbY)
    have HBY := Lib.hid (HB4.out.trans ((bthen hb5 hbY).mono h4s))
    have hYs := HBY.out.size
    clear hr hb5 hbY hrY
    go_upto_region 6 with fail
    rw [← hY]
    clear hY
    go_wp2_with fail
    refine (HSI.out Y HRY.out).mono ?_
    rintro _ w6 ⟨rfl, hb6⟩
    have HB6 := Lib.hid (HBY.out.trans (hb6.mono hYs))
    clear hb6
    go_wp2
    go_ret
    exact ⟨rfl, HB6.out⟩
  · have t : ((q : Int) == 0) = false := by rw [beq_eq_false_iff_ne]; omega
    have hZD : pD q 64 = q := by unfold pD; rw [if_neg hq0]
    rw [hZD] at hpd hI
    obtain ⟨hbv, hba⟩ := i64_bd (vN V) (rQ q k (vN V) 0 V.natAbs) (0 + (rk q V.natAbs : Nat))
    have hra := rA_bd q k (vN V) 0 V.natAbs
    have hrk := rk_le q V.natAbs
    have hbr := bl_rQ q k (vN V) 0 V.natAbs
    have hblM : ∀ (ng : Bool) (M : Nat), sI ng M = V → bl M = bl V.natAbs := fun ng M hs => by rw [← hs, natAbs_sI]
    have HBM := Lib.hid hblM
    have HSP := Lib.hid (fun (W : World) (ng : Bool) (a : Value) (M : Nat) (hs : sI ng M = V) (h : NatV W a (rQ q k ng 0 M)) => spInt64 ng a (0 + (rk q M : Nat)) (rQ q k ng 0 M) W h (by have := bl_rQ q k ng 0 M; have := hblM ng M hs; omega) (by have := rk_le q M; have := hblM ng M hs; omega))
    have HSR := Lib.hid (fun (W : World) (ng : Bool) (a : Value) (M : Nat) (hs : sI ng M = V) (h : NatV W a M) => spRound ng a 0 M q k W h (by have := hblM ng M hs; omega) (by omega) hkb (by omega) (by omega))
    have HI := Lib.hid hI
    have HBX : Hid (bl V.natAbs ≤ 128) := Lib.hid hblV
    have HVV := Lib.hid hV
    obtain ⟨N, hN⟩ : ∃ N, N = i64V (vN V) (rQ q k (vN V) 0 V.natAbs) (0 + (rk q V.natAbs : Nat)) := ⟨_, rfl⟩
    obtain ⟨A, hA⟩ : ∃ A, A = i64A (vN V) (rQ q k (vN V) 0 V.natAbs) (0 + (rk q V.natAbs : Nat)) := ⟨_, rfl⟩
    obtain ⟨D, hD⟩ : ∃ D, D = rA q k (vN V) 0 V.natAbs := ⟨_, rfl⟩
    rw [← hN, ← hA, ← hD] at HI
    rw [← hN] at hbv
    rw [← hA] at hba
    rw [← hD] at hra
    have HN := Lib.hid hN
    have HA := Lib.hid hA
    have HD := Lib.hid hD
    clear hI hN hA hD hV hblV hrk hbr hpd hZD hq0 hT hK hblM
    go_enter Tryz.func3, Tryz.ntmps3
    go_wp2_with fail
    refine HI.out.mono ?_
    rintro _ w1 ⟨rfl, hb1⟩
    have HB1 := Lib.hid hb1
    have h1s := HB1.out.size
    clear hb1
    go_wp2_with fail
    refine (whole_any x w1 l2 h2).mono ?_
    rintro _ w2 ⟨_, rfl, ⟨a, rfl, hd⟩, hb⟩
    have hTa := hd.isS
    have HC1 := Lib.hid hd
    have HB2 := Lib.hid (HB1.out.trans (hb.mono h1s))
    have h2s := HB2.out.size
    clear hd hb
    go_wp2_with fail
    refine (whole_any y w2 l3 h3).mono ?_
    rintro _ w3 ⟨_, rfl, ⟨b, rfl, hd⟩, hb⟩
    have hTb := hd.isS
    have HC2 := Lib.hid hd
    have HC3 := Lib.hid (HC1.out.below hb)
    have HB3 := Lib.hid (HB2.out.trans (hb.mono h2s))
    have h3s := HB3.out.size
    clear hd hb
    go_wp2_with fail
    refine (dProd _ _ a b 0 0 x.natAbs y.natAbs w3 HC3.out HC2.out (nl_of_bl (Nat.le_trans (bl_le (k := 64) (by omega)) (by decide))) (nl_of_bl (Nat.le_trans (bl_le (k := 64) (by omega)) (by decide))) (by decide) (by decide) (by decide) (by decide)).mono ?_
    rintro _ w4 ⟨ng, c, M, rfl, hc, hs, hb⟩
    rw [show (0 : Int) + 0 = 0 from rfl]
    have HS : Hid (sI ng M = V) := Lib.hid (by rw [hs, HVV.out]; exact prI0 x y)
    have hTc := hc.isS
    have HC := Lib.hid hc
    have HB4 := Lib.hid (HB3.out.trans (hb.mono h3s))
    have h4s := HB4.out.size
    clear hc hb hs
    go_wp2_with fail
    refine (HSR.out w4 ng c M HS.out HC.out).mono ?_
    rintro _ w5 ⟨r, rfl, hr, hb5⟩
    have hTr := hr.isS
    have hk1 := (i64_sum (p := q) (m := k) (X := 0 + (rk q M : Nat)) HS.out)
    have hrA : rA q k ng 0 M = D := by rw [hk1.1, HD.out]
    rw [hrA]
    have hN' : i64V ng (rQ q k ng 0 M) (0 + (rk q M : Nat)) = N := by rw [hk1.2.2.1, hk1.2.1, HN.out]
    have hA' : i64A ng (rQ q k ng 0 M) (0 + (rk q M : Nat)) = A := by rw [hk1.2.2.2, hk1.2.1, HA.out]
    have hrkb : rk q M ≤ 200 := by have := rk_le q M; have := HBM.out ng M HS.out; have := HBX.out; omega
    have HSI := Lib.hid (fun (W : World) (h : NatV W r (rQ q k ng 0 M)) => HSP.out W ng r M HS.out h)
    rw [hN', hA'] at HSI
    obtain ⟨E, hE⟩ : ∃ E : Nat, E = rk q M := ⟨_, rfl⟩
    rw [← hE] at HSI hrkb ⊢
    have hz : (0 : Int) + (E : Int) = (E : Int) := Int.zero_add _
    rw [hz] at HSI ⊢
    clear hk1 hrA hN' hA' hE hz
    obtain ⟨Y, hY⟩ : ∃ Y, Y = w5.alloc (.cells #[.bool ng, r, .int .i64 (E : Int)] 28) := ⟨_, rfl⟩
    have hbY : Below w5.heap.size w5 Y := by rw [hY]; exact fbone _
    have hrY : Y.heap[w5.heap.size]? = some (.cells #[.bool ng, r, .int .i64 (E : Int)] 28 (0, 0)) := by rw [hY]; exact row_chain11
    obtain ⟨x0, x1, x2, -, -, -⟩ := row3 hrY
    have HRY := Lib.hid (hr.below hbY)
    have HBY := Lib.hid (HB4.out.trans ((bthen hb5 hbY).mono h4s))
    have hYs := HBY.out.size
    clear hr hb5 hbY hrY
    go_upto_region 6 with fail
    rw [← hY]
    clear hY
    go_wp2_with fail
    refine (HSI.out Y HRY.out).mono ?_
    rintro _ w6 ⟨rfl, hb6⟩
    have HB6 := Lib.hid (HBY.out.trans (hb6.mono hYs))
    clear hb6
    go_wp2
    go_ret
    exact ⟨rfl, HB6.out⟩
end Go.Proofs.YtgclooabjilniaaGreatDoor
