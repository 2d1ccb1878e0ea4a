/-
Texts of this proof, joined: FcF. No condition.
-/
import Derived.Test.YtjapoobegjoblaaDoorK17
import Derived.Test.YtjapoobegjoblaaDoorK27
import Derived.Test.YtjapoobegjoblaaDoorK28
/-
The thin package's WholeBits; the statement on it. No condition.
-/
namespace Go.Proofs.YtjapoobegjoblaaDoor
open Go.RowKit

set_option maxRecDepth 100000 in
theorem finite_any (x : Nat) (w : World) (hx : x < 18446744073709551616) :
    Calls Tryd.prog 44 #[.int .u64 x] w fun e' w' => e' = .returned (.bool (decide (x / 4503599627370496 % 2048 < 2047))) ∧ w = w' := by
  obtain ⟨u1, u2⟩ := ob_field hx
  have u3 := and_2047 u2
  obtain ⟨c, hc⟩ : ∃ c, c = x / 4503599627370496 := ⟨_, rfl⟩
  rw [← hc] at u1 u2 u3 ⊢
  obtain ⟨g, hg⟩ : ∃ g, g = c % 2048 := ⟨_, rfl⟩
  rw [← hg] at u3 ⊢
  clear hc hg
  by_cases h : g < 2047
  · have t1 : decide (g < 2047) = true := decide_eq_true h
    have t2 : decide ((g : Int) < 2047) = true := decide_eq_true (by omega)
    rw [t1]
    clear h
    go_enter Tryd.func44, Tryd.ntmps44
    go_wp2
    go_ret
    exact ⟨rfl, rfl⟩
  · have t1 : decide (g < 2047) = false := decide_eq_false h
    have t2 : decide ((g : Int) < 2047) = false := decide_eq_false (by omega)
    rw [t1]
    clear h
    go_enter Tryd.func44, Tryd.ntmps44
    go_wp2
    go_ret
    exact ⟨rfl, rfl⟩
set_option maxRecDepth 100000 in
set_option maxHeartbeats 800000 in
theorem impWholeBits (x : Nat) (w : World) (hx : x < 18446744073709551616) (hf : obF x) (hT : TabW w) :
    Calls Tryd.prog 45 #[.int .u64 x] w fun e' w' => e' = .returned (.tuple #[.bool (iiV (fO (obM x)) (obM x) (obE x)), .int .u64 (mpV (fO (obM x)) (obM x) : Nat)]) ∧ Below w.heap.size w w' := by
  have HR : Hid (FltR (w.alloc newF) w.heap.size 0 0 0 0 false (.slice none 0 0) 0) := Lib.hid (newF_row w)
  have HBA : Hid (Below w.heap.size w (w.alloc newF)) := Lib.hid (fbone newF)
  have hbl := bl_obM x
  have hE := obE_bd hf
  obtain ⟨k0, k1, k2⟩ := rQ_fits (p := 53) (m := 0) (obN x) hbl
  have HS : Hid (∀ W b B, FltR W b 0 0 0 0 false (.slice none 0 0) 0 → B ≤ b → Calls Tryd.prog 70 #[.pointer (some ⟨b, 0, none⟩), .float .f64 x] W fun e' w' => e' = .returned (.pointer (some ⟨b, 0, none⟩)) ∧ FVal w' B b 53 0 (sbA 53 0 (obN x) (obM x)) (fO (obM x)) (obN x) (obM x) (obE x) ∧ Below B W w') := Lib.hid (fun W b B h hB => by
    have := setF64_val b B 0 0 0 0 0 false x W h hB (by decide) (by decide) hx hf
    rw [show pD 0 53 = 53 from rfl, k0, k1, show obE x + ((0 : Nat) : Int) = obE x by omega] at this
    exact this)
  have hfo : fO (obM x) ≤ 2 := by unfold fO; split <;> omega
  have HI := Lib.hid (fun W B b a (h : FVal W B b 53 0 a (fO (obM x)) (obN x) (obM x) (obE x)) (hT : TabW W) => isInt_val b B 53 0 (fO (obM x)) a (obN x) (obM x) (obE x) W h hfo (by decide) (fun _ => by omega) hT)
  have HM := Lib.hid (fun W B b a (h : FVal W B b 53 0 a (fO (obM x)) (obN x) (obM x) (obE x)) (hT : TabW W) => minPrec_val B b 53 0 (fO (obM x)) a (obN x) (obM x) (obE x) W h hT)
  obtain ⟨I, hI⟩ : ∃ I, I = iiV (fO (obM x)) (obM x) (obE x) := ⟨_, rfl⟩
  rw [← hI] at HI ⊢
  obtain ⟨N, hN⟩ : ∃ N, N = mpV (fO (obM x)) (obM x) := ⟨_, rfl⟩
  rw [← hN] at HM ⊢
  have HT := Lib.hid hT
  clear hI hN hT hbl hE k0 k1 k2 hfo hf
  go_enter Tryd.func45, Tryd.ntmps45
  go_wp2_with (simp only [f64from])
  refine (HS.out _ w.heap.size w.heap.size HR.out (Nat.le_refl _)).mono ?_
  rintro _ w2 ⟨rfl, hv, hb2⟩
  have F2 := Lib.hid hv
  have B2 := Lib.hid (HBA.out.trans hb2)
  have h2s := B2.out.size
  have T2 := Lib.hid (HT.out.below B2.out)
  clear hv hb2
  go_wp2_with fail
  refine (HI.out w2 _ _ _ F2.out T2.out).mono ?_
  rintro _ w3 ⟨rfl, hb3⟩
  have F3 := Lib.hid (F2.out.below hb3)
  have T3 := Lib.hid (T2.out.below hb3)
  have B3 := Lib.hid (B2.out.trans (hb3.mono h2s))
  have h3s := B3.out.size
  clear hb3
  go_wp2_with fail
  refine (HM.out w3 _ _ _ F3.out T3.out).mono ?_
  rintro _ w4 ⟨rfl, hb4⟩
  have B4 := Lib.hid (B3.out.trans (hb4.mono h3s))
  clear hb4
  go_wp2
  go_ret2
  exact ⟨rfl, B4.out⟩
set_option maxRecDepth 100000 in
set_option maxHeartbeats 1600000 in
theorem lawWholeBits (a0 : Int) (w : World) (hT : TabW w) (l0 : 0 ≤ a0) (h0 : a0 ≤ 18446744073709551615) :
    Calls Tryd.prog 12 #[.int .u64 a0] w fun e' w' => e' = .returned (.bool true) ∧ Below w.heap.size w w' := by
  obtain ⟨x, rfl⟩ := Int.eq_ofNat_of_zero_le l0
  have hx : x < 18446744073709551616 := by omega
  have HFN := Lib.hid (finite_any x w hx)
  by_cases hg : x / 4503599627370496 % 2048 < 2047
  · have hf : obF x := obF_field.2 (by omega)
    rw [decide_eq_true hg] at HFN
    have HI := Lib.hid (impWholeBits x w hx hf hT)
    have HO := Lib.hid (fun W => spOfBits x W hx hf)
    have hE := obE_bd hf
    have hbl := bl_obM x
    obtain ⟨n, hn⟩ : ∃ n, n = obN x := ⟨_, rfl⟩
    rw [← hn] at HO
    obtain ⟨M, hM⟩ : ∃ M, M = obM x := ⟨_, rfl⟩
    rw [← hM] at HO HI hbl
    obtain ⟨E, hEE⟩ : ∃ E, E = obE x := ⟨_, rfl⟩
    rw [← hEE] at HO HI hE
    have hnl : nl M ≤ 1000 := by
      have := lt_bl M
      have h2 : M < 65536 ^ 4 := Nat.lt_of_lt_of_le this (Nat.le_trans (Nat.pow_le_pow_right (by decide) (show bl M ≤ 64 by omega)) (by decide))
      exact Nat.le_trans (nl_le h2) (by decide)
    have hnl2 : nl (od M) ≤ 1000 := Nat.le_trans (nl_mono (Nat.div_le_self _ _)) hnl
    clear hn hM hEE hg hf hT
    by_cases hM0 : M = 0
    · have hsg : sgD n M = 0 := by unfold sgD; rw [if_pos hM0]
      have e1 : iiV (fO M) M E = true := by rw [hM0]; rfl
      have e2 : mpV (fO M) M = 0 := by rw [hM0]; rfl
      rw [e1, e2] at HI
      clear hM0 e1 e2 hbl
      go_enter Tryd.func12, Tryd.ntmps12
      go_wp2_with fail
      refine HFN.out.mono ?_
      rintro _ _ ⟨rfl, rfl⟩
      go_wp2_with fail
      refine HI.out.mono ?_
      rintro _ w1 ⟨rfl, hb1⟩
      have B1 := Lib.hid hb1
      have h1s := hb1.size
      clear hb1
      go_wp2_with fail
      refine (HO.out w1).mono ?_
      rintro _ w2 ⟨b, rfl, hd, hb2⟩
      have hSb := hd.isS
      obtain ⟨Y, hY⟩ : ∃ Y, Y = w2.alloc (.cells #[.bool n, b, .int .i64 E] 33) := ⟨_, rfl⟩
      have hbY : Below w2.heap.size w2 Y := by rw [hY]; exact fbone _
      have hrY : Y.heap[w2.heap.size]? = some (.cells #[.bool n, b, .int .i64 E] 33 (0, 0)) := by rw [hY]; exact row_chain11
      have HD := Lib.hid (hd.below hbY)
      have BY := Lib.hid (B1.out.trans ((bthen hb2 hbY).mono h1s))
      have hYs := BY.out.size
      obtain ⟨y0, y1, y2, -, -, -⟩ := row3 hrY
      clear hd hb2 hbY hrY
      go_upto_region 5 with fail
      rw [← hY]
      clear hY
      go_wp2_with fail
      refine (dSign n b E M Y HD.out).mono ?_
      rintro _ w3 ⟨rfl, hb3⟩
      rw [hsg]
      have B3 := Lib.hid (BY.out.trans (hb3.mono hYs))
      clear hb3
      go_wp2
      go_ret
      exact ⟨rfl, B3.out⟩
    · have hsg : (sgD n M == 0) = false := by
        unfold sgD; rw [if_neg hM0]; cases n <;> rfl
      have e1 : iiV (fO M) M E = decide (0 ≤ E + (tz M : Nat)) := by unfold iiV fO; rw [if_neg hM0, if_pos rfl]
      have e2 : mpV (fO M) M = bl (od M) := by unfold mpV fO; rw [if_neg hM0]; rfl
      rw [e1, e2] at HI
      have hM1 : 0 < M := by omega
      have hsgb : -1 ≤ sgD n M ∧ sgD n M ≤ 1 := by
        unfold sgD
        split
        · exact ⟨by decide, by decide⟩
        · split <;> exact ⟨by decide, by decide⟩
      obtain ⟨sg, hsgg⟩ : ∃ sg, sg = sgD n M := ⟨_, rfl⟩
      rw [← hsgg] at hsg hsgb
      have Hsg := Lib.hid hsgg
      have htb : tz M ≤ 64 := by have := tz_le hM1; omega
      obtain ⟨t, ht⟩ : ∃ t, t = tz M := ⟨_, rfl⟩
      have Ht := Lib.hid ht
      rw [← ht] at HI htb
      have hob : bl (od M) ≤ 64 := by have := bl_od hM1; omega
      obtain ⟨L, hL⟩ : ∃ L, L = bl (od M) := ⟨_, rfl⟩
      have HL := Lib.hid hL
      rw [← hL] at HI hob
      obtain ⟨I, hI⟩ : ∃ I, I = decide (0 ≤ E + (t : Int)) := ⟨_, rfl⟩
      rw [← hI] at HI
      have hI1 : decide (0 ≤ E + (t : Int)) = I := hI.symm
      have HM1 := Lib.hid hM1
      clear hM0 e1 e2 hbl hsgg ht hL hI hM1
      go_enter Tryd.func12, Tryd.ntmps12
      go_wp2_with fail
      refine HFN.out.mono ?_
      rintro _ _ ⟨rfl, rfl⟩
      go_wp2_with fail
      refine HI.out.mono ?_
      rintro _ w1 ⟨rfl, hb1⟩
      have B1 := Lib.hid hb1
      have h1s := hb1.size
      clear hb1
      go_wp2_with fail
      refine (HO.out w1).mono ?_
      rintro _ w2 ⟨b, rfl, hd, hb2⟩
      have hSb := hd.isS
      obtain ⟨Y, hY⟩ : ∃ Y, Y = w2.alloc (.cells #[.bool n, b, .int .i64 E] 33) := ⟨_, rfl⟩
      have hbY : Below w2.heap.size w2 Y := by rw [hY]; exact fbone _
      have hrY : Y.heap[w2.heap.size]? = some (.cells #[.bool n, b, .int .i64 E] 33 (0, 0)) := by rw [hY]; exact row_chain11
      have HD := Lib.hid (hd.below hbY)
      have HRY := Lib.hid hrY
      have BY := Lib.hid (B1.out.trans ((bthen hb2 hbY).mono h1s))
      have hYs := BY.out.size
      obtain ⟨y0, y1, y2, -, -, -⟩ := row3 hrY
      clear hd hb2 hbY hrY
      go_upto_region 5 with fail
      rw [← hY]
      clear hY
      go_wp2_with fail
      refine (dSign n b E M Y HD.out).mono ?_
      rintro _ w3 ⟨rfl, hb3⟩
      rw [← Hsg.out]
      have B3 := Lib.hid (BY.out.trans (hb3.mono hYs))
      have h3s := B3.out.size
      have D3 := Lib.hid (HD.out.below hb3)
      have R3 := Lib.hid (keep_row hb3 HRY.out)
      clear y0 y1 y2 hb3
      obtain ⟨y0, y1, y2, -, -, -⟩ := row3 R3.out
      go_wp2_with fail
      refine (spOdd b M w3 D3.out (by omega) HM1.out).mono ?_
      rintro _ w4 ⟨c, rfl, hc, hb4⟩
      rw [← Ht.out]
      have hSc := hc.isS
      have C4 := Lib.hid hc
      have B4 := Lib.hid (B3.out.trans (hb4.mono h3s))
      have R4 := Lib.hid (keep_row hb4 R3.out)
      clear y0 y1 y2 hb4 hc
      obtain ⟨y0, y1, y2, -, -, -⟩ := row3 R4.out
      go_wp2_with fail
      refine (spLen c (od M) w4 C4.out (by omega)).mono ?_
      rintro _ _ ⟨rfl, rfl⟩
      rw [← HL.out]
      go_wp2
      go_ret
      exact ⟨rfl, B4.out⟩
  · rw [decide_eq_false hg] at HFN
    have HW := Lib.hid (Below.refl w.heap.size w)
    clear hg hT
    go_enter Tryd.func12, Tryd.ntmps12
    go_wp2_with fail
    refine HFN.out.mono ?_
    rintro _ _ ⟨rfl, rfl⟩
    go_wp2
    go_ret
    exact ⟨rfl, HW.out⟩
end Go.Proofs.YtjapoobegjoblaaDoor
